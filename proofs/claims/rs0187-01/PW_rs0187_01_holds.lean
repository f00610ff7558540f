import PyProof.Rows.All
import Wide.All
import OpenK.AllK
import Wide.FinOn
import PyProof.ExcStr
import KE.KLam
import PyProof.Rows.CatchOwn
import PyProof.Rows.KernelRfl
import Lean
import PySem.Challenge.RW_rs0187_01
open PySem PySem.W PyProof.Rows PySem.Calls
set_option Elab.async false
set_option maxRecDepth 1000000
set_option linter.unusedVariables false
set_option linter.unusedSimpArgs false
namespace Mine

/-- plain data -/
inductive PV where
  | none
  | bool (b : Bool)
  | int (i : Int)
  | str (x : Str)
  | flt (u : UInt64)
  | list (ds : List PV)
  | tup (ds : List PV)
  | val (v : Value)
  | bm (a : Addr)

noncomputable abbrev Ext (h h' : Heap) : Prop := ∀ b o, h.get? b = some o → h'.get? b = some o
/-- an object that is no namespace and no cell: a list, a tuple, a record -/
noncomputable def ND (o : Obj) (items : Array Value) (n : Nat) : Prop := o.data = Data.seq items n ∨ (o.data = Data.fields items ∧ n = 0)
noncomputable abbrev SeqExt (X : Addr → Prop) (h h' : Heap) : Prop := ∀ b o items n, ¬ X b → ND o items n → h.get? b = some o → h'.get? b = some o

mutual
/-- a value bears a datum in a heap; no list or tuple of it stands at an address of X -/
inductive Rep (X : Addr → Prop) (h : Heap) : Value → PV → Prop
  | none : Rep X h .none .none
  | bool (b : Bool) : Rep X h (.bool b) (.bool b)
  | int (i : Int) (t : Tok) : Rep X h (.int i t) (.int i)
  | str (x : Str) (t : Tok) : Rep X h (.str x t) (.str x)
  | flt (u : UInt64) (t : Tok) : Rep X h (.float u t) (.flt u)
  | val (v : Value) : Rep X h v (.val v)
  | bm {b a : Addr} : (∃ o, h.get? b = some o ∧ o.cls = .type "builtin_function_or_method" ∧ o.data = .fields #[.builtin "list.append", .ref a]) → ¬ X b → Rep X h (.ref b) (.bm a)
  | list {a : Addr} {vs : List Value} {ds : List PV} : h.IsList a vs.toArray → ¬ X a → RepL X h vs ds → Rep X h (.ref a) (.list ds)
  | tup {a : Addr} {vs : List Value} {ds : List PV} : h.IsTuple a vs.toArray → ¬ X a → RepL X h vs ds → Rep X h (.ref a) (.tup ds)
inductive RepL (X : Addr → Prop) (h : Heap) : List Value → List PV → Prop
  | nil : RepL X h [] []
  | cons {v : Value} {vs : List Value} {d : PV} {ds : List PV} : Rep X h v d → RepL X h vs ds → RepL X h (v :: vs) (d :: ds)
end

section
variable {X : Addr → Prop} {h : Heap} {motive : Value → Prop} {v : Value}
@[elab_as_elim] theorem Rep.intE {i : Int} (r : Rep X h v (.int i)) (k : ∀ t, motive (.int i t)) : motive v := by cases r; exact k _
@[elab_as_elim] theorem Rep.strE {x : Str} (r : Rep X h v (.str x)) (k : ∀ t, motive (.str x t)) : motive v := by cases r; exact k _
@[elab_as_elim] theorem Rep.fltE {u : UInt64} (r : Rep X h v (.flt u)) (k : ∀ t, motive (.float u t)) : motive v := by cases r; exact k _
@[elab_as_elim] theorem Rep.boolE {b : Bool} (r : Rep X h v (.bool b)) (k : motive (.bool b)) : motive v := by cases r; exact k
@[elab_as_elim] theorem Rep.valE {u : Value} (r : Rep X h v (.val u)) (k : motive u) : motive v := by cases r; exact k
@[elab_as_elim] theorem Rep.listE {ds : List PV} (r : Rep X h v (.list ds)) (k : ∀ a vs, h.IsList a vs.toArray → ¬ X a → RepL X h vs ds → motive (.ref a)) : motive v := by cases r with | list a b c => exact k _ _ a b c
@[elab_as_elim] theorem Rep.tupE {ds : List PV} (r : Rep X h v (.tup ds)) (k : ∀ a vs, h.IsTuple a vs.toArray → ¬ X a → RepL X h vs ds → motive (.ref a)) : motive v := by cases r with | tup a b c => exact k _ _ a b c
end
section
variable {X : Addr → Prop} {h : Heap} {motive : List Value → Prop} {vs : List Value}
@[elab_as_elim] theorem RepL.nilE (r : RepL X h vs []) (k : motive []) : motive vs := by cases r; exact k
@[elab_as_elim] theorem RepL.consE {d : PV} {ds : List PV} (r : RepL X h vs (d :: ds)) (k : ∀ v us, Rep X h v d → RepL X h us ds → motive (v :: us)) : motive vs := by cases r with | cons a b => exact k _ _ a b
end

mutual
theorem Rep.mono {X Y : Addr → Prop} {h h' : Heap} (hs : SeqExt X h h') (hy : ∀ b, (h.get? b).isSome = true → Y b → X b) {v : Value} {d : PV} (r : Rep X h v d) : Rep Y h' v d := by
  cases r with
  | none => exact .none
  | bool b => exact .bool b
  | int i t => exact .int i t
  | str x t => exact .str x t
  | flt x t => exact .flt x t
  | val v => exact .val v
  | bm z hx => exact z.elim fun o z => .bm ⟨o, hs _ o _ 0 hx (.inr ⟨z.2.2, rfl⟩) z.1, z.2⟩ (fun y => hx (hy _ (by rw [z.1]; rfl) y))
  | list z hx r => exact z.elim fun o z => z.2.2.elim fun n hd => .list ⟨o, hs _ o _ n hx (.inl hd) z.1, z.2⟩ (fun y => hx (hy _ (by rw [z.1]; rfl) y)) (RepL.mono hs hy r)
  | tup z hx r => exact z.elim fun o z => z.2.2.elim fun n hd => .tup ⟨o, hs _ o _ n hx (.inl hd) z.1, z.2⟩ (fun y => hx (hy _ (by rw [z.1]; rfl) y)) (RepL.mono hs hy r)
theorem RepL.mono {X Y : Addr → Prop} {h h' : Heap} (hs : SeqExt X h h') (hy : ∀ b, (h.get? b).isSome = true → Y b → X b) {vs : List Value} {ds : List PV} (r : RepL X h vs ds) : RepL Y h' vs ds := by
  cases r with
  | nil => exact .nil
  | cons r s => exact .cons (Rep.mono hs hy r) (RepL.mono hs hy s)
end
theorem Ext.seq {X : Addr → Prop} {h h' : Heap} (e : Ext h h') : SeqExt X h h' := fun b o _ _ _ _ q => e b o q
theorem Rep.ext {X : Addr → Prop} {h h' : Heap} {v : Value} {d : PV} (e : Ext h h') (r : Rep X h v d) : Rep X h' v d := r.mono e.seq fun _ _ y => y
theorem RepL.ext {X : Addr → Prop} {h h' : Heap} {v : List Value} {d : List PV} (e : Ext h h') (r : RepL X h v d) : RepL X h' v d := r.mono e.seq fun _ _ y => y

theorem RepL.length {X : Addr → Prop} {h : Heap} {vs : List Value} {ds : List PV} (r : RepL X h vs ds) : vs.length = ds.length := by
  induction ds generalizing vs with
  | nil => exact RepL.nilE r rfl
  | cons d ds ih => exact RepL.consE r fun _ _ _ s => congrArg (· + 1) (ih s)
theorem RepL.append {X : Addr → Prop} {h : Heap} {vs ws : List Value} {ds es : List PV} (r : RepL X h vs ds) (k : RepL X h ws es) : RepL X h (vs ++ ws) (ds ++ es) := by
  induction ds generalizing vs with
  | nil => exact RepL.nilE r k
  | cons d ds ih => exact RepL.consE r fun _ _ r s => .cons r (ih s)
theorem RepL.get {X : Addr → Prop} {h : Heap} : ∀ {vs : List Value} {ds : List PV} {k : Nat} {d : PV}, RepL X h vs ds → ds[k]? = some d → ∃ v, vs[k]? = some v ∧ Rep X h v d := by
  intro vs
  induction vs with
  | nil => intro ds k d r e; cases r; simp at e
  | cons v vs ih =>
    intro ds k d r e
    cases r with
    | cons r s =>
      cases k with
      | zero => exact ⟨_, rfl, by simp at e; exact e ▸ r⟩
      | succ k => exact ih s (by simpa using e)
theorem RepL.getV {X : Addr → Prop} {h : Heap} : ∀ {vs : List Value} {ds : List PV} {k : Nat} {v : Value}, RepL X h vs ds → vs[k]? = some v → ∃ d, ds[k]? = some d ∧ Rep X h v d := by
  intro vs
  induction vs with
  | nil => intro ds k u r e; simp at e
  | cons v vs ih =>
    intro ds k u r e
    cases r with
    | cons r s =>
      cases k with
      | zero => exact ⟨_, rfl, by simp at e; exact e ▸ r⟩
      | succ k =>
        obtain ⟨d, a, b⟩ := ih (k := k) s (by simpa using e)
        exact ⟨d, by simpa using a, b⟩
theorem RepL.ints {X : Addr → Prop} {h : Heap} {vs : List Value} {ns : List Int} (r : RepL X h vs (ns.map PV.int)) : IntsAre vs ns := by
  induction ns generalizing vs with
  | nil => exact RepL.nilE r .nil
  | cons n ns ih => exact RepL.consE r fun _ _ r s => Rep.intE r fun _ => .cons _ _ (ih s)

/-- the room around -/
noncomputable def Rm (k : Nat) (A : Around) : Prop := A.handled = none ∧ A.depth ≤ k + 400 ∧ A.units ≤ 20 * k + 20
theorem Rm.le {k l : Nat} {A : Around} (r : Rm k A) (h : k ≤ l) : Rm l A := ⟨r.1, Nat.le_trans r.2.1 (by lia), Nat.le_trans r.2.2 (by lia)⟩
theorem Rm.deeper {k : Nat} {A : Around} (r : Rm k A) (env : Env) : Rm (k + 1) (A.deeper env) := ⟨r.1, by have := r.2.1; show A.depth + 1 ≤ _; lia, by have := r.2.2; show A.units + 3 ≤ _; lia⟩

/-- the place where a name of a frame stands -/
noncomputable def Slot (env : Env) (m : Str → Option Value) (h : Heap) (x : Str) (v : Value) : Prop :=
  (env.kindOf x = some .local ∧ m x = some v) ∨ ((env.kindOf x = some .cell ∨ env.kindOf x = some .free) ∧ ∃ c, env.cells.lookup x = some c ∧ h.IsCell c (some v))

/-- what a frame may change -/
noncomputable def Own (env : Env) (b : Addr) : Prop := b = env.locals ∨ ∃ x, env.cells.lookup x = some b

/-- a plain list of one's own -/
noncomputable def IsPL (h : Heap) (a : Addr) (items : Array Value) : Prop := ∃ o, h.get? a = some o ∧ (o.cls = .type "list" ∧ o.dict = none ∧ o.slots = #[]) ∧ ∃ n, o.data = .seq items n
theorem IsPL.ext {h h' : Heap} {a : Addr} {vs : Array Value} (i : IsPL h a vs) (e : Ext h h') : IsPL h' a vs := let ⟨o, q, d⟩ := i; ⟨o, e _ _ q, d⟩
theorem IsPL.isList {h : Heap} {a : Addr} {vs : Array Value} (i : IsPL h a vs) : h.IsList a vs := let ⟨o, q, c, d⟩ := i; ⟨o, q, c.1, d⟩
theorem IsPL.plain {h : Heap} {a : Addr} {vs : Array Value} (i : IsPL h a vs) : h.PlainList a vs := by
  obtain ⟨⟨cls, dd, data, sl⟩, q, ⟨c1, c2, c3⟩, n, d⟩ := i
  simp only at c1 c2 c3 d
  subst c1 c2 c3 d
  exact ⟨n, q⟩
theorem IsPL.of {h : Heap} {a : Addr} {vs : Array Value} (i : h.PlainList a vs) : IsPL h a vs := let ⟨n, q⟩ := i; ⟨_, q, ⟨rfl, rfl, rfl⟩, n, rfl⟩

structure FRep (h₀ : Heap) (X M : Addr → Prop) (ow : Option (Addr × List PV)) (env : Env) (ρ : List (Str × PV)) (h : Heap) : Prop where
  ext : Ext h₀ h
  xb : ∀ a, X a → ∃ o, h.get? a = some o
  xn : ∀ a, X a → h₀.get? a = none
  own : ∀ b, Own env b → h₀.get? b = none
  cl : ∀ x cc, env.cells.lookup x = some cc → ∃ v, h.IsCell cc v
  mx : ∀ b, M b → X b
  ol : ∀ a ds, ow = some (a, ds) → M a ∧ ∃ vs, IsPL h a vs.toArray ∧ RepL X h vs ds
  ns : ∃ m, h.Ns env.locals m ∧ ∀ x d, ρ.lookup x = some d → ∃ v, Slot env m h x v ∧ Rep X h v d

theorem Heap.IsCell.ext {h h' : Heap} {c : Addr} {v : Option Value} (i : h.IsCell c v) (e : Ext h h') : h'.IsCell c v := let ⟨o, q, d⟩ := i; ⟨o, e _ _ q, d⟩
theorem Slot.ext {env : Env} {m : Str → Option Value} {h h' : Heap} {x : Str} {v : Value} (e : Ext h h') : Slot env m h x v → Slot env m h' x v
  | .inl q => .inl q
  | .inr ⟨k, c, q, i⟩ => .inr ⟨k, c, q, Heap.IsCell.ext i e⟩
theorem IsList.ext {h h' : Heap} {a : Addr} {vs : Array Value} (i : h.IsList a vs) (e : Ext h h') : h'.IsList a vs := let ⟨o, q, d⟩ := i; ⟨o, e _ _ q, d⟩
theorem FRep.keeps {h₀ : Heap} {X M : Addr → Prop} {ow : Option (Addr × List PV)} {env : Env} {ρ : List (Str × PV)} {h h' : Heap} (F : FRep h₀ X M ow env ρ h) (e : Ext h h') : FRep h₀ X M ow env ρ h' where
  ext := fun b o q => e _ _ (F.ext b o q)
  xb := fun a x => let ⟨o, q⟩ := F.xb a x; ⟨o, e _ _ q⟩
  xn := F.xn
  own := F.own
  cl := fun x cc q => let ⟨v, i⟩ := F.cl x cc q; ⟨v, Heap.IsCell.ext i e⟩
  mx := F.mx
  ol := fun a ds q => let ⟨m, vs, i, r⟩ := F.ol a ds q; ⟨m, vs, IsPL.ext i e, r.ext e⟩
  ns := let ⟨m, hm, hv⟩ := F.ns; ⟨m, hm.keeps e, fun x d q => let ⟨v, sl, r⟩ := hv x d q; ⟨v, sl.ext e, r.ext e⟩⟩

/-- where one stands: the program, the world, the heap below, the closed addresses, the frame, the depth -/
structure Cx where
  prog : Program
  w : World
  h₀ : Heap
  X : Addr → Prop
  M : Addr → Prop
  ow : Option (Addr × List PV)
  env : Env
  k : Nat

noncomputable abbrev Cx.F (c : Cx) (ρ : List (Str × PV)) (h : Heap) : Prop := FRep c.h₀ c.X c.M c.ow c.env ρ h

theorem keeps_refl (s : Shared) : Keeps s s := ⟨s.heap, s.toks, rfl, fun _ _ e => e⟩
theorem keeps_toks (s : Shared) (tk : Nat) : Keeps s { s with toks := tk } := ⟨s.heap, tk, rfl, fun _ _ e => e⟩
theorem keeps_trans {a b c : Shared} (x : Keeps a b) (y : Keeps b c) : Keeps a c := by
  obtain ⟨h, t, rfl, e⟩ := x
  obtain ⟨h', t', rfl, e'⟩ := y
  exact ⟨h', t', rfl, fun b o q => e' _ _ (e _ _ q)⟩
theorem keeps_ext {a b : Shared} (x : Keeps a b) : Ext a.heap b.heap := by
  obtain ⟨h, t, rfl, e⟩ := x; exact e
theorem keeps_heap {s : Shared} {h' : Heap} {tk : Nat} (e : Ext s.heap h') : Keeps s { s with heap := h', toks := tk } := ⟨h', tk, rfl, e⟩
theorem keeps_push (s : Shared) (o : Obj) (tk : Nat) : Keeps s { s with heap := s.heap.push o, toks := tk } := keeps_heap fun _ _ e => Heap.get?_push_of_some _ e

/-- an expression gives a datum -/
noncomputable def Ev (c : Cx) (ρ : List (Str × PV)) (e : Expr) (d : PV) : Prop :=
  ∀ (A : Around) (s : Shared) (E : Value → Shared → Prop), Rm c.k A → c.F ρ s.heap → wpAny (model c.prog c.w) A (eval e c.env) (fun v s' => Keeps s s' ∧ Rep c.X s'.heap v d) E s
/-- a test gives a bool -/
noncomputable def Ts (c : Cx) (ρ : List (Str × PV)) (e : Expr) (b : Bool) : Prop :=
  ∀ (A : Around) (s : Shared) (E : Value → Shared → Prop), Rm c.k A → c.F ρ s.heap → wpAny (model c.prog c.w) A (isTrue e c.env (eval e c.env)) (fun r s' => Keeps s s' ∧ r = b) E s

section
variable {c : Cx} {ρ : List (Str × PV)} {e : Expr} {d : PV} {A : Around} {s : Shared} {E : Value → Shared → Prop}
theorem Ev.wp {Q : Value → Shared → Prop} (x : Ev c ρ e d) (r : Rm c.k A) (F : c.F ρ s.heap) (h : ∀ v s', Keeps s s' → c.F ρ s'.heap → Rep c.X s'.heap v d → Q v s') : wpAny (model c.prog c.w) A (eval e c.env) Q E s :=
  wpAny_mono (x A s E r F) (fun v s' q => h v s' q.1 (F.keeps (keeps_ext q.1)) q.2) fun _ _ x => x
theorem Ts.wp {Q : Bool → Shared → Prop} {b : Bool} (x : Ts c ρ e b) (r : Rm c.k A) (F : c.F ρ s.heap) (h : ∀ s', Keeps s s' → c.F ρ s'.heap → Q b s') : wpAny (model c.prog c.w) A (isTrue e c.env (eval e c.env)) Q E s :=
  wpAny_mono (x A s E r F) (fun _ s' q => q.2 ▸ h s' q.1 (F.keeps (keeps_ext q.1))) fun _ _ x => x

theorem Ev.of_eq {d' : PV} (x : Ev c ρ e d) (h : d = d') : Ev c ρ e d' := h ▸ x

theorem Ev.int {i : Int} {k : Nat} {pos : Pos} : Ev c ρ (.Constant (.int i) k pos) (.int i) := fun _ s _ _ _ => wpAny_Constant_int ⟨keeps_toks s _, .int _ _⟩
theorem Ev.str {x : Str} {k : Nat} {pos : Pos} : Ev c ρ (.Constant (.str x) k pos) (.str x) := fun _ s _ _ _ => wpAny_Constant_str ⟨keeps_toks s _, .str _ _⟩
theorem Ev.bool {x : Bool} {k : Nat} {pos : Pos} : Ev c ρ (.Constant (.bool x) k pos) (.bool x) := fun _ s _ _ _ => wpAny_Constant_bool ⟨keeps_refl s, .bool _⟩

theorem Ev.local_ {x : Str} {pos : Pos} (h : ρ.lookup x = some d) (hk : c.env.scope.kind = .function) (hl : c.env.kindOf x = some .local) (hd : (x == ("__debug__" : Str)) = false) : Ev c ρ (.Name x pos) d := fun A s E r F => by
  obtain ⟨m, hm, hv⟩ := F.ns
  obtain ⟨v, sl, rp⟩ := hv x d h
  rcases sl with ⟨_, e⟩ | ⟨k, _⟩
  · exact wpAny_Name (wpAny_loadName_local hk hl hm e ⟨keeps_refl s, rp⟩) hd
  · rw [hl] at k; rcases k with k | k <;> cases k
theorem Ev.cell {x : Str} {pos : Pos} (h : ρ.lookup x = some d) (hk : c.env.scope.kind = .function) (hl : c.env.kindOf x = some .cell) (hd : (x == ("__debug__" : Str)) = false) : Ev c ρ (.Name x pos) d := fun A s E r F => by
  obtain ⟨m, hm, hv⟩ := F.ns
  obtain ⟨v, sl, rp⟩ := hv x d h
  rcases sl with ⟨k, _⟩ | ⟨_, a, ha, hi⟩
  · rw [hl] at k; cases k
  · exact wpAny_Name (wpAny_loadName_cell hk hl ha hi ⟨keeps_refl s, rp⟩) hd
theorem Ev.free {x : Str} {pos : Pos} (h : ρ.lookup x = some d) (hk : c.env.scope.kind = .function) (hl : c.env.kindOf x = some .free) (hd : (x == ("__debug__" : Str)) = false) (hc : (x == ("__classdict__" : Str)) = false) : Ev c ρ (.Name x pos) d := fun A s E r F => by
  obtain ⟨m, hm, hv⟩ := F.ns
  obtain ⟨v, sl, rp⟩ := hv x d h
  rcases sl with ⟨k, _⟩ | ⟨_, a, ha, hi⟩
  · rw [hl] at k; cases k
  · exact wpAny_Name (wpAny_loadName_free hk hl ha hi ⟨keeps_refl s, rp⟩ hc) hd
end
end Mine

namespace Mine
structure Base (h₀ : Heap) (X : Addr → Prop) (h : Heap) : Prop where
  ext : Ext h₀ h
  xb : ∀ a, X a → ∃ o, h.get? a = some o
  xn : ∀ a, X a → h₀.get? a = none
theorem FRep.base {h₀ : Heap} {X M : Addr → Prop} {ow : Option (Addr × List PV)} {env : Env} {ρ : List (Str × PV)} {h : Heap} (F : FRep h₀ X M ow env ρ h) : Base h₀ X h := ⟨F.ext, F.xb, F.xn⟩
theorem Base.keeps {h₀ : Heap} {X : Addr → Prop} {h h' : Heap} (F : Base h₀ X h) (e : Ext h h') : Base h₀ X h' := ⟨fun b o q => e _ _ (F.ext b o q), fun a x => let ⟨o, q⟩ := F.xb a x; ⟨o, e _ _ q⟩, F.xn⟩
theorem Base.new {h₀ : Heap} {X : Addr → Prop} {h : Heap} (F : Base h₀ X h) {a : Addr} (ha : h.objs.size ≤ a) : ¬ X a := fun x => by
  obtain ⟨o, q⟩ := F.xb a x
  exact absurd (Heap.lt_size q) (Nat.not_lt.mpr ha)

noncomputable def Glb (h₀ : Heap) (x : Str) (v : Value) : Prop := ∃ mg, h₀.Ns mainGlobals mg ∧ mg x = some v
noncomputable def Blt (h₀ : Heap) (x : Str) (v : Value) : Prop := ∃ mg mb, h₀.Ns mainGlobals mg ∧ mg x = none ∧ h₀.Ns builtinsNs mb ∧ mb x = some v

/-- a call gives a datum -/
noncomputable def CallOk (prog : Program) (w : World) (h₀ : Heap) (k : Nat) (f : Value) (ds : List PV) (d : PV) : Prop :=
  ∀ (X : Addr → Prop) (A : Around) (s : Shared) (E : Value → Shared → Prop) (vs : List Value), Rm k A → Base h₀ X s.heap → RepL X s.heap vs ds → wpAny (model prog w) A (call f vs) (fun v s' => Keeps s s' ∧ Rep X s'.heap v d) E s
noncomputable def EvL (c : Cx) (ρ : List (Str × PV)) (es : List Expr) (ds : List PV) : Prop :=
  ∀ (pos : Pos) (A : Around) (s : Shared) (E : Value → Shared → Prop), Rm c.k A → c.F ρ s.heap → wpAny (model c.prog c.w) A (spliced (backTo pos (starEach es c.env))) (fun vs s' => Keeps s s' ∧ RepL c.X s'.heap vs ds) E s

section
variable {c : Cx} {ρ : List (Str × PV)} {e : Expr} {d : PV} {A : Around} {s : Shared} {E : Value → Shared → Prop}
theorem Ev.global {x : Str} {pos : Pos} {v : Value} (h : Glb c.h₀ x v) (hr : ∀ X h, Rep X h v d) (hg : c.env.globals = mainGlobals) (hk : c.env.scope.kind = .function) (hl : c.env.kindOf x = some .globalImplicit) (hd : (x == ("__debug__" : Str)) = false) : Ev c ρ (.Name x pos) d := fun A s E r F => by
  obtain ⟨mg, g, e⟩ := h
  exact Name_function_global hk hl (loadGlobal_global (by rw [hg]; exact g.keeps F.ext) e ⟨keeps_refl s, hr _ _⟩) hd
theorem Ev.builtin {x : Str} {pos : Pos} {v : Value} (h : Blt c.h₀ x v) (hg : c.env.globals = mainGlobals) (hb : c.env.builtins = builtinsNs) (hk : c.env.scope.kind = .function) (hl : c.env.kindOf x = some .globalImplicit) (hd : (x == ("__debug__" : Str)) = false) : Ev c ρ (.Name x pos) (.val v) := fun A s E r F => by
  obtain ⟨mg, mb, g, e, b, q⟩ := h
  exact Name_function_global hk hl (loadGlobal_builtin (by rw [hg]; exact g.keeps F.ext) e (by rw [hb]; exact b.keeps F.ext) q ⟨keeps_refl s, .val _⟩) hd

theorem EvL.nil : EvL c ρ [] [] := fun _ _ s _ _ _ => args_nil ⟨keeps_refl s, .nil⟩
theorem EvL.cons {es : List Expr} {ds : List PV} (x : Ev c ρ e d) (xs : EvL c ρ es ds) (he : starEach (e :: es) c.env = (false, eval e c.env) :: starEach es c.env) : EvL c ρ (e :: es) (d :: ds) := fun pos A s E r F =>
  args_cons (x.wp r F fun v s₁ k₁ F₁ r₁ => wpAny_mono (xs pos A s₁ E r F₁) (fun vs s₂ q => ⟨keeps_trans k₁ q.1, .cons (r₁.ext (keeps_ext q.1)) q.2⟩) fun _ _ x => x) he

-- binary operations
noncomputable def BinOk (op : Operator) (a b d : PV) : Prop :=
  ∀ (prog : Program) (w : World) (h₀ : Heap) (X : Addr → Prop) (k : Nat) (A : Around) (s : Shared) (E : Value → Shared → Prop) (x y : Value), k ≤ 40 → Rm k A → Base h₀ X s.heap → Rep X s.heap x a → Rep X s.heap y b → wpAny (model prog w) A (binaryOp op x y) (fun v s' => Keeps s s' ∧ Rep X s'.heap v d) E s
noncomputable def CmpOk (op : CmpOp) (a b : PV) (r : Bool) : Prop :=
  ∀ (prog : Program) (w : World) (h₀ : Heap) (X : Addr → Prop) (k : Nat) (A : Around) (s : Shared) (E : Value → Shared → Prop) (x y : Value), k ≤ 40 → Rm k A → Base h₀ X s.heap → Rep X s.heap x a → Rep X s.heap y b → wpAny (model prog w) A (compareOp op x y) (fun v s' => Keeps s s' ∧ v = .bool r) E s

theorem Ev.bin {l r : Expr} {op : Operator} {pos : Pos} {a b : PV} (hk : c.k ≤ 40) (x : Ev c ρ l a) (y : Ev c ρ r b) (o : BinOk op a b d) : Ev c ρ (.BinOp l op r pos) d := fun A s E rm F =>
  wpAny_BinOp (x.wp rm F fun v s₁ k₁ F₁ r₁ => y.wp rm F₁ fun u s₂ k₂ F₂ r₂ =>
    wpAny_mono (o c.prog c.w c.h₀ c.X c.k A s₂ E v u hk rm F₂.base (r₁.ext (keeps_ext k₂)) r₂) (fun _ _ q => ⟨keeps_trans k₁ (keeps_trans k₂ q.1), q.2⟩) fun _ _ x => x)
theorem Ev.cmp {l r : Expr} {op : CmpOp} {pos : Pos} {a b : PV} {t : Bool} (hk : c.k ≤ 40) (x : Ev c ρ l a) (y : Ev c ρ r b) (o : CmpOk op a b t) (hm : behindInMarks op r = false) : Ev c ρ (.Compare l [op] [r] pos) (.bool t) := fun A s E rm F =>
  wpAny_Compare1 (x.wp rm F fun v s₁ k₁ F₁ r₁ => y.wp rm F₁ fun u s₂ k₂ F₂ r₂ =>
    wpAny_mono (o c.prog c.w c.h₀ c.X c.k A s₂ E v u hk rm F₂.base (r₁.ext (keeps_ext k₂)) r₂) (fun _ _ q => ⟨keeps_trans k₁ (keeps_trans k₂ q.1), q.2 ▸ .bool _⟩) fun _ _ x => x) hm
theorem Ts.cmp {l r : Expr} {op : CmpOp} {pos : Pos} {a b : PV} {t : Bool} (hk : c.k ≤ 40) (x : Ev c ρ l a) (y : Ev c ρ r b) (o : CmpOk op a b t) (hm : behindInMarks op r = false) : Ts c ρ (.Compare l [op] [r] pos) t := fun A s E rm F =>
  wpAny_isTrue_Compare1 (x.wp rm F fun v s₁ k₁ F₁ r₁ => y.wp rm F₁ fun u s₂ k₂ F₂ r₂ =>
    wpAny_mono (o c.prog c.w c.h₀ c.X c.k A s₂ E v u hk rm F₂.base (r₁.ext (keeps_ext k₂)) r₂) (fun _ _ q => q.2 ▸ wpAny_truthy_bool ⟨keeps_trans k₁ (keeps_trans k₂ q.1), rfl⟩) fun _ _ x => x) hm

theorem bin_ints {op : Operator} {i j r : Int} (h : ∀ (prog : Program) (w : World) (A : Around) (s : Shared) (E : Value → Shared → Prop) (t u : Tok) (Q : Value → Shared → Prop), (∀ k tk, Q (.int r k) { s with toks := tk }) → wpAny (model prog w) A (binaryOp op (.int i t) (.int j u)) Q E s) : BinOk op (.int i) (.int j) (.int r) := by
  intro prog w h₀ X k A s E x y hk rm B rx ry
  refine Rep.intE rx fun t => ?_; refine Rep.intE ry fun u => ?_; exact h _ _ _ _ _ _ _ _ fun k tk => ⟨keeps_toks s tk, .int _ _⟩
theorem bin_add {i j : Int} : BinOk .Add (.int i) (.int j) (.int (i + j)) := bin_ints fun _ _ _ _ _ _ _ _ h => add_int (h _ _)
theorem bin_sub {i j : Int} : BinOk .Sub (.int i) (.int j) (.int (i - j)) := bin_ints fun _ _ _ _ _ _ _ _ h => sub_int (h _ _)
theorem bin_mul {i j : Int} (hs : IntMulOk i j) : BinOk .Mult (.int i) (.int j) (.int (i * j)) := bin_ints fun _ _ _ _ _ _ _ _ h => mul_int (h _ _) hs
theorem bin_floordiv {i j : Int} (h0 : j ≠ 0) (hs : Builtin.divisionGoesByPylong i j = false) : BinOk .FloorDiv (.int i) (.int j) (.int (i.fdiv j)) := bin_ints fun _ _ _ _ _ _ _ _ h => floordiv_int h0 (h _ _) (.inl hs)
theorem bin_mod {i j : Int} (h0 : j ≠ 0) : BinOk .Mod (.int i) (.int j) (.int (i.fmod j)) := bin_ints fun _ _ _ _ _ _ _ _ h => mod_int' h0 (h _ _)
theorem bin_pow {i j : Int} (h0 : 0 ≤ j) (hs : ((Builtin.Int.intBits i : Nat) : Int) * j ≤ 2 ^ 27) : BinOk .Pow (.int i) (.int j) (.int (i ^ j.toNat)) := bin_ints fun _ _ _ _ _ _ _ _ h => pow_int h0 hs (h _ _)
theorem bin_addS {x y : Str} (hs : x.length + y.length ≤ sizeLine) : BinOk .Add (.str x) (.str y) (.str (x ++ y)) := by
  intro prog w h₀ X k A s E a b hk rm B rx ry
  refine Rep.strE rx fun t => ?_; refine Rep.strE ry fun u => ?_; exact add_str (fun t' tk => ⟨keeps_toks s tk, .str _ _⟩) hs

theorem cmp_ints {op : CmpOp} {i j : Int} {r : Bool} (h : ∀ (prog : Program) (w : World) (A : Around) (s : Shared) (E : Value → Shared → Prop) (t u : Tok) (Q : Value → Shared → Prop), Q (.bool r) s → wpAny (model prog w) A (compareOp op (.int i t) (.int j u)) Q E s) : CmpOk op (.int i) (.int j) r := by
  intro prog w h₀ X k A s E x y hk rm B rx ry
  refine Rep.intE rx fun t => ?_; refine Rep.intE ry fun u => ?_; exact h _ _ _ _ _ _ _ _ ⟨keeps_refl s, rfl⟩
theorem cmp_lt {i j : Int} : CmpOk .Lt (.int i) (.int j) (decide (i < j)) := cmp_ints fun _ _ _ _ _ _ _ _ h => lt_int h
theorem cmp_le {i j : Int} : CmpOk .LtE (.int i) (.int j) (decide (i ≤ j)) := cmp_ints fun _ _ _ _ _ _ _ _ h => le_int h
theorem cmp_gt {i j : Int} : CmpOk .Gt (.int i) (.int j) (decide (j < i)) := cmp_ints fun _ _ _ _ _ _ _ _ h => gt_int h
theorem cmp_ge {i j : Int} : CmpOk .GtE (.int i) (.int j) (decide (j ≤ i)) := cmp_ints fun _ _ _ _ _ _ _ _ h => ge_int h
theorem cmp_eq {i j : Int} : CmpOk .Eq (.int i) (.int j) (i == j) := cmp_ints fun _ _ _ _ _ _ _ _ h => eq_int h
theorem cmp_ne {i j : Int} : CmpOk .NotEq (.int i) (.int j) (i != j) := cmp_ints fun _ _ _ _ _ _ _ _ h => ne_int h
theorem cmp_eqS {x y : Str} : CmpOk .Eq (.str x) (.str y) (x == y) := by
  intro prog w h₀ X k A s E a b hk rm B rx ry
  refine Rep.strE rx fun t => ?_; refine Rep.strE ry fun u => ?_; exact eq_str ⟨keeps_refl s, rfl⟩
theorem cmp_neS {x y : Str} : CmpOk .NotEq (.str x) (.str y) (x != y) := by
  intro prog w h₀ X k A s E a b hk rm B rx ry
  refine Rep.strE rx fun t => ?_; refine Rep.strE ry fun u => ?_; exact ne_str ⟨keeps_refl s, rfl⟩

-- tests
theorem Ts.not {x : Expr} {pos : Pos} {b : Bool} (h : Ts c ρ x b) : Ts c ρ (.UnaryOp .Not x pos) (!b) := fun A s E r F => wpAny_isTrue_Not (h.wp r F fun _ k _ => ⟨k, rfl⟩)
theorem Ts.of {b : Bool} (h : Ts c ρ e b) {b' : Bool} (q : b = b') : Ts c ρ e b' := q ▸ h
noncomputable def TsA (c : Cx) (ρ : List (Str × PV)) (op : BoolOp) (es : List Expr) (b : Bool) : Prop :=
  ∀ (A : Around) (s : Shared) (E : Value → Shared → Prop), Rm c.k A → c.F ρ s.heap → wpAny (model c.prog c.w) A (allTrue op es c.env) (fun r s' => Keeps s s' ∧ r = b) E s
theorem TsA.and_nil : TsA c ρ .And [] true := fun _ s _ _ _ => wpAny_allTrue_And_nil ⟨keeps_refl s, rfl⟩
theorem TsA.or_nil : TsA c ρ .Or [] false := fun _ s _ _ _ => wpAny_allTrue_Or_nil ⟨keeps_refl s, rfl⟩
theorem TsA.and_f {es : List Expr} (h : Ts c ρ e false) : TsA c ρ .And (e :: es) false := fun A s E r F => wpAny_allTrue_And_cons (h.wp r F fun _ k _ => by rw [if_neg Bool.false_ne_true]; exact ⟨k, rfl⟩)
theorem TsA.and_t {es : List Expr} {b : Bool} (h : Ts c ρ e true) (hs : TsA c ρ .And es b) : TsA c ρ .And (e :: es) b := fun A s E r F => wpAny_allTrue_And_cons (h.wp r F fun s₁ k F₁ => by rw [if_pos rfl]; exact wpAny_mono (hs A s₁ E r F₁) (fun _ _ q => ⟨keeps_trans k q.1, q.2⟩) fun _ _ x => x)
theorem TsA.or_t {es : List Expr} (h : Ts c ρ e true) : TsA c ρ .Or (e :: es) true := fun A s E r F => wpAny_allTrue_Or_cons (h.wp r F fun _ k _ => by first | (rw [if_pos rfl]; exact ⟨k, rfl⟩) | exact ⟨k, rfl⟩)
theorem TsA.or_f {es : List Expr} {b : Bool} (h : Ts c ρ e false) (hs : TsA c ρ .Or es b) : TsA c ρ .Or (e :: es) b := fun A s E r F => wpAny_allTrue_Or_cons (h.wp r F fun s₁ k F₁ => by
  have g := wpAny_mono (hs A s₁ E r F₁) (Q' := fun r s' => Keeps s s' ∧ r = b) (fun _ _ q => ⟨keeps_trans k q.1, q.2⟩) fun _ _ x => x
  first | exact g | (rw [if_neg Bool.false_ne_true]; exact g))
theorem TsA.and {es : List Expr} {a b : Bool} (h : Ts c ρ e a) (hs : a = true → TsA c ρ .And es b) : TsA c ρ .And (e :: es) (a && b) := by
  cases a with
  | false => exact TsA.and_f h
  | true => exact TsA.and_t h (hs rfl)
theorem TsA.or {es : List Expr} {a b : Bool} (h : Ts c ρ e a) (hs : a = false → TsA c ρ .Or es b) : TsA c ρ .Or (e :: es) (a || b) := by
  cases a with
  | false => exact TsA.or_f h (hs rfl)
  | true => exact TsA.or_t h
theorem Ts.boolop {op : BoolOp} {es : List Expr} {pos : Pos} {b : Bool} (h : TsA c ρ op es b) : Ts c ρ (.BoolOp op es pos) b := fun A s E r F => wpAny_isTrue_BoolOp (h A s E r F)

theorem Ev.ifexp {t b o : Expr} {pos : Pos} {x : Bool} (h : Ts c ρ t x) (h1 : x = true → Ev c ρ b d) (h2 : x = false → Ev c ρ o d) : Ev c ρ (.IfExp t b o pos) d := fun A s E r F => by
  refine wpAny_IfExp (h.wp r F fun s₁ k F₁ => ?_)
  cases x with
  | true => rw [if_pos rfl]; exact wpAny_mono (h1 rfl A s₁ E r F₁) (fun _ _ q => ⟨keeps_trans k q.1, q.2⟩) fun _ _ x => x
  | false => rw [if_neg Bool.false_ne_true]; exact wpAny_mono (h2 rfl A s₁ E r F₁) (fun _ _ q => ⟨keeps_trans k q.1, q.2⟩) fun _ _ x => x
theorem ifexp_val {x : Bool} {d1 d2 : PV} {t b o : Expr} {pos : Pos} (h : Ts c ρ t x) (h1 : x = true → Ev c ρ b d1) (h2 : x = false → Ev c ρ o d2) : Ev c ρ (.IfExp t b o pos) (if x then d1 else d2) :=
  Ev.ifexp h (fun e => by subst e; exact h1 rfl) fun e => by subst e; exact h2 rfl

-- displays
theorem Rep.listPush {X : Addr → Prop} {h₀ h : Heap} {vs : List Value} {ds : List PV} (B : Base h₀ X h) (r : RepL X h vs ds) : Rep X (h.push { cls := .type "list", data := .seq vs.toArray }) (.ref h.objs.size) (.list ds) :=
  .list ⟨_, Heap.get?_push_size _ rfl, rfl, _, rfl⟩ (B.new (Nat.le_refl _)) (r.ext fun _ _ e => Heap.get?_push_of_some _ e)
theorem Rep.tupPush {X : Addr → Prop} {h₀ h : Heap} {vs : List Value} {ds : List PV} (B : Base h₀ X h) (r : RepL X h vs ds) : Rep X (h.push { cls := .type "tuple", data := .seq vs.toArray }) (.ref h.objs.size) (.tup ds) :=
  .tup ⟨_, Heap.get?_push_size _ rfl, rfl, _, rfl⟩ (B.new (Nat.le_refl _)) (r.ext fun _ _ e => Heap.get?_push_of_some _ e)
theorem Ev.list {es : List Expr} {pos : Pos} {ds : List PV} (h : EvL c ρ es ds) (hs : ds.length ≤ sizeLine) : Ev c ρ (.List es pos) (.list ds) := fun A s E r F =>
  wpAny_List (wpAny_mono (h pos A s E r F) (fun vs s₁ q => ⟨by rw [q.2.length]; exact hs, keeps_trans q.1 (keeps_push s₁ _ _), Rep.listPush (F.base.keeps (keeps_ext q.1)) q.2⟩) fun _ _ x => x)
theorem Ev.tuple {es : List Expr} {k : Nat} {pos : Pos} {ds : List PV} (h : EvL c ρ es ds) (hs : ds.length ≤ sizeLine) : Ev c ρ (.Tuple es k pos) (.tup ds) := fun A s E r F =>
  wpAny_Tuple (wpAny_mono (h pos A s E r F) (fun vs s₁ q => ⟨by rw [q.2.length]; exact hs, keeps_trans q.1 (keeps_push s₁ _ _), Rep.tupPush (F.base.keeps (keeps_ext q.1)) q.2⟩) fun _ _ x => x)

-- calls of a name
theorem call_args {f : Value} {es : List Expr} {pos : Pos} {ds : List PV} {Q : Value → Shared → Prop} {e : Expr} (r : Rm c.k A) (F : c.F ρ s.heap) (ha : EvL c ρ (e :: es) ds) (hc : CallOk c.prog c.w c.h₀ c.k f ds d)
    (he : starEach (e :: es) c.env = (false, eval e c.env) :: starEach es c.env) (h : ∀ v s', Keeps s s' → Rep c.X s'.heap v d → Q v s') :
    wpAny (model c.prog c.w) A (evalArgs f true (backTo pos (starEach (e :: es) c.env)) []) (fun a s₁ => wpAny (model c.prog c.w) A (call f ([] ++ a.pos) a.kw) Q E s₁) E s := by
  have g := ha pos A s E r F
  rw [he] at g ⊢
  exact evalArgs_plain (wpAny_mono g (fun vs s₂ q => wpAny_mono (hc c.X A s₂ E _ r (F.base.keeps (keeps_ext q.1)) q.2) (fun _ _ q' => h _ _ (keeps_trans q.1 q'.1) q'.2) fun _ _ x => x) fun _ _ x => x)
theorem Ev.callB {x : Str} {p pos : Pos} {args : List Expr} {id : String} {ds : List PV} (hf : Ev c ρ (.Name x p) (.val (.builtin id))) (ha : EvL c ρ (e :: args) ds) (hc : CallOk c.prog c.w c.h₀ c.k (.builtin id) ds d)
    (he : starEach (e :: args) c.env = (false, eval e c.env) :: starEach args c.env) (hp : (backTo pos (starEach (e :: args) c.env)).any (·.1) = false) : Ev c ρ (.Call (.Name x p) (e :: args) [] pos) d := fun A s E r F =>
  wpAny_Call_NameR (hf.wp r F fun f s₁ k₁ F₁ rf => by
    cases rf
    exact callWith_builtin hp (call_args r F₁ ha hc he fun _ _ k' r' => ⟨keeps_trans k₁ k', r'⟩))
theorem Ev.callT {x : Str} {p pos : Pos} {args : List Expr} {id : String} {ds : List PV} (hf : Ev c ρ (.Name x p) (.val (.type id))) (ha : EvL c ρ (e :: args) ds) (hc : CallOk c.prog c.w c.h₀ c.k (.type id) ds d)
    (he : starEach (e :: args) c.env = (false, eval e c.env) :: starEach args c.env) (hp : (backTo pos (starEach (e :: args) c.env)).any (·.1) = false) : Ev c ρ (.Call (.Name x p) (e :: args) [] pos) d := fun A s E r F =>
  wpAny_Call_NameR (hf.wp r F fun f s₁ k₁ F₁ rf => by
    cases rf
    exact PySem.callWith_type hp (call_args r F₁ ha hc he fun _ _ k' r' => ⟨keeps_trans k₁ k', r'⟩))
theorem Ev.callF {x : Str} {p pos : Pos} {args : List Expr} {f : Addr} {o : Obj} {fd : FuncData} {ds : List PV} (hf : Ev c ρ (.Name x p) (.val (.ref f))) (ho : c.h₀.get? f = some o) (hd : o.data = .func fd) (ha : EvL c ρ (e :: args) ds) (hc : CallOk c.prog c.w c.h₀ c.k (.ref f) ds d)
    (he : starEach (e :: args) c.env = (false, eval e c.env) :: starEach args c.env) : Ev c ρ (.Call (.Name x p) (e :: args) [] pos) d := fun A s E r F =>
  wpAny_Call_NameR (hf.wp r F fun f s₁ k₁ F₁ rf => by
    cases rf
    refine callWith_def hd (wpAny_mono (ha pos A s₁ E r F₁) (fun vs s₂ q => ⟨(F₁.keeps (keeps_ext q.1)).ext _ _ ho, wpAny_mono (hc c.X A s₂ E _ r (F₁.base.keeps (keeps_ext q.1)) q.2) (fun _ _ q' => ⟨keeps_trans k₁ (keeps_trans q.1 q'.1), q'.2⟩) fun _ _ x => x⟩) fun _ _ x => x) he)
end
end Mine

namespace Mine

noncomputable def KB (W : Addr → Prop) (s s' : Shared) : Prop := ∃ h' tk, s' = { s with heap := h', toks := tk } ∧ ∀ b o, ¬ W b → s.heap.get? b = some o → h'.get? b = some o
theorem KB.of {W : Addr → Prop} {s s' : Shared} (k : Keeps s s') : KB W s s' := let ⟨h, t, e, q⟩ := k; ⟨h, t, e, fun b o _ => q b o⟩
theorem KB.refl {W : Addr → Prop} (s : Shared) : KB W s s := KB.of (keeps_refl s)
theorem KB.trans {W : Addr → Prop} {a b c : Shared} (x : KB W a b) (y : KB W b c) : KB W a c := by
  obtain ⟨h, t, rfl, e⟩ := x
  obtain ⟨h', t', rfl, e'⟩ := y
  exact ⟨h', t', rfl, fun b o n q => e' _ _ n (e _ _ n q)⟩
theorem KB.mono {W V : Addr → Prop} {s s' : Shared} (k : KB W s s') (h : ∀ b, W b → V b) : KB V s s' := let ⟨h1, t, e, q⟩ := k; ⟨h1, t, e, fun b o n => q b o fun w => n (h b w)⟩
theorem KB.at {W : Addr → Prop} {s s' : Shared} (k : KB W s s') {b : Addr} {o : Obj} (h : ¬ W b) (e : s.heap.get? b = some o) : s'.heap.get? b = some o := by
  obtain ⟨h1, t, rfl, q⟩ := k; exact q b o h e
theorem KB.heap {W : Addr → Prop} {s : Shared} {h' : Heap} {tk : Nat} (e : ∀ b o, ¬ W b → s.heap.get? b = some o → h'.get? b = some o) : KB W s { s with heap := h', toks := tk } := ⟨h', tk, rfl, e⟩

theorem ns_not_cell {h : Heap} {L c : Addr} {m : Str → Option Value} {v : Option Value} (n : h.Ns L m) (i : h.IsCell c v) : c ≠ L := by
  rintro rfl
  obtain ⟨o, es, ep, e, d, _⟩ := n
  obtain ⟨o', e', d'⟩ := i
  rw [e] at e'; cases e'; rw [d] at d'; cases d'
theorem ns_not_seq {h : Heap} {L : Addr} {m : Str → Option Value} (n : h.Ns L m) {b : Addr} {o : Obj} {items : Array Value} {k : Nat} (e : h.get? b = some o) (d : o.data = .seq items k) : b ≠ L := by
  rintro rfl
  obtain ⟨o', es, ep, e', d', _⟩ := n
  rw [e] at e'; cases e'; rw [d] at d'; cases d'
theorem cell_not_seq {h : Heap} {c : Addr} {v : Option Value} (i : h.IsCell c v) {b : Addr} {o : Obj} {items : Array Value} {k : Nat} (e : h.get? b = some o) (d : o.data = .seq items k) : b ≠ c := by
  rintro rfl
  obtain ⟨o', e', d'⟩ := i
  rw [e] at e'; cases e'; rw [d] at d'; cases d'

theorem ns_not_nd {h : Heap} {L : Addr} {m : Str → Option Value} (n : h.Ns L m) {b : Addr} {o : Obj} {items : Array Value} {k : Nat} (e : h.get? b = some o) (d : ND o items k) : b ≠ L := by
  rintro rfl
  obtain ⟨o', es, ep, e', d', _⟩ := n
  rw [e] at e'; cases e'
  rcases d with d | ⟨d, _⟩ <;> (rw [d] at d'; cases d')
theorem cell_not_nd {h : Heap} {c : Addr} {v : Option Value} (i : h.IsCell c v) {b : Addr} {o : Obj} {items : Array Value} {k : Nat} (e : h.get? b = some o) (d : ND o items k) : b ≠ c := by
  rintro rfl
  obtain ⟨o', e', d'⟩ := i
  rw [e] at e'; cases e'
  rcases d with d | ⟨d, _⟩ <;> (rw [d] at d'; cases d')
theorem FRep.storeL {h₀ h h' : Heap} {X M : Addr → Prop} {ow : Option (Addr × List PV)} {env : Env} {ρ : List (Str × PV)} {x : Str} {v : Value} {d : PV} {m : Str → Option Value} (F : FRep h₀ X M ow env ρ h) (hm : h.Ns env.locals m)
    (hv : ∀ x d, ρ.lookup x = some d → ∃ v, Slot env m h x v ∧ Rep X h v d) (rv : Rep X h v d) (hl : env.kindOf x = some .local)
    (hn : h'.Ns env.locals (fun y => if y = x then some v else m y)) (hs : Heap.SameBut env.locals h h') : FRep h₀ X M ow env ((x, d) :: ρ) h' := by
  have sq : SeqExt X h h' := fun b o items n _ dd e => (hs.2 b (ns_not_nd hm e dd)).trans e
  refine ⟨fun b o e => ?_, fun a xa => ?_, F.xn, F.own, fun y cc q => ?_, F.mx, fun a ds q => ?_, _, hn, fun y dy hy => ?_⟩
  · by_cases q : b = env.locals
    · have := F.own b (.inl q); rw [this] at e; cases e
    · exact (hs.2 b q).trans (F.ext b o e)
  · by_cases q : a = env.locals
    · obtain ⟨o, _, _, e, _⟩ := hn; exact ⟨o, q ▸ e⟩
    · obtain ⟨o, e⟩ := F.xb a xa; exact ⟨o, (hs.2 a q).trans e⟩
  · obtain ⟨v, i⟩ := F.cl y cc q
    obtain ⟨o, k3, k4⟩ := i
    exact ⟨v, o, (hs.2 cc (ns_not_cell hm ⟨o, k3, k4⟩)).trans k3, k4⟩
  · obtain ⟨k1, vs, ⟨o, k2, k3, n, k4⟩, k5⟩ := F.ol a ds q
    exact ⟨k1, vs, ⟨o, (hs.2 a (ns_not_seq hm k2 k4)).trans k2, k3, n, k4⟩, k5.mono sq fun _ _ z => z⟩
  · rw [List.lookup_cons] at hy
    by_cases q : (y == x) = true
    · rw [q] at hy
      cases hy
      obtain rfl := beq_iff_eq.mp q
      exact ⟨v, .inl ⟨hl, by simp⟩, rv.mono sq fun _ _ z => z⟩
    · have q' : (y == x) = false := by simpa using q
      rw [q'] at hy
      obtain ⟨u, sl, ru⟩ := hv y dy hy
      refine ⟨u, ?_, ru.mono sq fun _ _ z => z⟩
      have ne : ¬ y = x := fun e => q (beq_iff_eq.mpr e)
      rcases sl with ⟨k1, k2⟩ | ⟨k1, cc, k2, o, k3, k4⟩
      · exact .inl ⟨k1, by simp [ne, k2]⟩
      · exact .inr ⟨k1, cc, k2, o, (hs.2 cc (ns_not_cell hm ⟨o, k3, k4⟩)).trans k3, k4⟩

theorem FRep.storeC {h₀ h h' : Heap} {X M : Addr → Prop} {ow : Option (Addr × List PV)} {env : Env} {ρ : List (Str × PV)} {x : Str} {v : Value} {v₀ : Option Value} {d : PV} {cc : Addr} (F : FRep h₀ X M ow env ρ h)
    (rv : Rep X h v d) (hl : env.kindOf x = some .cell) (hc : env.cells.lookup x = some cc) (hi : h.IsCell cc v₀) (hinj : ∀ y c', env.cells.lookup y = some c' → y ≠ x → c' ≠ cc)
    (hn : h'.IsCell cc (some v)) (hs : Heap.SameBut cc h h') : FRep h₀ X M ow env ((x, d) :: ρ) h' := by
  obtain ⟨m, hm, hv⟩ := F.ns
  have sq : SeqExt X h h' := fun b o items n _ dd e => (hs.2 b (cell_not_nd hi e dd)).trans e
  have hLc : env.locals ≠ cc := Ne.symm (ns_not_cell hm hi)
  refine ⟨fun b o e => ?_, fun a xa => ?_, F.xn, F.own, fun y c' q => ?_, F.mx, fun a ds q => ?_, m, hm.sameBut hs hLc, fun y dy hy => ?_⟩
  · by_cases q : b = cc
    · have := F.own b (.inr ⟨x, q ▸ hc⟩); rw [this] at e; cases e
    · exact (hs.2 b q).trans (F.ext b o e)
  · by_cases q : a = cc
    · obtain ⟨o, e, _⟩ := hn; exact ⟨o, q ▸ e⟩
    · obtain ⟨o, e⟩ := F.xb a xa; exact ⟨o, (hs.2 a q).trans e⟩
  · by_cases z : c' = cc
    · exact ⟨_, z ▸ hn⟩
    · obtain ⟨u, o, k3, k4⟩ := F.cl y c' q
      exact ⟨u, o, (hs.2 c' z).trans k3, k4⟩
  · obtain ⟨k1, vs, ⟨o, k2, k3, n, k4⟩, k5⟩ := F.ol a ds q
    exact ⟨k1, vs, ⟨o, (hs.2 a (cell_not_seq hi k2 k4)).trans k2, k3, n, k4⟩, k5.mono sq fun _ _ z => z⟩
  · rw [List.lookup_cons] at hy
    by_cases q : (y == x) = true
    · rw [q] at hy
      cases hy
      obtain rfl := beq_iff_eq.mp q
      exact ⟨v, .inr ⟨.inl hl, cc, hc, hn⟩, rv.mono sq fun _ _ z => z⟩
    · have q' : (y == x) = false := by simpa using q
      rw [q'] at hy
      obtain ⟨u, sl, ru⟩ := hv y dy hy
      refine ⟨u, ?_, ru.mono sq fun _ _ z => z⟩
      have ne : ¬ y = x := fun e => q (beq_iff_eq.mpr e)
      rcases sl with ⟨k1, k2⟩ | ⟨k1, c', k2, o, k3, k4⟩
      · exact .inl ⟨k1, k2⟩
      · exact .inr ⟨k1, c', k2, o, (hs.2 c' (hinj y c' k2 ne)).trans k3, k4⟩

noncomputable def plainScope (env : Env) : Prop := (env.scope.kind == .class || (env.scope.kind == .module && env.locals != env.globals)) = false
theorem plainScope_fn {env : Env} (h : env.scope.kind = .function) : plainScope env := by unfold plainScope; rw [h]; rfl

/-- storing a datum under a name -/
noncomputable def StOk (W : Addr → Prop) (c : Cx) (x : Str) : Prop :=
  ∀ (ρ : List (Str × PV)) (d : PV) (A : Around) (s : Shared) (E : Value → Shared → Prop) (v : Value), c.F ρ s.heap → Rep c.X s.heap v d →
    wpAny (model c.prog c.w) A (storeName c.env x v) (fun _ s' => KB W s s' ∧ c.F ((x, d) :: ρ) s'.heap) E s
noncomputable abbrev Loc (c : Cx) : Addr → Prop := fun b => b = c.env.locals
noncomputable abbrev OwnC (c : Cx) : Addr → Prop := fun b => Own c.env b ∨ c.M b
section
variable {W : Addr → Prop} {c : Cx} {ρ : List (Str × PV)} {e : Expr} {d : PV} {A : Around} {s : Shared} {E : Value → Shared → Prop}
theorem StOk.mono {V : Addr → Prop} {x : Str} (h : StOk W c x) (m : ∀ b, W b → V b) : StOk V c x := fun ρ d A s E v F rv => wpAny_mono (h ρ d A s E v F rv) (fun _ _ q => ⟨q.1.mono m, q.2⟩) fun _ _ x => x
theorem StOk.loc {x : Str} (hl : c.env.kindOf x = some .local) (hp : plainScope c.env) : StOk (Loc c) c x := fun ρ d A s E v F rv => by
  obtain ⟨m, hm, hv⟩ := F.ns
  refine wpAny_storeName_local hl hm (fun h' hn hs => ?_) hp
  exact ⟨KB.heap fun b o n e => (hs.2 b fun q => n q).trans e, FRep.storeL F hm hv rv hl hn hs⟩
theorem StOk.local_ {x : Str} (hl : c.env.kindOf x = some .local) (hp : plainScope c.env) : StOk (OwnC c) c x := (StOk.loc hl hp).mono fun _ q => .inl (.inl q)
theorem StOk.cell {x : Str} {cc : Addr} (hk : c.env.scope.kind = .function) (hl : c.env.kindOf x = some .cell) (hc : c.env.cells.lookup x = some cc) (hinj : ∀ y c', c.env.cells.lookup y = some c' → y ≠ x → c' ≠ cc) : StOk (OwnC c) c x := fun ρ d A s E v F rv => by
  obtain ⟨v₀, hi⟩ := F.cl x cc hc
  refine wpAny_storeName_cell hk hl hc hi (fun h' hn hs => ?_)
  exact ⟨KB.heap fun b o n e => (hs.2 b fun q => n (.inl (.inr ⟨x, q ▸ hc⟩))).trans e, FRep.storeC F rv hl hc hi hinj hn hs⟩

/-- binding a target -/
noncomputable def AsOk (W : Addr → Prop) (c : Cx) (ρ : List (Str × PV)) (t : Expr) (d : PV) (ρ' : List (Str × PV)) : Prop :=
  ∀ (A : Around) (s : Shared) (E : Value → Shared → Prop) (v : Value), Rm c.k A → c.F ρ s.heap → Rep c.X s.heap v d →
    wpAny (model c.prog c.w) A (assign t c.env v) (fun _ s' => KB W s s' ∧ c.F ρ' s'.heap) E s
theorem AsOk.name {x : Str} {pos : Pos} (h : StOk W c x) : AsOk W c ρ (.Name x pos) d ((x, d) :: ρ) := fun A s E v r F rv => wpAny_assign_Name (h ρ d A s E v F rv)

theorem own_change {h₀ h : Heap} {X M : Addr → Prop} {ow : Option (Addr × List PV)} {env : Env} {ρ : List (Str × PV)} (F : FRep h₀ X M ow env ρ h) {b : Addr} {o : Obj} {items : Array Value} {n : Nat} (e : h.get? b = some o) (d : ND o items n) : ¬ Own env b := by
  obtain ⟨m, hm, hv⟩ := F.ns
  rintro (q | ⟨x, q⟩)
  · exact ns_not_nd hm e d q
  · obtain ⟨v, i⟩ := F.cl x b q; exact cell_not_nd i e d rfl
theorem frep_seq {h₀ h h' : Heap} {X M : Addr → Prop} {ow : Option (Addr × List PV)} {env : Env} {ρ : List (Str × PV)} (F : FRep h₀ X M ow env ρ h) (k : ∀ b o, ¬ (Own env b ∨ M b) → h.get? b = some o → h'.get? b = some o) : SeqExt X h h' :=
  fun b o items n hx dd e => k b o (fun q => q.elim (own_change F e dd) fun m => hx (F.mx b m)) e
theorem Rep.kb {s s' : Shared} {v : Value} (F : c.F ρ s.heap) (k : KB (OwnC c) s s') (r : Rep c.X s.heap v d) : Rep c.X s'.heap v d := by
  obtain ⟨h', tk, rfl, q⟩ := k
  exact r.mono (frep_seq F q) fun _ _ z => z
theorem RepL.kb {s s' : Shared} {v : List Value} {ds : List PV} (F : c.F ρ s.heap) (k : KB (OwnC c) s s') (r : RepL c.X s.heap v ds) : RepL c.X s'.heap v ds := by
  obtain ⟨h', tk, rfl, q⟩ := k
  exact r.mono (frep_seq F q) fun _ _ z => z

theorem AsOk.tup {ts : List Expr} {kk : Nat} {pos : Pos} {ds : List PV} {ρ' : List (Str × PV)}
    (h : ∀ (A : Around) (s : Shared) (E : Value → Shared → Prop) (vs : List Value), Rm c.k A → c.F ρ s.heap → RepL c.X s.heap vs ds → wpAny (model c.prog c.w) A (assignInOrder ((assignEach ts c.env).map (·.2)) vs) (fun _ s' => KB W s s' ∧ c.F ρ' s'.heap) E s)
    (hl : (assignEach ts c.env).length = ds.length) (hf : (assignEach ts c.env).findIdx? (·.1) = none) : AsOk W c ρ (.Tuple ts kk pos) (.tup ds) ρ' := fun A s E v r F rv => by
  refine Rep.tupE rv fun _ _ hi hx rl => ?_
  refine wpAny_assign_Tuple r.1 hi (by rw [hl]; simp [rl.length]) hf fun h' he => ?_
  have ex : Ext s.heap h' := fun b o e => he b o (Nat.ne_of_lt (Heap.lt_size e)) e
  exact wpAny_mono (h A { s with heap := h' } E _ r (F.keeps ex) (rl.ext ex)) (fun _ s' q => ⟨(KB.heap (tk := s.toks) fun b o _ e => ex b o e : KB _ s { s with heap := h' }).trans q.1, q.2⟩) fun _ _ x => x
theorem AsOk.two {x y : Str} {p q pos : Pos} {kk : Nat} {a b : PV} (hW : ∀ b, W b → OwnC c b) (hx : StOk W c x) (hy : StOk W c y) : AsOk W c ρ (.Tuple [.Name x p, .Name y q] kk pos) (.tup [a, b]) ((y, b) :: (x, a) :: ρ) :=
  AsOk.tup (fun A s E vs r F rl => by
    refine RepL.consE rl fun _ _ ra rl => ?_; refine RepL.consE rl fun _ _ rb rl => ?_; refine RepL.nilE rl ?_
    refine wpAny_bind (wpAny_holding (wpAny_mono (AsOk.name hx A s E _ r F ra) (fun _ s₁ q₁ => ?_) fun _ _ x => x))
    refine wpAny_bind (wpAny_holding (wpAny_mono (AsOk.name hy A s₁ E _ r q₁.2 (rb.kb F (q₁.1.mono hW))) (fun _ s₂ q₂ => ?_) fun _ _ x => x))
    exact wpAny_pure ⟨q₁.1.trans q₂.1, q₂.2⟩) rfl rfl
end
end Mine

namespace Mine

noncomputable abbrev Chg (wr : List Addr) (h h' : Heap) : Prop := ∀ b o, b ∉ wr → h.get? b = some o → h'.get? b = some o

/-- an iterator that stands for a list of data -/
structure It (prog : Program) (w : World) (X : Addr → Prop) (tgt : Expr) (I : Addr) (wr fp : List Addr) (ds : List PV) (St : Nat → Heap → Prop) : Prop where
  wrX : ∀ b ∈ wr, X b
  sub : ∀ b ∈ wr, b ∈ fp
  fpX : ∀ b ∈ fp, X b → b ∈ wr
  frame : ∀ i h h', St i h → SeqExt X h h' → (∀ b ∈ fp, ∀ o, h.get? b = some o → h'.get? b = some o) → St i h'
  kind : ∀ i h, St i h → ∀ b ∈ fp, ∃ o, h.get? b = some o ∧ (∀ es n, o.data ≠ .dict es n) ∧ ∀ v, o.data ≠ .cell v
  next : ∀ (A : Around) (i : Nat) (d : PV) (s : Shared) (E : Value → Shared → Prop) (Q : Option Value → Shared → Prop), A.handled = none → (∀ b, X b → ∃ o, s.heap.get? b = some o) → St i s.heap → ds[i]? = some d →
    (∀ v h₁ tk, Chg wr s.heap h₁ → (∀ (Q' : Unit → Shared → Prop) (E' : Value → Shared → Prop), (∀ h₂, Chg wr h₁ h₂ → St (i + 1) h₂ → Rep X h₂ v d → Q' () { s with heap := h₂, toks := tk }) →
      wpAny (model prog w) A (letOwnedTupleGo tgt (.ref I) v) Q' E' { s with heap := h₁, toks := tk }) → Q (some v) { s with heap := h₁, toks := tk }) → wpAny (model prog w) A (pyNext (.ref I)) Q E s
  done : ∀ (A : Around) (s : Shared) (E : Value → Shared → Prop) (Q : Option Value → Shared → Prop), A.handled = none → St ds.length s.heap → (∀ h' tk, Chg wr s.heap h' → Q none { s with heap := h', toks := tk }) → wpAny (model prog w) A (pyNext (.ref I)) Q E s
  self : ∀ (A : Around) (i : Nat) (s : Shared) (E : Value → Shared → Prop) (Q : Value → Shared → Prop), St i s.heap → Q (.ref I) s → wpAny (model prog w) A (pyIter (.ref I)) Q E s

/-- what a for's or a comprehension's source gives -/
noncomputable def ItMade (c : Cx) (tgt : Expr) (ds : List PV) (s : Shared) (it : Value) (s₂ : Shared) : Prop :=
  Keeps s s₂ ∧ ∃ I wr fp, it = .ref I ∧ (∀ b ∈ fp, b < s₂.heap.objs.size) ∧ (∀ b ∈ wr, s.heap.get? b = none ∧ b < s₂.heap.objs.size ∧ ∃ o, s₂.heap.get? b = some o) ∧
    ∀ X' : Addr → Prop, (∀ b, (s₂.heap.get? b).isSome = true → X' b → c.X b ∨ b ∈ wr) → (∀ b ∈ wr, X' b) → ∃ St, It c.prog c.w X' tgt I wr fp ds St ∧ St 0 s₂.heap
noncomputable def EvIt (c : Cx) (ρ : List (Str × PV)) (tgt iter : Expr) (ds : List PV) : Prop :=
  ∀ (A : Around) (s : Shared) (E : Value → Shared → Prop), Rm c.k A → c.F ρ s.heap → wpAny (model c.prog c.w) A (eval iter c.env) (fun x s₁ => wpAny (model c.prog c.w) A (pyIter x) (ItMade c tgt ds s) E s₁) E s

/-- a target that a list's iterator hands its items to -/
inductive Tgt : Expr → Prop
  | name (x : Str) (p : Pos) : Tgt (.Name x p)
  | tuple (es : List Expr) (k : Nat) (p : Pos) : Tgt (.Tuple es k p)

theorem It.list {prog : Program} {w : World} {X : Addr → Prop} {tgt : Expr} (ht : Tgt tgt) {I l : Addr} (hne : l ≠ I) (hX : X I) (hl : ¬ X l) (vs : List Value) (ds : List PV) (hlen : vs.length = ds.length) :
    It prog w X tgt I [I] [I, l] ds (fun i h => h.IsListIter I l i ∧ h.IsList l vs.toArray ∧ RepL X h vs ds) where
  wrX := fun b hb => by rw [List.mem_singleton.mp hb]; exact hX
  sub := fun b hb => by rw [List.mem_singleton.mp hb]; simp
  fpX := fun b hb x => by
    rcases List.mem_cons.mp hb with rfl | hb
    · exact List.mem_singleton.mpr rfl
    · exact absurd (List.mem_singleton.mp hb ▸ x) hl
  frame := fun i h h' st sq hk => ⟨st.1.at fun o e => hk I (by simp) o e, st.2.1.at fun o e => hk l (by simp) o e, st.2.2.mono sq fun _ _ z => z⟩
  kind := fun i h st b hb => by
    rcases List.mem_cons.mp hb with rfl | hb
    · obtain ⟨o, e, c, d⟩ := st.1
      exact ⟨o, e, (by rw [d]; intro _ _ q; cases q), (by rw [d]; intro _ q; cases q)⟩
    · rw [List.mem_singleton.mp hb]
      obtain ⟨o, e, c, n, d⟩ := st.2.1
      exact ⟨o, e, (by rw [d]; intro _ _ q; cases q), (by rw [d]; intro _ q; cases q)⟩
  next := fun A i d s E Q hh hxb st hd hQ => by
    obtain ⟨v, hv, rv⟩ := st.2.2.get hd
    refine wpAny_pyNext_list_item st.1 st.2.1 (x := v) (by simpa using hv) fun h' hit' hs' => ?_
    have ch : Chg [I] s.heap h' := fun b o hb e => hs'.extBut b o (by simpa using hb) e
    have hl' : h'.IsList l vs.toArray := st.2.1.extBut hs'.extBut hne
    have sq : SeqExt X s.heap h' := fun b o items n hx dd e => hs'.extBut b o (fun q => hx (q ▸ hX)) e
    refine hQ v h' s.toks ch fun Q' E' hQ' => ?_
    have fin := hQ' h' (fun b o _ e => e) ⟨hit', hl', st.2.2.mono sq fun _ _ z => z⟩ (rv.mono sq fun _ _ z => z)
    cases ht with
    | name x p => exact wpAny_pure fin
    | tuple es k p => cases v <;> first | exact wpAny_letOwnedTupleGo_listiter hit' fin | exact wpAny_pure fin
  done := fun A s E Q hh st hQ => wpAny_pyNext_list_end hh st.1 st.2.1 (by simp [hlen]) fun h' he' => hQ h' s.toks fun b o hb e => he' b o (by simpa using hb) e
  self := fun A i s E Q st hQ => wpAny_pyIter_listiter st.1 hQ

section
variable {c : Cx} {ρ : List (Str × PV)} {e : Expr} {d : PV} {A : Around} {s : Shared} {E : Value → Shared → Prop}
theorem EvIt.list {tgt iter : Expr} {ds : List PV} (ht : Tgt tgt) (h : Ev c ρ iter (.list ds)) : EvIt c ρ tgt iter ds := fun A s E r F =>
  h.wp r F fun x s₁ k₁ F₁ rx => by
    refine Rep.listE rx fun l vs hi hx rl => ?_
    have hlt : l < s₁.heap.objs.size := let ⟨o, e, _⟩ := hi; Heap.lt_size e
    refine wpAny_pyIter_list hi ⟨keeps_trans k₁ (keeps_push s₁ _ _), s₁.heap.objs.size, [s₁.heap.objs.size], [s₁.heap.objs.size, l], rfl, fun b hb => ?_, fun b hb => ?_, fun X' h1 h2 => ?_⟩
    · show b < (s₁.heap.push _).objs.size
      rw [Heap.size_push]
      rcases List.mem_cons.mp hb with rfl | hb
      · exact Nat.lt_succ_self _
      · rw [List.mem_singleton.mp hb]; exact Nat.lt_succ_of_lt hlt
    · rw [List.mem_singleton.mp hb]
      refine ⟨?_, (by show _ < (s₁.heap.push _).objs.size; rw [Heap.size_push]; exact Nat.lt_succ_self _), _, Heap.get?_push_size _ rfl⟩
      cases q : s.heap.get? s₁.heap.objs.size with
      | none => rfl
      | some o => exact absurd (Heap.lt_size (keeps_ext k₁ _ _ q)) (Nat.lt_irrefl _)
    · have hne : l ≠ s₁.heap.objs.size := Nat.ne_of_lt hlt
      have hl' : ¬ X' l := fun z => by
        have : ((s₁.heap.push { cls := .type "list_iterator", data := .fields #[.ref l, .int 0 0] }).get? l).isSome = true := by
          obtain ⟨o, e, _⟩ := hi; rw [Heap.get?_push_of_some _ e]; rfl
        rcases h1 l this z with z | z
        · exact hx z
        · exact hne (List.mem_singleton.mp z)
      refine ⟨_, It.list ht hne (h2 _ (by simp)) hl' vs ds rl.length, ⟨_, Heap.get?_push_size _ rfl, rfl, rfl⟩, ?_, ?_⟩
      · obtain ⟨o, e, q⟩ := hi; exact ⟨o, Heap.get?_push_of_some _ e, q⟩
      · refine rl.mono (fun b o _ _ _ _ e => Heap.get?_push_of_some _ e) fun b hb z => ?_
        have : ((s₁.heap.push { cls := .type "list_iterator", data := .fields #[.ref l, .int 0 0] }).get? b).isSome = true := by
          obtain ⟨o, e⟩ := Option.isSome_iff_exists.mp hb; rw [Heap.get?_push_of_some _ e]; rfl
        rcases h1 b this z with z | z
        · exact z
        · obtain ⟨o, e⟩ := Option.isSome_iff_exists.mp hb
          exact absurd (Heap.lt_size e) (by rw [List.mem_singleton.mp z]; exact Nat.lt_irrefl _)

/-- the tests of a comprehension -/
noncomputable def IfsOk (c : Cx) (ρ : List (Str × PV)) (ifs : List Expr) (b : Bool) : Prop :=
  ∀ (A : Around) (s : Shared) (E : Value → Shared → Prop), Rm c.k A → c.F ρ s.heap →
    wpAny (model c.prog c.w) A (forIn ifs true fun t r => if r = true then do let ok ← isTrue t c.env (eval t c.env); pure (ForInStep.yield ok) else pure (ForInStep.yield r)) (fun ok s' => Keeps s s' ∧ ok = b) E s
theorem IfsOk.nil : IfsOk c ρ [] true := fun A s E r F => wpAny_tests_nil ⟨keeps_refl s, rfl⟩
theorem IfsOk.one {t : Expr} {b : Bool} (h : Ts c ρ t b) : IfsOk c ρ [t] b := fun A s E r F => wpAny_tests_one (h.wp r F fun _ k _ => ⟨k, rfl⟩)

theorem compLoop_gen {prog : Program} {w : World} {A : Around} {R : Result → Shared → Prop} {s : Shared} {elt target iter : Expr} {ifs : List Expr} {scope : Scope} {pos : Pos} {it acc : Value} {env : Env} (I : Nat → Shared → Prop)
    (turn : ∀ n s, I n s → wpAny (model prog w) A (pyNext it) (fun r s₁ => match r with
      | none => R (.ok .next) s₁
      | some v => wpAny (model prog w) A (letOwnedTupleGo target it v) (fun _ s₁' => wpAny (model prog w) A (assign target env v) (fun _ s₂ =>
          wpAny (model prog w) A (forIn ifs true fun c r => if r = true then do let ok ← isTrue c env (eval c env); pure (ForInStep.yield ok) else pure (ForInStep.yield r)) (fun ok s₃ =>
            if ok = true then wpAny (model prog w) A (eval elt env) (fun x s₄ =>
              wpAny (model prog w) A (call (.builtin "list.append") [acc, x]) (fun _ s₅ => ∃ m, m < n ∧ I m s₅) (notedBy (model prog w) A env fun e s' => R (.error e) s') s₄) (notedBy (model prog w) A env fun e s' => R (.error e) s') s₃
            else ∃ m, m < n ∧ I m s₃) (notedBy (model prog w) A env fun e s' => R (.error e) s') s₂) (notedBy (model prog w) A env fun e s' => R (.error e) s') s₁') (notedBy (model prog w) A env fun e s' => R (.error e) s') s₁) (notedBy (model prog w) A env fun e s' => R (.error e) s') s)
    (n : Nat) (h : I n s) : codeAny (model prog w) A (.compLoop (.ListComp elt [⟨target, iter, ifs, 0⟩] scope pos) 0 it acc env) R s := by
  refine codeAny_loop rfl I (fun n s hI => ?_) n h
  show wpAny _ A ((compTurn (.ListComp elt [⟨target, iter, ifs, 0⟩] scope pos) 0 it acc env).onRaise (fun x => do noteFrame x env; theTreesLotGoes x)) _ _ s
  refine wpAny_noted ?_
  rw [compTurn_list]
  refine wpAny_bind (wpAny_standAt (wpAny_bind (wpAny_mono (turn n s hI) (fun r s₁ h₁ => ?_) fun _ _ h' => h')))
  cases r with
  | none => exact wpAny_pure h₁
  | some v =>
    refine wpAny_bind (wpAny_mono h₁ (fun _ s₁' h₁' => ?_) fun _ _ h' => h')
    refine wpAny_bind (wpAny_mono h₁' (fun _ s₂ h₂ => wpAny_bind (wpAny_mono h₂ (fun ok s₃ h₃ => ?_) fun _ _ h' => h')) fun _ _ h' => h')
    cases ok with
    | false => exact wpAny_pure ⟨rfl, h₃⟩
    | true =>
      exact wpAny_bind (wpAny_bind (wpAny_mono h₃ (fun x s₄ h₄ => wpAny_bind (wpAny_mono h₄ (fun _ s₅ h₅ => wpAny_pure (wpAny_pure ⟨rfl, h₅⟩)) fun _ _ h' => h')) fun _ _ h' => h'))
end
end Mine

namespace Mine

theorem frep_comp {c : Cx} {ρ ρf : List (Str × PV)} {h₁ h : Heap} {X' : Addr → Prop} {scope : Scope} {cl : List (Str × Addr)} {C : Addr} {m : Str → Option Value}
    (F : c.F ρ h₁) (ex : Ext h₁ h) (hn : h.Ns C m) (hC : h₁.get? C = none) (hX : ∀ b, (h₁.get? b).isSome = true → X' b → c.X b) (hXe : ∀ b, X' b → ∃ o, h.get? b = some o) (hXn : ∀ b, X' b → c.h₀.get? b = none)
    (hcl : ∀ x b, cl.lookup x = some b → c.env.cells.lookup x = some b)
    (hf : ∀ x d, ρf.lookup x = some d → ρ.lookup x = some d ∧ c.env.kindOf x = some .cell ∧ (relabel scope c.env).names.lookup x = some .cell ∧ cl.lookup x = c.env.cells.lookup x) :
    FRep c.h₀ X' (fun _ => False) none (compEnvC scope cl C c.env) ρf h where
  ext := fun b o e => ex _ _ (F.ext b o e)
  xb := hXe
  xn := hXn
  own := fun b q => by
    rcases q with q | ⟨x, q⟩
    · cases e : c.h₀.get? b with
      | none => rfl
      | some o => have := F.ext b o e; rw [show b = C from q, hC] at this; cases this
    · exact F.own b (.inr ⟨x, hcl x b q⟩)
  cl := fun x cc q => let ⟨v, i⟩ := F.cl x cc (hcl x cc q); ⟨v, Heap.IsCell.ext i ex⟩
  mx := fun _ q => q.elim
  ol := fun _ _ q => nomatch q
  ns := ⟨m, hn, fun x d q => by
    obtain ⟨q1, q2, q3, q4⟩ := hf x d q
    obtain ⟨m', hm', hv⟩ := F.ns
    obtain ⟨v, sl, rv⟩ := hv x d q1
    refine ⟨v, ?_, rv.mono (fun b o _ _ _ _ e => ex b o e) hX⟩
    rcases sl with ⟨k, _⟩ | ⟨_, cc, k2, i⟩
    · rw [q2] at k; cases k
    · exact .inr ⟨.inl q3, cc, q4.trans k2, Heap.IsCell.ext i ex⟩⟩

theorem lookup_take_succ {α : Type} {l : List α} {i : Nat} {x : α} (h : l[i]? = some x) : l.take (i + 1) = l.take i ++ [x] := by
  rw [List.take_add_one, h]; rfl

noncomputable def keepOnly : List (Option PV) → List PV := List.filterMap id

/-- one turn of a comprehension's body, for every place where it may stand -/
noncomputable def CompBody (c : Cx) (ρf : List (Str × PV)) (tgt elt : Expr) (ifs : List Expr) (scope : Scope) (cl : List (Str × Addr)) (d : PV) (r : Option PV) : Prop :=
  ∀ (X' : Addr → Prop) (C : Addr), ∃ ρ', AsOk (fun b => b = C) { c with X := X', M := fun _ => False, ow := none, env := compEnvC scope cl C c.env } ρf tgt d ρ' ∧
    IfsOk { c with X := X', M := fun _ => False, ow := none, env := compEnvC scope cl C c.env } ρ' ifs r.isSome ∧ ∀ f, r = some f → Ev { c with X := X', M := fun _ => False, ow := none, env := compEnvC scope cl C c.env } ρ' elt f

/-- what stands between the turns of a comprehension -/
noncomputable def CompInv (s s₂ : Shared) (St : Nat → Heap → Prop) (X' : Addr → Prop) (ds : List PV) (rs : List (Option PV)) (D C : Addr) (k : Nat) (s' : Shared) : Prop :=
  ∃ h' tk i ys m', s' = { s₂ with heap := h', toks := tk } ∧ i ≤ ds.length ∧ k = ds.length + 1 - i ∧ St i h' ∧ Ext s.heap h' ∧ h'.PlainList D ys ∧ ys.size ≤ i ∧ RepL X' h' ys.toList (keepOnly (rs.take i)) ∧ h'.Ns C m'
theorem comp_run {c : Cx} {ρ ρf : List (Str × PV)} {A : Around} {s : Shared} {E : Value → Shared → Prop} {elt tgt iter : Expr} {ifs : List Expr} {scope : Scope} {pos : Pos} {ds : List PV} {rs : List (Option PV)} {cl : List (Str × Addr)} {use : Option (Value → Sem Unit)} {Q : Value → Shared → Prop}
    (r : Rm c.k A) (F : c.F ρ s.heap) (hit : EvIt c ρ tgt iter ds) (hkind : scope.kind = .function) (hcell : ∀ y ∈ scope.names, y.2 ≠ .cell)
    (hcl : ∀ x b, cl.lookup x = some b → c.env.cells.lookup x = some b)
    (hf : ∀ x d, ρf.lookup x = some d → ρ.lookup x = some d ∧ c.env.kindOf x = some .cell ∧ (relabel scope c.env).names.lookup x = some .cell ∧ cl.lookup x = c.env.cells.lookup x)
    (hlen : rs.length = ds.length) (hsz : ds.length ≤ sizeLine)
    (hb : ∀ (i : Nat) d r, ds[i]? = some d → rs[i]? = some r → CompBody c ρf tgt elt ifs scope cl d r)
    (fin : ∀ acc C s', Keeps s s' → (∃ m, s'.heap.Ns C m) → s.heap.get? C = none → Rep c.X s'.heap acc (.list (keepOnly rs)) → compPost (model c.prog c.w) A E use Q acc C (.ok .next) s') :
    wpAny (model c.prog c.w) A (eval iter c.env) (fun x s₁ => wpAny (model c.prog c.w) A (pyIter x) (fun it s₂ => wpAny (model c.prog c.w) A (newList []) (fun acc s₃ =>
      wpAny (model c.prog c.w) A (newFunctionEnv scope c.env.globals cl [] c.env.qual none .none (some c.env)) (fun cenv s₄ =>
        codeAny (model c.prog c.w) A (.compStart (.ListComp elt [⟨tgt, iter, ifs, 0⟩] scope pos) 0 it acc { cenv with scope := relabel scope c.env }) (compPost (model c.prog c.w) A E use Q acc cenv.locals) s₄) E s₃) E s₂) E s₁) E s := by
  refine wpAny_mono (hit A s E r F) (fun x s₁ g => wpAny_mono g (fun it s₂ g => ?_) fun _ _ x => x) fun _ _ x => x
  refine Classical.byContradiction fun hG => ?_
  obtain ⟨k₂, I, wr, fp, rfl, hfp, hwr, hIt⟩ := g
  refine hG ?_
  refine wpAny_newObj_type (wpAny_newFunctionEnv hcell (by intro y hy; simp at hy) (fun h₁ hns₁ hsb₁ => ?_) hkind)
  dsimp only at hns₁ hsb₁ ⊢
  generalize hH2 : s₂.heap.push { cls := .type "list", dict := none, data := .seq ([] : List Value).toArray } = H2 at hns₁ hsb₁ ⊢
  have hC : H2.objs.size = s₂.heap.objs.size + 1 := by rw [← hH2, Heap.size_push]
  have hDC : s₂.heap.objs.size ≠ H2.objs.size := by rw [hC]; exact Nat.ne_of_lt (Nat.lt_succ_self _)
  have below : ∀ b, b < s₂.heap.objs.size → b ≠ H2.objs.size ∧ b ≠ s₂.heap.objs.size := fun b hb => ⟨by rw [hC]; exact Nat.ne_of_lt (Nat.lt_succ_of_lt hb), Nat.ne_of_lt hb⟩
  have old : Ext s₂.heap h₁ := fun b o e => hsb₁.extBut b o (below b (Heap.lt_size e)).1 (Heap.get?_push_of_some _ (hH2 ▸ Heap.get?_push_of_some _ e))
  have hacc : h₁.PlainList s₂.heap.objs.size #[] := ⟨_, hsb₁.extBut _ _ hDC (Heap.get?_push_of_some _ (hH2 ▸ Heap.get?_push_size _ rfl))⟩
  have fresh : ∀ a, s₂.heap.objs.size ≤ a → s₂.heap.get? a = none := fun a ha => by
    cases e : s₂.heap.get? a with
    | none => rfl
    | some o' => exact absurd (Heap.lt_size e) (Nat.not_lt.mpr ha)
  have ex₂ : Ext s.heap s₂.heap := keeps_ext k₂
  have fresh₀ : ∀ a, s₂.heap.get? a = none → s.heap.get? a = none := fun a ha => by
    cases e : s.heap.get? a with
    | none => rfl
    | some o' => have := ex₂ a o' e; rw [ha] at this; cases this
  have freshB : ∀ a, s.heap.get? a = none → c.h₀.get? a = none := fun a ha => by
    cases e : c.h₀.get? a with
    | none => rfl
    | some o' => have := F.ext a o' e; rw [ha] at this; cases this
  obtain ⟨X', hX'⟩ : ∃ X' : Addr → Prop, X' = fun b => c.X b ∨ b ∈ wr ∨ b = s₂.heap.objs.size := ⟨_, rfl⟩
  obtain ⟨St, W, hst₂⟩ := hIt X' (fun b hb x => by
    rw [hX'] at x
    rcases x with x | x | x
    · exact .inl x
    · exact .inr x
    · rw [x, fresh _ (Nat.le_refl _)] at hb; cases hb) (fun b hb => by rw [hX']; exact .inr (.inl hb))
  have hDX : X' s₂.heap.objs.size := by rw [hX']; exact .inr (.inr rfl)
  have hDf : s₂.heap.objs.size ∉ fp := fun hm => Nat.lt_irrefl _ (hfp _ hm)
  have hCf : H2.objs.size ∉ fp := fun hm => by have := hfp _ hm; rw [hC] at this; exact Nat.lt_irrefl _ (Nat.lt_of_succ_lt this)
  have hDw : s₂.heap.objs.size ∉ wr := fun h => hDf (W.sub _ h)
  have hCw : H2.objs.size ∉ wr := fun h => hCf (W.sub _ h)
  have hwr0 : ∀ b ∈ wr, s.heap.get? b = none := fun b hb => (hwr b hb).1
  have hst₁ : St 0 h₁ := W.frame _ _ _ hst₂ (fun b o _ _ _ _ e => old b o e) fun b _ o e => old b o e
  have hX1 : ∀ b, (s.heap.get? b).isSome = true → X' b → c.X b := fun b hb x => by
    rw [hX'] at x
    rcases x with x | x | x
    · exact x
    · rw [hwr0 b x] at hb; cases hb
    · rw [x, fresh₀ _ (fresh _ (Nat.le_refl _))] at hb; cases hb
  have hXn : ∀ b, X' b → c.h₀.get? b = none := fun b x => by
    rw [hX'] at x
    rcases x with x | x | x
    · exact F.xn b x
    · exact freshB _ (hwr0 b x)
    · rw [x]; exact freshB _ (fresh₀ _ (fresh _ (Nat.le_refl _)))
  have hCn : s.heap.get? H2.objs.size = none := fresh₀ _ (fresh _ (by rw [hC]; exact Nat.le_succ _))
  have hXe : ∀ i h ys, St i h → Ext s.heap h → h.PlainList s₂.heap.objs.size ys → ∀ b, X' b → ∃ o, h.get? b = some o := fun i h ys st ex pl b x => by
    rw [hX'] at x
    rcases x with x | x | x
    · obtain ⟨o, e⟩ := F.xb b x; exact ⟨o, ex _ _ e⟩
    · obtain ⟨o, e, _⟩ := W.kind i h st b (W.sub b x); exact ⟨o, e⟩
    · obtain ⟨n, e⟩ := pl; exact ⟨_, x ▸ e⟩
  have loop : ∀ s₃ : Shared, s₃ = { s₂ with heap := h₁, toks := s₂.toks + ([] : List (Str × Value)).length } →
      codeAny (model c.prog c.w) A (.compLoop (.ListComp elt [⟨tgt, iter, ifs, 0⟩] scope pos) 0 (.ref I) (.ref s₂.heap.objs.size) (compEnvC scope cl H2.objs.size c.env))
        (compPost (model c.prog c.w) A E use Q (.ref s₂.heap.objs.size) H2.objs.size) s₃ := by
    rintro s₃ rfl
    refine compLoop_gen
      (CompInv s s₂ St X' ds rs s₂.heap.objs.size H2.objs.size) ?_ (ds.length + 1)
      ⟨h₁, _, 0, #[], _, rfl, Nat.zero_le _, rfl, hst₁, fun b o e => old _ _ (ex₂ b o e), hacc, Nat.le_refl _, by simpa [keepOnly] using RepL.nil, hns₁⟩
    intro k s' hI
    refine Classical.byContradiction fun hG => ?_
    obtain ⟨h', tk, i, ys, m', rfl, hi, rfl, hst, ex, pl, hys, rl, hn⟩ := hI
    refine hG ?_
    by_cases hlt : i < ds.length
    · obtain ⟨d, hd⟩ : ∃ d, ds[i]? = some d := ⟨_, List.getElem?_eq_getElem hlt⟩
      obtain ⟨q, hq⟩ : ∃ q, rs[i]? = some q := ⟨_, List.getElem?_eq_getElem (by lia)⟩
      refine Classical.byContradiction fun hG => ?_
      obtain ⟨ρ', hAs, hIf, hEl⟩ := hb i d q hd hq X' H2.objs.size
      refine hG ?_
      refine W.next A i d _ _ _ r.1 (hXe _ _ _ hst ex pl) hst hd fun v h₂ tk₂ ch₂ go => ?_
      refine go _ _ fun h₃ ch₃ st₃ rv => ?_
      have exw : ∀ b o, s.heap.get? b = some o → h₃.get? b = some o := fun b o e => ch₃ _ _ (fun hb => by rw [hwr0 b hb] at e; cases e) (ch₂ _ _ (fun hb => by rw [hwr0 b hb] at e; cases e) (ex b o e))
      have hn₃ : h₃.Ns H2.objs.size m' := (hn.at' fun o e => ch₂ _ o hCw e).at' fun o e => ch₃ _ o hCw e
      have pl₃ : h₃.PlainList s₂.heap.objs.size ys := (pl.at fun o e => ch₂ _ o hDw e).at fun o e => ch₃ _ o hDw e
      have sq3 : SeqExt X' h' h₃ := fun b o items n hx dd e => ch₃ _ _ (fun hb => hx (W.wrX b hb)) (ch₂ _ _ (fun hb => hx (W.wrX b hb)) e)
      have rl₃ := rl.mono sq3 fun _ _ z => z
      have F₃ : FRep c.h₀ X' (fun _ => False) none (compEnvC scope cl H2.objs.size c.env) ρf h₃ := frep_comp F exw hn₃ hCn hX1 (hXe _ _ _ st₃ exw pl₃) hXn hcl hf
      refine wpAny_mono (hAs A { s₂ with heap := h₃, toks := tk₂ } _ v r F₃ rv) (fun _ s₄ g₄ => ?_) fun _ _ x => x
      refine Classical.byContradiction fun hG => ?_
      obtain ⟨⟨h₄, tk₄, rfl, ch₄⟩, F₄⟩ := g₄
      refine hG ?_
      have ex₄ : Ext s.heap h₄ := fun b o e => ch₄ b o (fun q => by rw [q, hCn] at e; cases e) (exw b o e)
      refine Classical.byContradiction fun hG => ?_
      obtain ⟨m₄, hn₄, _⟩ := F₄.ns
      refine hG ?_
      have hn₄ : h₄.Ns H2.objs.size m₄ := hn₄
      have st₄ : St (i + 1) h₄ := W.frame _ _ _ st₃ (fun b o items n _ dd e => ch₄ b o (ns_not_nd hn₃ e dd) e) fun b hb o e => ch₄ b o (fun q => hCf (q ▸ hb)) e
      have pl₄ : h₄.PlainList s₂.heap.objs.size ys := pl₃.at fun o e => ch₄ _ o hDC e
      have rl₄ := rl₃.mono (h' := h₄) (fun b o items n _ dd e => ch₄ b o (ns_not_nd hn₃ e dd) e) fun _ _ z => z
      refine wpAny_mono (hIf A { s₂ with heap := h₄, toks := tk₄ } _ r F₄) (fun ok s₅ g₅ => ?_) fun _ _ x => x
      refine Classical.byContradiction fun hG => ?_
      obtain ⟨⟨h₅, tk₅, rfl, ch₅⟩, rfl⟩ := g₅
      refine hG ?_
      have st₅ : St (i + 1) h₅ := W.frame _ _ _ st₄ (fun b o _ _ _ _ e => ch₅ b o e) fun b _ o e => ch₅ b o e
      have F₅ := F₄.keeps (h' := h₅) ch₅
      cases q with
      | none =>
        simp only [Option.isSome_none, Bool.false_eq_true, if_false]
        refine ⟨ds.length + 1 - (i + 1), by lia, h₅, tk₅, i + 1, ys, m₄, rfl, hlt, rfl, st₅, fun b o e => ch₅ _ _ (ex₄ b o e), pl₄.at fun o e => ch₅ _ _ e, Nat.le_succ_of_le hys, ?_, hn₄.keeps ch₅⟩
        rw [lookup_take_succ hq, keepOnly, List.filterMap_append]
        simpa [keepOnly] using rl₄.ext ch₅
      | some f =>
        simp only [Option.isSome_some, if_true]
        refine wpAny_mono (hEl f rfl A { s₂ with heap := h₅, toks := tk₅ } _ r F₅) (fun y s₆ g₆ => ?_) fun _ _ x => x
        refine Classical.byContradiction fun hG => ?_
        obtain ⟨⟨h₆, tk₆, rfl, ch₆⟩, ry⟩ := g₆
        refine hG ?_
        have pl₆ : h₆.PlainList s₂.heap.objs.size ys := (pl₄.at fun o e => ch₅ _ _ e).at fun o e => ch₆ _ _ e
        refine wpAny_list_append_plain (hsz := by lia) pl₆ fun h₇ hl₇ hs₇ => ?_
        have sq7 : SeqExt X' h₆ h₇ := fun b o items n hx dd e => hs₇.extBut b o (fun q => hx (q ▸ hDX)) e
        refine ⟨ds.length + 1 - (i + 1), by omega, h₇, tk₆, i + 1, ys.push y, m₄, rfl, hlt, rfl, ?_, fun b o e => hs₇.extBut b o (fun q => by rw [q, fresh₀ _ (fresh _ (Nat.le_refl _))] at e; cases e) (ch₆ _ _ (ch₅ _ _ (ex₄ b o e))), hl₇, (by rw [Array.size_push]; lia), ?_, ((hn₄.keeps ch₅).keeps ch₆).sameBut hs₇ (Ne.symm hDC)⟩
        · exact W.frame _ _ _ st₅ (fun b o items n hx dd e => sq7 b o items n hx dd (ch₆ b o e)) fun b hb o e => hs₇.extBut b o (fun q => hDf (q ▸ hb)) (ch₆ b o e)
        · rw [lookup_take_succ hq, keepOnly, List.filterMap_append, Array.toList_push]
          exact (((rl₄.ext ch₅).ext ch₆).mono sq7 fun _ _ z => z).append (.cons (ry.mono sq7 fun _ _ z => z) .nil)
    · have hin : i = ds.length := by lia
      subst hin
      refine W.done A _ _ _ r.1 hst fun h₂ tk₂ ch₂ => ?_
      have exw : Ext s.heap h₂ := fun b o e => ch₂ _ _ (fun hb => by rw [hwr0 b hb] at e; cases e) (ex b o e)
      have pl₂ : h₂.PlainList s₂.heap.objs.size ys := pl.at fun o e => ch₂ _ o hDw e
      have rl₂ := rl.mono (h' := h₂) (fun b o items n hx dd e => ch₂ _ _ (fun hb => hx (W.wrX b hb)) e) fun _ _ z => z
      rw [← hlen, List.take_length] at rl₂
      refine Classical.byContradiction fun hG => ?_
      obtain ⟨hs, ts, rfl, es⟩ := k₂
      refine hG ?_
      refine fin _ _ _ ⟨h₂, tk₂, rfl, exw⟩ ⟨m', hn.at' fun o e => ch₂ _ o hCw e⟩ hCn (.list (by simpa using pl₂.isList) (fun z => ?_) (rl₂.mono (fun _ _ _ _ _ _ e => e) fun b _ z => by rw [hX']; exact .inl z))
      obtain ⟨o, e⟩ := F.xb _ z
      have : s.heap.get? hs.objs.size = none := fresh₀ _ (fresh _ (Nat.le_refl _))
      rw [this] at e; cases e
  exact codeAny_compStart_list (loop _ rfl) (W.self A 0 _ _ _ hst₁ (loop _ rfl))
end Mine

namespace Mine

theorem seq_but {X : Addr → Prop} {h h' : Heap} {C : Addr} {m : Str → Option Value} (hm : h.Ns C m) (hs : Heap.SameBut C h h') : SeqExt X h h' := fun b o items n _ dd e => (hs.2 b (ns_not_nd hm e dd)).trans e
theorem FRep.but {h₀ h h' : Heap} {X M : Addr → Prop} {ow : Option (Addr × List PV)} {env : Env} {ρ : List (Str × PV)} {C : Addr} {m : Str → Option Value} (F : FRep h₀ X M ow env ρ h) (hm : h.Ns C m) (hL : C ≠ env.locals) (hX : ¬ X C) (h0 : h₀.get? C = none) (hs : Heap.SameBut C h h') : FRep h₀ X M ow env ρ h' where
  ext := fun b o e => (hs.2 b (fun q => by rw [q, h0] at e; cases e)).trans (F.ext b o e)
  xb := fun a x => let ⟨o, e⟩ := F.xb a x; ⟨o, (hs.2 a fun q => hX (q ▸ x)).trans e⟩
  xn := F.xn
  own := F.own
  cl := fun x cc q => let ⟨v, o, e, d⟩ := F.cl x cc q; ⟨v, o, (hs.2 cc (ns_not_cell hm ⟨o, e, d⟩)).trans e, d⟩
  mx := F.mx
  ol := fun a ds q => let ⟨k1, vs, ⟨o, k2, k3, n, k4⟩, k5⟩ := F.ol a ds q; ⟨k1, vs, ⟨o, (hs.2 a (ns_not_seq hm k2 k4)).trans k2, k3, n, k4⟩, k5.mono (seq_but hm hs) fun _ _ z => z⟩
  ns := by
    obtain ⟨m', hm', hv⟩ := F.ns
    refine ⟨m', hm'.sameBut hs (Ne.symm hL), fun x d q => ?_⟩
    obtain ⟨v, sl, rv⟩ := hv x d q
    refine ⟨v, ?_, rv.mono (seq_but hm hs) fun _ _ z => z⟩
    rcases sl with sl | ⟨k, cc, k2, o, e, d⟩
    · exact .inl sl
    · exact .inr ⟨k, cc, k2, o, (hs.2 cc (ns_not_cell hm ⟨o, e, d⟩)).trans e, d⟩

theorem FRep.live {h₀ h : Heap} {X M : Addr → Prop} {ow : Option (Addr × List PV)} {env : Env} {ρ : List (Str × PV)} (F : FRep h₀ X M ow env ρ h) {b : Addr} (q : Own env b ∨ M b) : ∃ o, h.get? b = some o := by
  rcases q with (q | ⟨x, q⟩) | q
  · obtain ⟨m, ⟨o, _, _, e, _⟩, _⟩ := F.ns; exact ⟨o, q ▸ e⟩
  · obtain ⟨v, o, e, _⟩ := F.cl x b q; exact ⟨o, e⟩
  · exact F.xb b (F.mx b q)

section
variable {c : Cx} {ρ ρf : List (Str × PV)} {d : PV} {elt tgt iter : Expr} {ifs : List Expr} {scope : Scope} {pos : Pos} {ds : List PV} {rs : List (Option PV)} {cl : List (Str × Addr)}

structure CompOk (c : Cx) (ρ ρf : List (Str × PV)) (elt tgt iter : Expr) (ifs : List Expr) (scope : Scope) (cl : List (Str × Addr)) (ds : List PV) (rs : List (Option PV)) : Prop where
  hit : EvIt c ρ tgt iter ds
  kind : scope.kind = .function
  cell : ∀ y ∈ scope.names, y.2 ≠ .cell
  names : ∀ y ∈ scope.names, y.2 = .local → scope.names.lookup y.1 = some .local
  clo : closureFor scope c.env = pure cl
  hcl : ∀ x b, cl.lookup x = some b → c.env.cells.lookup x = some b
  hf : ∀ x d, ρf.lookup x = some d → ρ.lookup x = some d ∧ c.env.kindOf x = some .cell ∧ (relabel scope c.env).names.lookup x = some .cell ∧ cl.lookup x = c.env.cells.lookup x
  len : rs.length = ds.length
  sz : ds.length ≤ sizeLine
  fold : ∀ x, foldedSetIterable iter c.env x = pure x
  body : ∀ (i : Nat) d r, ds[i]? = some d → rs[i]? = some r → CompBody c ρf tgt elt ifs scope cl d r

theorem Ev.comp (H : CompOk c ρ ρf elt tgt iter ifs scope cl ds rs) : Ev c ρ (.ListComp elt [⟨tgt, iter, ifs, 0⟩] scope pos) (.list (keepOnly rs)) := fun A s E r F => by
  show wpAny _ A (comprehension (.ListComp elt [⟨tgt, iter, ifs, 0⟩] scope pos) scope c.env (firstIterPos [⟨tgt, iter, ifs, 0⟩] pos) (newList []) false (eval iter c.env)) _ E s
  refine wpAny_comprehension_free rfl H.fold H.clo H.kind H.names ?_
  refine comp_run (ρf := ρf) r F H.hit H.kind H.cell H.hcl H.hf H.len H.sz H.body fun acc C s' k hm hC rv => ?_
  obtain ⟨m, hm⟩ := hm
  refine ⟨m, hm, fun h' hs => ⟨?_, rv.mono (seq_but hm hs) fun _ _ z => z⟩⟩
  obtain ⟨h1, tk, rfl, ex⟩ := k
  exact ⟨h', tk, rfl, fun b o e => (hs.2 b fun q => by rw [q, hC] at e; cases e).trans (ex b o e)⟩
end

-- statements
inductive Out where
  | next (ρ : List (Str × PV)) (ow : Option (Addr × List PV))
  | cont (ρ : List (Str × PV)) (ow : Option (Addr × List PV))
  | ret (d : PV)
  | retOwn (ds : List PV)
noncomputable abbrev Cx.own (c : Cx) (ow : Option (Addr × List PV)) : Cx := { c with ow := ow }
noncomputable def OutOk (c : Cx) : Out → Flow → Shared → Prop
  | .next ρ ow, .next, s => (c.own ow).F ρ s.heap
  | .cont ρ ow, .cont, s => (c.own ow).F ρ s.heap
  | .ret d, .ret v, s => Rep c.X s.heap v d
  | .retOwn ds, .ret v, s => ∃ a vs, c.M a ∧ v = .ref a ∧ s.heap.IsList a vs.toArray ∧ RepL c.X s.heap vs ds
  | _, _, _ => False
noncomputable def Ex (c : Cx) (ρ : List (Str × PV)) (ss : List Stmt) (o : Out) : Prop :=
  ∀ (A : Around) (s : Shared) (E : Value → Shared → Prop), Rm c.k A → c.F ρ s.heap → wpAny (model c.prog c.w) A (execs ss c.env) (fun f s' => KB (OwnC c) s s' ∧ OutOk c o f s') E s
noncomputable def Ex1 (c : Cx) (ρ : List (Str × PV)) (st : Stmt) (o : Out) : Prop :=
  ∀ (A : Around) (s : Shared) (E : Value → Shared → Prop), Rm c.k A → c.F ρ s.heap → wpAny (model c.prog c.w) A (exec st c.env) (fun f s' => KB (OwnC c) s s' ∧ OutOk c o f s') E s

section
variable {c : Cx} {ρ ρ' : List (Str × PV)} {ow : Option (Addr × List PV)} {d : PV} {o : Out} {st : Stmt} {ss : List Stmt} {e : Expr}
theorem Ex.nil : Ex c ρ [] (.next ρ c.ow) := fun A s E r F => wpAny_execs_nil ⟨KB.refl s, F⟩
theorem Ex.cons (h : Ex1 c ρ st (.next ρ' ow)) (hs : Ex (c.own ow) ρ' ss o) : Ex c ρ (st :: ss) o := fun A s E r F => by
  refine wpAny_execs_cons (wpAny_mono (h A s E r F) (fun f s₁ q => ?_) fun _ _ x => x)
  obtain ⟨k, q⟩ := q
  cases f with
  | next => exact wpAny_mono (hs A s₁ E r q) (fun f s₂ g => ⟨k.trans g.1, by cases o <;> cases f <;> first | exact g.2 | exact g.2.elim⟩) fun _ _ x => x
  | _ => exact q.elim
theorem Ex.ret (h : Ex1 c ρ st (.ret d)) : Ex c ρ (st :: ss) (.ret d) := fun A s E r F => by
  refine wpAny_execs_cons (wpAny_mono (h A s E r F) (fun f s₁ q => ?_) fun _ _ x => x)
  obtain ⟨k, q⟩ := q
  cases f with
  | ret v => exact ⟨k, q⟩
  | _ => exact q.elim
theorem Ex.retOwn {ds : List PV} (h : Ex1 c ρ st (.retOwn ds)) : Ex c ρ (st :: ss) (.retOwn ds) := fun A s E r F => by
  refine wpAny_execs_cons (wpAny_mono (h A s E r F) (fun f s₁ q => ?_) fun _ _ x => x)
  obtain ⟨k, q⟩ := q
  cases f with
  | ret v => exact ⟨k, q⟩
  | _ => exact q.elim
theorem Ex.cont (h : Ex1 c ρ st (.cont ρ' ow)) : Ex c ρ (st :: ss) (.cont ρ' ow) := fun A s E r F => by
  refine wpAny_execs_cons (wpAny_mono (h A s E r F) (fun f s₁ q => ?_) fun _ _ x => x)
  obtain ⟨k, q⟩ := q
  cases f with
  | cont => exact ⟨k, q⟩
  | _ => exact q.elim
theorem Ex.one (h : Ex1 c ρ st o) : Ex c ρ [st] o := by
  cases o with
  | next ρ' ow => exact Ex.cons h Ex.nil
  | cont ρ' ow => exact Ex.cont h
  | ret d => exact Ex.ret h
  | retOwn ds => exact Ex.retOwn h

theorem Ex1.assign {x : Str} {p pos : Pos} (h : Ev c ρ e d) (hx : StOk (OwnC c) c x) (hs : swapsWith e (some (.Name x p)) pos.line c.env = pure false) : Ex1 c ρ (.Assign [.Name x p] e pos) (.next ((x, d) :: ρ) c.ow) := fun A s E r F =>
  wpAny_Assign_Name (h.wp r F fun v s₁ k F₁ rv => wpAny_mono (hx ρ d A s₁ E v F₁ rv) (fun _ s₂ q => ⟨(KB.of k).trans q.1, q.2⟩) fun _ _ x => x) hs
theorem Ex1.return_ {pos : Pos} (h : Ev c ρ e d) : Ex1 c ρ (.Return (some e) pos) (.ret d) := fun A s E r F => wpAny_Return_some (h.wp r F fun v s₁ k F₁ rv => ⟨KB.of k, rv⟩)
theorem Ex1.continue_ {pos : Pos} : Ex1 c ρ (.Continue pos) (.cont ρ c.ow) := fun A s E r F => wpAny_Continue ⟨KB.refl s, F⟩
theorem Ex1.if_ {t : Expr} {b1 b2 : List Stmt} {pos : Pos} {b : Bool} (h : Ts c ρ t b) (h1 : b = true → Ex c ρ b1 o) (h2 : b = false → Ex c ρ b2 o) : Ex1 c ρ (.If t b1 b2 pos) o := fun A s E r F => by
  refine wpAny_If (h.wp r F fun s₁ k F₁ => ?_)
  cases b with
  | true => rw [if_pos rfl]; exact wpAny_mono (h1 rfl A s₁ E r F₁) (fun f s₂ q => ⟨(KB.of k).trans q.1, q.2⟩) fun _ _ x => x
  | false => rw [if_neg Bool.false_ne_true]; exact wpAny_mono (h2 rfl A s₁ E r F₁) (fun f s₂ q => ⟨(KB.of k).trans q.1, q.2⟩) fun _ _ x => x
theorem aug_gen {x : Str} {p pos : Pos} {d0 d1 d2 : PV} (hk : c.env.scope.kind = .function) (hl : c.env.kindOf x = some .local) (h0 : ρ.lookup x = some d0) (h : Ev c ρ e d1) (hx : StOk (OwnC c) c x)
    (hop : ∀ (A : Around) (s : Shared) (E : Value → Shared → Prop) (u v : Value) (Q : Value → Shared → Prop), Rep c.X s.heap u d0 → Rep c.X s.heap v d1 → (∀ r tk, Rep c.X s.heap r d2 → Q r { s with toks := tk }) → wpAny (model c.prog c.w) A (inplaceOp .Add u v) Q E s) :
    Ex1 c ρ (.AugAssign (.Name x p) .Add e pos) (.next ((x, d2) :: ρ) c.ow) := fun A s E r F => by
  obtain ⟨m, hm, hv⟩ := F.ns
  obtain ⟨u, sl, ru⟩ := hv x d0 h0
  rcases sl with ⟨_, q⟩ | ⟨k, _⟩
  · refine wpAny_AugAssign_Name (wpAny_loadName_local hk hl hm q ?_)
    refine h.wp r F fun v s₁ k₁ F₁ rv => hop A s₁ E u v _ (ru.ext (keeps_ext k₁)) rv fun w tk rw_ => ?_
    exact wpAny_mono (hx ρ d2 A { s₁ with toks := tk } E w F₁ rw_) (fun _ s₂ q => ⟨((KB.of k₁).trans (KB.of (keeps_toks s₁ tk))).trans q.1, q.2⟩) fun _ _ x => x
  · rw [hl] at k; rcases k with k | k <;> cases k
theorem Ex1.aug_int {x : Str} {p pos : Pos} {i j : Int} (hk : c.env.scope.kind = .function) (hl : c.env.kindOf x = some .local) (h0 : ρ.lookup x = some (.int i)) (h : Ev c ρ e (.int j)) (hx : StOk (OwnC c) c x) :
    Ex1 c ρ (.AugAssign (.Name x p) .Add e pos) (.next ((x, .int (i + j)) :: ρ) c.ow) :=
  aug_gen hk hl h0 h hx fun A s E u v Q ru rv hQ => by
    refine Rep.intE ru fun t => ?_; refine Rep.intE rv fun t' => ?_; exact wpAny_iadd_int (hQ _ _ (.int _ _))
theorem Ex1.aug_str {x : Str} {p pos : Pos} {i j : Str} (hk : c.env.scope.kind = .function) (hl : c.env.kindOf x = some .local) (h0 : ρ.lookup x = some (.str i)) (h : Ev c ρ e (.str j)) (hx : StOk (OwnC c) c x) (hs : i.length + j.length ≤ sizeLine) :
    Ex1 c ρ (.AugAssign (.Name x p) .Add e pos) (.next ((x, .str (i ++ j)) :: ρ) c.ow) :=
  aug_gen hk hl h0 h hx fun A s E u v Q ru rv hQ => by
    refine Rep.strE ru fun t => ?_; refine Rep.strE rv fun t' => ?_; exact iadd_str (fun t' tk => hQ _ _ (.str _ _)) hs

/-- an assignment of a comprehension to a plain local name -/
theorem Ex1.assignC {y : Str} {py spos : Pos} {elt tgt iter : Expr} {ifs : List Expr} {scope : Scope} {pos : Pos} {ds : List PV} {rs : List (Option PV)} {cl : List (Str × Addr)} {ρf : List (Str × PV)}
    (hs : swapsWith (.ListComp elt [⟨tgt, iter, ifs, 0⟩] scope pos) (some (.Name y py)) spos.line c.env = pure true) (H : CompOk c ρ ρf elt tgt iter ifs scope cl ds rs) (hy : StOk (OwnC c) c y) :
    Ex1 c ρ (.Assign [.Name y py] (.ListComp elt [⟨tgt, iter, ifs, 0⟩] scope pos) spos) (.next ((y, .list (keepOnly rs)) :: ρ) c.ow) := fun A s E r F => by
  have e0 : exec (.Assign [.Name y py] (.ListComp elt [⟨tgt, iter, ifs, 0⟩] scope pos) spos) c.env = (do
      standAt spos
      if ← swapsWith (.ListComp elt [⟨tgt, iter, ifs, 0⟩] scope pos) (some (.Name y py)) spos.line c.env then
        evalThenUse (.ListComp elt [⟨tgt, iter, ifs, 0⟩] scope pos) c.env (PySem.assign (Expr.Name y py) c.env)
        return .next
      let v ← eval (.ListComp elt [⟨tgt, iter, ifs, 0⟩] scope pos) c.env
      standAt py
      bindName c.env y v
      pure .next) := rfl
  rw [e0, hs]
  refine wpAny_bind (wpAny_standAt ?_)
  show wpAny _ A ((comprehension (.ListComp elt [⟨tgt, iter, ifs, 0⟩] scope pos) scope c.env (firstIterPos [⟨tgt, iter, ifs, 0⟩] pos) (newList []) false (eval iter c.env) (some (PySem.assign (Expr.Name y py) c.env)) >>= fun _ => pure ()) >>= fun _ => pure Flow.next) _ E s
  refine wpAny_bind (wpAny_bind ?_)
  refine wpAny_comprehension_free rfl H.fold H.clo H.kind H.names ?_
  refine comp_run (ρf := ρf) r F H.hit H.kind H.cell H.hcl H.hf H.len H.sz H.body fun acc C s' k hm hC rv => ?_
  obtain ⟨m, hm⟩ := hm
  have F' := F.keeps (keeps_ext k)
  have hCo : ¬ OwnC c C := fun q => by
    obtain ⟨o, e⟩ := F.live q; rw [hC] at e; cases e
  refine wpAny_mono (AsOk.name hy A s' E acc r F' rv) (fun _ s'' q => ?_) fun _ _ x => x
  have hm'' : s''.heap.Ns C m := by
    obtain ⟨o, es, ep, e, d⟩ := hm
    exact ⟨o, es, ep, q.1.at hCo e, d⟩
  refine ⟨m, hm'', fun h' hs => wpAny_pure (wpAny_pure ⟨?_, ?_⟩)⟩
  · obtain ⟨h1, tk, rfl, ex⟩ := k
    obtain ⟨h2, tk2, rfl, ex2⟩ := q.1
    exact ⟨h', tk2, rfl, fun b o n e => (hs.2 b fun z => by rw [z, hC] at e; cases e).trans (ex2 b o n (ex b o e))⟩
  · refine FRep.but q.2 hm'' (fun z => hCo (.inl (.inl z))) (fun z => ?_) ?_ hs
    · obtain ⟨o, e⟩ := F.xb C z; rw [hC] at e; cases e
    · cases e : c.h₀.get? C with
      | none => rfl
      | some o => have := F.ext C o e; rw [hC] at this; cases this

noncomputable def Sub (ρ' ρ : List (Str × PV)) : Prop := ∀ x d, ρ'.lookup x = some d → ρ.lookup x = some d
theorem FRep.sub {h₀ h : Heap} {X M : Addr → Prop} {ow : Option (Addr × List PV)} {env : Env} {ρ ρ' : List (Str × PV)} (F : FRep h₀ X M ow env ρ h) (s : Sub ρ' ρ) : FRep h₀ X M ow env ρ' h :=
  { F with ns := let ⟨m, hm, hv⟩ := F.ns; ⟨m, hm, fun x d q => hv x d (s x d q)⟩ }
theorem Ev.sub {ρ ρ' : List (Str × PV)} (h : Ev c ρ' e d) (s : Sub ρ' ρ) : Ev c ρ e d := fun A st E r F => h A st E r (F.sub s)

/-- a body that goes on -/
noncomputable def Goes (c : Cx) (ρ : List (Str × PV)) (ss : List Stmt) (ρ' : List (Str × PV)) (ow : Option (Addr × List PV)) : Prop :=
  ∀ (A : Around) (s : Shared) (E : Value → Shared → Prop), Rm c.k A → c.F ρ s.heap → wpAny (model c.prog c.w) A (execs ss c.env) (fun f s' => KB (OwnC c) s s' ∧ (f = .next ∨ f = .cont) ∧ (c.own ow).F ρ' s'.heap) E s
theorem Goes.next {ρ₁ : List (Str × PV)} (h : Ex c ρ ss (.next ρ₁ ow)) (s : Sub ρ' ρ₁) : Goes c ρ ss ρ' ow := fun A st E r F => wpAny_mono (h A st E r F) (fun f s' q => ⟨q.1, by cases f <;> first | exact ⟨.inl rfl, FRep.sub q.2 s⟩ | exact q.2.elim⟩) fun _ _ x => x
theorem Goes.cont {ρ₁ : List (Str × PV)} (h : Ex c ρ ss (.cont ρ₁ ow)) (s : Sub ρ' ρ₁) : Goes c ρ ss ρ' ow := fun A st E r F => wpAny_mono (h A st E r F) (fun f s' q => ⟨q.1, by cases f <;> first | exact ⟨.inr rfl, FRep.sub q.2 s⟩ | exact q.2.elim⟩) fun _ _ x => x

theorem Ex1.while_ {t : Expr} {body : List Stmt} {pos : Pos} (σ : Nat → List (Str × PV)) (ows : Nat → Option (Addr × List PV)) (n : Nat) (h0 : Sub (σ 0) ρ) (hw0 : ows 0 = c.ow)
    (turn : ∀ i, i < n → Ts (c.own (ows i)) (σ i) t true ∧ Goes (c.own (ows i)) (σ i) body (σ (i + 1)) (ows (i + 1))) (fin : Ts (c.own (ows n)) (σ n) t false) :
    Ex1 c ρ (.While t body [] pos) (.next (σ n) (ows n)) := fun A s E r F => by
  refine wpAny_While (codeAny_whileLoop (fun k s' => ∃ i, i ≤ n ∧ k = n - i ∧ KB (OwnC c) s s' ∧ (c.own (ows i)).F (σ i) s'.heap) ?_ n ⟨0, Nat.zero_le _, rfl, KB.refl s, by rw [hw0]; exact F.sub h0⟩)
  rintro k s' ⟨i, hi, rfl, kb, F'⟩
  by_cases hlt : i < n
  · obtain ⟨h1, h2⟩ := turn i hlt
    refine h1.wp r F' fun s₁ k₁ F₁ => ?_
    rw [if_pos rfl]
    refine wpAny_mono (h2 A s₁ _ r F₁) (fun f s₂ q => ?_) fun _ _ x => x
    obtain ⟨q1, q2, q3⟩ := q
    rcases q2 with rfl | rfl <;> exact ⟨n - (i + 1), by omega, i + 1, hlt, rfl, (kb.trans (KB.of k₁)).trans q1, q3⟩
  · obtain rfl : i = n := by lia
    refine fin.wp r F' fun s₁ k₁ F₁ => ?_
    rw [if_neg Bool.false_ne_true]
    exact wpAny_execs_nil ⟨kb.trans (KB.of k₁), F₁⟩
end
end Mine

namespace Mine

theorem FRep.open_ {h₀ h h' : Heap} {X X' M : Addr → Prop} {ow : Option (Addr × List PV)} {env : Env} {ρ : List (Str × PV)} (F : FRep h₀ X M ow env ρ h) (hX : ∀ b, (h.get? b).isSome = true → X' b → X b) (hs : ∀ b, X b → X' b)
    (hb : ∀ b, X' b → ∃ o, h'.get? b = some o) (hn : ∀ b, X' b → h₀.get? b = none) (ex : Ext h h') : FRep h₀ X' M ow env ρ h' where
  ext := fun b o e => ex _ _ (F.ext b o e)
  xb := hb
  xn := hn
  own := F.own
  cl := fun x cc q => let ⟨v, i⟩ := F.cl x cc q; ⟨v, Heap.IsCell.ext i ex⟩
  mx := fun b q => hs b (F.mx b q)
  ol := fun a ds q => let ⟨k1, vs, i, r⟩ := F.ol a ds q; ⟨k1, vs, IsPL.ext i ex, r.mono (fun b o _ _ _ _ e => ex b o e) hX⟩
  ns := let ⟨m, hm, hv⟩ := F.ns; ⟨m, hm.keeps ex, fun x d q => let ⟨v, sl, r⟩ := hv x d q; ⟨v, sl.ext ex, r.mono (fun b o _ _ _ _ e => ex b o e) hX⟩⟩
theorem FRep.close {h₀ h : Heap} {X X' M : Addr → Prop} {ow : Option (Addr × List PV)} {env : Env} {ρ : List (Str × PV)} (F : FRep h₀ X' M ow env ρ h) (hs : ∀ b, X b → X' b) (hm : ∀ b, M b → X b) : FRep h₀ X M ow env ρ h where
  ext := F.ext
  xb := fun a x => F.xb a (hs a x)
  xn := fun a x => F.xn a (hs a x)
  own := F.own
  cl := F.cl
  mx := hm
  ol := fun a ds q => let ⟨k1, vs, i, r⟩ := F.ol a ds q; ⟨k1, vs, i, r.mono (fun _ _ _ _ _ _ e => e) fun b _ z => hs b z⟩
  ns := let ⟨m, hm, hv⟩ := F.ns; ⟨m, hm, fun x d q => let ⟨v, sl, r⟩ := hv x d q; ⟨v, sl, r.mono (fun _ _ _ _ _ _ e => e) fun b _ z => hs b z⟩⟩
theorem FRep.chg {h₀ h h' : Heap} {X M : Addr → Prop} {ow : Option (Addr × List PV)} {env : Env} {ρ : List (Str × PV)} {wr : List Addr} (F : FRep h₀ X M ow env ρ h) (ch : Chg wr h h') (ho : ∀ b, Own env b ∨ M b → b ∉ wr) (hX : ∀ b ∈ wr, X b)
    (hn : ∀ b ∈ wr, h₀.get? b = none) (he : ∀ b ∈ wr, ∃ o, h'.get? b = some o) : FRep h₀ X M ow env ρ h' := by
  have sq : SeqExt X h h' := fun b o items n hx dd e => ch b o (fun q => hx (hX b q)) e
  refine ⟨fun b o e => ch b o (fun q => by rw [hn b q] at e; cases e) (F.ext b o e), fun a x => ?_, F.xn, F.own, fun x cc q => ?_, F.mx, fun a ds q => ?_, ?_⟩
  · by_cases q : a ∈ wr
    · exact he a q
    · obtain ⟨o, e⟩ := F.xb a x; exact ⟨o, ch a o q e⟩
  · obtain ⟨v, o, e, d⟩ := F.cl x cc q
    exact ⟨v, o, ch cc o (ho cc (.inl (.inr ⟨x, q⟩))) e, d⟩
  · obtain ⟨k1, vs, ⟨o, e, d⟩, r⟩ := F.ol a ds q
    exact ⟨k1, vs, ⟨o, ch a o (ho a (.inr k1)) e, d⟩, r.mono sq fun _ _ z => z⟩
  · obtain ⟨m, hm, hv⟩ := F.ns
    refine ⟨m, hm.at' fun o e => ch _ o (ho _ (.inl (.inl rfl))) e, fun x d q => ?_⟩
    obtain ⟨v, sl, r⟩ := hv x d q
    refine ⟨v, ?_, r.mono sq fun _ _ z => z⟩
    rcases sl with sl | ⟨k, cc, k2, o, e, d⟩
    · exact .inl sl
    · exact .inr ⟨k, cc, k2, o, ch cc o (ho cc (.inl (.inr ⟨x, k2⟩))) e, d⟩

theorem FRep.chgClose {h₀ h h' : Heap} {X X' M : Addr → Prop} {ow : Option (Addr × List PV)} {env : Env} {ρ : List (Str × PV)} {wr : List Addr} (F : FRep h₀ X' M ow env ρ h) (ch : Chg wr h h') (ho : ∀ b, Own env b ∨ M b → b ∉ wr) (hX : ∀ b ∈ wr, X' b)
    (hn : ∀ b ∈ wr, h₀.get? b = none) (hs : ∀ b, X b → X' b) (hw : ∀ b, X b → b ∉ wr) (hm : ∀ b, M b → X b) : FRep h₀ X M ow env ρ h' := by
  have sq : SeqExt X' h h' := fun b o items n hx dd e => ch b o (fun q => hx (hX b q)) e
  refine ⟨fun b o e => ch b o (fun q => by rw [hn b q] at e; cases e) (F.ext b o e), fun a x => ?_, fun a x => F.xn a (hs a x), F.own, fun x cc q => ?_, hm, fun a ds q => ?_, ?_⟩
  · obtain ⟨o, e⟩ := F.xb a (hs a x); exact ⟨o, ch a o (hw a x) e⟩
  · obtain ⟨v, o, e, d⟩ := F.cl x cc q
    exact ⟨v, o, ch cc o (ho cc (.inl (.inr ⟨x, q⟩))) e, d⟩
  · obtain ⟨k1, vs, ⟨o, e, d⟩, r⟩ := F.ol a ds q
    exact ⟨k1, vs, ⟨o, ch a o (ho a (.inr k1)) e, d⟩, r.mono sq fun b _ z => hs b z⟩
  · obtain ⟨m, hm, hv⟩ := F.ns
    refine ⟨m, hm.at' fun o e => ch _ o (ho _ (.inl (.inl rfl))) e, fun x d q => ?_⟩
    obtain ⟨v, sl, r⟩ := hv x d q
    refine ⟨v, ?_, r.mono sq fun b _ z => hs b z⟩
    rcases sl with sl | ⟨k, cc, k2, o, e, d⟩
    · exact .inl sl
    · exact .inr ⟨k, cc, k2, o, ch cc o (ho cc (.inl (.inr ⟨x, k2⟩))) e, d⟩

section
variable {c : Cx} {ρ : List (Str × PV)}
theorem Ex1.for_ {tgt iter : Expr} {body : List Stmt} {pos : Pos} {ds : List PV} (hit : EvIt c ρ tgt iter ds) (fold : ∀ x, foldedSetIterable iter c.env x = pure x) (σ : Nat → List (Str × PV)) (ows : Nat → Option (Addr × List PV)) (h0 : Sub (σ 0) ρ) (hw0 : ows 0 = c.ow)
    (turn : ∀ (i : Nat) d, ds[i]? = some d → ∀ X', ∃ ρ₁, AsOk (OwnC c) { c with X := X', ow := ows i } (σ i) tgt d ρ₁ ∧ Goes { c with X := X', ow := ows i } ρ₁ body (σ (i + 1)) (ows (i + 1))) :
    Ex1 c ρ (.For tgt iter body [] pos) (.next (σ ds.length) (ows ds.length)) := fun A s E r F => by
  refine wpAny_For (wpAny_mono (hit A s E r F) (fun x s₁ g => wpAny_mono g (fun it s₂ g => ?_) fun _ _ x => x) fun _ _ x => x) fold
  obtain ⟨k₂, I, wr, fp, rfl, hfp, hwr, hIt⟩ := g
  have ex₂ : Ext s.heap s₂.heap := keeps_ext k₂
  have hwr0 : ∀ b ∈ wr, s.heap.get? b = none := fun b hb => (hwr b hb).1
  have hwrn : ∀ b ∈ wr, c.h₀.get? b = none := fun b hb => by
    cases e : c.h₀.get? b with
    | none => rfl
    | some o => have := F.ext b o e; rw [hwr0 b hb] at this; cases this
  obtain ⟨X', hX'⟩ : ∃ X' : Addr → Prop, X' = fun b => c.X b ∨ b ∈ wr := ⟨_, rfl⟩
  obtain ⟨St, W, hst₂⟩ := hIt X' (fun b _ x => by rw [hX'] at x; exact x) (fun b hb => by rw [hX']; exact .inr hb)
  have hX1 : ∀ b, (s.heap.get? b).isSome = true → X' b → c.X b := fun b hb x => by
    rw [hX'] at x
    rcases x with x | x
    · exact x
    · rw [hwr0 b x] at hb; cases hb
  have hX2 : ∀ b, c.X b → X' b := fun b x => by rw [hX']; exact .inl x
  have hXn : ∀ b, X' b → c.h₀.get? b = none := fun b x => by
    rw [hX'] at x
    exact x.elim (F.xn b) (hwrn b)
  have hXe : ∀ b, X' b → ∃ o, s₂.heap.get? b = some o := fun b x => by
    rw [hX'] at x
    rcases x with x | x
    · obtain ⟨o, e⟩ := F.xb b x; exact ⟨o, ex₂ _ _ e⟩
    · exact (hwr b x).2.2
  have ho : ∀ b, Own c.env b ∨ c.M b → b ∉ wr := fun b q hb => by
    obtain ⟨o, e⟩ := F.live q; rw [hwr0 b hb] at e; cases e
  have F₂ : FRep c.h₀ X' c.M (ows 0) c.env (σ 0) s₂.heap := by rw [hw0]; exact FRep.open_ (F.sub h0) hX1 hX2 hXe hXn ex₂
  have hfo : ∀ i h, St i h → ∀ ρ' ow', FRep c.h₀ X' c.M ow' c.env ρ' h → ∀ b ∈ fp, ¬ OwnC c b := fun i h st ρ' ow' F' b hb q => by
    obtain ⟨o, e, n1, n2⟩ := W.kind i h st b hb
    rcases q with (q | ⟨x, q⟩) | q
    · obtain ⟨m, ⟨o', es, ep, e', d', _⟩, _⟩ := F'.ns
      rw [← q, e] at e'; cases e'; exact n1 _ _ d'
    · obtain ⟨v, o', e', d'⟩ := F'.cl x b q
      rw [e] at e'; cases e'; exact n2 _ d'
    · exact ho b (.inr q) (W.fpX b hb (hX2 b (F.mx b q)))
  refine codeAny_forLoop_any (fun k s' => ∃ h' tk i, s' = { s with heap := h', toks := tk } ∧ i ≤ ds.length ∧ k = ds.length - i ∧ St i h' ∧ (∀ b o, ¬ OwnC c b → s.heap.get? b = some o → h'.get? b = some o) ∧ FRep c.h₀ X' c.M (ows i) c.env (σ i) h') ?_ ds.length ?_
  · rintro k s' ⟨h', tk, i, rfl, hi, rfl, st, kb, F'⟩
    by_cases hlt : i < ds.length
    · obtain ⟨d, hd⟩ : ∃ d, ds[i]? = some d := ⟨_, List.getElem?_eq_getElem hlt⟩
      obtain ⟨ρ₁, h1, h2⟩ := turn i d hd X'
      refine W.next A i d _ _ _ r.1 F'.xb st hd fun v h₁ tk₁ ch₁ go => go _ _ fun h₃ ch₃ st₃ rv => ?_
      have ch : Chg wr h' h₃ := fun b o n e => ch₃ b o n (ch₁ b o n e)
      have F₃ : FRep c.h₀ X' c.M (ows i) c.env (σ i) h₃ := F'.chg ch ho W.wrX hwrn fun b hb => let ⟨o, e, _⟩ := W.kind _ _ st₃ b (W.sub b hb); ⟨o, e⟩
      refine wpAny_mono (h1 A { s with heap := h₃, toks := tk₁ } _ v r F₃ rv) (fun _ s₄ g => ?_) fun _ _ x => x
      obtain ⟨⟨h₄, tk₄, rfl, kb₄⟩, F₄⟩ := g
      have st₄ : St (i + 1) h₄ := W.frame _ _ _ st₃ (frep_seq F₃ kb₄) fun b hb o e => kb₄ b o (hfo _ _ st₃ _ _ F₃ b hb) e
      refine wpAny_mono (h2 A { s with heap := h₄, toks := tk₄ } _ r F₄) (fun f s₅ g => ?_) fun _ _ x => x
      obtain ⟨⟨h₅, tk₅, rfl, kb₅⟩, hf, F₅⟩ := g
      have st₅ : St (i + 1) h₅ := W.frame _ _ _ st₄ (frep_seq F₄ kb₅) fun b hb o e => kb₅ b o (hfo _ _ st₄ _ _ F₄ b hb) e
      have fin : ∃ m, m < ds.length - i ∧ ∃ h' tk j, ({ s with heap := h₅, toks := tk₅ } : Shared) = { s with heap := h', toks := tk } ∧ j ≤ ds.length ∧ m = ds.length - j ∧ St j h' ∧ (∀ b o, ¬ OwnC c b → s.heap.get? b = some o → h'.get? b = some o) ∧ FRep c.h₀ X' c.M (ows j) c.env (σ j) h' :=
        ⟨ds.length - (i + 1), by omega, h₅, tk₅, i + 1, rfl, hlt, rfl, st₅, fun b o n e => kb₅ b o n (kb₄ b o n (ch b o (fun q => by rw [hwr0 b q] at e; cases e) (kb b o n e))), F₅⟩
      rcases hf with rfl | rfl <;> exact fin
    · obtain rfl : i = ds.length := by lia
      refine W.done A _ _ _ r.1 st fun h₁ tk₁ ch₁ => ?_
      refine wpAny_execs_nil ⟨⟨h₁, tk₁, rfl, fun b o n e => ch₁ b o (fun q => by rw [hwr0 b q] at e; cases e) (kb b o n e)⟩, ?_⟩
      exact F'.chgClose ch₁ ho W.wrX hwrn hX2 (fun b x hb => by obtain ⟨o, e⟩ := F.xb b x; rw [hwr0 b hb] at e; cases e) F.mx
  · obtain ⟨h2, t2, rfl, e2⟩ := k₂
    exact ⟨h2, t2, 0, rfl, Nat.zero_le _, rfl, hst₂, fun b o _ e => e2 b o e, F₂⟩
end
end Mine

namespace Mine

inductive RepB (X : Addr → Prop) (h : Heap) : List (Str × Value) → List (Str × PV) → Prop
  | nil : RepB X h [] []
  | cons {x : Str} {v : Value} {d : PV} {bs : List (Str × Value)} {ρ : List (Str × PV)} : Rep X h v d → RepB X h bs ρ → RepB X h ((x, v) :: bs) ((x, d) :: ρ)
theorem RepB.append {X : Addr → Prop} {h : Heap} {a b : List (Str × Value)} {ρ σ : List (Str × PV)} (r : RepB X h a ρ) (k : RepB X h b σ) : RepB X h (a ++ b) (ρ ++ σ) := by
  induction r with
  | nil => exact k
  | cons r s ih => exact .cons r ih
theorem RepB.reverse {X : Addr → Prop} {h : Heap} {a : List (Str × Value)} {ρ : List (Str × PV)} (r : RepB X h a ρ) : RepB X h a.reverse ρ.reverse := by
  induction r with
  | nil => exact .nil
  | cons r s ih => rw [List.reverse_cons, List.reverse_cons]; exact ih.append (.cons r .nil)
theorem RepB.lookup {X : Addr → Prop} {h : Heap} {x : Str} {d : PV} {a : List (Str × Value)} {ρ : List (Str × PV)} (r : RepB X h a ρ) (e : ρ.lookup x = some d) : ∃ v, a.lookup x = some v ∧ Rep X h v d := by
  induction r with
  | nil => cases e
  | @cons y v d' bs ρ' r s ih =>
    rw [List.lookup_cons] at e ⊢
    cases q : x == y with
    | true => rw [q] at e; cases e; exact ⟨v, rfl, r⟩
    | false => rw [q] at e; exact ih e
theorem RepB.mem {X : Addr → Prop} {h : Heap} {a : List (Str × Value)} {ρ : List (Str × PV)} (r : RepB X h a ρ) : ∀ x ∈ a, ∃ d, (x.1, d) ∈ ρ := by
  induction r with
  | nil => exact fun _ hx => nomatch hx
  | cons r s ih =>
    intro x hx
    rcases List.mem_cons.mp hx with rfl | hx
    · exact ⟨_, List.mem_cons_self ..⟩
    · obtain ⟨d, hd⟩ := ih x hx; exact ⟨d, List.mem_cons_of_mem _ hd⟩
theorem RepB.ext {X : Addr → Prop} {h h' : Heap} (e : Ext h h') {a : List (Str × Value)} {ρ : List (Str × PV)} (r : RepB X h a ρ) : RepB X h' a ρ := by
  induction r with
  | nil => exact .nil
  | cons r _ ih => exact .cons (r.ext e) ih

/-- the env of a def's frame -/
noncomputable abbrev envFd (fd : FuncData) (f L : Addr) : Env := { scope := fd.scope, locals := L, globals := fd.globals, cells := fd.closure, qual := fd.qualname ++ ".<locals>.", func := some f, code := fd.code, frame := some L, builtins := fd.builtins }

structure FnFacts (h₀ : Heap) (f : Addr) (fd : FuncData) (body : List Stmt) : Prop where
  obj : ∃ o, h₀.get? f = some o ∧ o.data = .func fd
  body : fd.body = .stmts body
  co : fd.scope.isCoroutine = false
  gen : fd.scope.isGenerator = false
  kind : fd.scope.kind = .function
  code : h₀.CodeRec fd.code fd.qualname
  lim : h₀.NoLimit
  clo : fd.closure = []

noncomputable def BindOk (prog : Program) (w : World) (h₀ : Heap) (fd : FuncData) (ds : List PV) (ρ : List (Str × PV)) : Prop :=
  ∀ (X : Addr → Prop) (A : Around) (s : Shared) (E : Value → Shared → Prop) (Q : List (Str × Value) → Shared → Prop) (vs : List Value), Base h₀ X s.heap → RepL X s.heap vs ds → (∀ binds, RepB X s.heap binds ρ → Q binds s) → wpAny (model prog w) A (bindArgs fd ⟨vs, []⟩) Q E s

theorem frep_new {h₀ h h₁ : Heap} {X : Addr → Prop} {env : Env} {binds : List (Str × Value)} {ρ : List (Str × PV)} {o : Obj} (B : Base h₀ X h) (hb : RepB X h binds ρ)
    (hL : env.locals = h.objs.size) (hns : h₁.Ns h.objs.size fun x => binds.reverse.lookup x) (hsb : Heap.SameBut h.objs.size (h.push o) h₁) (hcl : env.cells = []) (hloc : ∀ x ∈ ρ, env.kindOf x.1 = some .local) :
    Ext h h₁ ∧ FRep h₀ X (fun _ => False) none env ρ.reverse h₁ := by
  have ex : Ext h h₁ := fun b o' e => hsb.extBut b o' (Nat.ne_of_lt (Heap.lt_size e)) (Heap.get?_push_of_some _ e)
  refine ⟨ex, fun b o' e => ex _ _ (B.ext b o' e), fun a x => let ⟨o', e⟩ := B.xb a x; ⟨o', ex _ _ e⟩, B.xn, fun b q => ?_, fun x cc q => ?_, fun _ q => q.elim, (fun _ _ q => nomatch q), _, hL ▸ hns, fun x d q => ?_⟩
  · rcases q with q | ⟨x, q⟩
    · cases e : h₀.get? b with
      | none => rfl
      | some o' => have := Heap.lt_size (B.ext b o' e); rw [q, hL] at this; exact absurd this (Nat.lt_irrefl _)
    · rw [hcl] at q; simp at q
  · rw [hcl] at q; simp at q
  · obtain ⟨v, hv, r⟩ := hb.reverse.lookup q
    refine ⟨v, .inl ⟨?_, hv⟩, r.ext ex⟩
    have : ∃ y ∈ ρ, y.1 = x := by
      have hm : (x, d) ∈ ρ.reverse := by
        clear hv r
        revert q
        generalize ρ.reverse = l
        induction l with
        | nil => intro q; simp at q
        | cons y l ih =>
          intro q
          rw [List.lookup_cons] at q
          by_cases z : (x == y.1) = true
          · rw [z] at q; cases q; rw [beq_iff_eq.mp z]; exact List.mem_cons_self ..
          · have z' : (x == y.1) = false := by simpa using z
            rw [z'] at q; exact List.mem_cons_of_mem _ (ih q)
      exact ⟨_, List.mem_reverse.mp hm, rfl⟩
    obtain ⟨y, hy, rfl⟩ := this
    exact hloc y hy

theorem CallOk.func {prog : Program} {w : World} {h₀ : Heap} {k : Nat} {f : Addr} {fd : FuncData} {body : List Stmt} {ds : List PV} {ρ : List (Str × PV)} {d : PV} (hk : k ≤ 40) (H : FnFacts h₀ f fd body) (hb : BindOk prog w h₀ fd ds ρ)
    (hcell : ∀ x ∈ fd.scope.names, x.2 ≠ .cell) (hloc : ∀ x ∈ ρ, fd.scope.names.lookup x.1 = some .local)
    (h : ∀ X L, Ex ⟨prog, w, h₀, X, fun _ => False, none, envFd fd f L, k + 1⟩ ρ.reverse body (.ret d)) : CallOk prog w h₀ k (.ref f) ds d := fun X A s E vs r B rl => by
  obtain ⟨o, ho, hd⟩ := H.obj
  refine wpAny_call (codeAny_call_function (by have := r.2.1; show A.depth < 1000; lia) (B.ext _ _ ho) hd H.co H.gen H.body (by obtain ⟨c, o', vs', t, e, g, rest⟩ := H.code; exact ⟨c, o', vs', t, e, B.ext _ _ g, rest⟩) ?_)
  refine hb X _ s _ _ vs B rl fun binds rb => ?_
  refine wpAny_newFunctionEnv hcell (fun x hx => ?_) (fun h₁ hns hsb => ?_) H.kind
  · obtain ⟨d', hd'⟩ := rb.mem x hx; exact hloc _ hd'
  · have hcl : fd.closure = [] := H.clo
    obtain ⟨ex, F⟩ := frep_new (env := envFd fd f s.heap.objs.size) B rb rfl hns hsb hcl hloc
    refine ⟨H.lim.keeps fun b o e => F.ext b o e, ?_⟩
    refine codeAny_func (env := envFd fd f s.heap.objs.size) (wpAny_mono (h X s.heap.objs.size (A.deeper _) { s with heap := h₁, toks := s.toks + binds.length } _ (r.deeper _) F) (fun fl s' q => ?_) fun _ _ x => x)
    obtain ⟨⟨h', tk, rfl, kb⟩, q⟩ := q
    cases fl with
    | ret v =>
      refine ⟨⟨h', tk, rfl, fun b o e => kb b o (fun q => ?_) (ex _ _ e)⟩, q⟩
      rcases q with (q | ⟨x, q⟩) | q
      · rw [show b = s.heap.objs.size from q] at e; exact absurd (Heap.lt_size e) (Nat.lt_irrefl _)
      · rw [show (envFd fd f s.heap.objs.size).cells = fd.closure from rfl, hcl] at q; simp at q
      · exact q
    | _ => exact q.elim
end Mine

namespace Mine

/-- texts by their code points -/
noncomputable abbrev S (l : List Nat) : Str := ⟨l.toArray⟩
theorem S_append (a b : List Nat) : S a ++ S b = S (a ++ b) := by
  show (⟨a.toArray ++ b.toArray⟩ : Str) = ⟨(a ++ b).toArray⟩
  simp
theorem S_length (a : List Nat) : (S a).length = a.length := by show a.toArray.size = _; simp
theorem S_of (x : Str) : S x.cps.toList = x := by cases x; simp [S]
theorem S_inj {a b : List Nat} (h : S a = S b) : a = b := by
  have : (S a).cps.toList = (S b).cps.toList := by rw [h]
  simpa using this

theorem IsTuple.tup {h : Heap} {a : Addr} {items : Array Value} (i : h.IsTuple a items) : IsTup h a items := let ⟨o, e, c, n, d⟩ := i; ⟨o, e, c, n, d⟩

/-- an item of a datum -/
noncomputable def ItemOk (a b d : PV) : Prop :=
  ∀ (prog : Program) (w : World) (X : Addr → Prop) (A : Around) (s : Shared) (E : Value → Shared → Prop) (x y : Value), Rep X s.heap x a → Rep X s.heap y b →
    ∃ T id, s.TypeIs x T ∧ typeLookup (.type T) "__getitem__" = pure (some (.builtin id)) ∧ wpAny (model prog w) A (getItem x y) (fun v s' => Keeps s s' ∧ Rep X s'.heap v d) E s

section
variable {c : Cx} {ρ : List (Str × PV)} {e : Expr} {d : PV} {A : Around} {s : Shared} {E : Value → Shared → Prop}
theorem Ev.item {l r : Expr} {pos : Pos} {a b : PV} (x : Ev c ρ l a) (y : Ev c ρ r b) (o : ItemOk a b d) (hs : ∀ o i, subscripted r false o i = operate [o, i] (getItem o i)) : Ev c ρ (.Subscript l r pos) d := fun A s E rm F =>
  Subscript_ (x.wp rm F fun v s₁ k₁ F₁ r₁ => y.wp rm F₁ fun u s₂ k₂ F₂ r₂ => by
    obtain ⟨T, id, hT, hl, hg⟩ := o c.prog c.w c.X A s₂ E v u (r₁.ext (keeps_ext k₂)) r₂
    exact tail_any hT hl (wpAny_mono hg (fun _ _ q => ⟨keeps_trans k₁ (keeps_trans k₂ q.1), q.2⟩) fun _ _ x => x) (hs _ _))

theorem item_list {ds : List PV} {k : Int} {j : Nat} (hlo : -(2 ^ 63) ≤ k) (hhi : k < 2 ^ 63) (hj : seqIndex? k ds.length = some j) (hd : ds[j]? = some d) : ItemOk (.list ds) (.int k) d := by
  intro prog w X A s E x y rx ry
  refine Rep.intE ry fun t => ?_; refine Rep.listE rx fun a vs hi hx rl => ?_
  obtain ⟨v, hv, rv⟩ := rl.get hd
  refine ⟨_, _, hi.typeIs, slot_list_getitem.lookup, ?_⟩
  have hlt : j < ds.length := by
    have := List.getElem?_eq_some_iff.mp hd; exact this.1
  by_cases h0 : 0 ≤ k
  · have e : j = k.toNat := by
      unfold seqIndex? at hj
      rw [if_neg (Int.not_lt.mpr h0)] at hj
      simp only [] at hj
      split at hj
      · exact (Option.some.inj hj).symm
      · cases hj
    subst e
    exact wpAny_getItem_list hi h0 hhi (by simpa using hv) ⟨keeps_refl s, rv⟩
  · have h0' : k < 0 := by lia
    unfold seqIndex? at hj
    rw [if_pos h0'] at hj
    simp only [] at hj
    split at hj
    · rename_i hc
      have e : (k + ds.length).toNat = j := Option.some.inj hj
      have hc' : 0 ≤ k + ds.length := by
        simp only [Bool.and_eq_true, decide_eq_true_eq] at hc; lia
      refine wpAny_getItem_list_neg hi h0' (by simp [rl.length]; (clear e hj hc h0' h0 hlt rv hv rl hx hi hd hhi hlo; lia)) hlo (x := v) ?_ ⟨keeps_refl s, rv⟩
      simp [rl.length, e, hv]
    · cases hj
theorem seqIndex_nat {j n : Nat} (h : j < n) : seqIndex? (j : Int) n = some j := by
  unfold seqIndex?
  have h0 : ¬ ((j : Int) < 0) := by lia
  rw [if_neg h0]
  simp [h]
theorem item_list_nat {ds : List PV} {k : Int} {j : Nat} (hj : k = (j : Int)) (hfit : ds.length < 2 ^ 63) (hd : ds[j]? = some d) : ItemOk (.list ds) (.int k) d := by
  have hlt : j < ds.length := (List.getElem?_eq_some_iff.mp hd).1
  subst hj
  refine item_list (by lia) (by lia) ?_ hd
  exact seqIndex_nat hlt
theorem seqIndex_last {n k : Nat} (h : 0 < k) (hk : k ≤ n) : seqIndex? (-(k : Int)) n = some (n - k) := by
  have := seqIndex_neg (k := -(k : Int)) (n := n) (by lia) (by lia)
  rw [this]; congr 1; lia
theorem item_list_neg {ds : List PV} {k : Int} {j : Nat} (hk : k = -(j : Int)) (h0 : 0 < j) (hj : j ≤ ds.length) (hfit : ds.length < 2 ^ 63) (hd : ds[ds.length - j]? = some d) : ItemOk (.list ds) (.int k) d := by
  subst hk
  exact item_list (by lia) (by (clear hd hfit hj h0; lia)) (seqIndex_last h0 hj) hd

theorem item_tup {ds : List PV} {k : Int} {j : Nat} (hlo : -(2 ^ 63) ≤ k) (hhi : k < 2 ^ 63) (hj : seqIndex? k ds.length = some j) (hd : ds[j]? = some d) : ItemOk (.tup ds) (.int k) d := by
  intro prog w X A s E x y rx ry
  refine Rep.intE ry fun t => ?_; refine Rep.tupE rx fun a vs hi hx rl => ?_
  obtain ⟨v, hv, rv⟩ := rl.get hd
  have ht := IsTuple.tup hi
  exact ⟨_, _, ht.typeIs, slot_tuple_getitem.lookup, PyProof.Rows.getItem_tuple ht hlo hhi (by simpa [rl.length] using hj) (by simpa using hv) ⟨keeps_refl s, rv⟩⟩
theorem item_tup_nat {ds : List PV} {k : Int} {j : Nat} (hj : k = (j : Int)) (hfit : ds.length < 2 ^ 63) (hd : ds[j]? = some d) : ItemOk (.tup ds) (.int k) d := by
  have hlt : j < ds.length := (List.getElem?_eq_some_iff.mp hd).1
  subst hj
  refine item_tup (by omega) (by omega) ?_ hd
  exact seqIndex_nat hlt
theorem item_str {l : List Nat} {k : Int} {j n : Nat} (hlo : -(2 ^ 63) ≤ k) (hhi : k < 2 ^ 63) (hj : seqIndex? k l.length = some j) (hd : l[j]? = some n) : ItemOk (.str (S l)) (.int k) (.str (S [n])) := by
  intro prog w X A s E x y rx ry
  refine Rep.intE ry fun t => ?_; refine Rep.strE rx fun t' => ?_
  refine ⟨_, _, typeIs_str s _ t', slot_str_getitem.lookup, PyProof.Rows.getItem_str (c := n) ?_ ?_ ⟨keeps_toks s _, .str _ _⟩⟩
  · rw [Bool.or_eq_false_iff]; exact ⟨decide_eq_false (by lia), decide_eq_false (by lia)⟩
  · rw [S_length, hj]; simpa using hd
theorem item_str_nat {l : List Nat} {k : Int} {j n : Nat} (hj : k = (j : Int)) (hfit : l.length < 2 ^ 63) (hd : l[j]? = some n) : ItemOk (.str (S l)) (.int k) (.str (S [n])) := by
  have hlt : j < l.length := (List.getElem?_eq_some_iff.mp hd).1
  subst hj
  refine item_str (by lia) (by lia) ?_ hd
  exact seqIndex_nat hlt
theorem item_str_neg {l : List Nat} {k : Int} {j n : Nat} (hk : k = -(j : Int)) (h0 : 0 < j) (hj : j ≤ l.length) (hfit : l.length < 2 ^ 63) (hd : l[l.length - j]? = some n) : ItemOk (.str (S l)) (.int k) (.str (S [n])) := by
  subst hk
  exact item_str (by lia) (by (clear hd hfit hj h0; lia)) (seqIndex_last h0 hj) hd

-- slices
noncomputable def cut {α : Type} (lo hi : Option Int) (l : List α) : List α := (l.drop (lo.elim 0 (clipAt l.length))).take (hi.elim l.length (clipAt l.length) - lo.elim 0 (clipAt l.length))

/-- a part of a slice gives a bound -/
noncomputable def EvP (c : Cx) (ρ : List (Str × PV)) (e : Option Expr) (i : Option Int) : Prop :=
  ∀ (A : Around) (s : Shared) (E : Value → Shared → Prop), Rm c.k A → c.F ρ s.heap → wpAny (model c.prog c.w) A (evalPart e c.env) (fun v s' => Keeps s s' ∧ IsPart v i) E s
theorem EvP.none : EvP c ρ none none := fun A s E rm F => wpAny_pure ⟨keeps_refl s, .none⟩
theorem EvP.some {i : Int} (x : Ev c ρ e (.int i)) : EvP c ρ (some e) (some i) := fun A s E rm F => x.wp rm F fun v s' k _ r => by
  refine Rep.intE r fun t => ?_; exact ⟨k, .int _ _⟩
theorem Slice_wp {lower upper step : Option Expr} {p : Pos} {lo hi st : Option Int} (x : EvP c ρ lower lo) (y : EvP c ρ upper hi) (z : EvP c ρ step st) (rm : Rm c.k A) (F : c.F ρ s.heap) {Q : Value → Shared → Prop}
    (h : ∀ s' l u t, Keeps s s' → IsPart l lo → IsPart u hi → IsPart t st → Keeps s { s' with heap := s'.heap.push { cls := .type "slice", data := .fields #[l, u, t] } } → Q (.ref s'.heap.objs.size) { s' with heap := s'.heap.push { cls := .type "slice", data := .fields #[l, u, t] } }) :
    wpAny (model c.prog c.w) A (eval (.Slice lower upper step p) c.env) Q E s :=
  wpAny_Slice (wpAny_mono (x A s E rm F) (fun l s₁ q₁ => wpAny_mono (y A s₁ E rm (F.keeps (keeps_ext q₁.1))) (fun u s₂ q₂ => wpAny_mono (z A s₂ E rm ((F.keeps (keeps_ext q₁.1)).keeps (keeps_ext q₂.1))) (fun t s₃ q₃ => by
    have k := keeps_trans q₁.1 (keeps_trans q₂.1 q₃.1)
    exact h _ _ _ _ k q₁.2 q₂.2 q₃.2 (keeps_trans k (keeps_push s₃ _ s₃.toks))) fun _ _ x => x) fun _ _ x => x) fun _ _ x => x)

theorem repL_pick {X : Addr → Prop} {h : Heap} {vs : List Value} {ds : List PV} (r : RepL X h vs ds) (is : List Nat) : RepL X h (is.filterMap (vs[·]?)) (is.filterMap (ds[·]?)) := by
  induction is with
  | nil => exact .nil
  | cons i is ih =>
    rw [List.filterMap_cons, List.filterMap_cons]
    cases hd : ds[i]? with
    | none =>
      have : vs[i]? = none := by
        rw [List.getElem?_eq_none_iff] at hd ⊢; rw [r.length]; exact hd
      rw [this]; exact ih
    | some d =>
      obtain ⟨v, hv, rv⟩ := r.get hd
      rw [hv]; exact .cons rv ih
theorem repL_take {X : Addr → Prop} {h : Heap} : ∀ {vs : List Value} {ds : List PV} (k : Nat), RepL X h vs ds → RepL X h (vs.take k) (ds.take k)
  | _, _, 0, _ => by simpa using .nil
  | _, _, _ + 1, .nil => .nil
  | _, _, k + 1, .cons r s => .cons r (repL_take k s)
theorem repL_drop {X : Addr → Prop} {h : Heap} : ∀ {vs : List Value} {ds : List PV} (k : Nat), RepL X h vs ds → RepL X h (vs.drop k) (ds.drop k)
  | _, _, 0, r => by simpa using r
  | _, _, _ + 1, .nil => .nil
  | _, _, k + 1, .cons r s => repL_drop k s

theorem Ev.sliceL {l : Expr} {lower upper : Option Expr} {p pos : Pos} {ds : List PV} {lo hi : Option Int} (x : Ev c ρ l (.list ds)) (a : EvP c ρ lower lo) (b : EvP c ρ upper hi) (hsz : ds.length ≤ sizeLine) : Ev c ρ (.Subscript l (.Slice lower upper none p) pos) (.list (cut lo hi ds)) := fun A s E rm F =>
  Subscript_ (x.wp rm F fun v s₁ k₁ F₁ r₁ => Slice_wp a b EvP.none rm F₁ fun s₂ vl vu vt k₂ pl pu pt k₃ => by
    refine Rep.listE r₁ fun la vs hi' hx rl => ?_
    cases pt
    have ex := keeps_ext k₃
    have hL := IsList.ext hi' ex
    refine tail_any (ops := [_, _]) hL.typeIs slot_list_getitem.lookup (wpAny_getItem_list_slice hL (Heap.IsSliceOf.new ..) pl pu .none (by simp) ?_ (by simp [rl.length]; exact hsz)) rfl
    rw [slicePick_plain]
    have rl' := rl.ext ex
    have B := (F₁.base.keeps ex)
    refine ⟨keeps_trans k₁ (keeps_trans k₃ (keeps_push _ _ s₂.toks)), ?_⟩
    have := Rep.listPush B (repL_take ((hi.elim ds.length (clipAt ds.length)) - lo.elim 0 (clipAt ds.length)) (repL_drop (lo.elim 0 (clipAt ds.length)) rl'))
    simpa [rl.length, cut] using this)

noncomputable def cutBy (lo hi : Option Int) (st : Int) {α : Type} (l : List α) : List α := (sliceRange (sliceBounds lo hi (some st) l.length).1 (sliceBounds lo hi (some st) l.length).2.1 (sliceBounds lo hi (some st) l.length).2.2).filterMap (l[·]?)
theorem Ev.sliceBy {l ste : Expr} {lower upper : Option Expr} {p pos : Pos} {ds : List PV} {lo hi : Option Int} {st : Int} (x : Ev c ρ l (.list ds)) (a : EvP c ρ lower lo) (b : EvP c ρ upper hi) (z : Ev c ρ ste (.int st)) (h0 : st ≠ 0) (hsz : ds.length ≤ sizeLine) : Ev c ρ (.Subscript l (.Slice lower upper (some ste) p) pos) (.list (cutBy lo hi st ds)) := fun A s E rm F =>
  Subscript_ (x.wp rm F fun v s₁ k₁ F₁ r₁ => Slice_wp a b (EvP.some z) rm F₁ fun s₂ vl vu vt k₂ pl pu pt k₃ => by
    refine Rep.listE r₁ fun la vs hi' hx rl => ?_
    have ex := keeps_ext k₃
    have hL := IsList.ext hi' ex
    refine tail_any (ops := [_, _]) hL.typeIs slot_list_getitem.lookup (wpAny_getItem_list_slice hL (Heap.IsSliceOf.new ..) pl pu pt (by simpa using h0) ?_ (by simp [rl.length]; exact hsz)) rfl
    have rl' := rl.ext ex
    have B := (F₁.base.keeps ex)
    refine ⟨keeps_trans k₁ (keeps_trans k₃ (keeps_push _ _ s₂.toks)), ?_⟩
    have := Rep.listPush B (repL_pick rl' (sliceRange (sliceBounds lo hi (some st) ds.length).1 (sliceBounds lo hi (some st) ds.length).2.1 (sliceBounds lo hi (some st) ds.length).2.2))
    simpa [rl.length, cutBy, slicePick] using this)
end
end Mine

namespace Mine

theorem strIdx_plain (lo hi : Option Int) (n : Nat) : Builtin.Str.strSliceIndices lo hi 1 n = (List.range (hi.elim n (clipAt n) - lo.elim 0 (clipAt n))).map (lo.elim 0 (clipAt n) + ·) := by
  have e : Builtin.Str.strSliceIndices lo hi 1 n = sliceRange (sliceBounds lo hi none n).1 (sliceBounds lo hi none n).2.1 (sliceBounds lo hi none n).2.2 := by
    cases lo <;> cases hi <;> rfl
  rw [e, sliceBounds_plain]
  exact sliceRange_one _ _
theorem clipAt_le (n : Nat) (i : Int) : clipAt n i ≤ n := by
  have := clipAt_cast n i; omega
theorem picked_S (l : List Nat) (lo hi : Option Int) : (Builtin.Str.strSliceIndices lo hi 1 l.length).filterMap ((S l).cps[·]?) = cut lo hi l := by
  rw [strIdx_plain]
  have := pick_run (S l).cps (lo.elim 0 (clipAt l.length)) (hi.elim l.length (clipAt l.length) - lo.elim 0 (clipAt l.length))
  rw [this]; rfl
theorem cut_len {α : Type} (lo hi : Option Int) (l : List α) : (cut lo hi l).length ≤ l.length := by
  unfold cut; rw [List.length_take, List.length_drop]; lia
theorem cut_all (l : List Nat) (lo hi : Option Int) (h : (Builtin.Str.strSliceIndices lo hi 1 l.length).length = l.length) : cut lo hi l = l := by
  rw [strIdx_plain] at h
  simp only [List.length_map, List.length_range] at h
  have h1 : hi.elim l.length (clipAt l.length) ≤ l.length := by cases hi with | none => exact Nat.le_refl _ | some i => exact clipAt_le _ _
  unfold cut
  rw [h]
  by_cases h0 : l.length = 0
  · have : l = [] := List.length_eq_zero_iff.mp h0
    subst this; simp
  · have : lo.elim 0 (clipAt l.length) = 0 := by lia
    rw [this]; simp

section
variable {c : Cx} {ρ : List (Str × PV)} {e : Expr} {d : PV} {A : Around} {s : Shared} {E : Value → Shared → Prop}
theorem isPart_some {v : Value} {o : Option Int} (p : IsPart v o) : ∃ q : Option (Int × Tok), v = partValue q ∧ o = q.map (·.1) := by
  cases p with
  | none => exact ⟨none, rfl, rfl⟩
  | int i t => exact ⟨some (i, t), rfl, rfl⟩
theorem Ev.sliceS {l : Expr} {lower upper : Option Expr} {p pos : Pos} {x : List Nat} {lo hi : Option Int} (xv : Ev c ρ l (.str (S x))) (a : EvP c ρ lower lo) (b : EvP c ρ upper hi) (hsz : x.length ≤ sizeLine) : Ev c ρ (.Subscript l (.Slice lower upper none p) pos) (.str (S (cut lo hi x))) := fun A s E rm F =>
  Subscript_ (xv.wp rm F fun v s₁ k₁ F₁ r₁ => Slice_wp a b EvP.none rm F₁ fun s₂ vl vu vt k₂ pl pu pt k₃ => by
    refine Rep.strE r₁ fun t => ?_
    cases pt
    obtain ⟨ql, rfl, rfl⟩ := isPart_some pl
    obtain ⟨qu, rfl, rfl⟩ := isPart_some pu
    refine tail_any (ops := [_, _]) (typeIs_str _ _ _) slot_str_getitem.lookup (wpAny_getItem_str_slice (l := ql) (u := qu) (st := none) ⟨_, Heap.get?_push_size _ rfl, rfl, rfl⟩ rfl ?_) rfl
    have e0 : sliceMade (S x) t ql qu none = if (((none : Option (Int × Tok)).map (·.1)).getD 1 == 1 && (Builtin.Str.strSliceIndices (ql.map (·.1)) (qu.map (·.1)) 1 (S x).length).length == (S x).length) = true then .val (.str (S x) t) else .str ⟨((Builtin.Str.strSliceIndices (ql.map (·.1)) (qu.map (·.1)) 1 (S x).length).filterMap ((S x).cps[·]?)).toArray⟩ := rfl
    rw [e0, S_length, picked_S]
    have k := keeps_trans k₁ k₃
    split
    · rename_i hc
      have hc' : (Builtin.Str.strSliceIndices (ql.map (·.1)) (qu.map (·.1)) 1 x.length).length = x.length := by simpa using hc
      rw [cut_all _ _ _ hc']
      exact ⟨k, .str _ _⟩
    · exact ⟨by rw [show ∀ l : List Nat, (⟨l.toArray⟩ : Str) = S l from fun _ => rfl, S_length]; exact Nat.le_trans (cut_len _ _ _) hsz, keeps_trans k (keeps_toks _ _), .str _ _⟩)
end

theorem cut_from {α : Type} (l : List α) (a : Nat) : cut (some (a : Int)) none l = l.drop a := by
  unfold cut
  simp only [Option.elim, clipAt_nat]
  rcases Nat.le_total a l.length with h | h
  · rw [Nat.min_eq_left h, List.take_of_length_le (by simp)]
  · rw [Nat.min_eq_right h, List.drop_of_length_le (Nat.le_refl _), List.drop_of_length_le h]; simp
theorem cut_upto {α : Type} (l : List α) (b : Nat) : cut none (some (b : Int)) l = l.take b := by
  unfold cut
  simp only [Option.elim, clipAt_nat, List.drop_zero, Nat.sub_zero]
  rcases Nat.le_total b l.length with h | h
  · rw [Nat.min_eq_left h]
  · rw [Nat.min_eq_right h, List.take_of_length_le (Nat.le_refl _), List.take_of_length_le h]
theorem cut_two {α : Type} (l : List α) (a b : Nat) : cut (some (a : Int)) (some (b : Int)) l = (l.drop a).take (b - a) := by
  unfold cut
  simp only [Option.elim, clipAt_nat]
  rcases Nat.le_total a l.length with h | h
  · rw [Nat.min_eq_left h]
    rcases Nat.le_total b l.length with h' | h'
    · rw [Nat.min_eq_left h']
    · rw [Nat.min_eq_right h', List.take_of_length_le (by simp), List.take_of_length_le (by simp; lia)]
  · rw [Nat.min_eq_right h, List.drop_of_length_le (Nat.le_refl _), List.drop_of_length_le h]; simp
theorem cut_but {α : Type} (l : List α) (k : Nat) (hk : 1 ≤ k) : cut none (some (-(k : Int))) l = l.take (l.length - k) := by
  unfold cut
  simp only [Option.elim, clipAt_neg _ _ hk, List.drop_zero, Nat.sub_zero]
theorem cut_fromBut {α : Type} (l : List α) (a k : Nat) (hk : 1 ≤ k) : cut (some (a : Int)) (some (-(k : Int))) l = (l.take (l.length - k)).drop a := by
  unfold cut
  simp only [Option.elim, clipAt_neg _ _ hk, clipAt_nat]
  rw [List.drop_take]
  rcases Nat.le_total a l.length with h | h
  · rw [Nat.min_eq_left h]
  · rw [Nat.min_eq_right h, List.drop_of_length_le (Nat.le_refl _), List.drop_of_length_le h]; simp
end Mine

namespace Mine

theorem IsTup.tuple {h : Heap} {a : Addr} {items : Array Value} (i : IsTup h a items) : h.IsTuple a items := let ⟨o, e, c, n, d⟩ := i; ⟨o, e, c, n, d⟩

/-- equality of data, n levels deep -/
noncomputable def EqV (n : Nat) (a b : PV) (r : Bool) : Prop := ∀ (X : Addr → Prop) (A : Around) (s : Shared) (x y : Value), A.units + n < cLine → Rep X s.heap x a → Rep X s.heap y b → SeqAt.EqAt A s x y r
theorem EqV.int {n : Nat} {i j : Int} : EqV n (.int i) (.int j) (i == j) := fun X A s x y h rx ry => by
  refine Rep.intE rx fun t => ?_; refine Rep.intE ry fun u => ?_; exact SeqAt.EqAt.int_int _ _ _ _
theorem EqV.str {n : Nat} {i j : Str} : EqV n (.str i) (.str j) (i == j) := fun X A s x y h rx ry => by
  refine Rep.strE rx fun t => ?_; refine Rep.strE ry fun u => ?_; exact SeqAt.EqAt.str_str _ _ _ _
theorem EqV.fltInt {n : Nat} {a : UInt64} {i : Int} : EqV n (.flt a) (.int i) (Float64.cmpInt a i == some Ordering.eq) := fun X A s x y h rx ry => by
  refine Rep.fltE rx fun t => ?_; refine Rep.intE ry fun u => ?_
  intro prog w E Q hq
  unfold eqBool
  refine wpAny_holding ?_
  refine wpAny_ite_split (fun hab => ?_) (fun _ => ?_)
  · exact nomatch (beq_iff_eq.mp hab)
  · exact wpAny_bind (eq_fi (wpAny_truthy_bool hq))
theorem EqV.of {n : Nat} {a b : PV} {r r' : Bool} (h : EqV n a b r) (e : r = r') : EqV n a b r' := e ▸ h
theorem repL_at {X : Addr → Prop} {h : Heap} {vs : List Value} {ds : List PV} (r : RepL X h vs ds) (j : Nat) (hj : j < vs.length) : ∃ d, ds[j]? = some d ∧ Rep X h vs[j] d := r.getV (List.getElem?_eq_getElem hj)
theorem all_true (n : Nat) : (List.range n).all (fun _ => true) = true := by simp
theorem RcAt.eqBool {A : Around} {s : Shared} {l b : Addr} (h : SeqAt.RcAt A s (.ref l) (.ref b) true) : SeqAt.EqAt A s (.ref l) (.ref b) true := by
  by_cases e : l = b
  · subst e; exact SeqAt.EqAt.same _
  · exact SeqAt.EqAt.of_refs e h
theorem EqV.list {n : Nat} {ds es : List PV} (hl : ds.length = es.length) (h : ∀ (j : Nat) a b, ds[j]? = some a → es[j]? = some b → EqV n a b true) : EqV (n + 1) (.list ds) (.list es) true := fun X A s x y hu rx ry => by
  refine Rep.listE rx fun _ _ h1 x1 r1 => ?_; refine Rep.listE ry fun _ _ h2 x2 r2 => ?_
  refine RcAt.eqBool ?_
  have := SeqAt.RcAt.lists (A := A) (e := fun _ => true) h1 h2 (by simp [r1.length, r2.length, hl]) (by lia) fun j k1 k2 => by
    obtain ⟨a, ha, ra⟩ := repL_at r1 j (by simpa using k1)
    obtain ⟨b, hb, rb⟩ := repL_at r2 j (by simpa using k2)
    simpa using h j a b ha hb X A.in1 s _ _ (by show A.units + 1 + n < cLine; lia) ra rb
  rwa [all_true] at this

theorem cmp_neList {n : Nat} {ds es : List PV} (hn : n ≤ 9000) (hl : ds.length = es.length) (h : ∀ (j : Nat) a b, ds[j]? = some a → es[j]? = some b → EqV n a b true) : CmpOk .NotEq (.list ds) (.list es) false := by
  intro prog w h₀ X k A s E x y hk rm B rx ry
  refine Rep.listE rx fun _ _ h1 x1 r1 => ?_; refine Rep.listE ry fun _ _ h2 x2 r2 => ?_
  have hu : A.units + n + 1 < cLine := by have := rm.2.2; show A.units + n + 1 < 9900; lia
  refine SeqAt.RcNeAt.lists (A := A) (e := fun _ => true) h1 h2 (by simp [r1.length, r2.length, hl]) (by lia) (fun j k1 k2 => ?_) prog w E _ ⟨keeps_refl s, by rw [all_true]; rfl⟩
  obtain ⟨a, ha, ra⟩ := repL_at r1 j (by simpa using k1)
  obtain ⟨b, hb, rb⟩ := repL_at r2 j (by simpa using k2)
  simpa using h j a b ha hb X A.in1 s _ _ (by show A.units + 1 + n < cLine; lia) ra rb
theorem cmp_neLen {ds es : List PV} (hl : ds.length ≠ es.length) : CmpOk .NotEq (.list ds) (.list es) true := by
  intro prog w h₀ X k A s E x y hk rm B rx ry
  refine Rep.listE rx fun _ _ h1 x1 r1 => ?_; refine Rep.listE ry fun _ _ h2 x2 r2 => ?_
  exact SeqAt.RcNeAt.lists_lengths h1 h2 (by simp [r1.length, r2.length, hl]) (by have := rm.2.2; show A.units < 9900; lia) prog w E _ ⟨keeps_refl s, rfl⟩
theorem cmp_neNil {ds : List PV} : CmpOk .NotEq (.list ds) (.list []) (!ds.isEmpty) := by
  cases ds with
  | nil => exact cmp_neList (n := 0) (by lia) rfl fun j a b e => by simp at e
  | cons d ds => exact cmp_neLen (by simp)
theorem cmp_neTup {n : Nat} {ds es : List PV} (hn : n ≤ 9000) (hl : ds.length = es.length) (h : ∀ (j : Nat) a b, ds[j]? = some a → es[j]? = some b → EqV n a b true) : CmpOk .NotEq (.tup ds) (.tup es) false := by
  intro prog w h₀ X k A s E x y hk rm B rx ry
  refine Rep.tupE rx fun _ _ h1 x1 r1 => ?_; refine Rep.tupE ry fun _ _ h2 x2 r2 => ?_
  have hu : A.units + n + 1 < cLine := by have := rm.2.2; show A.units + n + 1 < 9900; omega
  refine SeqAt.RcNeAt.tuples (A := A) (e := fun _ => true) h1 h2 (by omega) (fun j k1 k2 => ?_) prog w E _ ⟨keeps_refl s, by rw [all_true]; simp [r1.length, r2.length, hl]⟩
  obtain ⟨a, ha, ra⟩ := repL_at r1 j (by simpa using k1)
  obtain ⟨b, hb, rb⟩ := repL_at r2 j (by simpa using k2)
  simpa using h j a b ha hb X A.in1 s _ _ (by show A.units + 1 + n < cLine; omega) ra rb
theorem cmp_neInts {ns : List Int} : CmpOk .NotEq (.list (ns.map .int)) (.list (ns.map .int)) false := cmp_neList (n := 0) (by omega) rfl fun j a b ha hb => by
  rw [ha] at hb; cases hb
  rw [List.getElem?_map] at ha
  cases e : ns[j]? with
  | none => rw [e] at ha; simp at ha
  | some i => rw [e] at ha; simp at ha; subst ha; exact EqV.int.of (by simp)

theorem cmp_neB {i j : Bool} : CmpOk .NotEq (.bool i) (.bool j) (i != j) := by
  intro prog w h₀ X k A s E a b hk rm B rx ry
  cases rx; cases ry
  exact SeqAt.RcNeAt.bool_bool i j prog w E _ ⟨keeps_refl s, by cases i <;> cases j <;> rfl⟩
theorem cmp_neFI {a : UInt64} {i : Int} : CmpOk .NotEq (.flt a) (.int i) (Float64.cmpInt a i != some Ordering.eq) := by
  intro prog w h₀ X k A s E x y hk rm B rx ry
  refine Rep.fltE rx fun t => ?_; refine Rep.intE ry fun u => ?_; exact ne_fi ⟨keeps_refl s, rfl⟩

-- in
noncomputable def intOf : Value → Option Int
  | .int i _ => some i
  | _ => none
theorem any_ints {ns : List Int} {i : Int} {vs : List Value} (h : IntsAre vs ns) : vs.any (fun v => intOf v == some i) = ns.contains i := by
  induction h with
  | nil => rfl
  | cons n t _ ih =>
    rw [List.any_cons, ih, List.contains_cons]
    congr 1
    show (some n == some i) = (i == n)
    rw [Bool.eq_iff_iff, beq_iff_eq, beq_iff_eq]; exact ⟨fun h => (Option.some.inj h).symm, fun h => by rw [h]⟩
theorem ints_eqAt {A : Around} {s : Shared} {vs : List Value} {ns : List Int} {i : Int} {t : Tok} (h : IntsAre vs ns) : ∀ y ∈ vs, SeqAt.EqAt A s y (.int i t) (intOf y == some i) := by
  induction h with
  | nil => intro y hy; simp at hy
  | cons n u _ ih =>
    intro y hy
    rcases List.mem_cons.mp hy with rfl | hy
    · have := SeqAt.EqAt.int_int (A := A) (s := s) n u i t
      exact this
    · exact ih y hy
theorem cmp_inTup {i : Int} {ns : List Int} : CmpOk .In (.int i) (.tup (ns.map .int)) (ns.contains i) := by
  intro prog w h₀ X k A s E x y hk rm B rx ry
  refine Rep.intE rx fun t => ?_; refine Rep.tupE ry fun a vs hi hx rl => ?_
  exact SeqAt.in_tupleAt (fun v => intOf v == some i) hi (fun y hy => ints_eqAt rl.ints y (by simpa using hy)) ⟨keeps_refl s, by rw [← any_ints rl.ints, ← Array.any_toList]⟩
theorem cmp_inS {n : Nat} {l : List Nat} : CmpOk .In (.str (S [n])) (.str (S l)) (l.contains n) := by
  intro prog w h₀ X k A s E x y hk rm B rx ry
  refine Rep.strE rx fun t => ?_; refine Rep.strE ry fun u => ?_
  refine PyProof.Rows.in_str ⟨keeps_refl s, ?_⟩
  rw [show (!(Builtin.Str.occurrences (S l) (S [n]) 0 (S l).length 1).isEmpty) = _ from StrLaws.found_one (S l) n]
  show Value.bool (decide (n ∈ l)) = _
  simp [List.contains_eq_mem]
theorem cmp_notInS {n : Nat} {l : List Nat} : CmpOk .NotIn (.str (S [n])) (.str (S l)) (!l.contains n) := by
  intro prog w h₀ X k A s E x y hk rm B rx ry
  refine Rep.strE rx fun t => ?_; refine Rep.strE ry fun u => ?_
  refine PyProof.Rows.notIn_str ⟨keeps_refl s, ?_⟩
  rw [show (!(Builtin.Str.occurrences (S l) (S [n]) 0 (S l).length 1).isEmpty) = _ from StrLaws.found_one (S l) n]
  show Value.bool (!decide (n ∈ l)) = _
  simp [List.contains_eq_mem]

-- truth of plain values
section
variable {c : Cx} {ρ : List (Str × PV)} {e : Expr} {d : PV} {A : Around} {s : Shared} {E : Value → Shared → Prop}
theorem Ts.str {x : Str} (h : Ev c ρ e (.str x)) (hl : x.length < 2 ^ 63) (hs : ∀ env whole, isTrue e env whole = (do let v ← whole; standAt e.pos; holding [v] (truthy v))) : Ts c ρ e (x.length != 0) := fun A s E r F => by
  refine wpAny_isTrue_value (h.wp r F fun v s₁ k F₁ rv => ?_) (by rw [hs])
  refine Rep.strE rv fun t => ?_; exact PySem.P.truthy_str (by lia) ⟨keeps_trans k (keeps_toks _ _), by cases hx : x.length <;> rfl⟩
theorem Ts.int {x : Int} (h : Ev c ρ e (.int x)) (hs : ∀ env whole, isTrue e env whole = (do let v ← whole; standAt e.pos; holding [v] (truthy v))) : Ts c ρ e (x != 0) := fun A s E r F => by
  refine wpAny_isTrue_value (h.wp r F fun v s₁ k F₁ rv => ?_) (by rw [hs])
  refine Rep.intE rv fun t => ?_; exact PyProof.Rows.truthy_int ⟨k, rfl⟩
theorem Ts.bool {x : Bool} (h : Ev c ρ e (.bool x)) (hs : ∀ env whole, isTrue e env whole = (do let v ← whole; standAt e.pos; holding [v] (truthy v))) : Ts c ρ e x := fun A s E r F => by
  refine wpAny_isTrue_value (h.wp r F fun v s₁ k F₁ rv => ?_) (by rw [hs])
  cases rv with
  | bool _ => exact wpAny_truthy_bool ⟨k, rfl⟩

/-- a ≤ b < c in one -/
theorem Ts.chain {l r₁ r₂ : Expr} {op₁ op₂ : CmpOp} {pos : Pos} {a b d : PV} {t u : Bool} (hk : c.k ≤ 40) (x : Ev c ρ l a) (y : Ev c ρ r₁ b) (z : t = true → Ev c ρ r₂ d) (o₁ : CmpOk op₁ a b t) (o₂ : t = true → CmpOk op₂ b d u) (hm : lastMarks (op₁ :: op₂ :: []) (r₁ :: r₂ :: []) = false) :
    Ts c ρ (.Compare l [op₁, op₂] [r₁, r₂] pos) (t && u) := fun A s E rm F =>
  isTrue_chain (x.wp rm F fun v s₁ k₁ F₁ r₁ => test_link (y.wp rm F₁ fun b' s₂ k₂ F₂ r₂ =>
    wpAny_mono (o₁ c.prog c.w c.h₀ c.X c.k A s₂ E v b' hk rm F₂.base (r₁.ext (keeps_ext k₂)) r₂) (fun q s₃ g => by
      obtain ⟨k₃, rfl⟩ := g
      refine wpAny_truthy_bool ?_
      have F₃ := F₂.keeps (keeps_ext k₃)
      have k := keeps_trans k₁ (keeps_trans k₂ k₃)
      cases t with
      | false => exact ⟨k, rfl⟩
      | true =>
        exact test_last ((z rfl).wp rm F₃ fun v' s₄ k₄ F₄ r₄ => wpAny_mono (o₂ rfl c.prog c.w c.h₀ c.X c.k A s₄ E b' v' hk rm F₄.base (r₂.ext (keeps_ext (keeps_trans k₃ k₄))) r₄) (fun q s₅ g => by
          obtain ⟨k₅, rfl⟩ := g
          exact wpAny_truthy_bool ⟨keeps_trans k (keeps_trans k₄ k₅), by simp⟩) fun _ _ x => x)) fun _ _ x => x)) hm
end

-- floats
noncomputable def divII (a b : Int) : UInt64 := Float64.ofFrac (decide (a < 0) != decide (b < 0)) a.natAbs b.natAbs
theorem bin_div {a b : Int} (hb : b ≠ 0) (hi : Float64.isInf (divII a b) = false) : BinOk .Div (.int a) (.int b) (.flt (divII a b)) := by
  intro prog w h₀ X k A s E x y hk rm B rx ry
  refine Rep.intE rx fun t => ?_; refine Rep.intE ry fun u => ?_; exact AutoIntOps.truediv_2 (by simpa using hb) (by rw [show Float64.ofFrac (decide (a < 0) != decide (b < 0)) a.natAbs b.natAbs = divII a b from rfl, hi]; exact Bool.false_ne_true) ⟨keeps_toks s _, .flt _ _⟩
noncomputable def mulIF (b : Int) (a : UInt64) : UInt64 := Float64.mul (Float64.ofInt b) a
theorem bin_mulIF {b : Int} {a : UInt64} (hi : Float64.isInf (Float64.ofInt b) = false) : BinOk .Mult (.int b) (.flt a) (.flt (mulIF b a)) := by
  intro prog w h₀ X k A s E x y hk rm B rx ry
  refine Rep.intE rx fun t => ?_; refine Rep.fltE ry fun u => ?_; exact AutoFloatOps.mul_if_1 (by rw [hi]; exact Bool.false_ne_true) ⟨keeps_toks s _, .flt _ _⟩
end Mine

namespace Mine

section
variable {c : Cx} {ρ : List (Str × PV)} {e : Expr} {d : PV} {A : Around} {s : Shared} {E : Value → Shared → Prop}
/-- a method of a text -/
theorem Ev.methS {o : Expr} {name : Str} {apos pos : Pos} {args : List Expr} {id : String} {x : Str} {ds : List PV} (ho : Ev c ρ o (.str x)) (ha : EvL c ρ args ds) (slot : PySem.Slot "str" name id) (hty : typeOf (.builtin id) = pure (.type "method_descriptor"))
    (hc : CallOk c.prog c.w c.h₀ c.k (.builtin id) (.str x :: ds) d) (hbase : attributeBase o name c.env (eval o c.env) = eval o c.env)
    (hfew : ((backTo pos (starEach args c.env)).all (fun x => !x.1) && (backToKw pos (keywordEach [] c.env)).all (fun x => x.1.isSome)
      && decide (args.length + ([] : List Keyword).length + (if ([] : List Keyword).isEmpty then 0 else 1) < 30)) = true)
    (hline : (apos.endLine == pos.line) = true)
    (hs : (backTo pos (starEach args c.env) = [] ∧ ds = []) ∨ ∃ x r, backTo pos (starEach args c.env) = (false, x) :: r) :
    Ev c ρ (.Call (.Attribute o name apos) args [] pos) d := fun A s E rm Fr => by
  have hp : (backTo pos (starEach args c.env)).any (·.1) = false := by
    simp only [Bool.and_eq_true] at hfew
    have h1 := hfew.1.1
    rw [List.any_eq_false]
    intro y hy
    have := List.all_eq_true.mp h1 y hy
    simpa using this
  refine wpAny_Call_method_lateS hbase hfew hline (ho.wp rm Fr fun ov s₁ k₁ F₁ r₁ => ?_)
  refine Rep.strE r₁ fun t => ?_
  refine ⟨"str", id, F.plainAttrs_str, slot, hty, typeIs_str _ _ _, (fun _ e => nomatch e), ?_⟩
  refine callWith_builtin hp ?_
  have g := ha pos A s₁ E rm F₁
  have fin : ∀ vs s₂, (Keeps s₁ s₂ ∧ RepL c.X s₂.heap vs ds) → wpAny (model c.prog c.w) A (call (.builtin id) ([Value.str x t] ++ vs)) (fun v s' => Keeps s s' ∧ Rep c.X s'.heap v d) E s₂ := fun vs s₂ q =>
    wpAny_mono (hc c.X A s₂ E _ rm (F₁.base.keeps (keeps_ext q.1)) (.cons (.str _ _) q.2)) (fun _ _ q' => ⟨keeps_trans k₁ (keeps_trans q.1 q'.1), q'.2⟩) fun _ _ x => x
  rcases hs with ⟨hs, rfl⟩ | ⟨y, r, hs⟩
  · rw [hs]
    exact PySem.evalArgs_none (fin [] s₁ ⟨keeps_refl _, .nil⟩)
  · rw [hs] at g ⊢
    exact evalArgs_plain (wpAny_mono g (fun vs s₂ q => fin vs s₂ q) fun _ _ x => x)
end

theorem repL_strs {X : Addr → Prop} {h : Heap} (l : List (Str × Tok)) : RepL X h (strValues l) ((l.map (·.1)).map PV.str) := by
  induction l with
  | nil => exact .nil
  | cons p l ih => exact .cons (.str _ _) ih
theorem repL_strsOf {X : Addr → Prop} {h : Heap} {xs : List Str} : ∀ {vs : List Value}, RepL X h vs (xs.map PV.str) → ∃ l : List (Str × Tok), vs = strValues l ∧ l.map (·.1) = xs := by
  induction xs with
  | nil => intro vs r; cases r; exact ⟨[], rfl, rfl⟩
  | cons x xs ih =>
    intro vs r
    refine RepL.consE r fun _ _ r s => ?_
    obtain ⟨l, rfl, e⟩ := ih s
    refine Rep.strE r fun t => ?_; exact ⟨(x, t) :: l, rfl, by simp [e]⟩

section
variable {prog : Program} {w : World} {h₀ : Heap} {k : Nat}
theorem call_join {x : Str} {xs : List Str} (hok : JoinOk x xs = true) : CallOk prog w h₀ k (.builtin "str.join") [.str x, .list (xs.map .str)] (.str (Txt.join x xs)) := by
  intro X A s E vs rm B rl
  refine RepL.consE rl fun _ _ r1 rl => ?_; refine Rep.strE r1 fun t => ?_; refine RepL.consE rl fun _ _ r2 rl => ?_; refine RepL.nilE rl ?_; refine Rep.listE r2 fun _ _ hi hx rl => ?_
  obtain ⟨l, rfl, e⟩ := repL_strsOf rl
  exact SC.join hi e hok fun t' tk => ⟨keeps_toks s tk, .str _ _⟩
theorem call_split {x y : Str} (hy : (y.length == 0) = false) (hsz : x.length ≤ sizeLine) (hsz2 : (Builtin.Str.partsBetween x (Builtin.Str.occurrences x y 0 x.length (x.length + 1)) y.length).length ≤ sizeLine) : CallOk prog w h₀ k (.builtin "str.split") [.str x, .str y] (.list ((Txt.split x y).map .str)) := by
  intro X A s E vs rm B rl
  refine RepL.consE rl fun _ _ r1 rl => ?_; refine Rep.strE r1 fun t => ?_; refine RepL.consE rl fun _ _ r2 rl => ?_; refine RepL.nilE rl ?_; refine Rep.strE r2 fun u => ?_
  have one : Keeps s { s with heap := s.heap.push { cls := .type "list", data := .seq [Value.str x t].toArray } } ∧ Rep X (s.heap.push { cls := .type "list", data := .seq [Value.str x t].toArray }) (.ref s.heap.objs.size) (.list ([x].map .str)) :=
    ⟨keeps_push s _ s.toks, Rep.listPush B (.cons (.str _ _) .nil)⟩
  cases h1 : (decide (x.length < y.length) || decide (Builtin.Str.strKind x < Builtin.Str.strKind y))
  · cases hf : (Builtin.Str.occurrences x y 0 x.length (x.length + 1)).isEmpty
    · have e : Txt.split x y = Builtin.Str.partsBetween x (Builtin.Str.occurrences x y 0 x.length (x.length + 1)) y.length := (if_neg (ne_true_of_eq_false h1)).trans (if_neg (ne_true_of_eq_false hf))
      rw [e]
      refine call_meets F.slot_str_split (typeIs_str _ _ _) F.entry_str_split (F.args_str_split_2 _ _) (meets_str_split_sep x y t u h1 hy hf hsz hsz2) ?_
      rw [strsFrom_eq]
      have r := repL_strs (X := X) (h := s.heap) (numbered s.toks (Builtin.Str.partsBetween x (Builtin.Str.occurrences x y 0 x.length (x.length + 1)) y.length))
      rw [numbered_texts] at r
      exact ⟨keeps_push s _ _, Rep.listPush B r⟩
    · have e : Txt.split x y = [x] := (if_neg (ne_true_of_eq_false h1)).trans (if_pos hf)
      rw [e]
      exact call_meets F.slot_str_split (typeIs_str _ _ _) F.entry_str_split (F.args_str_split_2 _ _) (meets_str_split_not_found x y t u h1 hy hf) one
  · have e : Txt.split x y = [x] := if_pos h1
    rw [e]
    exact call_meets F.slot_str_split (typeIs_str _ _ _) F.entry_str_split (F.args_str_split_2 _ _) (meets_str_split_cannot_occur x y t u h1) one
theorem call_rstrip {x : Str} (hsz : x.length ≤ sizeLine) : CallOk prog w h₀ k (.builtin "str.rstrip") [.str x] (.str (Txt.rstrip x)) := by
  intro X A s E vs rm B rl
  refine RepL.consE rl fun _ _ r1 rl => ?_; refine Rep.strE r1 fun t => ?_; refine RepL.nilE rl ?_
  exact SC.rstrip (fun t' tk => ⟨keeps_toks s tk, .str _ _⟩) hsz
theorem call_endswith {x y : Str} : CallOk prog w h₀ k (.builtin "str.endswith") [.str x, .str y] (.bool (Txt.endswith x y)) := by
  intro X A s E vs rm B rl
  refine RepL.consE rl fun _ _ r1 rl => ?_; refine Rep.strE r1 fun t => ?_; refine RepL.consE rl fun _ _ r2 rl => ?_; refine RepL.nilE rl ?_; refine Rep.strE r2 fun u => ?_; exact SC.endswith ⟨keeps_refl s, .bool _⟩
/-- the lines of a text -/
noncomputable def linesS (x : Str) : List Str := if (lineCuts x == [(0, x.length)]) = true then [x] else linesOf x
theorem call_splitlines {x : Str} (hsz : x.length ≤ sizeLine) (hsz2 : (lineCuts x).length ≤ sizeLine) : CallOk prog w h₀ k (.builtin "str.splitlines") [.str x] (.list ((linesS x).map .str)) := by
  intro X A s E vs rm B rl
  refine RepL.consE rl fun _ _ r1 rl => ?_; refine Rep.strE r1 fun t => ?_; refine RepL.nilE rl ?_
  refine call_meets F.slot_str_splitlines (typeIs_str _ _ _) F.entry_str_splitlines (F.args_str_splitlines_1 _) (meets_str_splitlines x t hsz hsz2) ?_
  unfold linesS
  show if _ then _ else _
  split
  · exact ⟨keeps_push s _ s.toks, Rep.listPush B (.cons (.str _ _) .nil)⟩
  · rw [strsFrom_eq]
    have r := repL_strs (X := X) (h := s.heap) (numbered s.toks (linesOf x))
    rw [numbered_texts] at r
    exact ⟨keeps_push s _ _, Rep.listPush B r⟩
end
end Mine

namespace Mine

section
variable {prog : Program} {w : World} {h₀ : Heap} {k : Nat} {f : Value} {a b d : PV}
theorem CallOk.mk1 (h : ∀ (X : Addr → Prop) (A : Around) (s : Shared) (E : Value → Shared → Prop) (v : Value), Rm k A → Base h₀ X s.heap → Rep X s.heap v a → wpAny (model prog w) A (call f [v]) (fun v s' => Keeps s s' ∧ Rep X s'.heap v d) E s) : CallOk prog w h₀ k f [a] d := by
  intro X A s E vs rm B rl
  refine RepL.consE rl fun _ _ r1 rl => ?_; refine RepL.nilE rl ?_; exact h X A s E _ rm B r1
theorem CallOk.mk2 (h : ∀ (X : Addr → Prop) (A : Around) (s : Shared) (E : Value → Shared → Prop) (v u : Value), Rm k A → Base h₀ X s.heap → Rep X s.heap v a → Rep X s.heap u b → wpAny (model prog w) A (call f [v, u]) (fun v s' => Keeps s s' ∧ Rep X s'.heap v d) E s) : CallOk prog w h₀ k f [a, b] d := by
  intro X A s E vs rm B rl
  refine RepL.consE rl fun _ _ r1 rl => ?_; refine RepL.consE rl fun _ _ r2 rl => ?_; refine RepL.nilE rl ?_; exact h X A s E _ _ rm B r1 r2

theorem call_lenS {x : List Nat} (hsz : x.length < 2 ^ 62) : CallOk prog w h₀ k (.builtin "len") [.str (S x)] (.int x.length) := .mk1 fun X A s E v rm B r => by
  refine Rep.strE r fun t => ?_; exact PyProof.Rows.len_str (by rw [S_length]; lia) ⟨keeps_toks s _, by rw [S_length]; exact .int _ _⟩
theorem call_lenL {ds : List PV} (hsz : ds.length < 2 ^ 62) : CallOk prog w h₀ k (.builtin "len") [.list ds] (.int ds.length) := .mk1 fun X A s E v rm B r => by
  refine Rep.listE r fun _ _ hi hx rl => ?_
  exact Calls.call_len_list hi (by simp [rl.length]; lia) ⟨keeps_toks s _, by simp only [List.size_toArray, rl.length]; exact .int _ _⟩
theorem call_ord {n : Nat} : CallOk prog w h₀ k (.builtin "ord") [.str (S [n])] (.int n) := .mk1 fun X A s E v rm B r => by
  refine Rep.strE r fun t => ?_; exact P.ord_of_char ⟨keeps_toks s _, .int _ _⟩
theorem call_chr {n : Nat} {i : Int} (hi : i = (n : Int)) (h : n ≤ 1114111) : CallOk prog w h₀ k (.builtin "chr") [.int i] (.str (S [n])) := .mk1 fun X A s E v rm B r => by
  subst hi
  refine Rep.intE r fun t => ?_; exact chr_of_range (by lia) (by lia) ⟨keeps_toks s _, .str _ _⟩
theorem ints_items {vs : List Value} {ns : List Int} (h : IntsAre vs ns) : ∃ xs : Array (Int × Tok), vs.toArray = intItems xs ∧ xs.toList.map (·.1) = ns := by
  obtain ⟨xs, e⟩ := h.allInts.items
  refine ⟨xs, e, ?_⟩
  rw [← nums_intItems, ← e]
  exact h.numsOf
theorem call_sum {ns : List Int} : CallOk prog w h₀ k (.builtin "sum") [.list (ns.map .int)] (.int ns.sum) := .mk1 fun X A s E v rm B r => by
  refine Rep.listE r fun _ _ hi hx rl => ?_
  obtain ⟨xs, e, rfl⟩ := ints_items rl.ints
  rw [e] at hi
  refine sum_intListG rm.1 hi fun h' tk t' hk => ⟨keeps_heap hk, ?_⟩
  rw [preSum_eq, List.take_of_length_le (by simp)]; exact .int _ _
theorem call_max {ns : List Int} {M : Int} (hm : M ∈ ns) (hg : ∀ a ∈ ns, a ≤ M) : CallOk prog w h₀ k (.builtin "max") [.list (ns.map .int)] (.int M) := .mk1 fun X A s E v rm B r => by
  refine Rep.listE r fun _ _ hi hx rl => ?_
  obtain ⟨xs, e, rfl⟩ := ints_items rl.ints
  rw [e] at hi
  have hsz : 0 < xs.size := by
    have := List.length_pos_of_mem hm; simpa using this
  refine max_intList rm.1 hi hsz fun v h' tk hv hk => ⟨keeps_heap hk, ?_⟩
  obtain ⟨t, rfl⟩ := intItems_at hv
  obtain ⟨h1, h2⟩ := argBest_gt (numAt xs) (xs.size - 1)
  have hM : numAt xs (argBest (fun i j => decide (numAt xs i > numAt xs j)) (xs.size - 1)) = M := by
    refine Int.le_antisymm (hg _ ?_) ?_
    · rw [numAt_eq]; exact getD_mem (by rw [List.length_map, Array.length_toList]; omega)
    · obtain ⟨j, hj, rfl⟩ := mem_getD hm
      rw [List.length_map, Array.length_toList] at hj
      rw [← numAt_eq]; exact h2 j (by lia)
  rw [hM]; exact .int _ _
theorem call_min {ns : List Int} {M : Int} (hm : M ∈ ns) (hg : ∀ a ∈ ns, M ≤ a) : CallOk prog w h₀ k (.builtin "min") [.list (ns.map .int)] (.int M) := .mk1 fun X A s E v rm B r => by
  refine Rep.listE r fun _ _ hi hx rl => ?_
  obtain ⟨xs, e, rfl⟩ := ints_items rl.ints
  rw [e] at hi
  have hsz : 0 < xs.size := by
    have := List.length_pos_of_mem hm; simpa using this
  refine min_intList rm.1 hi hsz fun v h' tk hv hk => ⟨keeps_heap hk, ?_⟩
  obtain ⟨t, rfl⟩ := intItems_at hv
  obtain ⟨h1, h2⟩ := argBest_lt (numAt xs) (xs.size - 1)
  have hM : numAt xs (argBest (fun i j => decide (numAt xs i < numAt xs j)) (xs.size - 1)) = M := by
    refine Int.le_antisymm ?_ (hg _ ?_)
    · obtain ⟨j, hj, rfl⟩ := mem_getD hm
      rw [List.length_map, Array.length_toList] at hj
      rw [← numAt_eq]; exact h2 j (by omega)
    · rw [numAt_eq]; exact getD_mem (by rw [List.length_map, Array.length_toList]; omega)
  rw [hM]; exact .int _ _
theorem argB_gt (x y : Int) : argBest (fun i j => decide (numAt #[(x, (0 : Tok)), (y, 0)] i > numAt #[(x, 0), (y, 0)] j)) 1 = if y > x then 1 else 0 := by
  by_cases h : y > x <;> simp [argBest, numAt, h]
theorem call_maxT {x y : Int} : CallOk prog w h₀ k (.builtin "max") [.tup [.int x, .int y]] (.int (if y > x then y else x)) := .mk1 fun X A s E v rm B r => by
  refine Rep.tupE r fun a vs hi hx rl => ?_
  obtain ⟨xs, e, e2⟩ := ints_items (show IntsAre vs [x, y] from (show RepL X s.heap vs ([x, y].map .int) from rl).ints)
  rw [e] at hi
  have hn : (intItems xs).size = 2 := by
    have : xs.toList.length = 2 := by have := congrArg List.length e2; simpa using this
    simpa [intItems] using this
  have ha : a < s.heap.objs.size := let ⟨o, e, _⟩ := hi; Heap.lt_size e
  refine call_max_walk (wpAny_pyIter_tuple hi ?_)
  refine ⟨_, _, _, _, _, _, _, rfl, Walks.tuple (A := A.in1) rm.1 _ a (Nat.ne_of_lt ha) (intItems xs), ⟨⟨_, Heap.get?_push_size _ rfl, rfl, rfl⟩, hi.push _⟩, fun b hb => ?_, by lia, CmpOf.ints_gt (numAt xs) (fun _ _ => intItems_at), fun v h' tk hP hk => ?_⟩
  · rw [Heap.size_push]
    rcases List.mem_cons.mp hb with rfl | hb
    · exact Nat.lt_succ_self _
    · rw [List.mem_singleton.mp hb]; exact Nat.lt_succ_of_lt ha
  · refine ⟨keeps_heap fun b o e => hk b o (fun hb => ?_) (Heap.get?_push_of_some _ e), ?_⟩
    · have := List.mem_singleton.mp hb; rw [this] at e; exact absurd (Heap.lt_size e) (Nat.lt_irrefl _)
    · rw [hn] at hP
      obtain ⟨t, rfl⟩ := intItems_at hP
      have e0 : numAt xs 0 = x := by rw [numAt_eq, e2]; rfl
      have e1 : numAt xs 1 = y := by rw [numAt_eq, e2]; rfl
      have hb : argBest (fun i j => decide (numAt xs i > numAt xs j)) 1 = if y > x then 1 else 0 := by
        by_cases h : y > x <;> simp [argBest, e0, e1, h]
      have : numAt xs (argBest (fun i j => decide (numAt xs i > numAt xs j)) (2 - 1)) = if y > x then y else x := by
        rw [show 2 - 1 = 1 from rfl, hb]; split <;> assumption
      rw [this]; exact .int _ _
theorem call_minT {x y : Int} : CallOk prog w h₀ k (.builtin "min") [.tup [.int x, .int y]] (.int (if y < x then y else x)) := .mk1 fun X A s E v rm B r => by
  refine Rep.tupE r fun a vs hi hx rl => ?_
  obtain ⟨xs, e, e2⟩ := ints_items (show IntsAre vs [x, y] from (show RepL X s.heap vs ([x, y].map .int) from rl).ints)
  rw [e] at hi
  have hn : (intItems xs).size = 2 := by
    have : xs.toList.length = 2 := by have := congrArg List.length e2; simpa using this
    simpa [intItems] using this
  have ha : a < s.heap.objs.size := let ⟨o, e, _⟩ := hi; Heap.lt_size e
  refine call_min_walk (wpAny_pyIter_tuple hi ?_)
  refine ⟨_, _, _, _, _, _, _, rfl, Walks.tuple (A := A.in1) rm.1 _ a (Nat.ne_of_lt ha) (intItems xs), ⟨⟨_, Heap.get?_push_size _ rfl, rfl, rfl⟩, hi.push _⟩, fun b hb => ?_, by omega, CmpOf.ints_lt (numAt xs) (fun _ _ => intItems_at), fun v h' tk hP hk => ?_⟩
  · rw [Heap.size_push]
    rcases List.mem_cons.mp hb with rfl | hb
    · exact Nat.lt_succ_self _
    · rw [List.mem_singleton.mp hb]; exact Nat.lt_succ_of_lt ha
  · refine ⟨keeps_heap fun b o e => hk b o (fun hb => ?_) (Heap.get?_push_of_some _ e), ?_⟩
    · have := List.mem_singleton.mp hb; rw [this] at e; exact absurd (Heap.lt_size e) (Nat.lt_irrefl _)
    · rw [hn] at hP
      obtain ⟨t, rfl⟩ := intItems_at hP
      have e0 : numAt xs 0 = x := by rw [numAt_eq, e2]; rfl
      have e1 : numAt xs 1 = y := by rw [numAt_eq, e2]; rfl
      have hb : argBest (fun i j => decide (numAt xs i < numAt xs j)) 1 = if y < x then 1 else 0 := by
        by_cases h : y < x <;> simp [argBest, e0, e1, h]
      have : numAt xs (argBest (fun i j => decide (numAt xs i < numAt xs j)) (2 - 1)) = if y < x then y else x := by
        rw [show 2 - 1 = 1 from rfl, hb]; split <;> assumption
      rw [this]; exact .int _ _
theorem call_min2 {x y : Int} : CallOk prog w h₀ k (.builtin "min") [.int x, .int y] (.int (if y < x then y else x)) := .mk2 fun X A s E v u rm B r1 r2 => by
  refine Rep.intE r1 fun t => ?_; refine Rep.intE r2 fun u => ?_
  refine min_two_ints rm.1 fun h' tk hk => ⟨keeps_heap hk, ?_⟩
  split <;> exact .int _ _
theorem repL_ints {X : Addr → Prop} {h : Heap} {vs : List Value} {ns : List Int} (i : IntsAre vs ns) : RepL X h vs (ns.map .int) := by
  induction i with
  | nil => exact .nil
  | cons n t _ ih => exact .cons (.int _ _) ih
theorem call_sorted {ns : List Int} (h64 : ns.length < 64) : CallOk prog w h₀ k (.builtin "sorted") [.list (ns.map .int)] (.list ((sortI ns).map .int)) := .mk1 fun X A s E v rm B r => by
  refine Rep.listE r fun a vs hi hx rl => ?_
  refine sorted_ints hi rl.ints (by rw [rl.length]; simpa using h64) fun out ns' h1 h2 h3 => ?_
  obtain ⟨e, he⟩ := sortedAll_at s.heap vs out
  refine ⟨keeps_heap (tk := s.toks) fun _ _ => sortedAll_old, ?_⟩
  rw [← eq_sortI h2 h3]
  exact Rep.list (vs := out.toList) ⟨_, he, rfl, e, rfl⟩ (B.new (Nat.le_succ _)) (repL_ints h1)
theorem call_divmod {x y : Int} (hb : y ≠ 0) (hs : Builtin.divisionGoesByPylong x y = false) : CallOk prog w h₀ k (.builtin "divmod") [.int x, .int y] (.tup [.int (x.fdiv y), .int (x.fmod y)]) := .mk2 fun X A s E v u rm B r1 r2 => by
  refine Rep.intE r1 fun t => ?_; refine Rep.intE r2 fun u => ?_
  exact divmod_int hb ⟨keeps_push s _ _, Rep.tupPush B (.cons (.int _ _) (.cons (.int _ _) .nil))⟩ (.inl hs)
theorem call_isiII {n : Int} : CallOk prog w h₀ k (.builtin "isinstance") [.int n, .val (.type "int")] (.bool true) := .mk2 fun X A s E v u rm B r1 r2 => by
  refine Rep.intE r1 fun t => ?_; cases r2; exact IsiPair.int_int ⟨keeps_refl s, .bool _⟩
theorem call_isiIF {n : Int} : CallOk prog w h₀ k (.builtin "isinstance") [.int n, .val (.type "float")] (.bool false) := .mk2 fun X A s E v u rm B r1 r2 => by
  refine Rep.intE r1 fun t => ?_; cases r2; exact IsiPair.int_float ⟨keeps_toks s _, .bool _⟩
theorem call_isiFI {n : UInt64} : CallOk prog w h₀ k (.builtin "isinstance") [.flt n, .val (.type "int")] (.bool false) := .mk2 fun X A s E v u rm B r1 r2 => by
  refine Rep.fltE r1 fun t => ?_; cases r2; exact IsiPair.float_int ⟨keeps_toks s _, .bool _⟩
theorem call_isiFF {n : UInt64} : CallOk prog w h₀ k (.builtin "isinstance") [.flt n, .val (.type "float")] (.bool true) := .mk2 fun X A s E v u rm B r1 r2 => by
  refine Rep.fltE r1 fun t => ?_; cases r2; exact IsiPair.float_float ⟨keeps_refl s, .bool _⟩
end
end Mine

namespace Mine

theorem notDC_fields {o : Obj} {fs : Array Value} (d : o.data = .fields fs) : (∀ es n, o.data ≠ .dict es n) ∧ ∀ v, o.data ≠ .cell v := by
  rw [d]; exact ⟨(by intro _ _ q; cases q), (by intro _ q; cases q)⟩
theorem notDC_seq {o : Obj} {fs : Array Value} {n : Nat} (d : o.data = .seq fs n) : (∀ es n, o.data ≠ .dict es n) ∧ ∀ v, o.data ≠ .cell v := by
  rw [d]; exact ⟨(by intro _ _ q; cases q), (by intro _ q; cases q)⟩

noncomputable def zipD (ds es : List PV) : List PV := List.zipWith (fun a b => .tup [a, b]) ds es
theorem zipD_get {ds es : List PV} {i : Nat} {d : PV} (h : (zipD ds es)[i]? = some d) : ∃ a b, ds[i]? = some a ∧ es[i]? = some b ∧ d = .tup [a, b] := by
  unfold zipD at h
  rw [List.getElem?_zipWith] at h
  cases ha : ds[i]? with
  | none => rw [ha] at h; simp at h
  | some a => cases hb : es[i]? with
    | none => rw [ha, hb] at h; simp at h
    | some b => rw [ha, hb] at h; exact ⟨a, b, rfl, rfl, by simpa using h.symm⟩

theorem It.zip {prog : Program} {w : World} {X : Addr → Prop} {elts : List Expr} {kx : Nat} {p : Pos} {z TI TO i1 i2 l1 l2 : Addr} (D : ZipApart z TI TO i1 i2 l1 l2) (hz : X z) (hTO : X TO) (h1 : X i1) (h2 : X i2) (hTI : ¬ X TI) (hl1 : ¬ X l1) (hl2 : ¬ X l2)
    (vs us : List Value) (ds es : List PV) (hlv : vs.length = ds.length) (hlu : us.length = es.length) :
    It prog w X (.Tuple elts kx p) z [z, TO, i1, i2] [z, TI, TO, i1, i2, l1, l2] (zipD ds es)
      (fun i h => IsZip h z TI TO .none ∧ IsPair h TI (.ref i1) (.ref i2) ∧ (∃ a b, IsPair h TO a b) ∧ h.IsListIter i1 l1 i ∧ h.IsListIter i2 l2 i ∧ h.IsList l1 vs.toArray ∧ h.IsList l2 us.toArray ∧ RepL X h vs ds ∧ RepL X h us es) where
  wrX := fun b hb => by simp at hb; rcases hb with rfl | rfl | rfl | rfl <;> assumption
  sub := fun b hb => by simp at hb ⊢; rcases hb with rfl | rfl | rfl | rfl <;> simp
  fpX := fun b hb x => by
    simp at hb ⊢
    rcases hb with rfl | rfl | rfl | rfl | rfl | rfl | rfl <;> first | exact absurd x hTI | exact absurd x hl1 | exact absurd x hl2 | simp
  frame := fun i h h' st sq hk => by
    refine Classical.byContradiction fun hG => ?_
    obtain ⟨a1, a2, ⟨a, b, a3⟩, a4, a5, a6, a7, a8, a9⟩ := st
    refine hG ?_
    exact ⟨hk z (by simp) _ a1, hk TI (by simp) _ a2, ⟨a, b, hk TO (by simp) _ a3⟩, a4.at fun o e => hk i1 (by simp) o e, a5.at fun o e => hk i2 (by simp) o e, a6.at fun o e => hk l1 (by simp) o e, a7.at fun o e => hk l2 (by simp) o e, a8.mono sq fun _ _ z => z, a9.mono sq fun _ _ z => z⟩
  kind := fun i h st b hb => by
    refine Classical.byContradiction fun hG => ?_
    obtain ⟨a1, a2, ⟨a, b', a3⟩, ⟨o4, e4, c4, d4⟩, ⟨o5, e5, c5, d5⟩, ⟨o6, e6, c6, n6, d6⟩, ⟨o7, e7, c7, n7, d7⟩, _, _⟩ := st
    refine hG ?_
    simp at hb
    rcases hb with rfl | rfl | rfl | rfl | rfl | rfl | rfl
    · exact ⟨_, a1, notDC_fields rfl⟩
    · exact ⟨_, a2, notDC_seq rfl⟩
    · exact ⟨_, a3, notDC_seq rfl⟩
    · exact ⟨_, e4, notDC_fields d4⟩
    · exact ⟨_, e5, notDC_fields d5⟩
    · exact ⟨_, e6, notDC_seq d6⟩
    · exact ⟨_, e7, notDC_seq d7⟩
  next := fun A i d s E Q hh hxb st hd hQ => by
    refine Classical.byContradiction fun hG => ?_
    obtain ⟨a1, a2, ⟨a, b, a3⟩, a4, a5, a6, a7, a8, a9⟩ := st
    refine hG ?_
    refine Classical.byContradiction fun hG => ?_
    obtain ⟨da, db, ha, hb, rfl⟩ := zipD_get hd
    refine hG ?_
    refine Classical.byContradiction fun hG => ?_
    obtain ⟨x, hx, rx⟩ := a8.get ha
    refine hG ?_
    refine Classical.byContradiction fun hG => ?_
    obtain ⟨y, hy, ry⟩ := a9.get hb
    refine hG ?_
    refine wpAny_pyNext_zip_item D a1 a2 a3 a4 a5 a6 a7 (x := x) (y := y) (by simpa using hx) (by simpa using hy) fun h' b1 b2 b3 b4 b5 b6 b7 => ?_
    have ch : Chg [z, TO, i1, i2] s.heap h' := fun b o hb e => by
      simp at hb
      exact b7 b o hb.1 hb.2.1 hb.2.2.1 hb.2.2.2 e
    refine hQ _ h' s.toks ch fun Q' E' hQ' => ?_
    refine wpAny_letOwnedTupleGo_zip b1 fun h'' c1 c2 => ?_
    have hT : ¬ X s.heap.objs.size := fun q => by
      obtain ⟨o, e⟩ := hxb _ q; exact absurd (Heap.lt_size e) (Nat.lt_irrefl _)
    have sq : SeqExt X s.heap h'' := fun b o items n hxx dd e => c2.extBut b o (fun q => hxx (q ▸ hz)) (ch b o (fun q => by
      simp at q; rcases q with rfl | rfl | rfl | rfl <;> exact hxx (by assumption)) e)
    have l1' : h''.IsList l1 vs.toArray := (a6.at fun o e => ch l1 o (by simp [D.l1z, D.l1TO, D.l1i1, D.l1i2]) e).extBut c2.extBut D.l1z
    have l2' : h''.IsList l2 us.toArray := (a7.at fun o e => ch l2 o (by simp [D.l2z, D.l2TO, D.l2i1, D.l2i2]) e).extBut c2.extBut D.l2z
    refine hQ' h'' (fun b o hb e => c2.extBut b o (fun q => hb (by simp [q])) e) ⟨c1, ?_, ⟨x, y, c2.extBut _ _ D.TOz b2⟩, b3.extBut c2.extBut D.i1z, b4.extBut c2.extBut D.i2z, l1', l2', a8.mono sq fun _ _ z => z, a9.mono sq fun _ _ z => z⟩ ?_
    · exact c2.extBut _ _ D.TIz (ch TI _ (by simp [D.TIz, D.TITO, D.TIi1, D.TIi2]) a2)
    · have hTz : s.heap.objs.size ≠ z := fun q => by rw [← q] at a1; exact absurd (Heap.lt_size a1) (Nat.lt_irrefl _)
      exact .tup (vs := [x, y]) ⟨_, c2.extBut _ _ hTz b5, rfl, 0, rfl⟩ hT (.cons (rx.mono sq fun _ _ z => z) (.cons (ry.mono sq fun _ _ z => z) .nil))
  done := fun A s E Q hh st hQ => by
    refine Classical.byContradiction fun hG => ?_
    obtain ⟨a1, a2, ⟨a, b, a3⟩, a4, a5, a6, a7, a8, a9⟩ := st
    refine hG ?_
    refine wpAny_pyNext_zip_end hh D a1 a2 a3 a4 a5 a6 a7 ?_ fun h' hk => hQ h' s.toks fun b o hb e => ?_
    · unfold zipD
      rw [List.length_zipWith]
      rcases Nat.le_total ds.length es.length with q | q
      · left; simp [hlv]; lia
      · right; simp [hlu]; lia
    · simp at hb
      exact hk b o hb.1 hb.2.1 hb.2.2.1 hb.2.2.2 e
  self := fun A i s E Q st hQ => wpAny_pyIter_zip st.1 hQ

section
variable {c : Cx} {ρ : List (Str × PV)} {e : Expr} {d : PV} {A : Around} {s : Shared} {E : Value → Shared → Prop}
theorem callT_wp {x : Str} {p pos : Pos} {args : List Expr} {id : String} {ds : List PV} {Q : Value → Shared → Prop} (rm : Rm c.k A) (F : c.F ρ s.heap) (hf : Ev c ρ (.Name x p) (.val (.type id))) (ha : EvL c ρ (e :: args) ds)
    (he : starEach (e :: args) c.env = (false, eval e c.env) :: starEach args c.env) (hp : (backTo pos (starEach (e :: args) c.env)).any (·.1) = false)
    (h : ∀ vs s', Keeps s s' → c.F ρ s'.heap → RepL c.X s'.heap vs ds → wpAny (model c.prog c.w) A (call (.type id) vs) Q E s') :
    wpAny (model c.prog c.w) A (eval (.Call (.Name x p) (e :: args) [] pos) c.env) Q E s :=
  wpAny_Call_NameR (hf.wp rm F fun f s₁ k₁ F₁ rf => by
    cases rf
    refine PySem.callWith_type hp ?_
    have g := ha pos A s₁ E rm F₁
    rw [he] at g ⊢
    exact evalArgs_plain (wpAny_mono g (fun vs s₂ q => h vs s₂ (keeps_trans k₁ q.1) (F₁.keeps (keeps_ext q.1)) q.2) fun _ _ x => x))

theorem keeps_none {s s' : Shared} (k : Keeps s s') {a : Addr} (h : s'.heap.objs.size ≤ a) : s.heap.get? a = none := by
  cases q : s.heap.get? a with
  | none => rfl
  | some o => exact absurd (Heap.lt_size (keeps_ext k _ _ q)) (Nat.not_lt.mpr h)

theorem EvIt.zip {elts : List Expr} {kx : Nat} {p pz pos : Pos} {x : Str} {e1 e2 : Expr} {ds es : List PV} (hf : Ev c ρ (.Name x pz) (.val (.type "zip"))) (ha : EvL c ρ [e1, e2] [.list ds, .list es])
    (he : starEach [e1, e2] c.env = (false, eval e1 c.env) :: starEach [e2] c.env) (hp : (backTo pos (starEach [e1, e2] c.env)).any (·.1) = false) :
    EvIt c ρ (.Tuple elts kx p) (.Call (.Name x pz) [e1, e2] [] pos) (zipD ds es) := fun A s E rm F =>
  callT_wp rm F hf ha he hp fun vs s₁ k₁ F₁ rl => by
    refine RepL.consE rl fun _ _ r1 rl => ?_; refine RepL.consE rl fun _ _ r2 rl => ?_; refine RepL.nilE rl ?_; refine Rep.listE r1 fun l1 v1 hi1 hx1 rl1 => ?_; refine Rep.listE r2 fun l2 v2 hi2 hx2 rl2 => ?_
    have hlt1 : l1 < s₁.heap.objs.size := let ⟨o, e, _⟩ := hi1; Heap.lt_size e
    have hlt2 : l2 < s₁.heap.objs.size := let ⟨o, e, _⟩ := hi2; Heap.lt_size e
    refine call_zip_2 hi1 hi2 fun h' a1 a2 a3 a4 a5 a6 a7 => wpAny_pyIter_zip (s := { s₁ with heap := h' }) a1 ?_
    have D : ZipApart (s₁.heap.objs.size + 4) (s₁.heap.objs.size + 2) (s₁.heap.objs.size + 3) s₁.heap.objs.size (s₁.heap.objs.size + 1) l1 l2 := by
      constructor <;> first | exact Nat.ne_of_lt (Nat.lt_of_lt_of_le hlt1 (Nat.le_add_right _ _)) | exact Nat.ne_of_lt (Nat.lt_of_lt_of_le hlt2 (Nat.le_add_right _ _)) | exact Nat.ne_of_lt hlt1 | exact Nat.ne_of_lt hlt2 | (intro q; exact absurd q (by simp)) | (intro q; exact absurd (show s₁.heap.objs.size = s₁.heap.objs.size + 1 from q) (by simp))
    have kk : Keeps s { s₁ with heap := h' } := keeps_trans k₁ (keeps_heap (tk := s₁.toks) a7)
    have new : ∀ b, b ∈ [s₁.heap.objs.size + 4, s₁.heap.objs.size + 3, s₁.heap.objs.size, s₁.heap.objs.size + 1] → s₁.heap.objs.size ≤ b ∧ b < h'.objs.size ∧ ∃ o, h'.get? b = some o := fun b hb => by
      simp at hb
      rcases hb with rfl | rfl | rfl | rfl
      · exact ⟨Nat.le_add_right _ _, Heap.lt_size a1, _, a1⟩
      · exact ⟨Nat.le_add_right _ _, Heap.lt_size a3, _, a3⟩
      · obtain ⟨o, e, _⟩ := a4; exact ⟨Nat.le_refl _, Heap.lt_size e, o, e⟩
      · obtain ⟨o, e, _⟩ := a5; exact ⟨Nat.le_add_right _ _, Heap.lt_size e, o, e⟩
    refine ⟨kk, _, [s₁.heap.objs.size + 4, s₁.heap.objs.size + 3, s₁.heap.objs.size, s₁.heap.objs.size + 1], [s₁.heap.objs.size + 4, s₁.heap.objs.size + 2, s₁.heap.objs.size + 3, s₁.heap.objs.size, s₁.heap.objs.size + 1, l1, l2], rfl, fun b hb => ?_, fun b hb => ?_, fun X' h1 h2 => ?_⟩
    · show b < h'.objs.size
      rw [a6]
      simp at hb
      rcases hb with rfl | rfl | rfl | rfl | rfl | rfl | rfl <;> first | exact Nat.lt_of_lt_of_le hlt1 (Nat.le_add_right _ _) | exact Nat.lt_of_lt_of_le hlt2 (Nat.le_add_right _ _) | exact Nat.add_lt_add_left (by decide) _ | exact Nat.lt_add_of_pos_right (by decide)
    · refine Classical.byContradiction fun hG => ?_
      obtain ⟨n1, n2, n3⟩ := new b hb
      refine hG ?_
      exact ⟨keeps_none k₁ n1, n2, n3⟩
    · have old : ∀ l, l < s₁.heap.objs.size → (∃ o, s₁.heap.get? l = some o) → ¬ c.X l → ¬ X' l := fun l hl ⟨o, e⟩ hx q => by
        rcases h1 l (by show (h'.get? l).isSome = true; rw [a7 _ _ e]; rfl) q with q | q
        · exact hx q
        · exact absurd hl (Nat.not_lt.mpr (new l q).1)
      have hTI : ¬ X' (s₁.heap.objs.size + 2) := fun q => by
        rcases h1 _ (by show (h'.get? _).isSome = true; rw [a2]; rfl) q with q | q
        · obtain ⟨o, e⟩ := F₁.xb _ q; exact absurd (Heap.lt_size e) (by simp)
        · simp at q
      have rr : ∀ {vs ds}, RepL c.X s₁.heap vs ds → RepL X' h' vs ds := fun r => r.mono (fun b o _ _ _ _ e => a7 b o e) fun b hb q => by
        obtain ⟨o, e⟩ := Option.isSome_iff_exists.mp hb
        rcases h1 b (by show (h'.get? b).isSome = true; rw [a7 _ _ e]; rfl) q with q | q
        · exact q
        · exact absurd (Heap.lt_size e) (Nat.not_lt.mpr (new b q).1)
      refine ⟨_, It.zip D (h2 _ (by simp)) (h2 _ (by simp)) (h2 _ (by simp)) (h2 _ (by simp)) hTI (old l1 hlt1 (let ⟨o, e, _⟩ := hi1; ⟨o, e⟩) hx1) (old l2 hlt2 (let ⟨o, e, _⟩ := hi2; ⟨o, e⟩) hx2) v1 v2 ds es rl1.length rl2.length,
        a1, a2, ⟨_, _, a3⟩, a4, a5, hi1.at fun o e => a7 _ _ e, hi2.at fun o e => a7 _ _ e, rr rl1, rr rl2⟩
end
end Mine

namespace Mine

noncomputable def enumFrom' : Nat → List PV → List PV
  | _, [] => []
  | n, d :: ds => .tup [.int n, d] :: enumFrom' (n + 1) ds
theorem enum_len : ∀ (n : Nat) (ds : List PV), (enumFrom' n ds).length = ds.length
  | _, [] => rfl
  | n, _ :: ds => by rw [enumFrom', List.length_cons, enum_len, List.length_cons]
theorem enum_get : ∀ {ds : List PV} {n i : Nat} {d : PV}, (enumFrom' n ds)[i]? = some d → ∃ a, ds[i]? = some a ∧ d = .tup [.int (n + i : Nat), a]
  | [], n, i, d, h => by simp [enumFrom'] at h
  | a :: ds, n, 0, d, h => by simp [enumFrom'] at h; exact ⟨a, rfl, by simp [← h]⟩
  | a :: ds, n, i + 1, d, h => by
    obtain ⟨b, hb, e⟩ := enum_get (ds := ds) (n := n + 1) (i := i) (by simpa [enumFrom'] using h)
    exact ⟨b, by simpa using hb, by rw [e]; congr 4; lia⟩

theorem It.enum {prog : Program} {w : World} {X : Addr → Prop} {elts : List Expr} {kx : Nat} {p : Pos} {e it l : Addr} (hne : e ≠ it) (hle : l ≠ e) (hli : l ≠ it) (he : X e) (hit : X it) (hl : ¬ X l)
    (vs : List Value) (ds : List PV) (hlv : vs.length = ds.length) :
    It prog w X (.Tuple elts kx p) e [e, it] [e, it, l] (enumFrom' 0 ds)
      (fun i h => (∃ old, IsEnum h e it i old) ∧ h.IsListIter it l i ∧ h.IsList l vs.toArray ∧ RepL X h vs ds) where
  wrX := fun b hb => by simp at hb; rcases hb with rfl | rfl <;> assumption
  sub := fun b hb => by simp at hb ⊢; rcases hb with rfl | rfl <;> simp
  fpX := fun b hb x => by
    simp at hb ⊢
    rcases hb with rfl | rfl | rfl <;> first | exact absurd x hl | simp
  frame := fun i h h' st sq hk => by
    obtain ⟨⟨old, a1⟩, a4, a6, a8⟩ := st
    exact ⟨⟨old, hk e (by simp) _ a1⟩, a4.at fun o e => hk it (by simp) o e, a6.at fun o e => hk l (by simp) o e, a8.mono sq fun _ _ z => z⟩
  kind := fun i h st b hb => by
    obtain ⟨⟨old, a1⟩, ⟨o4, e4, c4, d4⟩, ⟨o6, e6, c6, n6, d6⟩, _⟩ := st
    simp at hb
    rcases hb with rfl | rfl | rfl
    · exact ⟨_, a1, notDC_fields rfl⟩
    · exact ⟨_, e4, notDC_fields d4⟩
    · exact ⟨_, e6, notDC_seq d6⟩
  next := fun A i d s E Q hh hxb st hd hQ => by
    obtain ⟨⟨old, a1⟩, a4, a6, a8⟩ := st
    obtain ⟨da, ha, rfl⟩ := enum_get hd
    obtain ⟨x, hx, rx⟩ := a8.get ha
    refine wpAny_pyNext_enum_item a1 a4 a6 (x := x) (by simpa using hx) hne fun h' b1 b3 b5 b6 b7 => ?_
    have ch : Chg [e, it] s.heap h' := fun b o hb e => by
      simp at hb
      exact b7 b o hb.1 hb.2 e
    refine hQ _ h' (s.toks + 1) ch fun Q' E' hQ' => ?_
    refine wpAny_letOwnedTupleGo_enum b1 fun h'' c1 c2 => ?_
    have hT : ¬ X s.heap.objs.size := fun q => by
      obtain ⟨o, e⟩ := hxb _ q; exact absurd (Heap.lt_size e) (Nat.lt_irrefl _)
    have sq : SeqExt X s.heap h'' := fun b o items n hxx dd ee => c2.extBut b o (fun q => hxx (q ▸ he)) (ch b o (fun q => by
      simp at q; rcases q with rfl | rfl <;> exact hxx (by assumption)) ee)
    have l1' : h''.IsList l vs.toArray := (a6.at fun o e => ch l o (by simp [hle, hli]) e).extBut c2.extBut hle
    refine hQ' h'' (fun b o hb e => c2.extBut b o (fun q => hb (by simp [q])) e) ⟨⟨_, by exact_mod_cast c1⟩, b3.extBut c2.extBut (Ne.symm hne), l1', a8.mono sq fun _ _ z => z⟩ ?_
    have hTz : s.heap.objs.size ≠ e := fun q => by rw [← q] at a1; exact absurd (Heap.lt_size a1) (Nat.lt_irrefl _)
    exact .tup (vs := [.int i s.toks, x]) ⟨_, c2.extBut _ _ hTz b5, rfl, 0, rfl⟩ hT (.cons (by rw [Nat.zero_add]; exact .int _ _) (.cons (rx.mono sq fun _ _ z => z) .nil))
  done := fun A s E Q hh st hQ => by
    obtain ⟨⟨old, a1⟩, a4, a6, a8⟩ := st
    rw [enum_len] at a1 a4
    refine wpAny_pyNext_enum_end hh a1 a4 a6 (by simp [hlv]) fun h' hk => hQ h' s.toks fun b o hb e => ?_
    simp at hb
    exact hk b o hb.2 e
  self := fun A i s E Q st hQ => let ⟨_, a1⟩ := st.1; wpAny_pyIter_enum a1 hQ

/-- the numbers of a range -/
noncomputable def rangeD (a : Int) (n : Nat) : List PV := (List.range n).map fun (i : Nat) => .int (a + (i : Int))
theorem rangeD_get {a : Int} {n i : Nat} {d : PV} (h : (rangeD a n)[i]? = some d) : i < n ∧ d = .int (a + i) := by
  unfold rangeD at h
  rw [List.getElem?_map] at h
  cases q : (List.range n)[i]? with
  | none => rw [q] at h; simp at h
  | some j =>
    rw [q] at h
    obtain ⟨h1, h2⟩ := List.getElem?_eq_some_iff.mp q
    simp at h1 h2
    subst h2
    exact ⟨h1, by simpa using h.symm⟩
theorem It.range {prog : Program} {w : World} {X : Addr → Prop} {x : Str} {p : Pos} {I : Addr} (hI : X I) (a : Int) (n : Nat) :
    It prog w X (.Name x p) I [I] [I] (rangeD a n) (fun i h => i ≤ n ∧ IsRangeIter h I (a + i) (n - i) 1) where
  wrX := fun b hb => by rw [List.mem_singleton.mp hb]; exact hI
  sub := fun b hb => hb
  fpX := fun b hb _ => hb
  frame := fun i h h' st sq hk => ⟨st.1, hk I (by simp) _ st.2⟩
  kind := fun i h st b hb => by rw [List.mem_singleton.mp hb]; exact ⟨_, st.2, notDC_fields rfl⟩
  next := fun A i d s E Q hh hxb st hd hQ => by
    obtain ⟨hi, rfl⟩ := rangeD_get hd
    refine wpAny_pyNext_range_item st.2 (by (clear hQ hd st hxb hh hI; lia)) fun h' b1 b2 => ?_
    refine hQ _ h' (s.toks + 1) (fun b o hb e => b2.extBut b o (by simpa using hb) e) fun Q' E' hQ' => wpAny_pure (hQ' h' (fun b o _ e => e) ⟨hi, ?_⟩ (.int _ _))
    have e1 : a + i + 1 = a + ((i + 1 : Nat) : Int) := by push_cast; lia
    have e2 : (n : Int) - i - 1 = (n : Int) - ((i + 1 : Nat) : Int) := by push_cast; lia
    rw [← e1, ← e2]; exact b1
  done := fun A s E Q hh st hQ => by
    have hl : (rangeD a n).length = n := by simp [rangeD]
    rw [hl] at st
    exact wpAny_pyNext_range_end hh st.2 (by lia) fun h' hk => hQ h' s.toks fun b o hb e => hk b o (by simpa using hb) e
  self := fun A i s E Q st hQ => wpAny_pyIter_rangeiter st.2 hQ

theorem It.tupN {prog : Program} {w : World} {X : Addr → Prop} {x : Str} {p : Pos} {I l : Addr} (hne : l ≠ I) (hX : X I) (hl : ¬ X l) (vs : List Value) (ds : List PV) (hlen : vs.length = ds.length) :
    It prog w X (.Name x p) I [I] [I, l] ds (fun i h => h.IsTupleIter I l i ∧ h.IsTuple l vs.toArray ∧ RepL X h vs ds) where
  wrX := fun b hb => by rw [List.mem_singleton.mp hb]; exact hX
  sub := fun b hb => by rw [List.mem_singleton.mp hb]; simp
  fpX := fun b hb x => by
    rcases List.mem_cons.mp hb with rfl | hb
    · exact List.mem_singleton.mpr rfl
    · exact absurd (List.mem_singleton.mp hb ▸ x) hl
  frame := fun i h h' st sq hk => ⟨let ⟨o, e, q⟩ := st.1; ⟨o, hk I (by simp) o e, q⟩, let ⟨o, e, q⟩ := st.2.1; ⟨o, hk l (by simp) o e, q⟩, st.2.2.mono sq fun _ _ z => z⟩
  kind := fun i h st b hb => by
    rcases List.mem_cons.mp hb with rfl | hb
    · obtain ⟨o, e, c, d⟩ := st.1
      exact ⟨o, e, notDC_fields d⟩
    · rw [List.mem_singleton.mp hb]
      obtain ⟨o, e, c, n, d⟩ := st.2.1
      exact ⟨o, e, notDC_seq d⟩
  next := fun A i d s E Q hh hxb st hd hQ => by
    obtain ⟨v, hv, rv⟩ := st.2.2.get hd
    refine wpAny_pyNext_tuple_item st.1 st.2.1 (x := v) (by simpa using hv) fun h' hit' hs' => ?_
    have ch : Chg [I] s.heap h' := fun b o hb e => hs'.extBut b o (by simpa using hb) e
    have hl' : h'.IsTuple l vs.toArray := let ⟨o, e, q⟩ := st.2.1; ⟨o, hs'.extBut _ _ hne e, q⟩
    have sq : SeqExt X s.heap h' := fun b o items n hx dd e => hs'.extBut b o (fun q => hx (q ▸ hX)) e
    exact hQ v h' s.toks ch fun Q' E' hQ' => wpAny_pure (hQ' h' (fun b o _ e => e) ⟨hit', hl', st.2.2.mono sq fun _ _ z => z⟩ (rv.mono sq fun _ _ z => z))
  done := fun A s E Q hh st hQ => wpAny_pyNext_tuple_end hh st.1 st.2.1 (by simp [hlen]) fun h' he' => hQ h' s.toks fun b o hb e => he' b o (by simpa using hb) e
  self := fun A i s E Q st hQ => wpAny_pyIter_tupleiter st.1 hQ

theorem seen_push {h : Heap} {o : Obj} {b : Addr} (hb : (h.get? b).isSome = true) : ((h.push o).get? b).isSome = true := by
  obtain ⟨x, e⟩ := Option.isSome_iff_exists.mp hb; rw [Heap.get?_push_of_some _ e]; rfl

section
variable {c : Cx} {ρ : List (Str × PV)} {e : Expr} {d : PV} {A : Around} {s : Shared} {E : Value → Shared → Prop}
theorem EvIt.tupN {x : Str} {p : Pos} {iter : Expr} {ds : List PV} (h : Ev c ρ iter (.tup ds)) : EvIt c ρ (.Name x p) iter ds := fun A s E r F =>
  h.wp r F fun x s₁ k₁ F₁ rx => by
    refine Rep.tupE rx fun l vs hi hx rl => ?_
    have hlt : l < s₁.heap.objs.size := let ⟨o, e, _⟩ := hi; Heap.lt_size e
    refine wpAny_pyIter_tuple hi ⟨keeps_trans k₁ (keeps_push s₁ _ _), s₁.heap.objs.size, [s₁.heap.objs.size], [s₁.heap.objs.size, l], rfl, fun b hb => ?_, fun b hb => ?_, fun X' h1 h2 => ?_⟩
    · show b < (s₁.heap.push _).objs.size
      rw [Heap.size_push]
      rcases List.mem_cons.mp hb with rfl | hb
      · exact Nat.lt_succ_self _
      · rw [List.mem_singleton.mp hb]; exact Nat.lt_succ_of_lt hlt
    · rw [List.mem_singleton.mp hb]
      exact ⟨keeps_none k₁ (Nat.le_refl _), (by show _ < (s₁.heap.push _).objs.size; rw [Heap.size_push]; exact Nat.lt_succ_self _), _, Heap.get?_push_size _ rfl⟩
    · have hne : l ≠ s₁.heap.objs.size := Nat.ne_of_lt hlt
      have hl' : ¬ X' l := fun z => by
        rcases h1 l (seen_push (let ⟨o, e, _⟩ := hi; by rw [e]; rfl)) z with z | z
        · exact hx z
        · exact hne (List.mem_singleton.mp z)
      refine ⟨_, It.tupN hne (h2 _ (by simp)) hl' vs ds rl.length, ⟨_, Heap.get?_push_size _ rfl, rfl, rfl⟩, hi.push _, ?_⟩
      refine rl.mono (fun b o _ _ _ _ e => Heap.get?_push_of_some _ e) fun b hb z => ?_
      rcases h1 b (seen_push hb) z with z | z
      · exact z
      · obtain ⟨o, e⟩ := Option.isSome_iff_exists.mp hb
        exact absurd (Heap.lt_size e) (by rw [List.mem_singleton.mp z]; exact Nat.lt_irrefl _)

theorem EvIt.enum {elts : List Expr} {kx : Nat} {p pz pos : Pos} {x : Str} {e1 : Expr} {ds : List PV} (hf : Ev c ρ (.Name x pz) (.val (.type "enumerate"))) (ha : EvL c ρ [e1] [.list ds])
    (he : starEach [e1] c.env = (false, eval e1 c.env) :: starEach [] c.env) (hp : (backTo pos (starEach [e1] c.env)).any (·.1) = false) :
    EvIt c ρ (.Tuple elts kx p) (.Call (.Name x pz) [e1] [] pos) (enumFrom' 0 ds) := fun A s E rm F =>
  callT_wp rm F hf ha he hp fun vs s₁ k₁ F₁ rl => by
    refine RepL.consE rl fun _ _ r1 rl => ?_; refine RepL.nilE rl ?_; refine Rep.listE r1 fun l v1 hi hx rl => ?_
    have hlt : l < s₁.heap.objs.size := let ⟨o, e, _⟩ := hi; Heap.lt_size e
    refine call_enumerate_list hi fun h' a1 a2 a3 a4 => wpAny_pyIter_enum (s := { s₁ with heap := h' }) a1 ?_
    have n1 : s₁.heap.objs.size + 1 ≠ s₁.heap.objs.size := Nat.succ_ne_self _
    have kk : Keeps s { s₁ with heap := h' } := keeps_trans k₁ (keeps_heap (tk := s₁.toks) a4)
    refine ⟨kk, _, [s₁.heap.objs.size + 1, s₁.heap.objs.size], [s₁.heap.objs.size + 1, s₁.heap.objs.size, l], rfl, fun b hb => ?_, fun b hb => ?_, fun X' h1 h2 => ?_⟩
    · show b < h'.objs.size
      rw [a3]
      simp at hb
      rcases hb with rfl | rfl | rfl <;> first | exact Nat.lt_of_lt_of_le hlt (Nat.le_add_right _ _) | exact Nat.add_lt_add_left (by decide) _ | exact Nat.lt_add_of_pos_right (by decide)
    · simp at hb
      rcases hb with rfl | rfl
      · exact ⟨keeps_none k₁ (Nat.le_add_right _ _), Heap.lt_size a1, _, a1⟩
      · obtain ⟨o, e, _⟩ := a2; exact ⟨keeps_none k₁ (Nat.le_refl _), Heap.lt_size e, o, e⟩
    · have new : ∀ b, b ∈ [s₁.heap.objs.size + 1, s₁.heap.objs.size] → s₁.heap.objs.size ≤ b := fun b hb => by
        simp at hb; rcases hb with rfl | rfl
        · exact Nat.le_add_right _ _
        · exact Nat.le_refl _
      have lv : ∀ b, (s₁.heap.get? b).isSome = true → X' b → c.X b := fun b hb z => by
        obtain ⟨o, e⟩ := Option.isSome_iff_exists.mp hb
        rcases h1 b (by show (h'.get? b).isSome = true; rw [a4 _ _ e]; rfl) z with z | z
        · exact z
        · exact absurd (Heap.lt_size e) (Nat.not_lt.mpr (new b z))
      refine ⟨_, It.enum n1 (Nat.ne_of_lt (Nat.lt_succ_of_lt hlt)) (Nat.ne_of_lt hlt) (h2 _ (by simp)) (h2 _ (by simp)) (fun z => hx (lv l (let ⟨o, e, _⟩ := hi; by rw [e]; rfl) z)) v1 ds rl.length, ⟨_, a1⟩, a2, hi.at fun o e => a4 _ _ e, rl.mono (fun b o _ _ _ _ e => a4 b o e) lv⟩

theorem range_made {s s₁ : Shared} {x : Str} {p : Pos} {n : Nat} {a b : Int} {t u v : Tok} {h : Heap} {tk : Nat} (k₁ : Keeps s s₁) (he : Ext s₁.heap h) (hr : IsRange h s₁.heap.objs.size a b 1 t u v) (hn : Builtin.Range.rangeSize a b 1 = n) (hs : Builtin.Range.small a b 1 = true) (hsz : h.objs.size = s₁.heap.objs.size + 1) :
    wpAny (model c.prog c.w) A (pyIter (.ref s₁.heap.objs.size)) (ItMade c (.Name x p) (rangeD a n) s) E { s₁ with heap := h, toks := tk } := by
  refine wpAny_pyIter_range hr hs ?_
  rw [hn]
  show ItMade c (.Name x p) (rangeD a n) s (.ref h.objs.size) _
  refine ⟨keeps_trans k₁ (keeps_heap (tk := tk) fun b o e => Heap.get?_push_of_some _ (he b o e)), _, [h.objs.size], [h.objs.size], rfl, fun b hb => ?_, fun b hb => ?_, fun X' h1 h2 => ?_⟩
  · rw [List.mem_singleton.mp hb]; show _ < (h.push _).objs.size; rw [Heap.size_push]; exact Nat.lt_succ_self _
  · rw [List.mem_singleton.mp hb]
    exact ⟨keeps_none k₁ (by rw [hsz]; exact Nat.le_succ _), (by show _ < (h.push _).objs.size; rw [Heap.size_push]; exact Nat.lt_succ_self _), _, Heap.get?_push_size _ rfl⟩
  · refine ⟨_, It.range (h2 _ (by simp)) a n, Nat.zero_le _, ?_⟩
    have := Heap.get?_push_size h (o := { cls := .type "range_iterator", data := .fields #[rawInt a, rawInt n, rawInt 1] }) rfl
    simpa using this
theorem EvIt.range1 {xn x : Str} {p pz pos : Pos} {e1 : Expr} {n : Nat} {i : Int} (hi : i = (n : Int)) (hn : n < 2 ^ 40) (hf : Ev c ρ (.Name x pz) (.val (.type "range"))) (ha : EvL c ρ [e1] [.int i])
    (he : starEach [e1] c.env = (false, eval e1 c.env) :: starEach [] c.env) (hp : (backTo pos (starEach [e1] c.env)).any (·.1) = false) :
    EvIt c ρ (.Name xn p) (.Call (.Name x pz) [e1] [] pos) (rangeD 0 n) := fun A s E rm F =>
  callT_wp rm F hf ha he hp fun vs s₁ k₁ F₁ rl => by
    subst hi
    refine RepL.consE rl fun _ _ r1 rl => ?_; refine RepL.nilE rl ?_; refine Rep.intE r1 fun t => ?_
    exact call_range_1 (range_made k₁ (fun _ _ e => Heap.get?_push_of_some _ e) (Heap.get?_push_size _ rfl) (by rw [rangeSize_one]; split <;> lia) (small_one (by lia) (by lia) (by lia) (by lia)) (Heap.size_push ..))
theorem EvIt.range2 {xn x : Str} {p pz pos : Pos} {e1 e2 : Expr} {n : Nat} {a b : Int} (hb : b = a + (n : Int)) (ha0 : 0 ≤ a) (ha1 : a < 2 ^ 40) (hn : n < 2 ^ 40) (hf : Ev c ρ (.Name x pz) (.val (.type "range"))) (ha : EvL c ρ [e1, e2] [.int a, .int b])
    (he : starEach [e1, e2] c.env = (false, eval e1 c.env) :: starEach [e2] c.env) (hp : (backTo pos (starEach [e1, e2] c.env)).any (·.1) = false) :
    EvIt c ρ (.Name xn p) (.Call (.Name x pz) [e1, e2] [] pos) (rangeD a n) := fun A s E rm F =>
  callT_wp rm F hf ha he hp fun vs s₁ k₁ F₁ rl => by
    subst hb
    refine RepL.consE rl fun _ _ r1 rl => ?_; refine RepL.consE rl fun _ _ r2 rl => ?_; refine RepL.nilE rl ?_; refine Rep.intE r1 fun t => ?_; refine Rep.intE r2 fun u => ?_
    exact call_range_2 (range_made k₁ (fun _ _ e => Heap.get?_push_of_some _ e) (Heap.get?_push_size _ rfl) (by rw [rangeSize_one]; split <;> lia) (small_one (by lia) (by lia) (by lia) (by lia)) (Heap.size_push ..))
end
end Mine

namespace Mine

theorem zip_no_len : typeLookup (.type "zip") "__len__" = pure none := by rw [typeLookup_type, builtinLookup_eq_fast]; kernel_rfl!
theorem zip_no_hint : typeLookup (.type "zip") "__length_hint__" = pure none := by rw [typeLookup_type, builtinLookup_eq_fast]; kernel_rfl!

noncomputable abbrev IsZipB (h : Heap) (z TI TO : Addr) (f0 : Value) (f1 : Bool) : Prop :=
  h.get? z = some { cls := .type "zip", dict := none, data := .fields #[f0, .bool f1, .bool false, .ref TI, .ref TO], slots := #[] }

section
variable {prog : Program} {w : World} {A : Around} {E : Value → Shared → Prop} {s : Shared}

theorem wpAny_loadAlive {T : Addr} {o : Obj} {Q : Option Obj → Shared → Prop} (e : s.heap.get? T = some o) (h : Q (some o) s) : wpAny (model prog w) A (loadIfAlive T) Q E s := fun Γ p hΓ => by
  show Sem.wp _ _ (.loadIfAlive T .pure) _ _ _ _
  rw [Sem.wp_loadIfAlive, e]
  exact wpAny_pure (M := model prog w) (A := A) (E := E) h Γ p hΓ

theorem zip_more_item {z TI TO i1 i2 l1 l2 T : Addr} {oT : Obj} {f1 : Bool} {k1 k2 : Nat} {xs ys : Array Value} {x y : Value} {Q : Value → Shared → Prop} (D : ZipApart z TI TO i1 i2 l1 l2)
    (hz : IsZipB s.heap z TI TO (rawInt T) f1) (hT : s.heap.get? T = some oT) (hTz : T ≠ z) (hTI : IsPair s.heap TI (.ref i1) (.ref i2))
    (h1 : s.heap.IsListIter i1 l1 k1) (h2 : s.heap.IsListIter i2 l2 k2) (hl1 : s.heap.IsList l1 xs) (hl2 : s.heap.IsList l2 ys) (hx : xs[k1]? = some x) (hy : ys[k2]? = some y)
    (hQ : ∀ h' T', IsZipB h' z TI TO (rawInt T) true → h'.IsListIter i1 l1 (k1 + 1) → h'.IsListIter i2 l2 (k2 + 1) → IsPair h' T' x y → s.heap.objs.size ≤ T' →
      (∀ c o, c ≠ z → c ≠ i1 → c ≠ i2 → s.heap.get? c = some o → h'.get? c = some o) → Q (.ref T') { s with heap := h' }) :
    wpAny (model prog w) A (Builtin.«zip.__next__» ⟨[.ref z], []⟩) (fun fin s' => ∃ v, fin = .done (.ret v) ∧ Q v s') E s := by
  show wpAny _ _ (field (.ref z) 2 >>= _) _ _ _
  refine wpAny_bind (wpAny_field hz rfl (x := .bool false) rfl ?_)
  show wpAny _ _ (field (.ref z) 3 >>= _) _ _ _
  refine wpAny_bind (wpAny_field hz rfl (x := .ref TI) rfl ?_)
  refine wpAny_bind (wpAny_seqItems hTI rfl ?_)
  show wpAny _ _ (Builtin.SmallTypes.ownedTupleIsFree (.ref z) >>= _) _ _ _
  refine wpAny_bind ?_
  unfold Builtin.SmallTypes.ownedTupleIsFree
  refine wpAny_bind (wpAny_field hz rfl (x := rawInt T) rfl ?_)
  show wpAny _ _ (loadIfAlive ((T : Int).toNat) >>= _) _ _ _
  rw [Int.toNat_natCast]
  refine wpAny_bind (wpAny_loadAlive hT ?_)
  rw [if_neg (by simp)]
  refine wpAny_bind (wpAny_field hz rfl (x := .bool f1) rfl ?_)
  have tail : ∀ h₁, IsZipB h₁ z TI TO (rawInt T) true → Heap.SameBut z s.heap h₁ → ∀ (K : Bool → Sem PySem.Fin), True := fun _ _ _ _ => trivial
  have rest : ∀ (h₁ : Heap) (f : Value → Option PySem.Fin × Array Value → Sem (ForInStep (Option PySem.Fin × Array Value))) (g : Option PySem.Fin × Array Value → Sem PySem.Fin), IsZipB h₁ z TI TO (rawInt T) true → Heap.SameBut z s.heap h₁ →
      (∀ it items, ∃ N : Sem (ForInStep (Option PySem.Fin × Array Value)), f it (none, items) = (holding items.toList (do return some (← Builtin.SmallTypes.nextOf it)) >>= fun o => match o with | some x => pure (ForInStep.yield (none, items.push x)) | none => N)) →
      (∀ items, g (none, items) = (newTuple items.toList >>= fun t => ret t)) →
      wpAny (model prog w) A (forIn (#[Value.ref i1, .ref i2] : Array Value) (none, #[]) f >>= g) (fun fin s' => ∃ v, fin = .done (.ret v) ∧ Q v s') E { s with heap := h₁ } := by
    intro h₁ f g hz₁ hs₁ hf hg
    refine wpAny_bind ?_
    simp only [List.forIn_toArray, List.forIn_cons, List.forIn_nil]
    obtain ⟨N1, e1⟩ := hf (.ref i1) #[]
    rw [e1]
    refine wpAny_bind (wpAny_bind (wpAny_holding ?_))
    refine wpAny_bind (wpAny_nextOf_list_item (h1.extBut hs₁.extBut D.i1z) (hl1.extBut hs₁.extBut D.l1z) hx fun h₂ h1₂ hs₂ => wpAny_pure ?_)
    refine wpAny_pure ?_
    obtain ⟨N2, e2⟩ := hf (.ref i2) (#[].push x)
    dsimp only
    rw [e2]
    refine wpAny_bind (wpAny_bind (wpAny_holding ?_))
    refine wpAny_bind (wpAny_nextOf_list_item (((h2.extBut hs₁.extBut D.i2z).extBut hs₂.extBut D.i12.symm)) (((hl2.extBut hs₁.extBut D.l2z).extBut hs₂.extBut D.l2i1)) hy fun h₃ h2₃ hs₃ => wpAny_pure ?_)
    refine wpAny_pure (wpAny_pure ?_)
    rw [hg]
    refine wpAny_bind (wpAny_newTuple (wpAny_pure ⟨_, rfl, ?_⟩) (by show 2 ≤ sizeLine; decide))
    have hsz : h₃.objs.size = s.heap.objs.size := by rw [hs₃.1, hs₂.1, hs₁.1]
    have hk : ∀ c o, c ≠ z → c ≠ i1 → c ≠ i2 → s.heap.get? c = some o → h₃.get? c = some o := fun c o c1 c3 c4 e => hs₃.extBut _ _ c4 (hs₂.extBut _ _ c3 (hs₁.extBut _ _ c1 e))
    have up : ∀ c o, h₃.get? c = some o → (h₃.push { cls := .type "tuple", data := .seq #[x, y] }).get? c = some o := fun c o e => Heap.get?_push_of_some _ e
    exact hQ _ _ (up _ _ (hs₃.extBut _ _ D.i2z.symm (hs₂.extBut _ _ D.i1z.symm hz₁))) ((h1₂.extBut hs₃.extBut D.i12).at fun o e => up _ o e) (h2₃.at fun o e => up _ o e) (Heap.get?_push_size _ rfl) (by rw [hsz]; exact Nat.le_refl _) fun c o c1 c3 c4 e => up c o (hk c o c1 c3 c4 e)
  cases f1 with
  | true =>
    show wpAny _ _ (pure false) _ _ _
    refine wpAny_pure ?_
    exact rest s.heap _ _ hz ⟨rfl, fun _ _ => rfl⟩ (fun it items => ⟨_, rfl⟩) (fun _ => rfl)
  | false =>
    refine wpAny_bind (wpAny_setField_rec hz (by simp) fun h₁ hz₁ hs₁ => ?_)
    refine wpAny_pure ?_
    exact rest h₁ _ _ hz₁ hs₁ (fun it items => ⟨_, rfl⟩) (fun _ => rfl)

theorem zip_more_end {z TI TO i1 i2 l1 l2 T : Addr} {oT : Obj} {f1 : Bool} {k1 : Nat} {xs : Array Value} {Q : PySem.Fin → Shared → Prop} (hh : A.handled = none) (D : ZipApart z TI TO i1 i2 l1 l2)
    (hz : IsZipB s.heap z TI TO (rawInt T) f1) (hT : s.heap.get? T = some oT) (hTI : IsPair s.heap TI (.ref i1) (.ref i2))
    (h1 : s.heap.IsListIter i1 l1 k1) (hl1 : s.heap.IsList l1 xs) (hx : xs[k1]? = none)
    (hE : ∀ h' e, (∀ c o, c ≠ z → c ≠ i1 → s.heap.get? c = some o → h'.get? c = some o) → (∃ o, h'.get? e = some o ∧ o.cls = .type "StopIteration") → E (.ref e) { s with heap := h' }) :
    wpAny (model prog w) A (Builtin.«zip.__next__» ⟨[.ref z], []⟩) Q E s := by
  show wpAny _ _ (field (.ref z) 2 >>= _) _ _ _
  refine wpAny_bind (wpAny_field hz rfl (x := .bool false) rfl ?_)
  show wpAny _ _ (field (.ref z) 3 >>= _) _ _ _
  refine wpAny_bind (wpAny_field hz rfl (x := .ref TI) rfl ?_)
  refine wpAny_bind (wpAny_seqItems hTI rfl ?_)
  show wpAny _ _ (Builtin.SmallTypes.ownedTupleIsFree (.ref z) >>= _) _ _ _
  refine wpAny_bind ?_
  unfold Builtin.SmallTypes.ownedTupleIsFree
  refine wpAny_bind (wpAny_field hz rfl (x := rawInt T) rfl ?_)
  show wpAny _ _ (loadIfAlive ((T : Int).toNat) >>= _) _ _ _
  rw [Int.toNat_natCast]
  refine wpAny_bind (wpAny_loadAlive hT ?_)
  rw [if_neg (by simp)]
  refine wpAny_bind (wpAny_field hz rfl (x := .bool f1) rfl ?_)
  have rest : ∀ (h₁ : Heap) (f : Value → Option PySem.Fin × Array Value → Sem (ForInStep (Option PySem.Fin × Array Value))) (g : Option PySem.Fin × Array Value → Sem PySem.Fin), IsZipB h₁ z TI TO (rawInt T) true → Heap.SameBut z s.heap h₁ →
      (∀ it items, ∃ N : Sem (ForInStep (Option PySem.Fin × Array Value)), f it (none, items) = (holding items.toList (do return some (← Builtin.SmallTypes.nextOf it)) >>= fun o => match o with | some x => pure (ForInStep.yield (none, items.push x)) | none => N)) →
      wpAny (model prog w) A (forIn (#[Value.ref i1, .ref i2] : Array Value) (none, #[]) f >>= g) Q E { s with heap := h₁ } := by
    intro h₁ f g hz₁ hs₁ hf
    refine wpAny_bind ?_
    simp only [List.forIn_toArray, List.forIn_cons, List.forIn_nil]
    obtain ⟨N1, e1⟩ := hf (.ref i1) #[]
    rw [e1]
    refine wpAny_bind (wpAny_bind (wpAny_holding ?_))
    refine wpAny_bind (wpAny_nextOf_list_end hh (h1.extBut hs₁.extBut D.i1z) (hl1.extBut hs₁.extBut D.l1z) hx fun h₂ e hs₂ he => ?_)
    exact hE h₂ e (fun c o c1 c3 x => hs₂ _ _ c3 (hs₁.extBut _ _ c1 x)) he
  cases f1 with
  | true =>
    show wpAny _ _ (pure false) _ _ _
    refine wpAny_pure ?_
    exact rest s.heap _ _ hz ⟨rfl, fun _ _ => rfl⟩ (fun it items => ⟨_, rfl⟩)
  | false =>
    refine wpAny_bind (wpAny_setField_rec hz (by simp) fun h₁ hz₁ hs₁ => ?_)
    refine wpAny_pure ?_
    exact rest h₁ _ _ hz₁ hs₁ (fun it items => ⟨_, rfl⟩)

theorem pyNext_zip_more_item {z TI TO i1 i2 l1 l2 T : Addr} {oT : Obj} {f1 : Bool} {k1 k2 : Nat} {xs ys : Array Value} {x y : Value} {Q : Option Value → Shared → Prop} (D : ZipApart z TI TO i1 i2 l1 l2)
    (hz : IsZipB s.heap z TI TO (rawInt T) f1) (hT : s.heap.get? T = some oT) (hTz : T ≠ z) (hTI : IsPair s.heap TI (.ref i1) (.ref i2))
    (h1 : s.heap.IsListIter i1 l1 k1) (h2 : s.heap.IsListIter i2 l2 k2) (hl1 : s.heap.IsList l1 xs) (hl2 : s.heap.IsList l2 ys) (hx : xs[k1]? = some x) (hy : ys[k2]? = some y)
    (hQ : ∀ h' T', IsZipB h' z TI TO (rawInt T) true → h'.IsListIter i1 l1 (k1 + 1) → h'.IsListIter i2 l2 (k2 + 1) → IsPair h' T' x y → s.heap.objs.size ≤ T' →
      (∀ c o, c ≠ z → c ≠ i1 → c ≠ i2 → s.heap.get? c = some o → h'.get? c = some o) → Q (some (.ref T')) { s with heap := h' }) :
    wpAny (model prog w) A (pyNext (.ref z)) Q E s := by
  have hTy : s.TypeIs (.ref z) "zip" := ⟨_, hz, rfl⟩
  unfold pyNext
  exact wpAny_bind (wpAny_attempt (wpAny_callSpecial?_slot (name := Str.ofString "__next__") hTy F.slot_zip_next
    (wpAny_call_entry F.slot_zip_next hTy F.entry_zip_next
      (zip_more_item D hz hT hTz hTI h1 h2 hl1 hl2 hx hy fun h' T' a1 a2 a3 a4 a5 a6 => wpAny_pure (hQ h' T' a1 a2 a3 a4 a5 a6)) (F.args_zip_next_1 _))))
theorem pyNext_zip_more_end {z TI TO i1 i2 l1 l2 T : Addr} {oT : Obj} {f1 : Bool} {k1 : Nat} {xs : Array Value} {Q : Option Value → Shared → Prop} (hh : A.handled = none) (D : ZipApart z TI TO i1 i2 l1 l2)
    (hz : IsZipB s.heap z TI TO (rawInt T) f1) (hT : s.heap.get? T = some oT) (hTI : IsPair s.heap TI (.ref i1) (.ref i2))
    (h1 : s.heap.IsListIter i1 l1 k1) (hl1 : s.heap.IsList l1 xs) (hx : xs[k1]? = none)
    (hQ : ∀ h', (∀ c o, c ≠ z → c ≠ i1 → s.heap.get? c = some o → h'.get? c = some o) → Q none { s with heap := h' }) : wpAny (model prog w) A (pyNext (.ref z)) Q E s := by
  have hTy : s.TypeIs (.ref z) "zip" := ⟨_, hz, rfl⟩
  unfold pyNext
  refine wpAny_bind (wpAny_attempt (wpAny_callSpecial?_slot (name := Str.ofString "__next__") hTy F.slot_zip_next
    (wpAny_call_entry F.slot_zip_next hTy F.entry_zip_next (zip_more_end hh D hz hT hTI h1 hl1 hx fun h' e hk he => ?_) (F.args_zip_next_1 _))))
  obtain ⟨o, ho, hc⟩ := he
  refine wpAny_bind (wpAny_isInstance (T := "StopIteration") (b := true) ⟨o, ho, hc⟩ isSubtype_stop ?_)
  exact wpAny_pure (hQ _ hk)

noncomputable abbrev ZipIn (z TI TO i1 i2 l1 l2 : Addr) (Y : Addr → Prop) (vs us : List Value) (ds es : List PV) (i : Nat) (h : Heap) : Prop :=
  ((IsZip h z TI TO .none ∧ ∃ a b, IsPair h TO a b) ∨ (∃ (T : Addr) (oT : Obj) (f1 : Bool), IsZipB h z TI TO (rawInt T) f1 ∧ h.get? T = some oT ∧ z < T)) ∧ IsPair h TI (.ref i1) (.ref i2) ∧ h.IsListIter i1 l1 i ∧ h.IsListIter i2 l2 i ∧ h.IsList l1 vs.toArray ∧ h.IsList l2 us.toArray ∧ RepL Y h vs ds ∧ RepL Y h us es

theorem zip_loop {z TI TO i1 i2 l1 l2 S : Addr} {Y : Addr → Prop} {vs us : List Value} {ds es : List PV} {res : Value} {R : Result → Shared → Prop} (D : ZipApart z TI TO i1 i2 l1 l2) (hh : A.handled = none) (hlv : vs.length = ds.length) (hlu : us.length = es.length) (hle : ds.length = es.length)
    (hS : z < S) (hST : TI < z ∧ TO < z ∧ i1 < z ∧ i2 < z ∧ l1 < z ∧ l2 < z) (hY : ∀ b, Y b → b < z ∨ b = z ∨ b = S) (hYw : ∀ b, b ∈ [z, TO, i1, i2, S] → Y b) (hsz : ds.length ≤ sizeLine) :
    ∀ (k i : Nat) (s : Shared) (acc : Array Value) (c : Nat), ds.length - i = k → i ≤ ds.length → ZipIn z TI TO i1 i2 l1 l2 Y vs us ds es i s.heap → s.heap.get? S = some { cls := .type "list", dict := none, data := .seq acc c, slots := #[] } → acc.size = i → RepL Y s.heap acc.toList ((zipD ds es).take i) →
    (∀ h' acc' c', (∀ b o, b ∉ [z, TO, i1, i2, S] → s.heap.get? b = some o → h'.get? b = some o) → h'.get? S = some { cls := .type "list", dict := none, data := .seq acc' c', slots := #[] } → RepL Y h' acc'.toList (zipD ds es) → R (.ok (.ret res)) { s with heap := h' }) →
    codeAny (model prog w) A (.builtin "list.extend.loop" ⟨[.ref S, .ref z, res], []⟩) R s := by
  have hzl : (zipD ds es).length = ds.length := by unfold zipD; rw [List.length_zipWith, hle, Nat.min_self]
  intro k
  induction k with
  | zero =>
    intro i s acc c hk hi st hSl hai racc hR
    have hin : i = ds.length := by (clear hR racc hai hSl st hzl hsz hYw hY hST hS hle hlu hlv hh D; lia)
    subst hin
    obtain ⟨st0, a2, a4, a5, a6, a7, a8, a9⟩ := st
    rw [List.take_of_length_le (by lia)] at racc
    refine codeAny_builtin F.entry_extend_loop ?_
    rw [Around.under_plainId F.plain_extend_loop _]
    show wpAny _ A.in1 (pyNext (.ref z) >>= _) _ _ s
    have fin : ∀ h', (∀ c o, c ≠ z → c ≠ TO → c ≠ i1 → c ≠ i2 → s.heap.get? c = some o → h'.get? c = some o) → R (.ok (.ret res)) { s with heap := h' } := fun h' hk => by
      have hk' : ∀ b o, b ∉ [z, TO, i1, i2, S] → s.heap.get? b = some o → h'.get? b = some o := fun b o hb e => by
        simp at hb; exact hk b o hb.1 hb.2.1 hb.2.2.1 hb.2.2.2.1 e
      have nS : S ≠ z ∧ S ≠ TO ∧ S ≠ i1 ∧ S ≠ i2 := ⟨Nat.ne_of_gt hS, Nat.ne_of_gt (Nat.lt_trans hST.2.1 hS), Nat.ne_of_gt (Nat.lt_trans hST.2.2.1 hS), Nat.ne_of_gt (Nat.lt_trans hST.2.2.2.1 hS)⟩
      exact hR h' acc c hk' (hk S _ nS.1 nS.2.1 nS.2.2.1 nS.2.2.2 hSl) (racc.mono (fun b o items n hx dd e => hk' b o (fun q => hx (hYw b q)) e) fun _ _ z => z)
    rcases st0 with ⟨b1, a, b, b2⟩ | ⟨T, oT, f1, b1, b2, b3⟩
    · exact wpAny_bind (wpAny_pyNext_zip_end hh D b1 a2 b2 a4 a5 a6 a7 (.inl (by simp [hlv])) fun h' hk => wpAny_pure (fin h' hk))
    · exact wpAny_bind (pyNext_zip_more_end hh D b1 b2 a2 a4 a6 (by simp [hlv]) fun h' hk => wpAny_pure (fin h' fun c o c1 _ c3 _ e => hk c o c1 c3 e))
  | succ k ih =>
    intro i s acc c hk hi st hSl hai racc hR
    have hlt : i < ds.length := by (clear hR racc hai hSl st hi ih hzl hsz hYw hY hST hS hle hlu hlv hh D; omega)
    obtain ⟨st0, a2, a4, a5, a6, a7, a8, a9⟩ := st
    obtain ⟨d, hd⟩ : ∃ d, (zipD ds es)[i]? = some d := ⟨_, List.getElem?_eq_getElem (by lia)⟩
    obtain ⟨da, db, hda, hdb, rfl⟩ := zipD_get hd
    obtain ⟨x, hx, rx⟩ := a8.get hda
    obtain ⟨y, hy, ry⟩ := a9.get hdb
    refine codeAny_builtin F.entry_extend_loop ?_
    rw [Around.under_plainId F.plain_extend_loop _]
    show wpAny _ A.in1 (pyNext (.ref z) >>= _) _ _ s
    have nS : S ≠ z ∧ S ≠ TO ∧ S ≠ i1 ∧ S ≠ i2 := ⟨Nat.ne_of_gt hS, Nat.ne_of_gt (Nat.lt_trans hST.2.1 hS), Nat.ne_of_gt (Nat.lt_trans hST.2.2.1 hS), Nat.ne_of_gt (Nat.lt_trans hST.2.2.2.1 hS)⟩
    have hSlt : S < s.heap.objs.size := Heap.lt_size hSl
    have next : ∀ (h' : Heap) (T T' : Addr), (∃ (f1 : Bool) (oT : Obj), IsZipB h' z TI TO (rawInt T) f1 ∧ h'.get? T = some oT ∧ z < T) → h'.IsListIter i1 l1 (i + 1) → h'.IsListIter i2 l2 (i + 1) → IsPair h' T' x y → s.heap.objs.size ≤ T' →
        (∀ c o, c ≠ z → c ≠ TO → c ≠ i1 → c ≠ i2 → s.heap.get? c = some o → h'.get? c = some o) →
        wpAny (model prog w) A.in1 (updateSeq S (·.push (.ref T')) >>= fun _ => again (.builtin "list.extend.loop" ⟨[.ref S, .ref z, res], []⟩)) (fun fin s' => match fin with | .done f => R (.ok f) s' | .again c' => c'.quiet = true ∧ codeAny (model prog w) A c' R s') (fun e s' => R (.error e) s') { s with heap := h' } := by
      rintro h' T T' ⟨f1, oT, b1, b2, b3⟩ b4 b5 b6 b7 b8
      have ch : ∀ b o, b ∉ [z, TO, i1, i2, S] → s.heap.get? b = some o → h'.get? b = some o := fun b o hb e => by
        simp at hb; exact b8 b o hb.1 hb.2.1 hb.2.2.1 hb.2.2.2.1 e
      have hSl' := b8 S _ nS.1 nS.2.1 nS.2.2.1 nS.2.2.2 hSl
      have nT : T' ≠ z ∧ T' ≠ S ∧ ¬ Y T' := by
        have zT : z < T' := Nat.lt_of_lt_of_le (Nat.lt_trans hS hSlt) b7
        have ST : S < T' := Nat.lt_of_lt_of_le hSlt b7
        refine ⟨Nat.ne_of_gt zT, Nat.ne_of_gt ST, fun q => ?_⟩
        rcases hY _ q with q | q | q
        · exact absurd (Nat.lt_trans q zT) (Nat.lt_irrefl _)
        · exact Nat.ne_of_gt zT q
        · exact Nat.ne_of_gt ST q
      have sq : SeqExt Y s.heap h' := fun b o items n hx dd e => ch b o (fun q => hx (hYw b q)) e
      refine wpAny_bind (wpAny_updateSeq hSl' rfl ?_ (by rw [hai]; lia) (by show (acc.push _).size ≤ sizeLine + 1; rw [Array.size_push, hai]; lia))
      have oth : ∀ b o, b ≠ S → h'.get? b = some o → (h'.update S (Obj.mapSeq (·.push (.ref T')))).get? b = some o := fun b o hb e => (Heap.get?_update_other _ _ (Ne.symm hb)).trans e
      have hS2 := Heap.get?_update_self (Obj.mapSeq (·.push (Value.ref T'))) hSl' rfl
      have sq2 : SeqExt Y h' (h'.update S (Obj.mapSeq (·.push (.ref T')))) := fun b o items n hx dd e => oth b o (fun q => hx (hYw b (by simp [q]))) e
      have below : ∀ b, b < z → b ≠ S := fun b hb => Nat.ne_of_lt (Nat.lt_trans hb hS)
      have TIn : TI ∉ [z, TO, i1, i2, S] := by
        have := below TI hST.1
        simp [D.TIz, D.TITO, D.TIi1, D.TIi2, this]
      have l1n : l1 ∉ [z, TO, i1, i2, S] := by
        have := below l1 hST.2.2.2.2.1
        simp [D.l1z, D.l1TO, D.l1i1, D.l1i2, this]
      have l2n : l2 ∉ [z, TO, i1, i2, S] := by
        have := below l2 hST.2.2.2.2.2
        simp [D.l2z, D.l2TO, D.l2i1, D.l2i2, this]
      refine wpAny_pure ⟨plainId_quiet F.plain_extend_loop _, ih (i + 1) _ (acc.push (.ref T')) _ (by (clear l2n l1n TIn below sq2 hS2 oth sq nT hSl' ch b8 b7 b6 b5 b4 b3 b2 b1 hSlt nS ry hy rx hx hd hdb hda a9 a8 a7 a6 a5 a4 a2 st0 hlt hR racc hai hSl hi ih hzl hsz hYw hY hST hS hle hlu hlv hh D; omega)) hlt ⟨.inr ?_, oth _ _ (below TI hST.1) (ch _ _ TIn a2), b4.at fun o e => oth _ o (below i1 hST.2.2.1) e, b5.at fun o e => oth _ o (below i2 hST.2.2.2.1) e, (a6.at fun o e => ch _ o l1n e).at fun o e => oth _ o (below l1 hST.2.2.2.2.1) e, (a7.at fun o e => ch _ o l2n e).at fun o e => oth _ o (below l2 hST.2.2.2.2.2) e, (a8.mono sq fun _ _ z => z).mono sq2 fun _ _ z => z, (a9.mono sq fun _ _ z => z).mono sq2 fun _ _ z => z⟩ hS2 (by rw [Array.size_push, hai]) ?_ fun h'' acc' c' hk'' hS'' r'' => ?_⟩
      · by_cases hTS : T = S
        · subst hTS
          exact ⟨T, _, f1, oth _ _ (Nat.ne_of_lt hS) b1, hS2, b3⟩
        · exact ⟨T, oT, f1, oth _ _ (Nat.ne_of_lt hS) b1, oth _ _ hTS b2, b3⟩
      · rw [lookup_take_succ hd, Array.toList_push]
        refine ((racc.mono sq fun _ _ z => z).mono sq2 fun _ _ z => z).append (.cons ?_ .nil)
        exact .tup (vs := [x, y]) ⟨_, oth _ _ nT.2.1 b6, rfl, 0, rfl⟩ nT.2.2 (.cons ((rx.mono sq fun _ _ z => z).mono sq2 fun _ _ z => z) (.cons ((ry.mono sq fun _ _ z => z).mono sq2 fun _ _ z => z) .nil))
      · exact hR h'' acc' c' (fun b o hb e => hk'' b o hb (oth b o (by simp at hb; exact hb.2.2.2.2) (ch b o hb e))) hS'' r''
    rcases st0 with ⟨b1, a, b, b2⟩ | ⟨T, oT, f1, b1, b2, b3⟩
    · refine wpAny_bind (wpAny_pyNext_zip_item D b1 a2 b2 a4 a5 a6 a7 (x := x) (y := y) (by simpa using hx) (by simpa using hy) fun h' c1 c2 c3 c4 c5 c6 c7 => ?_)
      have hzlt := Heap.lt_size b1
      exact next h' s.heap.objs.size s.heap.objs.size ⟨false, _, c1, c5, hzlt⟩ c3 c4 c5 (Nat.le_refl _) c7
    · refine wpAny_bind (pyNext_zip_more_item D b1 b2 (Nat.ne_of_gt b3) a2 a4 a5 a6 a7 (x := x) (y := y) (by simpa using hx) (by simpa using hy) fun h' T' c1 c3 c4 c5 c6 c7 => ?_)
      have hTne : T ≠ z := Nat.ne_of_gt b3
      have hTi1 : T ≠ i1 := Nat.ne_of_gt (Nat.lt_trans hST.2.2.1 b3)
      have hTi2 : T ≠ i2 := Nat.ne_of_gt (Nat.lt_trans hST.2.2.2.1 b3)
      exact next h' T T' ⟨true, oT, c1, c7 T oT hTne hTi1 hTi2 b2, b3⟩ c3 c4 c5 c6 fun c o n1 _ n3 n4 e => c7 c o n1 n3 n4 e
end
end Mine

namespace Mine

section
variable {prog : Program} {w : World} {A : Around} {s : Shared} {R : Result → Shared → Prop}
theorem extend_zip {z TI TO : Addr} {f0 : Value} {f1 : Bool} (S : Addr) (res : Value) (c₀ : Nat) (hSI : S ≠ z) (hz : IsZipB s.heap z TI TO f0 f1)
    (hS : s.heap.get? S = some { cls := .type "list", data := .seq #[] c₀ })
    (hL : ∀ h' c', h'.get? S = some { cls := .type "list", dict := none, data := .seq #[] c', slots := #[] } → (∀ b o, b ≠ S → s.heap.get? b = some o → h'.get? b = some o) → codeAny (model prog w) A (.builtin "list.extend.loop" ⟨[.ref S, .ref z, res], []⟩) R { s with heap := h' }) :
    wpAny (model prog w) A.in1 (Builtin.List.listExtendWith (.ref S) (.ref z) res)
      (fun fin s' => match fin with | .done f => R (.ok f) s' | .again c' => c'.quiet = true ∧ codeAny (model prog w) A c' R s') (fun e s' => R (.error e) s') s := by
  have hT : s.TypeIs (.ref z) "zip" := ⟨_, hz, rfl⟩
  unfold Builtin.List.listExtendWith
  refine wpAny_bind (wpAny_typeOf hT ?_)
  have h1 : Builtin.List.listSameRef (.ref S) (.ref z) = false := by simp [Builtin.List.listSameRef, hSI]
  have h2 : (Value.type "zip" == Value.type "list") = false := by decide
  have h3 : (Value.type "zip" == Value.type "tuple") = false := by decide
  simp only [h1, h2, h3, Bool.or_false, Bool.false_eq_true, if_false]
  have self : ∀ Q : Value → Shared → Prop, Q (.ref z) s → wpAny (model prog w) A.in1 (pyIter (.ref z)) Q (fun e s' => R (.error e) s') s := fun Q h => by
    refine wpAny_pyIter_slot hT F.slot_zip_iter (wpAny_call_entry F.slot_zip_iter hT F.entry_zip_iter ?_ (F.args_zip_iter_1 _))
    show wpAny _ _ (ret (.ref z)) _ _ s
    exact wpAny_pure ⟨_, rfl, "zip", _, hT, F.slot_zip_next.lookup, h⟩
  refine wpAny_bind (self _ ?_)
  refine wpAny_bind (wpAny_holding ?_)
  unfold Builtin.List.listLengthHint
  refine wpAny_bind (wpAny_specialOf hT zip_no_len ?_)
  show wpAny _ A.in1 (specialOf (Value.ref z) (Str.ofString "__length_hint__") >>= _) _ _ _
  refine wpAny_bind (wpAny_specialOf hT zip_no_hint ?_)
  refine wpAny_pure ?_
  show wpAny _ A.in1 (rule "list.extend.makes-room" >>= fun _ => Builtin.List.listTouch (.ref S) >>= fun _ =>
    again (.builtin "list.extend.loop" ⟨[.ref S, .ref z, res], []⟩)) _ _ _
  refine wpAny_bind (wpAny_rule ?_)
  refine wpAny_bind ?_
  show wpAny _ A.in1 (updateSeq S (·.push .none) >>= fun _ => updateSeq S (·.pop)) _ _ _
  refine wpAny_bind (wpAny_updateSeq hS rfl ?_)
  have hS₂ := Heap.get?_update_self (Obj.mapSeq (·.push Value.none)) hS rfl
  refine wpAny_updateSeq (hz := by seq_fits) hS₂ rfl ?_
  have hS₃ := Heap.get?_update_self (Obj.mapSeq (·.pop)) hS₂ rfl
  have oth : ∀ b o, b ≠ S → s.heap.get? b = some o → ((s.heap.update S (Obj.mapSeq (·.push Value.none))).update S (Obj.mapSeq (·.pop))).get? b = some o :=
    fun b o hb e => (Heap.get?_update_other _ _ (Ne.symm hb)).trans ((Heap.get?_update_other _ _ (Ne.symm hb)).trans e)
  exact wpAny_pure ⟨plainId_quiet F.plain_extend_loop _, hL _ _ hS₃ oth⟩

theorem list_init_zip {z TI TO : Addr} {f0 : Value} {f1 : Bool} (S : Addr) (hSI : S ≠ z) (hz : IsZipB s.heap z TI TO f0 f1)
    (hS : s.heap.get? S = some { cls := .type "list", data := .seq #[] })
    (hL : ∀ h' c', h'.get? S = some { cls := .type "list", dict := none, data := .seq #[] c', slots := #[] } → (∀ b o, b ≠ S → s.heap.get? b = some o → h'.get? b = some o) → codeAny (model prog w) A (.builtin "list.extend.loop" ⟨[.ref S, .ref z, .none], []⟩) R { s with heap := h' }) :
    wpAny (model prog w) A.in1 (Builtin.«list.__init__» ⟨[.ref S, .ref z], []⟩)
      (fun fin s' => match fin with | .done f => R (.ok f) s' | .again c' => c'.quiet = true ∧ codeAny (model prog w) A c' R s') (fun e s' => R (.error e) s') s := by
  show wpAny _ A.in1 (do let old ← Builtin.List.listItems (.ref S); Builtin.List.listUpdate (.ref S) (fun _ => #[]); letGo old.toList.reverse; Builtin.List.listExtendWith (.ref S) (.ref z) .none) _ _ s
  refine wpAny_bind ?_
  unfold Builtin.List.listItems
  refine wpAny_bind (wpAny_seqItems hS rfl (wpAny_pure ?_))
  show wpAny _ A.in1 (updateSeq S (fun _ => #[]) >>= fun _ => letGo (#[] : Array Value).toList.reverse >>= fun _ => Builtin.List.listExtendWith (.ref S) (.ref z) .none) _ _ s
  refine wpAny_bind (wpAny_updateSeq hS rfl ?_)
  have hS₂ := Heap.get?_update_self (Obj.mapSeq (fun _ => (#[] : Array Value))) hS rfl
  have oth : ∀ b o, b ≠ S → s.heap.get? b = some o → (s.heap.update S (Obj.mapSeq (fun _ => (#[] : Array Value)))).get? b = some o :=
    fun b o hb e => (Heap.get?_update_other _ _ (Ne.symm hb)).trans e
  refine wpAny_bind (wpAny_letGo ?_)
  exact extend_zip S .none _ hSI (oth _ _ (Ne.symm hSI) hz) hS₂ fun h' c' e k => hL h' c' e fun b o hb q => k b o hb (oth b o hb q)
end

section
variable {prog : Program} {w : World} {A : Around} {E : Value → Shared → Prop} {s : Shared} {Q : Value → Shared → Prop}
theorem call_list_zip {z TI TO : Addr} {f0 : Value} {f1 : Bool} (hz : IsZipB s.heap z TI TO f0 f1)
    (hL : ∀ h' c' R, h'.get? s.heap.objs.size = some { cls := .type "list", dict := none, data := .seq #[] c', slots := #[] } → (∀ b o, s.heap.get? b = some o → h'.get? b = some o) →
      (∀ h'', Q (.ref s.heap.objs.size) { s with heap := h'' } → R (.ok (.ret .none)) { s with heap := h'' }) → codeAny (model prog w) A.in1 (.builtin "list.extend.loop" ⟨[.ref s.heap.objs.size, .ref z, .none], []⟩) R { s with heap := h' }) :
    wpAny (model prog w) A (call (.type "list") [.ref z]) Q E s := by
  refine callType_codes (Q₁ := fun obj s₁ => obj = .ref s.heap.objs.size ∧ s₁ = { s with heap := s.heap.push { cls := .type "list", data := .seq #[] } }) F.called_list (F.typeCall_list_1 _) F.entry_list_init
    (code_list_new _ ⟨rfl, rfl⟩) fun obj s₁ h₁ => ?_
  obtain ⟨rfl, rfl⟩ := h₁
  have hS : (s.heap.push { cls := .type "list", data := .seq #[] }).get? s.heap.objs.size = some { cls := .type "list", data := .seq #[] } := Heap.get?_push_size _ rfl
  have hzlt : z < s.heap.objs.size := Heap.lt_size hz
  refine ⟨⟨_, hS, rfl⟩, F.args_list_init_2 _ _, list_init_zip _ (Nat.ne_of_gt hzlt) (Heap.get?_push_of_some _ hz) hS fun h' c' e k => ?_⟩
  exact hL h' c' _ e (fun b o q => k b o (Nat.ne_of_lt (Heap.lt_size q)) (Heap.get?_push_of_some _ q)) fun h'' q => ⟨rfl, q⟩
end

section
variable {c : Cx} {ρ : List (Str × PV)} {A : Around} {s : Shared} {E : Value → Shared → Prop}
theorem Ev.listZip {xl x : Str} {pl pz pos pos2 : Pos} {e1 e2 : Expr} {ds es : List PV} (hlen : ds.length = es.length) (hsz : ds.length ≤ sizeLine) (hl : Ev c ρ (.Name xl pl) (.val (.type "list"))) (hf : Ev c ρ (.Name x pz) (.val (.type "zip"))) (ha : EvL c ρ [e1, e2] [.list ds, .list es])
    (he : starEach [e1, e2] c.env = (false, eval e1 c.env) :: starEach [e2] c.env) (hp : (backTo pos (starEach [e1, e2] c.env)).any (·.1) = false)
    (he2 : backTo pos2 (starEach [.Call (.Name x pz) [e1, e2] [] pos] c.env) = [(false, eval (.Call (.Name x pz) [e1, e2] [] pos) c.env)]) :
    Ev c ρ (.Call (.Name xl pl) [.Call (.Name x pz) [e1, e2] [] pos] [] pos2) (.list (zipD ds es)) := fun A s E rm F =>
  wpAny_Call_NameR (hl.wp rm F fun f s₀ k₀ F₀ rf => by
    cases rf
    refine PySem.callWith_type (by rw [he2]; rfl) ?_
    rw [he2]
    refine evalArgs_plain (Calls.spliced_cons (callT_wp rm F₀ hf ha he hp fun vs s₁ k₁ F₁ rl => ?_))
    refine RepL.consE rl fun _ _ r1 rl => ?_; refine RepL.consE rl fun _ _ r2 rl => ?_; refine RepL.nilE rl ?_; refine Rep.listE r1 fun l1 v1 hi1 hx1 rl1 => ?_; refine Rep.listE r2 fun l2 v2 hi2 hx2 rl2 => ?_
    have hlt1 : l1 < s₁.heap.objs.size := let ⟨o, e, _⟩ := hi1; Heap.lt_size e
    have hlt2 : l2 < s₁.heap.objs.size := let ⟨o, e, _⟩ := hi2; Heap.lt_size e
    refine call_zip_2 hi1 hi2 fun h' a1 a2 a3 a4 a5 a6 a7 => Calls.spliced_nil ?_
    have D : ZipApart (s₁.heap.objs.size + 4) (s₁.heap.objs.size + 2) (s₁.heap.objs.size + 3) s₁.heap.objs.size (s₁.heap.objs.size + 1) l1 l2 := by
      constructor <;> first | exact Nat.ne_of_lt (Nat.lt_of_lt_of_le hlt1 (Nat.le_add_right _ _)) | exact Nat.ne_of_lt (Nat.lt_of_lt_of_le hlt2 (Nat.le_add_right _ _)) | exact Nat.ne_of_lt hlt1 | exact Nat.ne_of_lt hlt2 | (intro q; exact absurd q (by simp)) | (intro q; exact absurd (show s₁.heap.objs.size = s₁.heap.objs.size + 1 from q) (by simp))
    show wpAny _ _ (call (.type "list") [.ref (s₁.heap.objs.size + 4)]) _ _ { s₁ with heap := h' }
    refine call_list_zip (s := { s₁ with heap := h' }) a1 fun h₂ c' R b1 b2 b3 => ?_
    dsimp only at b1 b2 b3 ⊢
    rw [a6] at b1 b3 ⊢
    obtain ⟨Y, hY⟩ : ∃ Y : Addr → Prop, Y = fun b => c.X b ∨ b ∈ [s₁.heap.objs.size + 4, s₁.heap.objs.size + 3, s₁.heap.objs.size, s₁.heap.objs.size + 1, s₁.heap.objs.size + 5] := ⟨_, rfl⟩
    have lv : ∀ b, (s₁.heap.get? b).isSome = true → Y b → c.X b := fun b hb z => by
      obtain ⟨o, e⟩ := Option.isSome_iff_exists.mp hb
      have hlt := Heap.lt_size e
      rw [hY] at z
      rcases z with z | z
      · exact z
      · simp at z
        rcases z with rfl | rfl | rfl | rfl | rfl <;> exact absurd hlt (by simp)
    have up : ∀ b o, s₁.heap.get? b = some o → h₂.get? b = some o := fun b o e => b2 b o (a7 b o e)
    have add : ∀ {i j : Nat}, i < j → s₁.heap.objs.size + i < s₁.heap.objs.size + j := fun h => Nat.add_lt_add_left h _
    have kk₁ := keeps_trans k₀ k₁
    refine zip_loop (A := A.in1) (Y := Y) (vs := v1) (us := v2) (ds := ds) (es := es) D rm.1 rl1.length rl2.length hlen (add (by decide : 4 < 5)) ⟨add (by decide), add (by decide), add (i := 0) (by decide), add (by decide), Nat.lt_of_lt_of_le hlt1 (Nat.le_add_right _ _), Nat.lt_of_lt_of_le hlt2 (Nat.le_add_right _ _)⟩ ?_ ?_ hsz ds.length 0 { s₁ with heap := h₂ } #[] c' (by lia) (Nat.zero_le _)
      ⟨.inl ⟨b2 _ _ a1, _, _, b2 _ _ a3⟩, b2 _ _ a2, a4.at fun o e => b2 _ o e, a5.at fun o e => b2 _ o e, hi1.at fun o e => up _ o e, hi2.at fun o e => up _ o e, rl1.mono (fun b o _ _ _ _ e => up b o e) lv, rl2.mono (fun b o _ _ _ _ e => up b o e) lv⟩ b1 rfl (by simpa using RepL.nil) fun h₃ acc' c'' d1 d2 d3 => b3 h₃ ?_
    · intro b z
      rw [hY] at z
      rcases z with z | z
      · obtain ⟨o, e⟩ := F₁.xb b z
        exact .inl (Nat.lt_of_lt_of_le (Heap.lt_size e) (Nat.le_add_right _ _))
      · simp at z
        rcases z with rfl | rfl | rfl | rfl | rfl
        · exact .inr (.inl rfl)
        · exact .inl (add (by decide))
        · exact .inl (add (i := 0) (by decide))
        · exact .inl (add (by decide))
        · exact .inr (.inr rfl)
    · intro b hb; rw [hY]; exact .inr hb
    · have kk : Ext s₁.heap h₃ := fun b o e => d1 b o (fun q => by
        have hlt := Heap.lt_size e
        simp at q
        rcases q with rfl | rfl | rfl | rfl | rfl <;> exact absurd hlt (by simp)) (up b o e)
      refine ⟨keeps_trans kk₁ (keeps_heap (tk := s₁.toks) kk), .list (vs := acc'.toList) ⟨_, d2, rfl, c'', rfl⟩ (fun q => ?_) (d3.mono (fun _ _ _ _ _ _ e => e) fun b _ z => by rw [hY]; exact .inl z)⟩
      obtain ⟨o, e⟩ := F₁.xb _ q; exact absurd (Heap.lt_size e) (by simp))
end
end Mine

set_option maxHeartbeats 1000000
namespace Mine

/-- the code point of an upper hexadecimal figure -/
noncomputable def fig (n : Nat) : Nat := if n < 10 then 48 + n else 55 + n
theorem if_eq {α : Sort _} {c : Prop} [Decidable c] {x y z : α} (h : ¬ c) (e : y = z) : (if c then x else y) = z := by rw [if_neg h, e]
theorem bind_eq {α β : Type} {m : Sem α} {f : α → Sem β} {a : α} {z : Sem β} (h : m = pure a) (e : f a = z) : (m >>= f) = z := by subst h; exact e
theorem int_hex_all (t u : Tok) : (List.range 256).map (fun c => Builtin.«int.__new__» ⟨[.type "int", .str (S [fig (c / 16), fig (c % 16)]) t, .int 16 u], []⟩) = (List.range 256).map fun (c : Nat) => (do ret (← mkInt (c : Int))) := by
  refine Eq.trans (congrArg (fun f => (List.range 256).map f) (funext (g := ?T) fun c => ?h)) ?k
  case h =>
    unfold Builtin.«int.__new__»
    dsimp only
    refine bind_eq (m := isType _) (a := true) rfl ?_
    refine if_eq (by decide) ?_
    refine bind_eq PySem.F.conv_sub_int ?_
    refine if_eq (by decide) ?_
    refine bind_eq PySem.F.madeHere_int ?_
    refine if_eq (by simp) ?_
    refine if_eq (by simp) ?_
    exact rfl
  case k => kernel_rfl!
theorem int_hex (c : Nat) (hc : c < 256) (t u : Tok) : Builtin.«int.__new__» ⟨[.type "int", .str (S [fig (c / 16), fig (c % 16)]) t, .int 16 u], []⟩ = (do ret (← mkInt (c : Int))) := by
  have := congrArg (fun l => l[c]?) (int_hex_all t u)
  simpa [hc] using this
theorem typeCall_int_2 (a b : Value) : checkTypeCall "int" ⟨[a, b], []⟩ = pure () := by kernel_rfl
theorem newCall_int_2 (a b : Value) : checkBuiltinCall "int.__new__" ⟨[.type "int", a, b], []⟩ = pure () := by kernel_rfl

theorem bin_addL {ds es : List PV} (hsz : ds.length + es.length ≤ sizeLine) : BinOk .Add (.list ds) (.list es) (.list (ds ++ es)) := by
  intro prog w h₀ X k A s E x y hk rm B rx ry
  refine Rep.listE rx fun l vs hl hx r1 => ?_; refine Rep.listE ry fun b ws hb hx2 r2 => ?_
  obtain ⟨⟨cls, dd, data, sl⟩, ho, hc, n, hd⟩ := id hl
  obtain ⟨⟨cls2, dd2, data2, sl2⟩, ho2, hc2, n2, hd2⟩ := id hb
  simp only at hc hd hc2 hd2
  subst hc hd hc2 hd2
  have e : vs.toArray ++ ws.toArray = (vs ++ ws).toArray := by simp
  refine concat_meets ⟨_, ho, rfl⟩ ⟨_, ho2, rfl⟩ noFill_list_add seq_list_add PySem.F.slot_list_add PySem.F.entry_list_add (PySem.F.args_list_add_2 _ _) (list_addW l b vs.toArray ws.toArray n n2 dd dd2 sl sl2 (by simp [r1.length, r2.length]; exact hsz)) ⟨ho, ho2, ?_⟩
  rw [e]
  exact ⟨keeps_push s _ s.toks, Rep.listPush B (r1.append r2)⟩
theorem repL_rep {X : Addr → Prop} {h : Heap} {vs : List Value} {ds : List PV} (r : RepL X h vs ds) : ∀ n : Nat, RepL X h (List.replicate n vs).flatten (List.replicate n ds).flatten
  | 0 => .nil
  | n + 1 => by rw [List.replicate_succ, List.replicate_succ, List.flatten_cons, List.flatten_cons]; exact r.append (repL_rep r n)
theorem bin_mulL {ds : List PV} {i : Int} (hlo : -(2 ^ 63 : Int) ≤ i) (hhi : i < 2 ^ 63) (hsz : ds.length * i.toNat ≤ 2 ^ 24) : BinOk .Mult (.list ds) (.int i) (.list (List.replicate i.toNat ds).flatten) := by
  intro prog w h₀ X k A s E x y hk rm B rx ry
  refine Rep.listE rx fun l vs hl hx r1 => ?_; refine Rep.intE ry fun u => ?_
  obtain ⟨⟨cls, d, data, sl⟩, ho, hcl, k, hd⟩ := id hl
  simp only at hcl hd
  subst hcl hd
  have hsz' : vs.toArray.size * i.toNat ≤ 2 ^ 24 := by simpa [r1.length] using hsz
  refine wpAny_binaryOp_repeat_ref (T := "list") (U := "int") (by decide) ⟨_, ho, rfl⟩ (fun s' => typeIs_int s' i u) noFill_list_mul F.fills_int_mul F.slot_int_rmul repeat_list F.slot_int_index.lookup
    (call_meets F.slot_int_rmul (typeIs_int s i u) F.entry_int_rmul (F.args_int_rmul_2 _ _) (lm_int_rmul_list_any i u l vs.toArray k d sl)
      ⟨ho, rfl, ⟨_, ho, rfl⟩, call_meets F.slot_list_mul ⟨_, ho, rfl⟩ F.entry_list_mul (F.args_list_mul_2 _ _)
        (lm_list_mul_any l vs.toArray k d sl i u (by simp [Builtin.List.listFitsIndex]; lia) (by (clear ho r1 hx hl B rm hk hsz hhi hlo; lia)) (by simp [Builtin.List.listTooLong, sizeLine]; omega))
        ⟨ho, ?_⟩⟩)
  rw [listMul_foldl_if]
  exact ⟨keeps_push s _ s.toks, Rep.listPush B (repL_rep r1 _)⟩

section
variable {prog : Program} {w : World} {h₀ : Heap} {k : Nat}
theorem call_listL {ds : List PV} (hsz : ds.length ≤ sizeLine) : CallOk prog w h₀ k (.type "list") [.list ds] (.list ds) := .mk1 fun X A s E v rm B r => by
  refine Rep.listE r fun l vs hi hx rl => ?_
  obtain ⟨o, ho, hc, n, hd⟩ := hi
  exact call_list_seq (hsz := by simp [rl.length]; exact hsz) l (.inl rfl) ho hc hd fun h' c' hk hD => ⟨keeps_heap (tk := s.toks) hk, .list (vs := vs) ⟨_, hD, rfl, c', rfl⟩ (B.new (Nat.le_refl _)) (rl.ext hk)⟩
theorem call_intHex {c : Nat} (hc : c < 256) : CallOk prog w h₀ k (.type "int") [.str (S [fig (c / 16), fig (c % 16)]), .int 16] (.int c) := .mk2 fun X A s E v u rm B r1 r2 => by
  refine Rep.strE r1 fun t => ?_; refine Rep.intE r2 fun u => ?_
  have g : Gives (Builtin.«int.__new__» ⟨[.type "int", .str (S [fig (c / 16), fig (c % 16)]) t, .int 16 u], []⟩) (.int c) := .of_eq (int_hex c hc t u)
  exact callType_new F.called_int F.newNe_int (typeCall_int_2 _ _) (newCall_int_2 _ _) (fun obj => F.args_object_init_3 obj _ _) F.entry_int_new g.meets (show (Made.int c).post _ s from ⟨rfl, keeps_toks s _, .int _ _⟩)
end
end Mine

set_option maxHeartbeats 1000000
namespace Mine
theorem md_get : typeLookup (.type "method_descriptor") "__get__" = pure (some (.builtin "method_descriptor.__get__")) := by rw [typeLookup_type, builtinLookup_eq_fast]; kernel_rfl
theorem md_set : typeLookup (.type "method_descriptor") "__set__" = pure none := by rw [typeLookup_type, builtinLookup_eq_fast]; kernel_rfl
theorem md_del : typeLookup (.type "method_descriptor") "__delete__" = pure none := by rw [typeLookup_type, builtinLookup_eq_fast]; kernel_rfl
theorem slot_md_get : PySem.Slot "method_descriptor" "__get__" "method_descriptor.__get__" :=
  .of (owner := "method_descriptor") (n := "__get__") (by rw [typeLookup_type, builtinLookup_eq_fast]; kernel_rfl) (by decide +kernel) (by decide +kernel) (by decide +kernel)
    (by first | exact .inl (by decide +kernel) | exact .inr (by decide +kernel)) (by rw [isSubtype_type]; kernel_rfl)
theorem entry_md_get : entryFor table "method_descriptor.__get__" = some Builtin.«method_descriptor.__get__» := entryFor_of_tree (by kernel_rfl)
theorem owner_md : Manifest.owners.lookup (String.ofList ['r', 'o', 't', 'p', 'i', 'r', 'c', 's', 'e', 'd', '_', 'd', 'o', 'h', 't', 'e', 'm'].reverse) = some Manifest.sig_method_descriptor := by kernel_rfl
theorem args_md_get (a b c : Value) : argsOk "method_descriptor.__get__" ⟨[a, b, c], []⟩ := by
  unfold argsOk; rw [signature?_of (id := "method_descriptor.__get__") (n := ['_', '_', 't', 'e', 'g', '_', '_']) (o := ['r', 'o', 't', 'p', 'i', 'r', 'c', 's', 'e', 'd', '_', 'd', 'o', 'h', 't', 'e', 'm']) (by kernel_rfl) owner_md]; kernel_rfl
theorem toldItsClass_append : Manifest.toldItsClass.contains "list.append" = false := by kernel_rfl
theorem meets_md_get (a : Addr) : Meets (Builtin.«method_descriptor.__get__» ⟨[.builtin "list.append", .ref a, .type "list"], []⟩) (fun A R s => s.TypeIs (.ref a) "list" ∧ R (.ok (.ret (.ref s.heap.objs.size))) { s with heap := s.heap.push { cls := .type "builtin_function_or_method", data := .fields #[.builtin "list.append", .ref a] } }) :=
  Meets.of_wp fun prog w A R s hs => by
    obtain ⟨hp, g, d, tk, os⟩ := s
    obtain ⟨hT, hs⟩ := hs
    have f1 := toldItsClass_append
    have f2 : isSubtype (.type "list") (.type (".".intercalate ("list.append".cutAt '.').dropLast)) = pure true := by
      have e : ".".intercalate ("list.append".cutAt '.').dropLast = "list" := by decide +kernel
      rw [e]; exact AutoSeq1.sub_list_list
    unfold Builtin.«method_descriptor.__get__»
    repeat (any_goals (first | assumption | wp_step))
    all_goals exact ⟨_, rfl, hs⟩
theorem meets_getattribute_append (a : Addr) (xs : Array Value) (k : Nat) (sl : Array (Option Value)) (u : Tok) :
    Meets (Builtin.«object.__getattribute__» ⟨[.ref a, .str (Str.ofString "append") u], []⟩) (fun A R s => s.heap.get? a = some { cls := .type "list", dict := none, data := .seq xs k, slots := sl } ∧ R (.ok (.ret (.ref s.heap.objs.size))) { s with heap := s.heap.push { cls := .type "builtin_function_or_method", data := .fields #[.builtin "list.append", .ref a] } }) :=
  Meets.of_wp fun prog w A R s hs => by
    obtain ⟨hp, g, d, tk, os⟩ := s
    obtain ⟨hx, hs⟩ := hs
    have hT : (⟨hp, g, d, tk, os⟩ : Shared).TypeIs (.ref a) "list" := ⟨_, hx, rfl⟩
    have f1 : typeLookup (.type "list") "append" = pure (some (.builtin "list.append")) := PySem.F.slot_list_append.lookup
    have f2 := PySem.F.slot_list_append.bind (.ref a)
    have f3 := PySem.F.type_list_append
    have f4 := md_get
    have f5 := md_set
    have f6 := md_del
    unfold Builtin.«object.__getattribute__»
    repeat (any_goals (first | assumption | ((with_reducible show wpAny _ _ (call (Value.builtin "method_descriptor.__get__") _ _) _ _ _); refine call_meets slot_md_get (show (⟨hp, g, d, tk, os⟩ : Shared).TypeIs (.builtin "list.append") "method_descriptor" from PySem.F.type_list_append) entry_md_get (args_md_get _ _ _) (meets_md_get _) ⟨hT, ?_⟩) | wp_step))
    all_goals exact wpAny_pure ⟨_, rfl, hs⟩

theorem getAttr_append {prog : Program} {w : World} {A : Around} {E : Value → Shared → Prop} {s : Shared} {a : Addr} {xs : Array Value} {k : Nat} {sl : Array (Option Value)} {Q : Value → Shared → Prop}
    (hx : s.heap.get? a = some { cls := .type "list", dict := none, data := .seq xs k, slots := sl })
    (h : ∀ tk, Q (.ref s.heap.objs.size) { s with heap := s.heap.push { cls := .type "builtin_function_or_method", data := .fields #[.builtin "list.append", .ref a] }, toks := tk }) :
    wpAny (model prog w) A (getAttr (.ref a) (Str.ofString "append") true) Q E s := by
  obtain ⟨hp, g, d, tk, os⟩ := s
  have hT : ∀ tk', (⟨hp, g, d, tk', os⟩ : Shared).TypeIs (.ref a) "list" := fun _ => ⟨_, hx, rfl⟩
  have f3 := F.slot_list_getattribute.lookup
  have f4 := F.slot_list_getattribute.bind (.ref a)
  have f5 := am_list_getattr_none
  unfold getAttr getAttrBy
  repeat (any_goals (first | assumption | exact hT _ | ((with_reducible show wpAny _ _ (call (Value.builtin "list.__getattribute__") _ _) _ _ _); refine call_meets F.slot_list_getattribute (hT _) am_entry_list_getattribute (F.args_list_getattribute_2 _ _) (meets_getattribute_append a xs k sl _) ⟨hx, ?_⟩) | wp_step))
  all_goals exact wpAny_of_eq (show handedOut _ = pure _ from rfl) (h _)
end Mine

set_option maxHeartbeats 1000000
namespace Mine
theorem sg_append : ∃ sig, Manifest.signature? "list.append" = some sig ∧ ∀ a v, Bind.checkArgs "list.append" { sig with full := s!"{Bind.lastOf "list"}.{Bind.lastOf "list.append"}" } ⟨[a, v], []⟩ = pure () := by
  refine ⟨?s, ?h, ?k⟩
  case h =>
    rw [signature?_of (id := "list.append") (n := ['d', 'n', 'e', 'p', 'p', 'a']) (o := ['t', 's', 'i', 'l']) (by kernel_rfl) PySem.F.owner_list]
    exact rfl
  case k => intro a v; kernel_rfl!
theorem kind_append : builtinKind "list.append" = some .method := by kernel_rfl
theorem vm_append : Manifest.varargsMethods.contains "list.append" = false := by kernel_rfl
theorem list_no_module : isSubtype (.type "list") (.type "module") = pure false := by rw [isSubtype_type]; kernel_rfl

theorem call_bound_append {prog : Program} {w : World} {A : Around} {E : Value → Shared → Prop} {s : Shared} {a b : Addr} {ob : Obj} {items : Array Value} {v : Value} {Q : Value → Shared → Prop}
    (hb : s.heap.get? b = some ob) (hcl : ob.cls = .type "builtin_function_or_method") (hd : ob.data = .fields #[.builtin "list.append", .ref a]) (hp : s.heap.PlainList a items)
    (hQ : ∀ h', h'.PlainList a (items.push v) → Heap.SameBut a s.heap h' → Q .none { s with heap := h' }) (hsz : items.size ≤ sizeLine) :
    wpAny (model prog w) A (call (.ref b) [v]) Q E s := by
  have hl : s.heap.IsList a items := hp.isList
  refine wpAny_call (codeAny_of_tree ?_)
  show wpAny _ _ (callAny (.ref b) _) _ _ _
  unfold callAny
  refine wpAny_bind (wpAny_load hb ?_)
  rw [hd]
  dsimp only
  rw [hcl]
  rw [if_pos (by decide)]
  have hT : s.TypeIs (.ref a) "list" := hl.typeIs
  obtain ⟨sig, hs1, hs2⟩ := sg_append
  have f1 := kind_append
  have f2 := vm_append
  have f3 := list_no_module
  show wpAny _ _ (if (Value.type "builtin_function_or_method" != Value.type "method") = true then (do checkBoundCall "list.append" ⟨[.ref a, v], []⟩; return ← again (.builtin "list.append" ⟨[.ref a, v], []⟩)) else _) _ _ _
  rw [if_pos (by decide)]
  refine wpAny_bind ?_
  unfold checkBoundCall
  rw [hs1]
  dsimp only
  rw [f1]
  dsimp only
  rw [if_neg (by decide)]
  refine wpAny_bind (wpAny_isInstance (T := "list") (b := false) hT f3 ?_)
  rw [f2]
  rw [if_neg (by decide)]
  obtain ⟨o, ho, hc, n, hdl⟩ := id hl
  refine wpAny_bind (m := isType _) ?_
  unfold isType
  refine wpAny_bind (wpAny_loadPart ho ?_)
  rw [hdl]
  refine wpAny_pure ?_
  show wpAny _ _ (if false = true then _ else _) _ _ _
  rw [if_neg (by decide)]
  refine wpAny_bind (wpAny_typeOf hT ?_)
  dsimp only
  refine wpAny_of_eq (hs2 _ _) ?_
  refine wpAny_pure ⟨plainId_quiet PySem.F.slot_list_append.plain _, codeAny_builtin PySem.F.entry_list_append ?_⟩
  rw [Around.under_plainId PySem.F.slot_list_append.plain _]
  show wpAny _ _ (updateSeq a (·.push v) >>= fun _ => ret .none) _ _ s
  obtain ⟨np, hpl⟩ := hp
  refine wpAny_bind (wpAny_updateSeq hpl rfl (wpAny_pure (hQ _ ⟨np + 1, ?_⟩ (Heap.SameBut.update ..))))
  rw [Heap.get?_update_self _ hpl (by rw [Obj.mapSeq_push_plain]; rfl), Obj.mapSeq_push_plain]
end Mine

namespace Mine

section
variable {c : Cx} {ρ : List (Str × PV)} {e : Expr} {d : PV} {A : Around} {s : Shared} {E : Value → Shared → Prop} {ss : List Stmt} {a : Addr} {ds : List PV}

theorem FRep.setOwn {h₀ h : Heap} {X : Addr → Prop} {env : Env} {M : Addr → Prop} {ow : Option (Addr × List PV)} (F : FRep h₀ X M ow env ρ h) {a : Addr} {vs : List Value} {ds : List PV} (ha : X a) (hi : IsPL h a vs.toArray) (r : RepL X h vs ds) :
    FRep h₀ X (fun b => b = a) (some (a, ds)) env ρ h :=
  { F with mx := fun b q => q ▸ ha, ol := fun a' ds' q => by cases q; exact ⟨rfl, vs, hi, r⟩ }

/-- the context of a body that owns a list -/
noncomputable abbrev Cx.owns (c : Cx) (a : Addr) (ds : List PV) : Cx := { c with X := fun b => c.X b ∨ b = a, M := fun b => b = a, ow := some (a, ds) }
inductive OutTo : Out → PV → Prop
  | ret (d : PV) : OutTo (.ret d) d
  | own (ds : List PV) : OutTo (.retOwn ds) (.list ds)

theorem Ex.newList {x : Str} {p pl pos : Pos} {es : List Expr} {o : Out} (hM : ∀ b, ¬ c.M b) (h : EvL c ρ es ds) (hl : c.env.kindOf x = some .local) (hp : plainScope c.env) (hs0 : swapsWith (.List es pl) (some (.Name x p)) pos.line c.env = pure false)
    (hsz : ds.length ≤ sizeLine) (ho : OutTo o d) (hs : ∀ a, Ex (c.owns a ds) ((x, .val (.ref a)) :: ρ) ss o) : Ex c ρ (.Assign [.Name x p] (.List es pl) pos :: ss) (.ret d) := fun A s E rm F => by
  refine wpAny_execs_cons (wpAny_Assign_Name ?_ hs0)
  refine wpAny_List (wpAny_mono (h pl A s E rm F) (fun vs s₁ q => ⟨by rw [q.2.length]; exact hsz, ?_⟩) fun _ _ x => x)
  obtain ⟨k₁, rl⟩ := q
  have F₁ := F.keeps (keeps_ext k₁)
  have hn : ¬ c.X s₁.heap.objs.size := fun z => by obtain ⟨o, e⟩ := F₁.xb _ z; exact absurd (Heap.lt_size e) (Nat.lt_irrefl _)
  have ex : Ext s₁.heap (s₁.heap.push { cls := .type "list", data := .seq vs.toArray }) := fun b o e => Heap.get?_push_of_some _ e
  have hX : ∀ b, (s₁.heap.get? b).isSome = true → (c.X b ∨ b = s₁.heap.objs.size) → c.X b := fun b hb z => by
    rcases z with z | z
    · exact z
    · obtain ⟨o, e⟩ := Option.isSome_iff_exists.mp hb; rw [z] at e; exact absurd (Heap.lt_size e) (Nat.lt_irrefl _)
  have hF : FRep c.h₀ (fun b => c.X b ∨ b = s₁.heap.objs.size) c.M c.ow c.env ρ (s₁.heap.push { cls := .type "list", data := .seq vs.toArray }) := FRep.open_ F₁ hX (fun b z => .inl z) (fun b z => by
      rcases z with z | z
      · obtain ⟨o, e⟩ := F₁.xb b z; exact ⟨o, ex _ _ e⟩
      · exact ⟨_, z ▸ Heap.get?_push_size _ rfl⟩) (fun b z => by
      rcases z with z | z
      · exact F.xn b z
      · cases e : c.h₀.get? b with
        | none => rfl
        | some o => have := F₁.ext b o e; rw [z] at this; exact absurd (Heap.lt_size this) (Nat.lt_irrefl _)) ex
  have hF2 := hF.setOwn (a := s₁.heap.objs.size) (ds := ds) (.inr rfl) ⟨_, Heap.get?_push_size _ rfl, ⟨rfl, rfl, rfl⟩, _, rfl⟩ (rl.mono (fun b o _ _ _ _ e => ex b o e) hX)
  have hns : s.heap.get? s₁.heap.objs.size = none := keeps_none k₁ (Nat.le_refl _)
  refine wpAny_mono (StOk.local_ (c := c.owns s₁.heap.objs.size ds) hl hp ρ (.val (.ref s₁.heap.objs.size)) A { s₁ with heap := s₁.heap.push { cls := .type "list", data := .seq vs.toArray } } E (.ref s₁.heap.objs.size) hF2 (.val _)) (fun _ s₂ q₂ => ?_) fun _ _ x => x
  refine wpAny_mono (hs s₁.heap.objs.size A s₂ E rm q₂.2) (fun f s₃ q₃ => ?_) fun _ _ x => x
  have kb : KB (OwnC c) s s₃ := by
    obtain ⟨h1, t1, rfl, e1⟩ := k₁
    obtain ⟨h2, t2, rfl, e2⟩ := q₂.1
    obtain ⟨h3, t3, rfl, e3⟩ := q₃.1
    refine ⟨h3, t3, rfl, fun b o n e => ?_⟩
    have nb : ¬ OwnC (c.owns h1.objs.size ds) b := fun z => by
      rcases z with z | z
      · exact n (.inl z)
      · rw [show b = h1.objs.size from z] at e; rw [show s.heap.get? h1.objs.size = none from hns] at e; cases e
    exact e3 b o nb (e2 b o nb (Heap.get?_push_of_some _ (e1 b o e)))
  refine ⟨kb, ?_⟩
  have q := q₃.2
  cases ho with
  | ret d =>
    cases f with
    | ret v => exact Rep.mono (fun _ _ _ _ _ _ e => e) (fun b _ z => .inl z) q
    | _ => exact q.elim
  | own ds' =>
    cases f with
    | ret v =>
      obtain ⟨a', vs', ha', rfl, hi', r'⟩ := q
      rw [show a' = s₁.heap.objs.size from ha'] at hi' ⊢
      exact .list hi' hn (r'.mono (fun _ _ _ _ _ _ e => e) fun b _ z => .inl z)
    | _ => exact q.elim

theorem Ev.attrAppend {x : Str} {p pos : Pos} (ha : c.ow = some (a, ds)) (hx : Ev c ρ (.Name x p) (.val (.ref a))) : Ev c ρ (.Attribute (.Name x p) (Str.ofString "append") pos) (.bm a) := fun A s E rm F =>
  Attribute_name (hx.wp rm F fun v s₁ k₁ F₁ r₁ => by
    cases r₁
    obtain ⟨hM, vs, ⟨⟨cls, dd, data, sl⟩, e, ⟨c1, c2, c3⟩, n, hd⟩, rl⟩ := F₁.ol a ds ha
    simp only at c1 c2 c3 hd
    subst c1 c2 c3 hd
    refine getAttr_append e fun tk => ⟨keeps_trans k₁ (keeps_push s₁ _ tk), .bm ⟨_, Heap.get?_push_size _ rfl, rfl, rfl⟩ fun z => ?_⟩
    obtain ⟨o, e⟩ := F₁.xb _ z; exact absurd (Heap.lt_size e) (Nat.lt_irrefl _))

theorem FRep.grown {h₀ h h' : Heap} {X M : Addr → Prop} {env : Env} {a : Addr} {ds : List PV} {v : Value} {d : PV} (F : FRep h₀ X M (some (a, ds)) env ρ h) {vs : List Value} (rl : RepL X h vs ds) (rv : Rep X h v d) (hi : IsPL h a vs.toArray)
    (hp : h'.PlainList a (vs.toArray.push v)) (hs : Heap.SameBut a h h') : FRep h₀ X M (some (a, ds ++ [d])) env ρ h' := by
  have hM := (F.ol a ds rfl).1
  have hX : X a := F.mx a hM
  have sq : SeqExt X h h' := fun b o items n hx dd e => hs.extBut b o (fun q => hx (q ▸ hX)) e
  have hne : ∀ b, Own env b → b ≠ a := fun b q z => by
    obtain ⟨o, e, c, n, d⟩ := hi
    exact own_change F e (.inl d) (z ▸ q)
  refine ⟨fun b o e => hs.extBut b o (fun q => by rw [q, F.xn a hX] at e; cases e) (F.ext b o e), fun b x => ?_, F.xn, F.own, fun x cc q => ?_, F.mx, fun a' ds' q => ?_, ?_⟩
  · by_cases q : b = a
    · obtain ⟨n, e⟩ := hp; exact ⟨_, q ▸ e⟩
    · obtain ⟨o, e⟩ := F.xb b x; exact ⟨o, hs.extBut b o q e⟩
  · obtain ⟨v, o, e, d⟩ := F.cl x cc q
    exact ⟨v, o, hs.extBut cc o (hne cc (.inr ⟨x, q⟩)) e, d⟩
  · cases q
    refine ⟨hM, vs ++ [v], ?_, (rl.mono sq fun _ _ z => z).append (.cons (rv.mono sq fun _ _ z => z) .nil)⟩
    have := IsPL.of hp
    simpa using this
  · obtain ⟨m, hm, hv⟩ := F.ns
    refine ⟨m, hm.at' fun o e => hs.extBut _ o (hne _ (.inl rfl)) e, fun x d q => ?_⟩
    obtain ⟨v, sl, r⟩ := hv x d q
    refine ⟨v, ?_, r.mono sq fun _ _ z => z⟩
    rcases sl with sl | ⟨k, cc, k2, o, e, d⟩
    · exact .inl sl
    · exact .inr ⟨k, cc, k2, o, hs.extBut cc o (hne cc (.inr ⟨x, k2⟩)) e, d⟩

theorem Ex1.appendB {x : Str} {p pos spos : Pos} (ha : c.ow = some (a, ds)) (hsz : ds.length < sizeLine) (hf : Ev c ρ (.Name x p) (.bm a)) (h : Ev c ρ e d)
    (he : backTo pos (starEach [e] c.env) = [(false, eval e c.env)]) (hi : interactive c.env = false) (hsw : swapsWith (.Call (.Name x p) [e] [] pos) none spos.line c.env = pure false) : Ex1 c ρ (.Expr (.Call (.Name x p) [e] [] pos) spos) (.next ρ (some (a, ds ++ [d]))) := fun A s E rm F => by
  refine wpAny_Expr_any (wpAny_Call_NameR (hf.wp rm F fun f s₁ k₁ F₁ rf => ?_)) hi hsw
  rw [he]
  cases rf with
  | @bm b _ hob hXb =>
    obtain ⟨ob, hb, hc, hd⟩ := hob
    unfold callWith
    refine wpAny_bind (wpAny_holding (evalArgs_plain (Calls.spliced_cons (h.wp rm F₁ fun v s₂ k₂ F₂ rv => Calls.spliced_nil (wpAny_bind (wpAny_standAt ?_))))))
    have hb2 := keeps_ext k₂ _ _ hb
    have hk : wpAny (model c.prog c.w) A (keeperOf (.ref b)) (fun r s' => r = Keeper.machine ∧ s' = s₂) E s₂ := by
      unfold keeperOf
      refine wpAny_bind (wpAny_load hb2 ?_)
      rw [hd]
      dsimp only
      rw [hc]
      rw [if_pos (by decide)]
      exact wpAny_pure ⟨rfl, rfl⟩
    refine wpAny_bind (wpAny_mono hk (fun r s' q => ?_) fun _ _ x => x)
    obtain ⟨rfl, rfl⟩ := q
    show wpAny _ _ (call (.ref b) [v] >>= fun r => holding [r] point >>= fun _ => pure r) _ _ _
    obtain ⟨hM, vs, hi', rl⟩ := F₂.ol a ds ha
    refine wpAny_bind (call_bound_append hb2 hc hd hi'.plain (fun h' hp hs => ?_) (by simp [rl.length]; lia))
    refine wpAny_bind (wpAny_holding (wpAny_point (wpAny_pure ?_)))
    have F' : FRep c.h₀ c.X c.M (some (a, ds)) c.env ρ s'.heap := ha ▸ F₂
    exact ⟨(KB.of (keeps_trans k₁ k₂)).trans (KB.heap (tk := s'.toks) fun b o n e => hs.extBut b o (fun q => n (.inr (q ▸ hM))) e), F'.grown rl rv hi' hp hs⟩

theorem Ex1.appendM {x : Str} {p apos pos spos : Pos} (ha : c.ow = some (a, ds)) (hsz : ds.length < sizeLine) (hx : Ev c ρ (.Name x p) (.val (.ref a))) (h : Ev c ρ e d)
    (he : starEach [e] c.env = [(false, eval e c.env)]) (hline : (apos.endLine == pos.line) = true) (hi : interactive c.env = false) (hsw : swapsWith (.Call (.Attribute (.Name x p) (Str.ofString "append") apos) [e] [] pos) none spos.line c.env = pure false) :
    Ex1 c ρ (.Expr (.Call (.Attribute (.Name x p) (Str.ofString "append") apos) [e] [] pos) spos) (.next ρ (some (a, ds ++ [d]))) := fun A s E rm Fr => by
  refine wpAny_Expr_any (Call_method1 rfl he hline (hx.wp rm Fr fun f s₁ k₁ F₁ rf => ?_)) hi hsw
  cases rf
  obtain ⟨hM, vs, hpl, rl⟩ := F₁.ol a ds ha
  obtain ⟨n, hob⟩ := hpl.plain
  refine ⟨"list", _, PySem.F.plainAttrs_list, PySem.F.slot_list_append, PySem.F.type_list_append, ⟨_, hob, rfl⟩, fun b q => ?_, ?_⟩
  · cases q; exact ⟨_, hob, rfl⟩
  refine callWith_builtin rfl (evalArgs_plain (Calls.spliced_cons (h.wp rm F₁ fun v s₂ k₂ F₂ rv => Calls.spliced_nil ?_)))
  obtain ⟨hM, vs, hi', rl⟩ := F₂.ol a ds ha
  refine wpAny_list_append_plain hi'.plain (fun h' hp hs => ?_) (by simp [rl.length]; omega)
  have F' : FRep c.h₀ c.X c.M (some (a, ds)) c.env ρ s₂.heap := ha ▸ F₂
  exact ⟨(KB.of (keeps_trans k₁ k₂)).trans (KB.heap (tk := s₂.toks) fun b o n e => hs.extBut b o (fun q => n (.inr (q ▸ hM))) e), F'.grown rl rv hi' hp hs⟩

theorem Ev.itemOwn {x : Str} {p pos : Pos} {r : Expr} {k i : Int} {j : Nat} (ha : c.ow = some (a, ds)) (hx : Ev c ρ (.Name x p) (.val (.ref a))) (hr : Ev c ρ r (.int k)) (hlo : -(2 ^ 63) ≤ k) (hhi : k < 2 ^ 63) (hj : seqIndex? k ds.length = some j) (hd : ds[j]? = some (.int i))
    (hs : ∀ o i, subscripted r false o i = operate [o, i] (getItem o i)) : Ev c ρ (.Subscript (.Name x p) r pos) (.int i) := fun A s E rm F =>
  Subscript_ (hx.wp rm F fun v s₁ k₁ F₁ r₁ => hr.wp rm F₁ fun u s₂ k₂ F₂ r₂ => by
    cases r₁
    obtain ⟨hM, vs, hi, rl⟩ := F₂.ol a ds ha
    have rl' : RepL (fun _ => False) s₂.heap vs ds := rl.mono (fun _ _ _ _ _ _ e => e) fun _ _ z => z.elim
    obtain ⟨T, id, hT, hl, hg⟩ := item_list hlo hhi hj hd c.prog c.w (fun _ => False) A s₂ E (.ref a) u (.list hi.isList (fun z => z) rl') (r₂.mono (fun _ _ _ _ _ _ e => e) fun _ _ z => z.elim)
    refine tail_any hT hl (wpAny_mono hg (fun v s' q => ⟨keeps_trans k₁ (keeps_trans k₂ q.1), ?_⟩) fun _ _ x => x) (hs _ _)
    have q2 := q.2
    refine Rep.intE q2 fun t => ?_; exact .int _ _)

theorem Ev.joinOwn {o : Expr} {x sep : Str} {p apos pos : Pos} {xs : List Str} (ha : c.ow = some (a, xs.map .str)) (ho : Ev c ρ o (.str sep)) (hx : Ev c ρ (.Name x p) (.val (.ref a))) (hok : JoinOk sep xs = true)
    (hbase : attributeBase o (Str.ofString "join") c.env (eval o c.env) = eval o c.env) (he : starEach [.Name x p] c.env = [(false, eval (.Name x p) c.env)]) (hline : (apos.endLine == pos.line) = true) :
    Ev c ρ (.Call (.Attribute o (Str.ofString "join") apos) [.Name x p] [] pos) (.str (Txt.join sep xs)) := fun A s E rm Fr => by
  refine Call_method1 hbase he hline (ho.wp rm Fr fun f s₁ k₁ F₁ rf => ?_)
  refine Rep.strE rf fun t => ?_
  refine ⟨"str", _, PySem.F.plainAttrs_str, PySem.F.slot_str_join, PySem.F.type_str_join, typeIs_str _ _ _, (fun _ e => nomatch e), ?_⟩
  refine callWith_builtin rfl (evalArgs_plain (Calls.spliced_cons (hx.wp rm F₁ fun v s₂ k₂ F₂ rv => Calls.spliced_nil ?_)))
  cases rv
  obtain ⟨hM, vs, hi, rl⟩ := F₂.ol a _ ha
  obtain ⟨l, rfl, e⟩ := repL_strsOf rl
  exact SC.join hi.isList e hok fun t' tk => ⟨keeps_trans k₁ (keeps_trans k₂ (keeps_toks s₂ tk)), .str _ _⟩

theorem Ex1.retOwn {x : Str} {p pos : Pos} (ha : c.ow = some (a, ds)) (hx : Ev c ρ (.Name x p) (.val (.ref a))) : Ex1 c ρ (.Return (some (.Name x p)) pos) (.retOwn ds) := fun A s E r F =>
  wpAny_Return_some (hx.wp r F fun v s₁ k F₁ rv => by
    cases rv
    obtain ⟨hM, vs, hi, rl⟩ := F₁.ol a ds ha
    exact ⟨KB.of k, a, vs, hM, rfl, hi.isList, rl⟩)
end
end Mine

namespace Mine
section
variable {prog : Program} {w : World} {A : Around} {E : Value → Shared → Prop} {s : Shared}
theorem tableLookup_text {a : Addr} {vs : List Value} {c : Nat} {y : Str} {t : Tok} {Q : Builtin.Str.Mapped → Shared → Prop} (hl : s.heap.IsList a vs.toArray) (hc : vs[c]? = some (.str y t)) (hfit : (c : Int) < 2 ^ 63) (h : ∀ tk, Q (.text y) { s with toks := tk }) :
    wpAny (model prog w) A (Builtin.Str.tableLookup (.ref a) c) Q E s := by
  unfold Builtin.Str.tableLookup
  refine wpAny_bind (wpAny_attempt (wpAny_bind (wpAny_mkInt ?_)))
  refine wpAny_getItem_list (x := .str y t) (s := { s with toks := s.toks + 1 }) hl (by lia) hfit (by simpa using hc) ?_
  dsimp only
  refine wpAny_bind (wpAny_of_eq (a := none) rfl ?_)
  dsimp only
  refine wpAny_bind (wpAny_of_eq (a := some y) rfl ?_)
  exact wpAny_pure (h _)

/-- what stands behind each turn of translate's loop -/
noncomputable def TrInv (x : Str) (f : Nat → List Nat) (s : Shared) (rest : List Nat) (b : List Str × Nat × Bool × List (Nat × Option Nat) × Bool) (s' : Shared) : Prop :=
  ∃ tk done, s' = { s with toks := tk } ∧ x.cps.toList = done ++ rest ∧ (b.1.reverse.map (·.cps.toList)).flatten = (done.map f).flatten ∧
      b.2.1 = ((done.map f).flatten).length ∧ b.2.2.2.2 = false ∧ ∀ c o, b.2.2.2.1.lookup c = some o → ∃ d, o = some d ∧ f c = [d]
theorem TrInv.fin {x : Str} {f : Nat → List Nat} {s : Shared} {b : List Str × Nat × Bool × List (Nat × Option Nat) × Bool} {s' : Shared} (h : TrInv x f s [] b s') (hsz : ((x.cps.toList.map f).flatten).length ≤ 2 ^ 20) :
    (∃ tk, s' = { s with toks := tk }) ∧ Builtin.Str.tooLong b.2.1 = false ∧ (⟨b.1.reverse.foldl (fun acc p => acc ++ p.cps) #[]⟩ : Str) = S (x.cps.toList.map f).flatten := by
  obtain ⟨tk, done, rfl, e, h1, h2, h3, h4⟩ := h
  rw [List.append_nil] at e
  rw [← e] at h1 h2
  refine ⟨⟨tk, rfl⟩, ?_, ?_⟩
  · have e24 : sizeLine = 16777216 := rfl
    unfold Builtin.Str.tooLong; exact decide_eq_false (by omega)
  · have key : ∀ (l : List Str) (acc : Array Nat), (l.foldl (fun acc p => acc ++ p.cps) acc).toList = acc.toList ++ (l.map (·.cps.toList)).flatten := by
      intro l
      induction l with
      | nil => intro acc; simp
      | cons y l ih => intro acc; rw [List.foldl_cons, ih]; simp
    have := key b.1.reverse #[]
    rw [h1] at this
    rw [← S_of (⟨b.1.reverse.foldl (fun acc p => acc ++ p.cps) #[]⟩ : Str)]
    show S (b.1.reverse.foldl (fun acc p => acc ++ p.cps) #[]).toList = _
    rw [this]; simp
section
variable {x : Str} {f : Nat → List Nat} {s : Shared} {c : Nat} {rest : List Nat} {b : List Str × Nat × Bool × List (Nat × Option Nat) × Bool} {s' : Shared}
theorem TrInv.mem (h : TrInv x f s (c :: rest) b s') : c ∈ x.cps.toList := by
  obtain ⟨tk, done, rfl, e, _⟩ := h
  rw [e]; simp
theorem TrInv.list {a : Addr} {vs : Array Value} (h : TrInv x f s (c :: rest) b s') (l : s.heap.IsList a vs) : s'.heap.IsList a vs := by
  obtain ⟨tk, done, rfl, e, _⟩ := h
  exact l
theorem TrInv.short (h : TrInv x f s (c :: rest) b s') (hsz : ((x.cps.toList.map f).flatten).length ≤ 2 ^ 20) : Builtin.Str.tooLong b.2.1 = false := by
  obtain ⟨tk, done, rfl, e, h1, h2, h3, h4⟩ := h
  rw [e, List.map_append, List.flatten_append, List.length_append] at hsz
  have e24 : sizeLine = 16777216 := rfl
  unfold Builtin.Str.tooLong; exact decide_eq_false (by omega)
theorem TrInv.drop (h : TrInv x f s (c :: rest) b s') : b.2.2.2.2 = false := by
  obtain ⟨tk, done, rfl, e, h1, h2, h3, h4⟩ := h
  exact h3
theorem TrInv.known (h : TrInv x f s (c :: rest) b s') : ∀ c o, b.2.2.2.1.lookup c = some o → ∃ d, o = some d ∧ f c = [d] := by
  obtain ⟨tk, done, rfl, e, h1, h2, h3, h4⟩ := h
  exact h4
theorem TrInv.more {tk' n : Nat} {fast' : Bool} {known' : List (Nat × Option Nat)} {p : Str} (h : TrInv x f s (c :: rest) b s') (hp : p.cps.toList = f c) (hn : n = (f c).length) (hk : ∀ c o, known'.lookup c = some o → ∃ d, o = some d ∧ f c = [d]) :
    TrInv x f s rest (p :: b.1, b.2.1 + n, fast', known', false) { s' with toks := tk' } := by
  obtain ⟨tk, done, rfl, e, h1, h2, h3, h4⟩ := h
  refine ⟨tk', done ++ [c], rfl, by rw [e]; simp, ?_, ?_, rfl, hk⟩
  · rw [List.reverse_cons, List.map_append, List.flatten_append, h1]; simp [hp]
  · show b.2.1 + n = _
    rw [h2]; simp [hn]
end
theorem known_more {f : Nat → List Nat} {c d : Nat} {known : List (Nat × Option Nat)} (hd : f c = [d]) (h4 : ∀ c o, known.lookup c = some o → ∃ d, o = some d ∧ f c = [d]) : ∀ c' o, ((c, some d) :: known).lookup c' = some o → ∃ d, o = some d ∧ f c' = [d] := by
  intro c' o q
  rw [List.lookup_cons] at q
  by_cases hcc : (c' == c) = true
  · rw [hcc] at q; cases q; rw [beq_iff_eq.mp hcc]; exact ⟨d, rfl, hd⟩
  · rw [Bool.not_eq_true] at hcc
    rw [hcc] at q; exact h4 c' o q
theorem meets_translate (x : Str) (t : Tok) (a : Addr) (vs : List Value) (f : Nat → List Nat) (hx : (x.length == 0) = false) (hsz : ((x.cps.toList.map f).flatten).length ≤ 2 ^ 20) (hf : ∀ c ∈ x.cps.toList, c < 2 ^ 40 ∧ ∃ tk, vs[c]? = some (.str (S (f c)) tk)) :
    Meets (Builtin.«str.translate» ⟨[.str x t, .ref a], []⟩) (fun A R s => s.heap.IsList a vs.toArray ∧ ∀ tk tk', R (.ok (.ret (.str (S (x.cps.toList.map f).flatten) tk'))) { s with toks := tk }) :=
  .of_wp fun prog w A R s h => by
    obtain ⟨hl, hR⟩ := h
    unfold Builtin.«str.translate»
    refine wpAny_bind (wpAny_of_eq (a := (.str x t, x, .ref a)) rfl ?_)
    dsimp only
    rw [hx, if_neg Bool.false_ne_true, ← Array.forIn_toList]
    refine wpAny_bind (wpAny_forIn_list _ (TrInv x f s) _ ?turn ?fin x.cps.toList _ ⟨s.toks, [], rfl, rfl, rfl, rfl, rfl, fun c o q => by cases q⟩)
    case fin =>
      rintro ⟨pieces, total, fast, known, drop⟩ s' I
      obtain ⟨⟨tk, rfl⟩, ht, hp⟩ := I.fin hsz
      rw [show Builtin.Str.tooLong total = false from ht, if_neg Bool.false_ne_true]
      refine wpAny_bind (wpAny_mkStr (wpAny_pure ⟨_, rfl, ?_⟩) (by rw [show (⟨pieces.reverse.foldl (fun acc p => acc ++ p.cps) #[]⟩ : Str) = _ from hp, S_length]; exact Nat.le_trans hsz (by decide)))
      rw [show (⟨pieces.reverse.foldl (fun acc p => acc ++ p.cps) #[]⟩ : Str) = _ from hp]; exact hR _ _
    case turn =>
      intro c rest b s' I
      have hv := hf c I.mem
      have hl' := I.list hl
      rw [I.short hsz, if_neg Bool.false_ne_true, I.drop]
      cases b.2.2.1 with
      | false =>
        rw [if_neg Bool.false_ne_true, if_neg Bool.false_ne_true]
        exact hv.2.elim fun tc hvc => wpAny_bind (tableLookup_text hl' hvc (by have := hv.1; omega) fun tk' => wpAny_pure (I.more (by simp) (S_length _) I.known))
      | true =>
        rw [if_pos rfl]
        cases hk : b.2.2.2.1.lookup c with
        | some o =>
          have hd := I.known c o hk
          cases o with
          | none => exact absurd hd (fun q => q.elim fun d q => nomatch q.1)
          | some d =>
            have hd : f c = [d] := hd.elim fun d' q => by cases q.1; exact q.2
            exact wpAny_bind (wpAny_pure (wpAny_pure (I.more (by rw [hd]) (by rw [hd]; rfl) I.known)))
        | none =>
          refine hv.2.elim fun tc hvc => wpAny_bind (tableLookup_text hl' hvc (by have := hv.1; omega) fun tk' => ?_)
          dsimp only
          by_cases h1c : ((S (f c)).length == 1 && (S (f c)).cps.all fun x => decide (x < 128)) = true
          · rw [if_pos h1c]
            have hd : ∃ d, f c = [d] := List.length_eq_one_iff.mp (by
              have := (Bool.and_eq_true _ _ ▸ h1c).1
              rw [S_length] at this; simpa using this)
            refine hd.elim fun d hd => ?_
            rw [show (S (f c)).cps[0]? = some d by rw [hd]; rfl]
            exact wpAny_bind (wpAny_pure (wpAny_pure (I.more (by rw [hd]) (by rw [hd]; rfl) (known_more hd I.known))))
          · rw [if_neg h1c]
            refine wpAny_bind (wpAny_pure (wpAny_bind (wpAny_rule ?_)))
            rw [if_neg Bool.false_ne_true]
            exact wpAny_bind (tableLookup_text (s := { s' with toks := tk' }) hl' hvc (by have := hv.1; omega) fun tk'' => wpAny_pure (I.more (by simp) (S_length _) I.known))
end
end Mine

namespace Mine
open PySem.Challenge

noncomputable def stAt (i : Nat) : Stmt := pw_rs0187_01.main.body.getD i (.Pass ⟨0, 0, 0, 0⟩)
noncomputable def bodyOf : Stmt → List Stmt
  | .FunctionDef _ _ b _ _ _ _ _ _ _ => b
  | _ => []
noncomputable def scopeOf : Stmt → Scope
  | .FunctionDef _ _ _ _ _ _ s _ _ _ => s
  | _ => ⟨.module, [], false, false, []⟩
noncomputable def argsOf : Stmt → Arguments
  | .FunctionDef _ a _ _ _ _ _ _ _ _ => a
  | _ => ⟨[], [], none, [], [], none, []⟩
noncomputable abbrev bodyAt (i : Nat) : List Stmt := bodyOf (stAt i)
noncomputable abbrev scopeAt (i : Nat) : Scope := scopeOf (stAt i)
noncomputable abbrev argsAt (i : Nat) : Arguments := argsOf (stAt i)

/-- a def of the program in the heap -/
structure FnAt (h₀ : Heap) (i : Nat) (f : Addr) (fd : FuncData) (dflt kw : Value) : Prop where
  obj : ∃ o, h₀.get? f = some o ∧ o.data = .func fd
  body : fd.body = .stmts (bodyAt i)
  scope : fd.scope = scopeAt i
  params : fd.params = argsAt i
  globals : fd.globals = mainGlobals
  builtins : fd.builtins = builtinsNs
  clo : fd.closure = []
  code : h₀.CodeRec fd.code fd.qualname
  lim : h₀.NoLimit
  dflt : fd.defaults = dflt
  kw : fd.kwdefaults = kw

noncomputable abbrev envAt (i : Nat) (q : Str) (f L : Addr) (cd : Value) : Env := { scope := scopeAt i, locals := L, globals := mainGlobals, cells := [], qual := q, func := some f, code := cd, frame := some L, builtins := builtinsNs }
noncomputable abbrev cxAt (prog : Program) (w : World) (h₀ : Heap) (X : Addr → Prop) (i : Nat) (q : Str) (f L : Addr) (cd : Value) (k : Nat) : Cx := ⟨prog, w, h₀, X, fun _ => False, none, envAt i q f L cd, k⟩

theorem CallOk.fn {prog : Program} {w : World} {h₀ : Heap} {k i : Nat} {f : Addr} {fd : FuncData} {dflt kw : Value} {ds : List PV} {ρ : List (Str × PV)} {d : PV} (hk : k ≤ 40) (H : FnAt h₀ i f fd dflt kw) (hco : (scopeAt i).isCoroutine = false) (hgen : (scopeAt i).isGenerator = false) (hkind : (scopeAt i).kind = .function)
    (hb : ∀ fd' : FuncData, fd'.params = argsAt i → fd'.defaults = dflt → fd'.kwdefaults = kw → fd'.scope = scopeAt i → BindOk prog w h₀ fd' ds ρ)
    (hcell : ∀ x ∈ (scopeAt i).names, x.2 ≠ .cell) (hloc : ∀ x ∈ ρ, (scopeAt i).names.lookup x.1 = some .local)
    (h : ∀ X q L cd, Ex (cxAt prog w h₀ X i q f L cd (k + 1)) ρ.reverse (bodyAt i) (.ret d)) : CallOk prog w h₀ k (.ref f) ds d := by
  refine CallOk.func hk ⟨H.obj, H.body, by rw [H.scope]; exact hco, by rw [H.scope]; exact hgen, by rw [H.scope]; exact hkind, H.code, H.lim, H.clo⟩ (hb fd H.params H.dflt H.kw H.scope) (by rw [H.scope]; exact hcell) (by rw [H.scope]; exact hloc) fun X L => ?_
  have e : envFd fd f L = envAt i (fd.qualname ++ ".<locals>.") f L fd.code := by
    show ({ scope := fd.scope, locals := L, globals := fd.globals, cells := fd.closure, qual := fd.qualname ++ ".<locals>.", func := some f, code := fd.code, frame := some L, builtins := fd.builtins } : Env) = _
    rw [H.scope, H.globals, H.clo, H.builtins]
  rw [e]
  exact h X _ L fd.code

section
variable {c : Cx} {ρ : List (Str × PV)} {d : PV}
/-- a global that bears a datum below -/
theorem Ev.globalR {x : Str} {pos : Pos} {v : Value} (h : Glb c.h₀ x v) (hr : Rep (fun _ => False) c.h₀ v d) (hg : c.env.globals = mainGlobals) (hk : c.env.scope.kind = .function) (hl : c.env.kindOf x = some .globalImplicit) (hd : (x == ("__debug__" : Str)) = false) : Ev c ρ (.Name x pos) d := fun A s E r F => by
  obtain ⟨mg, g, e⟩ := h
  refine Name_function_global hk hl (loadGlobal_global (by rw [hg]; exact g.keeps F.ext) e ⟨keeps_refl s, ?_⟩) hd
  exact hr.mono (fun b o _ _ _ _ e => F.ext b o e) fun b hb x => by
    rw [F.xn b x] at hb; cases hb
end

section
variable {prog : Program} {w : World} {h₀ : Heap} {k : Nat}
theorem call_translate {x : List Nat} {tab : List (List Nat)} (h0 : x ≠ []) (hx : ∀ c ∈ x, c < tab.length) (ht : tab.length ≤ 2 ^ 20) (hsz : ((x.map fun c => tab.getD c []).flatten).length ≤ 2 ^ 20) :
    CallOk prog w h₀ k (.builtin "str.translate") [.str (S x), .list (tab.map fun l => .str (S l))] (.str (S (x.map fun c => tab.getD c []).flatten)) := .mk2 fun X A s E v u rm B r1 r2 => by
  refine Rep.strE r1 fun t => ?_; refine Rep.listE r2 fun a vs hi hxa rl => ?_
  have hne : ((S x).length == 0) = false := by
    rw [S_length]; cases x with
    | nil => exact absurd rfl h0
    | cons y ys => rfl
  have hS : (S x).cps.toList = x := by simp
  refine call_meets F.slot_str_translate (typeIs_str _ _ _) F.entry_str_translate (F.args_str_translate_2 _ _) (meets_translate (S x) t a vs (fun c => tab.getD c []) hne (by rw [hS]; exact hsz) fun c hc => ?_) ⟨hi, fun tk tk' => ?_⟩
  · rw [hS] at hc
    have hlt := hx c hc
    refine ⟨by lia, ?_⟩
    have hd : (tab.map fun l => PV.str (S l))[c]? = some (.str (S (tab.getD c []))) := by
      rw [List.getElem?_map, List.getElem?_eq_getElem hlt, List.getD_eq_getElem?_getD, List.getElem?_eq_getElem hlt]; rfl
    obtain ⟨v, hv, rv⟩ := rl.get hd
    obtain ⟨t, e⟩ : ∃ t, v = .str (S (tab.getD c [])) t := Rep.strE rv fun t => ⟨t, rfl⟩
    exact ⟨t, e ▸ hv⟩
  · rw [hS]
    exact ⟨keeps_toks s tk, .str _ _⟩
end

/-- what the law's code finds below it -/
structure Wd (h₀ : Heap) : Prop where
  chr : Blt h₀ "chr" (.builtin "chr")
  ord : Blt h₀ "ord" (.builtin "ord")
  int : Blt h₀ "int" (.type "int")

theorem bind1 {prog : Program} {w : World} {h₀ : Heap} {fd : FuncData} {a : PV} {x : Str} (h : ∀ v, bindArgs fd ⟨[v], []⟩ = pure [(x, v)]) : BindOk prog w h₀ fd [a] [(x, a)] := fun X A s E Q vs B rl hq => by
  refine RepL.consE rl fun _ _ r1 rl => ?_; refine RepL.nilE rl ?_
  rw [h]
  exact wpAny_pure (hq _ (.cons r1 .nil))

section
variable {prog : Program} {w : World} {h₀ : Heap} {k : Nat} {f : Addr} {fd : FuncData}
theorem ok_unquote (W : Wd h₀) (H : FnAt h₀ 14 f fd .none .none) (hk : k ≤ 30) {c : Nat} (hc : c < 256) : CallOk prog w h₀ k (.ref f) [.str (S [61, fig (c / 16), fig (c % 16)])] (.str (S [c])) := by
  refine CallOk.fn (ρ := [("s", .str (S [61, fig (c / 16), fig (c % 16)]))]) (by lia) H rfl rfl rfl (fun fd' h1 h2 h3 h4 => bind1 fun v => ?_) ?_ ?_ fun X q L cd => ?_
  · unfold bindArgs; rw [h1, h2]; rfl
  · decide +kernel
  · intro x hx; rcases List.mem_singleton.mp hx with rfl; rfl
  · refine Ex.ret (Ex1.return_ (Ev.callB (Ev.builtin W.chr rfl rfl rfl rfl rfl) (EvL.cons (d := .int c) ?_ EvL.nil rfl) (call_chr rfl (by lia)) rfl rfl))
    refine Ev.callT (ds := [.str (S [fig (c / 16), fig (c % 16)]), .int 16]) (Ev.builtin W.int rfl rfl rfl rfl rfl) (EvL.cons ?_ (EvL.cons Ev.int EvL.nil rfl) rfl) (call_intHex hc) rfl rfl
    refine (Ev.sliceS (x := [61, fig (c / 16), fig (c % 16)]) (Ev.local_ rfl rfl rfl rfl) (EvP.some Ev.int) (EvP.some Ev.int) (by decide +revert)).of_eq rfl
end
end Mine

namespace Mine
open PySem.Challenge

noncomputable def quoteL (n : Nat) : List Nat := [61, fig (n / 16), fig (n % 16)]
noncomputable def plainB (n : Nat) : Bool := n == 9 || (32 ≤ n && n < 127 && n != 61)
noncomputable def codeB (n : Nat) : List Nat := if plainB n || n == 10 || n == 13 then [n] else quoteL n

/-- what the law's code finds below it -/
structure Below (h₀ : Heap) : Prop extends Wd h₀ where
  len : Blt h₀ "len" (.builtin "len")
  sorted : Blt h₀ "sorted" (.builtin "sorted")
  sum : Blt h₀ "sum" (.builtin "sum")
  max : Blt h₀ "max" (.builtin "max")
  min : Blt h₀ "min" (.builtin "min")
  divmod : Blt h₀ "divmod" (.builtin "divmod")
  isinstance : Blt h₀ "isinstance" (.builtin "isinstance")
  range : Blt h₀ "range" (.type "range")
  zip : Blt h₀ "zip" (.type "zip")
  enumerate : Blt h₀ "enumerate" (.type "enumerate")
  list : Blt h₀ "list" (.type "list")
  str : Blt h₀ "str" (.type "str")
  float : Blt h₀ "float" (.type "float")
  qmap : ∃ a, Glb h₀ "_QUOPRI_MAP" (.ref a) ∧ Rep (fun _ => False) h₀ (.ref a) (.list (((List.range 256).map quoteL).map fun l => .str (S l)))
  emap : ∃ a, Glb h₀ "_QUOPRI_BODY_ENCODE_MAP" (.ref a) ∧ Rep (fun _ => False) h₀ (.ref a) (.list (((List.range 256).map codeB).map fun l => .str (S l)))
  crlf : ∃ t, Glb h₀ "CRLF" (.str (S [13, 10]) t)
  hex : ∃ t, Glb h₀ "hexdigits" (.str (S [48, 49, 50, 51, 52, 53, 54, 55, 56, 57, 97, 98, 99, 100, 101, 102, 65, 66, 67, 68, 69, 70]) t)

section
variable {prog : Program} {w : World} {h₀ : Heap} {k : Nat} {f : Addr} {fd : FuncData}
theorem Ex.seq {c : Cx} {ρ ρ' : List (Str × PV)} {st : Stmt} {ss : List Stmt} {o : Out} (h : Ex1 c ρ st (.next ρ' c.ow)) (hs : Ex c ρ' ss o) : Ex c ρ (st :: ss) o := Ex.cons h hs
theorem ok_quote (W : Below h₀) (H : FnAt h₀ 15 f fd .none .none) (hk : k ≤ 30) {c : Nat} (hc : c < 256) : CallOk prog w h₀ k (.ref f) [.str (S [c])] (.str (S (quoteL c))) := by
  obtain ⟨a, hg, hr⟩ := W.qmap
  refine CallOk.fn (ρ := [("c", .str (S [c]))]) (by lia) H rfl rfl rfl (fun fd' h1 h2 h3 h4 => bind1 fun v => ?_) ?_ ?_ fun X q L cd => ?_
  · unfold bindArgs; rw [h1, h2]; rfl
  · decide +kernel
  · intro x hx; rcases List.mem_singleton.mp hx with rfl; rfl
  · refine Ex.ret (Ex1.return_ (Ev.item (Ev.globalR hg hr rfl rfl rfl rfl) (Ev.callB (ds := [.str (S [c])]) (Ev.builtin W.ord rfl rfl rfl rfl rfl) (EvL.cons (Ev.local_ rfl rfl rfl rfl) EvL.nil rfl) call_ord rfl rfl) (item_list_nat (j := c) rfl ?_ ?_) fun _ _ => rfl))
    · simp
    · simp [hc]

theorem mod2 (n : Nat) : Int.fmod (n : Int) 2 = ((n % 2 : Nat) : Int) := by
  rw [Int.fmod_eq_emod_of_nonneg _ (by lia)]; lia
theorem div2 (n : Nat) : Int.fdiv (n : Int) 2 = ((n / 2 : Nat) : Int) := by
  rw [Int.fdiv_eq_ediv_of_nonneg _ (by omega)]; lia
theorem noPy2 {a : Int} : Builtin.divisionGoesByPylong a 2 = false := PyProof.noPylong_small (by lia)
theorem sortI_len (ns : List Int) : (sortI ns).length = ns.length := (sortI_perm ns).length_eq
theorem getI {ns : List Int} {j : Nat} (h : j < ns.length) : (ns.map PV.int)[j]? = some (.int (ns.getD j 0)) := by
  rw [List.getElem?_map, List.getElem?_eq_getElem h, List.getD_eq_getElem?_getD, List.getElem?_eq_getElem h]; rfl

theorem ne0 {n : Nat} (h : 0 < n) : ((n : Int) == 0) = false := by rw [beq_eq_false_iff_ne]; lia
theorem ok_median_low (W : Below h₀) (H : FnAt h₀ 24 f fd .none .none) (hk : k ≤ 30) {ns : List Int} (h0 : 0 < ns.length) (h64 : ns.length < 64) : CallOk prog w h₀ k (.ref f) [.list (ns.map .int)] (.int ((sortI ns).getD ((ns.length - 1) / 2) 0)) := by
  refine CallOk.fn (ρ := [("data", .list (ns.map .int))]) (by lia) H rfl rfl rfl (fun fd' h1 h2 h3 h4 => bind1 fun v => ?_) ?_ ?_ fun X q L cd => ?_
  · unfold bindArgs; rw [h1, h2]; rfl
  · decide +kernel
  · intro x hx; rcases List.mem_singleton.mp hx with rfl; rfl
  · have hl : (sortI ns).length = ns.length := sortI_len ns
    refine Ex.seq (Ex1.assign (Ev.callB (ds := [.list (ns.map .int)]) (Ev.builtin W.sorted rfl rfl rfl rfl rfl) (EvL.cons (Ev.local_ rfl rfl rfl rfl) EvL.nil rfl) (call_sorted h64) rfl rfl) (StOk.local_ rfl (plainScope_fn rfl)) rfl) ?_
    refine Ex.seq (Ex1.assign ((Ev.callB (ds := [.list ((sortI ns).map .int)]) (Ev.builtin W.len rfl rfl rfl rfl rfl) (EvL.cons (Ev.local_ rfl rfl rfl rfl) EvL.nil rfl) (call_lenL (by rw [List.length_map, hl]; lia)) rfl rfl).of_eq (show _ = PV.int (ns.length : Int) by rw [List.length_map, hl])) (StOk.local_ rfl (plainScope_fn rfl)) rfl) ?_
    refine Ex.seq (Ex1.if_ (b := false) ((Ts.cmp (by show k + 1 ≤ 40; lia) (Ev.local_ rfl rfl rfl rfl) Ev.int cmp_eq rfl).of (ne0 h0)) (fun h => nomatch h) fun _ => Ex.nil) ?_
    by_cases hp : ns.length % 2 = 1
    · refine Ex.ret (Ex1.if_ (b := true) ((Ts.cmp (by show k + 1 ≤ 40; omega) ((Ev.bin (by show k + 1 ≤ 40; omega) (Ev.local_ rfl rfl rfl rfl) Ev.int (bin_mod (by decide))).of_eq (by rw [mod2, hp])) Ev.int cmp_eq rfl).of (by rfl)) (fun _ => ?_) fun h => nomatch h)
      refine Ex.ret (Ex1.return_ (Ev.item (a := .list ((sortI ns).map .int)) (Ev.local_ rfl rfl rfl rfl) ((Ev.bin (by show k + 1 ≤ 40; omega) (Ev.local_ rfl rfl rfl rfl) Ev.int (bin_floordiv (by decide) noPy2)).of_eq (by rw [div2])) (item_list_nat rfl (by rw [List.length_map, hl]; (clear hp hl h0 hk H W; lia)) (by rw [getI (by rw [hl]; lia)]; congr 3; (clear hl h64 h0 hk H W; omega))) fun _ _ => rfl))
    · refine Ex.ret (Ex1.if_ (b := false) ((Ts.cmp (by show k + 1 ≤ 40; omega) ((Ev.bin (by show k + 1 ≤ 40; omega) (Ev.local_ rfl rfl rfl rfl) Ev.int (bin_mod (by decide))).of_eq (by rw [mod2])) Ev.int cmp_eq rfl).of (by simp; lia)) (fun h => nomatch h) fun _ => ?_)
      refine Ex.ret (Ex1.return_ (Ev.item (a := .list ((sortI ns).map .int)) (b := .int ((ns.length / 2 - 1 : Nat) : Int)) (Ev.local_ rfl rfl rfl rfl) ?_ (item_list_nat rfl (by rw [List.length_map, hl]; (clear hp hl h0 hk H W; lia)) (by rw [getI (by rw [hl]; (clear hp hl h64 hk H W; omega))]; congr 3; lia)) fun _ _ => rfl))
      refine (Ev.bin (a := .int ((ns.length / 2 : Nat) : Int)) (by show k + 1 ≤ 40; omega) ?_ Ev.int bin_sub).of_eq (by congr 1; lia)
      exact (Ev.bin (by show k + 1 ≤ 40; omega) (Ev.local_ rfl rfl rfl rfl) Ev.int (bin_floordiv (by decide) noPy2)).of_eq (by rw [div2])

theorem ok_median_high (W : Below h₀) (H : FnAt h₀ 25 f fd .none .none) (hk : k ≤ 30) {ns : List Int} (h0 : 0 < ns.length) (h64 : ns.length < 64) : CallOk prog w h₀ k (.ref f) [.list (ns.map .int)] (.int ((sortI ns).getD (ns.length / 2) 0)) := by
  refine CallOk.fn (ρ := [("data", .list (ns.map .int))]) (by omega) H rfl rfl rfl (fun fd' h1 h2 h3 h4 => bind1 fun v => ?_) ?_ ?_ fun X q L cd => ?_
  · unfold bindArgs; rw [h1, h2]; rfl
  · decide +kernel
  · intro x hx; rcases List.mem_singleton.mp hx with rfl; rfl
  · have hl : (sortI ns).length = ns.length := sortI_len ns
    refine Ex.seq (Ex1.assign (Ev.callB (ds := [.list (ns.map .int)]) (Ev.builtin W.sorted rfl rfl rfl rfl rfl) (EvL.cons (Ev.local_ rfl rfl rfl rfl) EvL.nil rfl) (call_sorted h64) rfl rfl) (StOk.local_ rfl (plainScope_fn rfl)) rfl) ?_
    refine Ex.seq (Ex1.assign ((Ev.callB (ds := [.list ((sortI ns).map .int)]) (Ev.builtin W.len rfl rfl rfl rfl rfl) (EvL.cons (Ev.local_ rfl rfl rfl rfl) EvL.nil rfl) (call_lenL (by rw [List.length_map, hl]; omega)) rfl rfl).of_eq (show _ = PV.int (ns.length : Int) by rw [List.length_map, hl])) (StOk.local_ rfl (plainScope_fn rfl)) rfl) ?_
    refine Ex.seq (Ex1.if_ (b := false) ((Ts.cmp (by show k + 1 ≤ 40; omega) (Ev.local_ rfl rfl rfl rfl) Ev.int cmp_eq rfl).of (ne0 h0)) (fun h => nomatch h) fun _ => Ex.nil) ?_
    refine Ex.ret (Ex1.return_ (Ev.item (a := .list ((sortI ns).map .int)) (Ev.local_ rfl rfl rfl rfl) ((Ev.bin (by show k + 1 ≤ 40; omega) (Ev.local_ rfl rfl rfl rfl) Ev.int (bin_floordiv (by decide) noPy2)).of_eq (by rw [div2])) (item_list_nat rfl (by rw [List.length_map, hl]; omega) (by rw [getI (by rw [hl]; lia)])) fun _ _ => rfl))

/-- the middle of a list: an int for an odd count, else a half -/
noncomputable def medD (ns : List Int) : PV := if ns.length % 2 = 1 then .int ((sortI ns).getD (ns.length / 2) 0) else .flt (divII ((sortI ns).getD (ns.length / 2 - 1) 0 + (sortI ns).getD (ns.length / 2) 0) 2)
theorem ok_median (W : Below h₀) (H : FnAt h₀ 23 f fd .none .none) (hk : k ≤ 30) {ns : List Int} (h0 : 0 < ns.length) (h64 : ns.length < 64) (hi : Float64.isInf (divII ((sortI ns).getD (ns.length / 2 - 1) 0 + (sortI ns).getD (ns.length / 2) 0) 2) = false) : CallOk prog w h₀ k (.ref f) [.list (ns.map .int)] (medD ns) := by
  refine CallOk.fn (ρ := [("data", .list (ns.map .int))]) (by omega) H rfl rfl rfl (fun fd' h1 h2 h3 h4 => bind1 fun v => ?_) ?_ ?_ fun X q L cd => ?_
  · unfold bindArgs; rw [h1, h2]; rfl
  · decide +kernel
  · intro x hx; rcases List.mem_singleton.mp hx with rfl; rfl
  · have hl : (sortI ns).length = ns.length := sortI_len ns
    refine Ex.seq (Ex1.assign (Ev.callB (ds := [.list (ns.map .int)]) (Ev.builtin W.sorted rfl rfl rfl rfl rfl) (EvL.cons (Ev.local_ rfl rfl rfl rfl) EvL.nil rfl) (call_sorted h64) rfl rfl) (StOk.local_ rfl (plainScope_fn rfl)) rfl) ?_
    refine Ex.seq (Ex1.assign ((Ev.callB (ds := [.list ((sortI ns).map .int)]) (Ev.builtin W.len rfl rfl rfl rfl rfl) (EvL.cons (Ev.local_ rfl rfl rfl rfl) EvL.nil rfl) (call_lenL (by rw [List.length_map, hl]; omega)) rfl rfl).of_eq (show _ = PV.int (ns.length : Int) by rw [List.length_map, hl])) (StOk.local_ rfl (plainScope_fn rfl)) rfl) ?_
    refine Ex.seq (Ex1.if_ (b := false) ((Ts.cmp (by show k + 1 ≤ 40; omega) (Ev.local_ rfl rfl rfl rfl) Ev.int cmp_eq rfl).of (ne0 h0)) (fun h => nomatch h) fun _ => Ex.nil) ?_
    by_cases hp : ns.length % 2 = 1
    · rw [medD, if_pos hp]
      refine Ex.ret (Ex1.if_ (b := true) ((Ts.cmp (by show k + 1 ≤ 40; omega) ((Ev.bin (by show k + 1 ≤ 40; omega) (Ev.local_ rfl rfl rfl rfl) Ev.int (bin_mod (by decide))).of_eq (by rw [mod2, hp])) Ev.int cmp_eq rfl).of (by rfl)) (fun _ => ?_) fun h => nomatch h)
      refine Ex.ret (Ex1.return_ (Ev.item (a := .list ((sortI ns).map .int)) (Ev.local_ rfl rfl rfl rfl) ((Ev.bin (by show k + 1 ≤ 40; omega) (Ev.local_ rfl rfl rfl rfl) Ev.int (bin_floordiv (by decide) noPy2)).of_eq (by rw [div2])) (item_list_nat rfl (by rw [List.length_map, hl]; omega) (by rw [getI (by rw [hl]; omega)])) fun _ _ => rfl))
    · rw [medD, if_neg hp]
      refine Ex.ret (Ex1.if_ (b := false) ((Ts.cmp (by show k + 1 ≤ 40; omega) ((Ev.bin (by show k + 1 ≤ 40; omega) (Ev.local_ rfl rfl rfl rfl) Ev.int (bin_mod (by decide))).of_eq (by rw [mod2])) Ev.int cmp_eq rfl).of (by simp; omega)) (fun h => nomatch h) fun _ => ?_)
      refine Ex.seq (Ex1.assign ((Ev.bin (by show k + 1 ≤ 40; omega) (Ev.local_ rfl rfl rfl rfl) Ev.int (bin_floordiv (by decide) noPy2)).of_eq (show _ = PV.int ((ns.length / 2 : Nat) : Int) by rw [div2])) (StOk.local_ rfl (plainScope_fn rfl)) rfl) ?_
      refine Ex.ret (Ex1.return_ (Ev.bin (a := .int ((sortI ns).getD (ns.length / 2 - 1) 0 + (sortI ns).getD (ns.length / 2) 0)) (by show k + 1 ≤ 40; omega) (Ev.bin (a := .int ((sortI ns).getD (ns.length / 2 - 1) 0)) (b := .int ((sortI ns).getD (ns.length / 2) 0)) (by show k + 1 ≤ 40; omega) ?_ ?_ bin_add) Ev.int (bin_div (by decide) hi)))
      · refine Ev.item (a := .list ((sortI ns).map .int)) (b := .int ((ns.length / 2 - 1 : Nat) : Int)) (Ev.local_ rfl rfl rfl rfl) ?_ (item_list_nat rfl (by rw [List.length_map, hl]; omega) (by rw [getI (by rw [hl]; omega)])) fun _ _ => rfl
        exact (Ev.bin (a := .int ((ns.length / 2 : Nat) : Int)) (by show k + 1 ≤ 40; omega) (Ev.local_ rfl rfl rfl rfl) Ev.int bin_sub).of_eq (by congr 1; omega)
      · exact Ev.item (a := .list ((sortI ns).map .int)) (b := .int ((ns.length / 2 : Nat) : Int)) (Ev.local_ rfl rfl rfl rfl) (Ev.local_ rfl rfl rfl rfl) (item_list_nat rfl (by rw [List.length_map, hl]; omega) (by rw [getI (by rw [hl]; omega)])) fun _ _ => rfl
end
end Mine

namespace Mine
open PySem.Challenge
theorem wpAny_if_f {α : Type} {M : Model} {A : Around} {E : Value → Shared → Prop} {s : Shared} {c : Prop} [Decidable c] {x y : Sem α} {Q : α → Shared → Prop} (h : c → False) (k : wpAny M A y Q E s) : wpAny M A (if c then x else y) Q E s := by rw [if_neg h]; exact k
theorem wpAny_if_t {α : Type} {M : Model} {A : Around} {E : Value → Shared → Prop} {s : Shared} {c : Prop} [Decidable c] {x y : Sem α} {Q : α → Shared → Prop} (h : c) (k : wpAny M A x Q E s) : wpAny M A (if c then x else y) Q E s := by rw [if_pos h]; exact k
theorem bindQ1 {prog : Program} {w : World} {A : Around} {E : Value → Shared → Prop} {s : Shared} {fd : FuncData} {kwd : Addr} {m : Str → Option Value} {x y v u : Value} {Q : List (Str × Value) → Shared → Prop} (h1 : fd.params = argsAt 26) (h2 : fd.defaults = .none) (h3 : fd.kwdefaults = .ref kwd)
    (hm : s.heap.Ns kwd m) (e : m "method" = some y) (hQ : Q [("data", v), ("n", u), ("method", y)] s) : wpAny (model prog w) A (bindArgs fd ⟨[v], [("n", u)]⟩) Q E s := by
  unfold bindArgs
  rw [h1, h2, h3]
  refine wpAny_bind (m := forIn [((Str.ofString "n"), u)] _ _) ?_
  rw [List.forIn_cons]
  refine wpAny_bind ?_
  refine wpAny_if_t rfl (wpAny_if_f (fun h => nomatch (show false = true from h)) (wpAny_pure ?_))
  dsimp only
  rw [List.forIn_nil]
  refine wpAny_pure ?_
  dsimp only
  refine wpAny_bind (wpAny_of_eq (a := none) rfl ?_)
  refine wpAny_if_f (fun h => nomatch (show false = true from h)) ?_
  refine wpAny_if_f (fun h => nomatch (show false = true from h)) ?_
  refine wpAny_bind (m := forIn ([] : List (Str × Value)) _ _) ?_
  rw [List.forIn_nil]
  refine wpAny_pure ?_
  refine wpAny_bind (m := forIn [Str.ofString "n", Str.ofString "method"] _ _) ?_
  rw [List.forIn_cons]
  refine wpAny_bind (wpAny_if_f (fun h => nomatch (show false = true from h)) (wpAny_pure ?_))
  dsimp only
  rw [List.forIn_cons]
  refine wpAny_bind (wpAny_if_t rfl (wpAny_bind (wpAny_nsGet hm ?_)))
  rw [e]
  refine wpAny_pure ?_
  dsimp only
  rw [List.forIn_nil]
  refine wpAny_pure ?_
  dsimp only
  refine wpAny_if_f (fun h => nomatch (show false = true from h)) ?_
  exact wpAny_pure hQ

theorem bindQ2_eq {fd : FuncData} {v u y : Value} (h1 : fd.params = argsAt 26) (h2 : fd.defaults = .none) : bindArgs fd ⟨[v], [("n", u), ("method", y)]⟩ = pure [(Str.ofString "data", v), (Str.ofString "n", u), (Str.ofString "method", y)] := by
  unfold bindArgs
  rw [h1, h2]
  rfl
theorem bindQ2 {prog : Program} {w : World} {A : Around} {E : Value → Shared → Prop} {s : Shared} {fd : FuncData} {kwd : Value} {v u y : Value} {Q : List (Str × Value) → Shared → Prop} (h1 : fd.params = argsAt 26) (h2 : fd.defaults = .none)
    (hQ : Q [("data", v), ("n", u), ("method", y)] s) : wpAny (model prog w) A (bindArgs fd ⟨[v], [("n", u), ("method", y)]⟩) Q E s := by
  rw [bindQ2_eq h1 h2]; exact wpAny_pure hQ

/-- a call with keywords gives a datum -/
noncomputable def CallOkW (prog : Program) (w : World) (h₀ : Heap) (k : Nat) (f : Value) (ds : List PV) (kds : List (Str × PV)) (d : PV) : Prop :=
  ∀ (X : Addr → Prop) (A : Around) (s : Shared) (E : Value → Shared → Prop) (vs us : List Value), Rm k A → Base h₀ X s.heap → RepL X s.heap vs ds → RepL X s.heap us (kds.map (·.2)) → wpAny (model prog w) A (call f vs ((kds.map (·.1)).zip us)) (fun v s' => Keeps s s' ∧ Rep X s'.heap v d) E s
noncomputable def BindOkW (prog : Program) (w : World) (h₀ : Heap) (fd : FuncData) (ds : List PV) (kds : List (Str × PV)) (ρ : List (Str × PV)) : Prop :=
  ∀ (X : Addr → Prop) (A : Around) (s : Shared) (E : Value → Shared → Prop) (Q : List (Str × Value) → Shared → Prop) (vs us : List Value), Base h₀ X s.heap → RepL X s.heap vs ds → RepL X s.heap us (kds.map (·.2)) → (∀ binds, RepB X s.heap binds ρ → Q binds s) → wpAny (model prog w) A (bindArgs fd ⟨vs, (kds.map (·.1)).zip us⟩) Q E s

theorem CallOkW.fn {prog : Program} {w : World} {h₀ : Heap} {k i : Nat} {f : Addr} {fd : FuncData} {dflt kw : Value} {ds : List PV} {kds : List (Str × PV)} {ρ : List (Str × PV)} {d : PV} (hk : k ≤ 40) (H : FnAt h₀ i f fd dflt kw) (hco : (scopeAt i).isCoroutine = false) (hgen : (scopeAt i).isGenerator = false) (hkind : (scopeAt i).kind = .function)
    (hb : ∀ fd' : FuncData, fd'.params = argsAt i → fd'.defaults = dflt → fd'.kwdefaults = kw → BindOkW prog w h₀ fd' ds kds ρ)
    (hcell : ∀ x ∈ (scopeAt i).names, x.2 ≠ .cell) (hloc : ∀ x ∈ ρ, (scopeAt i).names.lookup x.1 = some .local)
    (h : ∀ X q L cd, Ex (cxAt prog w h₀ X i q f L cd (k + 1)) ρ.reverse (bodyAt i) (.ret d)) : CallOkW prog w h₀ k (.ref f) ds kds d := fun X A s E vs us r B rl ru => by
  obtain ⟨o, ho, hd⟩ := H.obj
  refine wpAny_call (codeAny_call_function (by have := r.2.1; show A.depth < 1000; lia) (B.ext _ _ ho) hd (by rw [H.scope]; exact hco) (by rw [H.scope]; exact hgen) H.body (by obtain ⟨c, o', vs', t, e, g, rest⟩ := H.code; exact ⟨c, o', vs', t, e, B.ext _ _ g, rest⟩) ?_)
  refine hb fd H.params H.dflt H.kw X _ s _ _ vs us B rl ru fun binds rb => ?_
  refine wpAny_newFunctionEnv (by rw [H.scope]; exact hcell) (fun x hx => ?_) (fun h₁ hns hsb => ?_) (by rw [H.scope]; exact hkind)
  · obtain ⟨d', hd'⟩ := rb.mem x hx; rw [H.scope]; exact hloc _ hd'
  · have hcl : fd.closure = [] := H.clo
    obtain ⟨ex, F⟩ := frep_new (env := envFd fd f s.heap.objs.size) B rb rfl hns hsb hcl (by intro x hx; show fd.scope.names.lookup x.1 = _; rw [H.scope]; exact hloc x hx)
    have e : envFd fd f s.heap.objs.size = envAt i (fd.qualname ++ ".<locals>.") f s.heap.objs.size fd.code := by
      show ({ scope := fd.scope, locals := s.heap.objs.size, globals := fd.globals, cells := fd.closure, qual := fd.qualname ++ ".<locals>.", func := some f, code := fd.code, frame := some s.heap.objs.size, builtins := fd.builtins } : Env) = _
      rw [H.scope, H.globals, H.clo, H.builtins]
    refine ⟨H.lim.keeps fun b o e => F.ext b o e, ?_⟩
    refine codeAny_func (env := envFd fd f s.heap.objs.size) ?_
    rw [e] at F ⊢
    refine wpAny_mono (h X _ s.heap.objs.size fd.code (A.deeper _) { s with heap := h₁, toks := s.toks + binds.length } _ (r.deeper _) F) (fun fl s' q => ?_) fun _ _ x => x
    obtain ⟨⟨h', tk, rfl, kb⟩, q⟩ := q
    cases fl with
    | ret v =>
      refine ⟨⟨h', tk, rfl, fun b o e => kb b o (fun q => ?_) (ex _ _ e)⟩, q⟩
      rcases q with (q | ⟨x, q⟩) | q
      · rw [show b = s.heap.objs.size from q] at e; exact absurd (Heap.lt_size e) (Nat.lt_irrefl _)
      · simp at q
      · exact q
    | _ => exact q.elim

section
variable {c : Cx} {ρ : List (Str × PV)} {e : Expr} {d : PV}
/-- keyword values -/
noncomputable def EvK (c : Cx) (ρ : List (Str × PV)) (kws : List Keyword) (kds : List (Str × PV)) : Prop :=
  ∀ (pos : Pos) (A : Around) (s : Shared) (E : Value → Shared → Prop), Rm c.k A → c.F ρ s.heap → wpAny (model c.prog c.w) A (evalAll ((backToKw pos (keywordEach kws c.env)).map (·.2))) (fun us s' => Keeps s s' ∧ RepL c.X s'.heap us (kds.map (·.2))) E s
theorem EvK.nil : EvK c ρ [] [] := fun _ _ s _ _ _ => kwAll_nil ⟨keeps_refl s, .nil⟩
theorem EvK.cons {n : Str} {p : Pos} {kws : List Keyword} {kds : List (Str × PV)} (x : Ev c ρ e d) (xs : EvK c ρ kws kds) : EvK c ρ (⟨some n, e, p⟩ :: kws) ((n, d) :: kds) := fun pos A s E r F =>
  kwAll_cons (x.wp r F fun v s₁ k₁ F₁ r₁ => wpAny_mono (xs pos A s₁ E r F₁) (fun vs s₂ q => ⟨keeps_trans k₁ q.1, .cons (r₁.ext (keeps_ext q.1)) q.2⟩) fun _ _ x => x)
theorem Ev.callW {x : Str} {p pos : Pos} {args : List Expr} {kws : List Keyword} {f : Addr} {o : Obj} {fd : FuncData} {ds : List PV} {kds : List (Str × PV)} (hf : Ev c ρ (.Name x p) (.val (.ref f))) (ho : c.h₀.get? f = some o) (hd : o.data = .func fd) (ha : EvL c ρ (e :: args) ds) (hkw : EvK c ρ kws kds) (hc : CallOkW c.prog c.w c.h₀ c.k (.ref f) ds kds d)
    (he : starEach (e :: args) c.env = (false, eval e c.env) :: starEach args c.env) (hall : (backToKw pos (keywordEach kws c.env)).all (·.1.isSome) = true) (hn : (backToKw pos (keywordEach kws c.env)).filterMap (·.1) = kds.map (·.1)) : Ev c ρ (.Call (.Name x p) (e :: args) kws pos) d := fun A s E r F =>
  wpAny_Call_Name_kw (hf.wp r F fun f s₁ k₁ F₁ rf => by
    cases rf
    refine callWith_def_kw hd (evalArgs_kw2 hall (wpAny_mono (ha pos A s₁ E r F₁) (fun vs s₂ q => ?_) fun _ _ x => x) he)
    have F₂ := F₁.keeps (keeps_ext q.1)
    refine wpAny_mono (hkw pos A s₂ E r F₂) (fun us s₃ q₃ => ⟨(F₂.keeps (keeps_ext q₃.1)).ext _ _ ho, ?_⟩) fun _ _ x => x
    rw [hn]
    exact wpAny_mono (hc c.X A s₃ E _ _ r (F₂.base.keeps (keeps_ext q₃.1)) (q.2.ext (keeps_ext q₃.1)) q₃.2) (fun _ _ q' => ⟨keeps_trans k₁ (keeps_trans q.1 (keeps_trans q₃.1 q'.1)), q'.2⟩) fun _ _ x => x)
end
end Mine

namespace Mine
open PySem.Challenge

section
variable {c : Cx} {ρ ρ' : List (Str × PV)} {e : Expr} {d : PV}
theorem Ex1.assignT {t : Expr} {pos : Pos} (h : Ev c ρ e d) (ha : AsOk (OwnC c) c ρ t d ρ') (he : (assignEach [t] c.env).map (·.2) = [PySem.assign t c.env]) (hs : swapsWithSole [t] e pos.line c.env = pure false) (hw : swappedStores [t] e c.env = pure none) :
    Ex1 c ρ (.Assign [t] e pos) (.next ρ' c.ow) := fun A s E r F => by
  refine wpAny_Assign_stores (h.wp r F fun v s₁ k F₁ rv => ?_) hs hw
  rw [he]
  exact wpAny_mono (ha A s₁ E v r F₁ rv) (fun _ s₂ q => ⟨(KB.of k).trans q.1, q.2⟩) fun _ _ x => x

theorem Sub.refl (ρ : List (Str × PV)) : Sub ρ ρ := fun _ _ q => q
theorem Sub.fresh {x : Str} {d : PV} {σ : List (Str × PV)} (s : Sub σ ρ) (h : σ.lookup x = none) : Sub σ ((x, d) :: ρ) := fun y e q => by
  rw [List.lookup_cons]
  by_cases z : (y == x) = true
  · rw [beq_iff_eq.mp z] at q; rw [h] at q; cases q
  · have z' : (y == x) = false := by simpa using z
    rw [z']; exact s y e q
end

theorem mulOk {a b : Int} (h : a.natAbs < 2 ^ 60) : IntMulOk a b := IntMulOk.of_left (by
  unfold Builtin.Int.intBits
  split
  · lia
  · rename_i h0
    have : a.natAbs ≠ 0 := by intro z; exact h0 (by rw [beq_iff_eq]; (clear h0 h; lia))
    have := (Nat.log2_lt this).mpr h
    lia)
theorem divOk {a b : Int} (hb : b ≠ 0) (ha : a.natAbs < 2 ^ 200) : Float64.isInf (divII a b) = false := by
  have := Flt.quot_fits (sg := decide (a < 0) != decide (b < 0)) (n := a.natAbs) (d := b.natAbs) (by lia) (Nat.lt_of_lt_of_le ha (Nat.pow_le_pow_right (by lia) (by lia)))
  unfold divII
  simpa using this
theorem noPyS {a b : Int} (h : b.natAbs < 2 ^ 30) : Builtin.divisionGoesByPylong a b = false := PyProof.noPylong_small (by omega)
theorem fdivN (a b : Nat) : Int.fdiv (a : Int) (b : Int) = ((a / b : Nat) : Int) := by
  rw [Int.fdiv_eq_ediv_of_nonneg _ (by lia)]; exact Int.natCast_ediv a b |>.symm
theorem fmodN (a b : Nat) : Int.fmod (a : Int) (b : Int) = ((a % b : Nat) : Int) := by
  rw [Int.fmod_eq_emod_of_nonneg _ (by omega)]; exact (Int.natCast_emod a b).symm

/-- the inclusive cut at i -/
noncomputable def inclV (ss : List Int) (n i : Nat) : UInt64 := divII (ss.getD (i * (ss.length - 1) / n) 0 * ((n : Int) - ((i * (ss.length - 1) % n : Nat) : Int)) + ss.getD (i * (ss.length - 1) / n + 1) 0 * ((i * (ss.length - 1) % n : Nat) : Int)) n

section
variable {prog : Program} {w : World} {h₀ : Heap} {k : Nat} {f : Addr} {fd : FuncData} {kwd : Addr}
theorem ok_quant_incl (W : Below h₀) (H : FnAt h₀ 26 f fd .none (.ref kwd)) (hk : k ≤ 30) {ns : List Int} {n : Nat} (h2 : 2 ≤ ns.length) (h64 : ns.length < 64) (hn : 1 ≤ n) (hn2 : n < 2 ^ 20) (hb : ∀ j, (ns.getD j 0).natAbs < 2 ^ 20) (hbs : ∀ j, ((sortI ns).getD j 0).natAbs < 2 ^ 20) :
    CallOkW prog w h₀ k (.ref f) [.list (ns.map .int)] [("n", .int n), ("method", .str (Str.ofString "inclusive"))] (.list ((List.range (n - 1)).map fun i => .flt (inclV (sortI ns) n (i + 1)))) := by
  refine CallOkW.fn (ρ := [("data", .list (ns.map .int)), ("n", .int n), ("method", .str (Str.ofString "inclusive"))]) (by lia) H rfl rfl rfl (fun fd' p1 p2 p3 => fun X A s E Q vs us B rl ru hq => ?_) ?_ ?_ fun X q L cd => ?_
  · refine RepL.consE rl fun _ _ r1 rl => ?_; refine RepL.nilE rl ?_; refine RepL.consE ru fun _ _ u1 ru => ?_; refine RepL.consE ru fun _ _ u2 ru => ?_; refine RepL.nilE ru ?_; exact bindQ2 (kwd := .none) p1 p2 (hq _ (.cons r1 (.cons u1 (.cons u2 .nil))))
  · decide +kernel
  · intro x hx; simp at hx; rcases hx with rfl | rfl | rfl <;> rfl
  · have hl : (sortI ns).length = ns.length := sortI_len ns
    have hk1 : k + 1 ≤ 40 := by lia
    refine Ex.seq (Ex1.if_ (b := false) ((Ts.cmp hk1 (Ev.local_ rfl rfl rfl rfl) Ev.int cmp_lt rfl).of (decide_eq_false (by lia))) (fun h => nomatch h) fun _ => Ex.nil) ?_
    refine Ex.seq (Ex1.assign (Ev.callB (ds := [.list (ns.map .int)]) (Ev.builtin W.sorted rfl rfl rfl rfl rfl) (EvL.cons (Ev.local_ rfl rfl rfl rfl) EvL.nil rfl) (call_sorted h64) rfl rfl) (StOk.local_ rfl (plainScope_fn rfl)) rfl) ?_
    refine Ex.seq (Ex1.assign ((Ev.callB (ds := [.list ((sortI ns).map .int)]) (Ev.builtin W.len rfl rfl rfl rfl rfl) (EvL.cons (Ev.local_ rfl rfl rfl rfl) EvL.nil rfl) (call_lenL (by rw [List.length_map, hl]; lia)) rfl rfl).of_eq (show _ = PV.int (ns.length : Int) by rw [List.length_map, hl])) (StOk.local_ rfl (plainScope_fn rfl)) rfl) ?_
    refine Ex.seq (Ex1.if_ (b := false) ((Ts.cmp hk1 (Ev.local_ rfl rfl rfl rfl) Ev.int cmp_lt rfl).of (decide_eq_false (by lia))) (fun h => nomatch h) fun _ => Ex.nil) ?_
    refine Ex.ret (Ex1.if_ (b := true) ((Ts.cmp hk1 (Ev.local_ rfl rfl rfl rfl) Ev.str cmp_eqS rfl).of (by decide +kernel)) (fun _ => ?_) fun h => nomatch h)
    refine Ex.seq (Ex1.assign ((Ev.bin hk1 (Ev.local_ rfl rfl rfl rfl) Ev.int bin_sub).of_eq (show _ = PV.int ((ns.length - 1 : Nat) : Int) by congr 1; lia)) (StOk.local_ rfl (plainScope_fn rfl)) rfl) ?_
    refine Ex.newList (ds := []) (o := .retOwn _) (fun _ z => z) EvL.nil rfl (plainScope_fn rfl) rfl (by decide) (.own _) fun a => ?_
    have hbody : True := trivial
    refine Ex.cons (Ex1.for_ (ds := rangeD 1 (n - 1)) (EvIt.range2 (a := 1) (b := n) (n := n - 1) (by lia) (by lia) (by lia) (by (clear hbody hk1 hl hbs hb hn h64 h2 hk H W; omega)) (Ev.builtin W.range rfl rfl rfl rfl rfl) (EvL.cons Ev.int (EvL.cons (Ev.local_ rfl rfl rfl rfl) EvL.nil rfl) rfl) rfl rfl) (fun _ => rfl) (fun _ => _) (fun i => some (a, (List.range i).map fun i => .flt (inclV (sortI ns) n (i + 1)))) (Sub.refl _) rfl ?turn) ?rest
    case rest =>
      have e : (rangeD 1 (n - 1)).length = n - 1 := by simp [rangeD]
      rw [e]
      exact Ex.retOwn (Ex1.retOwn rfl (Ev.local_ rfl rfl rfl rfl))
    case turn =>
      intro i d hd X'
      obtain ⟨hi, rfl⟩ := rangeD_get hd
      refine ⟨_, AsOk.name (StOk.local_ rfl (plainScope_fn rfl)), ?_⟩
      have hidx : (i + 1) * (ns.length - 1) / n < ns.length - 1 := Nat.div_lt_of_lt_mul (by rw [Nat.mul_comm n]; exact Nat.mul_comm (i+1) _ ▸ (Nat.mul_lt_mul_of_pos_left (by (clear hd hbody hk1 hl hbs hb hn2 hn h64 h2 hk H W; omega)) (by lia)))
      have eow : (List.range (i + 1)).map (fun i => PV.flt (inclV (sortI ns) n (i + 1))) = (List.range i).map (fun i => PV.flt (inclV (sortI ns) n (i + 1))) ++ [PV.flt (inclV (sortI ns) n (i + 1))] := by rw [List.range_succ, List.map_append]; rfl
      show Goes _ _ _ _ (some (a, (List.range (i + 1)).map (fun i => PV.flt (inclV (sortI ns) n (i + 1)))))
      rw [eow]
      refine Goes.next (Ex.seq (Ex1.assignT (d := .tup [.int (((i + 1) * (ns.length - 1) / n : Nat) : Int), .int (((i + 1) * (ns.length - 1) % n : Nat) : Int)]) ?_ (AsOk.two (fun _ z => z) (StOk.local_ rfl (plainScope_fn rfl)) (StOk.local_ rfl (plainScope_fn rfl))) rfl rfl rfl) (Ex.seq (Ex1.assign (d := .flt (inclV (sortI ns) n (i + 1))) ?_ (StOk.local_ rfl (plainScope_fn rfl)) rfl) (Ex.one (Ex1.appendM (d := .flt (inclV (sortI ns) n (i + 1))) rfl ?_ (Ev.local_ rfl rfl rfl rfl) (Ev.local_ rfl rfl rfl rfl) rfl rfl rfl rfl)))) ?_
      · refine (Ev.callB (ds := [.int (((i + 1) * (ns.length - 1) : Nat) : Int), .int n]) (Ev.builtin W.divmod rfl rfl rfl rfl rfl) (EvL.cons ?_ (EvL.cons (Ev.local_ rfl rfl rfl rfl) EvL.nil rfl) rfl) (call_divmod (by lia) (noPyS (by (clear eow hidx hd hi hbody hk1 hl hbs hb hn h64 h2 hk H W; omega)))) rfl rfl).of_eq (by rw [fdivN, fmodN])
        exact (Ev.bin hk1 (Ev.local_ rfl rfl rfl rfl) (Ev.local_ rfl rfl rfl rfl) (bin_mul (mulOk (by (clear eow hidx hd hbody hk1 hl hbs hb hn h64 h2 hk H W; omega))))).of_eq (by congr 1; push_cast; rw [Int.add_comm 1])
      · have hj : (i + 1) * (ns.length - 1) / n + 1 < (sortI ns).length := by lia
        have hb1 := hbs ((i + 1) * (ns.length - 1) / n)
        have hb2 := hbs ((i + 1) * (ns.length - 1) / n + 1)
        have hdl : (i + 1) * (ns.length - 1) % n < n := Nat.mod_lt _ (by lia)
        have hA : ((sortI ns).getD ((i + 1) * (ns.length - 1) / n) 0 * ((n : Int) - ((i + 1) * (ns.length - 1) % n : Nat))).natAbs ≤ 2 ^ 20 * 2 ^ 20 := by rw [Int.natAbs_mul]; exact Nat.mul_le_mul (by lia) (by (clear hb2 hb1 hj eow hidx hd hi hbody hk1 hl hbs hb hn h64 h2 hk H W; omega))
        have hB : ((sortI ns).getD ((i + 1) * (ns.length - 1) / n + 1) 0 * (((i + 1) * (ns.length - 1) % n : Nat) : Int)).natAbs ≤ 2 ^ 20 * 2 ^ 20 := by rw [Int.natAbs_mul]; exact Nat.mul_le_mul (by lia) (by (clear hA hb2 hb1 hj eow hidx hd hi hbody hk1 hl hbs hb hn h64 h2 hk H W; omega))
        refine (Ev.bin (b := .int n) hk1 (Ev.bin hk1 (Ev.bin (a := .int ((sortI ns).getD ((i + 1) * (ns.length - 1) / n) 0)) hk1 ?_ (Ev.bin hk1 (Ev.local_ rfl rfl rfl rfl) (Ev.local_ rfl rfl rfl rfl) bin_sub) (bin_mul (mulOk (by lia)))) (Ev.bin (a := .int ((sortI ns).getD ((i + 1) * (ns.length - 1) / n + 1) 0)) hk1 ?_ (Ev.local_ rfl rfl rfl rfl) (bin_mul (mulOk (by lia)))) bin_add) (Ev.local_ rfl rfl rfl rfl) (bin_div (by omega) (divOk (by omega) ?_))).of_eq (by unfold inclV; rw [hl])
        · exact Ev.item (a := .list ((sortI ns).map .int)) (b := .int (((i + 1) * (ns.length - 1) / n : Nat) : Int)) (Ev.local_ rfl rfl rfl rfl) (Ev.local_ rfl rfl rfl rfl) (item_list_nat rfl (by rw [List.length_map, hl]; lia) (by rw [getI (by lia)])) fun _ _ => rfl
        · refine Ev.item (a := .list ((sortI ns).map .int)) (b := .int (((i + 1) * (ns.length - 1) / n + 1 : Nat) : Int)) (Ev.local_ rfl rfl rfl rfl) ?_ (item_list_nat rfl (by rw [List.length_map, hl]; omega) (by rw [getI (by omega)])) fun _ _ => rfl
          exact (Ev.bin hk1 (Ev.local_ rfl rfl rfl rfl) Ev.int bin_add).of_eq (by congr 1)
        · have := Int.natAbs_add_le ((sortI ns).getD ((i + 1) * (ns.length - 1) / n) 0 * ((n : Int) - ((i + 1) * (ns.length - 1) % n : Nat))) ((sortI ns).getD ((i + 1) * (ns.length - 1) / n + 1) 0 * (((i + 1) * (ns.length - 1) % n : Nat) : Int))
          refine Nat.lt_of_le_of_lt this ?_
          have h41 : (2 : Nat) ^ 20 * 2 ^ 20 + 2 ^ 20 * 2 ^ 20 < 2 ^ 200 := by decide
          (clear h41 this hdl hb2 hb1 hj eow hidx hd hi hbody hk1 hl hbs hb hn2 hn h64 h2 hk H W; omega)
      · simp only [List.length_map, List.length_range]; have e24 : sizeLine = 16777216 := rfl; lia
      · exact ((((Sub.refl _).fresh rfl).fresh rfl).fresh rfl).fresh rfl
end
end Mine

namespace Mine
open PySem.Challenge

/-- the clipped place of the exclusive cut -/
noncomputable def exJ (ld n i : Nat) : Nat := if i * (ld + 1) / n < 1 then 1 else if i * (ld + 1) / n > ld - 1 then ld - 1 else i * (ld + 1) / n
noncomputable def exD (ld n i : Nat) : Int := ((i * (ld + 1) : Nat) : Int) - ((exJ ld n i * n : Nat) : Int)
/-- the exclusive cut at i -/
noncomputable def exclV (ss : List Int) (n i : Nat) : UInt64 := divII (ss.getD (exJ ss.length n i - 1) 0 * ((n : Int) - exD ss.length n i) + ss.getD (exJ ss.length n i) 0 * exD ss.length n i) n
theorem exJ_lt {ld n i : Nat} (h : 2 ≤ ld) : 1 ≤ exJ ld n i ∧ exJ ld n i < ld := by
  unfold exJ
  split
  · lia
  · split <;> omega

section
variable {prog : Program} {w : World} {h₀ : Heap} {k : Nat} {f : Addr} {fd : FuncData} {kwd : Addr}
theorem ok_quant_excl (W : Below h₀) (H : FnAt h₀ 26 f fd .none (.ref kwd)) (hkw : ∃ m t, h₀.Ns kwd m ∧ m "method" = some (.str (Str.ofString "exclusive") t)) (hk : k ≤ 30) {ns : List Int} {n : Nat} (h2 : 2 ≤ ns.length) (h64 : ns.length < 64) (hn : 1 ≤ n) (hn2 : n < 2 ^ 20) (hbs : ∀ j, ((sortI ns).getD j 0).natAbs < 2 ^ 20) :
    CallOkW prog w h₀ k (.ref f) [.list (ns.map .int)] [("n", .int n)] (.list ((List.range (n - 1)).map fun i => .flt (exclV (sortI ns) n (i + 1)))) := by
  obtain ⟨mk, tk, hmk, hme⟩ := hkw
  refine CallOkW.fn (ρ := [("data", .list (ns.map .int)), ("n", .int n), ("method", .str (Str.ofString "exclusive"))]) (by lia) H rfl rfl rfl (fun fd' p1 p2 p3 => fun X A s E Q vs us B rl ru hq => ?_) ?_ ?_ fun X q L cd => ?_
  · refine RepL.consE rl fun _ _ r1 rl => ?_; refine RepL.nilE rl ?_; refine RepL.consE ru fun _ _ u1 ru => ?_; refine RepL.nilE ru ?_; exact bindQ1 (x := .none) p1 p2 p3 (hmk.keeps B.ext) hme (hq _ (.cons r1 (.cons u1 (.cons (.str _ _) .nil))))
  · decide +kernel
  · intro x hx; simp at hx; rcases hx with rfl | rfl | rfl <;> rfl
  · have hl : (sortI ns).length = ns.length := sortI_len ns
    have hk1 : k + 1 ≤ 40 := by lia
    refine Ex.seq (Ex1.if_ (b := false) ((Ts.cmp hk1 (Ev.local_ rfl rfl rfl rfl) Ev.int cmp_lt rfl).of (decide_eq_false (by lia))) (fun h => nomatch h) fun _ => Ex.nil) ?_
    refine Ex.seq (Ex1.assign (Ev.callB (ds := [.list (ns.map .int)]) (Ev.builtin W.sorted rfl rfl rfl rfl rfl) (EvL.cons (Ev.local_ rfl rfl rfl rfl) EvL.nil rfl) (call_sorted h64) rfl rfl) (StOk.local_ rfl (plainScope_fn rfl)) rfl) ?_
    refine Ex.seq (Ex1.assign ((Ev.callB (ds := [.list ((sortI ns).map .int)]) (Ev.builtin W.len rfl rfl rfl rfl rfl) (EvL.cons (Ev.local_ rfl rfl rfl rfl) EvL.nil rfl) (call_lenL (by rw [List.length_map, hl]; lia)) rfl rfl).of_eq (show _ = PV.int (ns.length : Int) by rw [List.length_map, hl])) (StOk.local_ rfl (plainScope_fn rfl)) rfl) ?_
    refine Ex.seq (Ex1.if_ (b := false) ((Ts.cmp hk1 (Ev.local_ rfl rfl rfl rfl) Ev.int cmp_lt rfl).of (decide_eq_false (by lia))) (fun h => nomatch h) fun _ => Ex.nil) ?_
    refine Ex.seq (Ex1.if_ (b := false) ((Ts.cmp hk1 (Ev.local_ rfl rfl rfl rfl) Ev.str cmp_eqS rfl).of (by decide +kernel)) (fun h => nomatch h) fun _ => Ex.nil) ?_
    refine Ex.ret (Ex1.if_ (b := true) ((Ts.cmp hk1 (Ev.local_ rfl rfl rfl rfl) Ev.str cmp_eqS rfl).of (by decide +kernel)) (fun _ => ?_) fun h => nomatch h)
    refine Ex.seq (Ex1.assign ((Ev.bin hk1 (Ev.local_ rfl rfl rfl rfl) Ev.int bin_add).of_eq (show _ = PV.int ((ns.length + 1 : Nat) : Int) by congr 1)) (StOk.local_ rfl (plainScope_fn rfl)) rfl) ?_
    refine Ex.newList (ds := []) (o := .retOwn _) (fun _ z => z) EvL.nil rfl (plainScope_fn rfl) rfl (by decide) (.own _) fun a => ?_
    refine Ex.cons (Ex1.for_ (ds := rangeD 1 (n - 1)) (EvIt.range2 (a := 1) (b := n) (n := n - 1) (by lia) (by lia) (by lia) (by (clear hk1 hl hme hmk hbs hn h64 h2 hk H W; omega)) (Ev.builtin W.range rfl rfl rfl rfl rfl) (EvL.cons Ev.int (EvL.cons (Ev.local_ rfl rfl rfl rfl) EvL.nil rfl) rfl) rfl rfl) (fun _ => rfl) (fun _ => _) (fun i => some (a, (List.range i).map fun i => .flt (exclV (sortI ns) n (i + 1)))) (Sub.refl _) rfl ?turn) ?rest
    case rest =>
      have e : (rangeD 1 (n - 1)).length = n - 1 := by simp [rangeD]
      rw [e]
      exact Ex.retOwn (Ex1.retOwn rfl (Ev.local_ rfl rfl rfl rfl))
    case turn =>
      intro i d hd X'
      obtain ⟨hi, rfl⟩ := rangeD_get hd
      refine ⟨_, AsOk.name (StOk.local_ rfl (plainScope_fn rfl)), ?_⟩
      obtain ⟨hj1, hj2⟩ := exJ_lt (ld := ns.length) (n := n) (i := i + 1) h2
      have eow : (List.range (i + 1)).map (fun i => PV.flt (exclV (sortI ns) n (i + 1))) = (List.range i).map (fun i => PV.flt (exclV (sortI ns) n (i + 1))) ++ [PV.flt (exclV (sortI ns) n (i + 1))] := by rw [List.range_succ, List.map_append]; rfl
      show Goes _ _ _ _ (some (a, (List.range (i + 1)).map (fun i => PV.flt (exclV (sortI ns) n (i + 1)))))
      rw [eow]
      have hm20 : (i + 1) * (ns.length + 1) ≤ 2 ^ 20 * 64 := Nat.mul_le_mul (by lia) (by lia)
      refine Goes.next (Ex.seq (Ex1.assign (d := .int (((i + 1) * (ns.length + 1) / n : Nat) : Int)) ?j0 (StOk.local_ rfl (plainScope_fn rfl)) rfl) (Ex.seq (Ex1.assign (d := .int (exJ ns.length n (i + 1) : Nat)) ?j1 (StOk.local_ rfl (plainScope_fn rfl)) rfl) (Ex.seq (Ex1.assign (d := .int (exD ns.length n (i + 1))) ?dl (StOk.local_ rfl (plainScope_fn rfl)) rfl)
        (Ex.seq (Ex1.assign (d := .flt (exclV (sortI ns) n (i + 1))) ?val (StOk.local_ rfl (plainScope_fn rfl)) rfl) (Ex.one (Ex1.appendM (d := .flt (exclV (sortI ns) n (i + 1))) rfl ?sz (Ev.local_ rfl rfl rfl rfl) (Ev.local_ rfl rfl rfl rfl) rfl rfl rfl rfl)))))) ?sub
      case j0 =>
        refine (Ev.bin (a := .int (((i + 1) * (ns.length + 1) : Nat) : Int)) (b := .int n) hk1 ?_ (Ev.local_ rfl rfl rfl rfl) (bin_floordiv (by lia) (noPyS (by (clear hm20 eow hj2 hj1 hd hi hk1 hl hme hmk hbs hn h64 h2 hk H W; omega))))).of_eq (by rw [fdivN])
        exact (Ev.bin hk1 (Ev.local_ rfl rfl rfl rfl) (Ev.local_ rfl rfl rfl rfl) (bin_mul (mulOk (by lia)))).of_eq (by congr 1; push_cast; rw [Int.add_comm 1])
      case j1 =>
        refine Ev.ifexp (x := decide ((((i + 1) * (ns.length + 1) / n : Nat) : Int) < 1)) (Ts.cmp hk1 (Ev.local_ rfl rfl rfl rfl) Ev.int cmp_lt rfl) (fun h => ?_) fun h => ?_
        · have h' := of_decide_eq_true h
          exact Ev.int.of_eq (by unfold exJ; rw [if_pos (by (clear h hm20 eow hj2 hj1 hd hi hk1 hl hme hmk hbs hn2 hn h64 h2 hk H W; omega))]; rfl)
        · have h' := of_decide_eq_false h
          refine Ev.ifexp (x := decide (((ns.length - 1 : Nat) : Int) < (((i + 1) * (ns.length + 1) / n : Nat) : Int))) (Ts.cmp (b := .int ((ns.length - 1 : Nat) : Int)) hk1 (Ev.local_ rfl rfl rfl rfl) ?_ cmp_gt rfl) (fun g => ?_) fun g => ?_
          · exact (Ev.bin hk1 (Ev.local_ rfl rfl rfl rfl) Ev.int bin_sub).of_eq (by congr 1; lia)
          · have g' := of_decide_eq_true g
            exact (Ev.bin hk1 (Ev.local_ rfl rfl rfl rfl) Ev.int bin_sub).of_eq (by unfold exJ; rw [if_neg (by (clear g' g h hm20 eow hj2 hj1 hd hi hk1 hl hme hmk hbs hn2 hn h64 h2 hk H W; omega)), if_pos (by (clear g h' h hm20 eow hj2 hj1 hd hi hk1 hl hme hmk hbs hn2 hn h64 h2 hk H W; omega))]; congr 1; omega)
          · have g' := of_decide_eq_false g
            exact (Ev.local_ (d := .int (((i + 1) * (ns.length + 1) / n : Nat) : Int)) rfl rfl rfl rfl).of_eq (by unfold exJ; rw [if_neg (by omega), if_neg (by (clear g h' h hm20 eow hj2 hj1 hd hi hk1 hl hme hmk hbs hn2 hn h64 h2 hk H W; omega))])
      case dl =>
        have hjn : exJ ns.length n (i + 1) * n ≤ 64 * 2 ^ 20 := Nat.mul_le_mul (by lia) (by lia)
        refine (Ev.bin (a := .int (((i + 1) * (ns.length + 1) : Nat) : Int)) (b := .int ((exJ ns.length n (i + 1) * n : Nat) : Int)) hk1 ?_ ?_ bin_sub).of_eq rfl
        · exact (Ev.bin hk1 (Ev.local_ rfl rfl rfl rfl) (Ev.local_ rfl rfl rfl rfl) (bin_mul (mulOk (by omega)))).of_eq (by congr 1; push_cast; rw [Int.add_comm 1])
        · exact (Ev.bin hk1 (Ev.local_ rfl rfl rfl rfl) (Ev.local_ rfl rfl rfl rfl) (bin_mul (mulOk (by lia)))).of_eq (by congr 1)
      case val =>
        have hjn : exJ ns.length n (i + 1) * n ≤ 64 * 2 ^ 20 := Nat.mul_le_mul (by omega) (by omega)
        have hD : (exD ns.length n (i + 1)).natAbs ≤ 2 ^ 27 := by unfold exD; (clear eow hj2 hj1 hd hi hk1 hl hme hmk hbs hn2 hn h64 h2 hk H W; omega)
        have hb1 := hbs (exJ ns.length n (i + 1) - 1)
        have hb2 := hbs (exJ ns.length n (i + 1))
        have hA : ((sortI ns).getD (exJ ns.length n (i + 1) - 1) 0 * ((n : Int) - exD ns.length n (i + 1))).natAbs ≤ 2 ^ 20 * 2 ^ 28 := by rw [Int.natAbs_mul]; exact Nat.mul_le_mul (by lia) (by (clear hb2 hb1 hjn hm20 eow hj2 hj1 hd hi hk1 hl hme hmk hbs hn h64 h2 hk H W; omega))
        have hB : ((sortI ns).getD (exJ ns.length n (i + 1)) 0 * exD ns.length n (i + 1)).natAbs ≤ 2 ^ 20 * 2 ^ 28 := by rw [Int.natAbs_mul]; exact Nat.mul_le_mul (by lia) (by lia)
        refine (Ev.bin (b := .int n) hk1 (Ev.bin hk1 (Ev.bin (a := .int ((sortI ns).getD (exJ ns.length n (i + 1) - 1) 0)) hk1 ?_ (Ev.bin hk1 (Ev.local_ rfl rfl rfl rfl) (Ev.local_ rfl rfl rfl rfl) bin_sub) (bin_mul (mulOk (by lia)))) (Ev.bin (a := .int ((sortI ns).getD (exJ ns.length n (i + 1)) 0)) hk1 ?_ (Ev.local_ rfl rfl rfl rfl) (bin_mul (mulOk (by lia)))) bin_add) (Ev.local_ rfl rfl rfl rfl) (bin_div (by omega) (divOk (by omega) ?_))).of_eq (by unfold exclV; rw [hl])
        · refine Ev.item (a := .list ((sortI ns).map .int)) (b := .int ((exJ ns.length n (i + 1) - 1 : Nat) : Int)) (Ev.local_ rfl rfl rfl rfl) ?_ (item_list_nat rfl (by rw [List.length_map, hl]; lia) (by rw [getI (by lia)])) fun _ _ => rfl
          exact (Ev.bin hk1 (Ev.local_ rfl rfl rfl rfl) Ev.int bin_sub).of_eq (by congr 1; lia)
        · exact Ev.item (a := .list ((sortI ns).map .int)) (b := .int ((exJ ns.length n (i + 1) : Nat) : Int)) (Ev.local_ rfl rfl rfl rfl) (Ev.local_ rfl rfl rfl rfl) (item_list_nat rfl (by rw [List.length_map, hl]; omega) (by rw [getI (by lia)])) fun _ _ => rfl
        · have := Int.natAbs_add_le ((sortI ns).getD (exJ ns.length n (i + 1) - 1) 0 * ((n : Int) - exD ns.length n (i + 1))) ((sortI ns).getD (exJ ns.length n (i + 1)) 0 * exD ns.length n (i + 1))
          refine Nat.lt_of_le_of_lt this ?_
          have h41 : (2 : Nat) ^ 20 * 2 ^ 28 + 2 ^ 20 * 2 ^ 28 < 2 ^ 200 := by decide
          lia
      case sz => simp only [List.length_map, List.length_range]; have e24 : sizeLine = 16777216 := rfl; lia
      case sub => exact (((((Sub.refl _).fresh rfl).fresh rfl).fresh rfl).fresh rfl).fresh rfl

/-- of one number alone: that number each time -/
theorem ok_quant_one (W : Below h₀) (H : FnAt h₀ 26 f fd .none (.ref kwd)) (hkw : ∃ m t, h₀.Ns kwd m ∧ m "method" = some (.str (Str.ofString "exclusive") t)) (hk : k ≤ 30) {x : Int} {n : Nat} (hn : 1 ≤ n) (hn2 : n < 2 ^ 20) :
    CallOkW prog w h₀ k (.ref f) [.list [.int x]] [("n", .int n)] (.list ((List.replicate (n - 1) x).map .int)) := by
  obtain ⟨mk, tk, hmk, hme⟩ := hkw
  refine CallOkW.fn (ρ := [("data", .list [.int x]), ("n", .int n), ("method", .str (Str.ofString "exclusive"))]) (by lia) H rfl rfl rfl (fun fd' p1 p2 p3 => fun X A s E Q vs us B rl ru hq => ?_) ?_ ?_ fun X q L cd => ?_
  · refine RepL.consE rl fun _ _ r1 rl => ?_; refine RepL.nilE rl ?_; refine RepL.consE ru fun _ _ u1 ru => ?_; refine RepL.nilE ru ?_; exact bindQ1 (x := .none) p1 p2 p3 (hmk.keeps B.ext) hme (hq _ (.cons r1 (.cons u1 (.cons (.str _ _) .nil))))
  · decide +kernel
  · intro x hx; simp at hx; rcases hx with rfl | rfl | rfl <;> rfl
  · have hk1 : k + 1 ≤ 40 := by lia
    refine Ex.seq (Ex1.if_ (b := false) ((Ts.cmp hk1 (Ev.local_ rfl rfl rfl rfl) Ev.int cmp_lt rfl).of (decide_eq_false (by lia))) (fun h => nomatch h) fun _ => Ex.nil) ?_
    refine Ex.seq (Ex1.assign (d := .list [.int x]) (Ev.callB (ds := [.list ([x].map .int)]) (Ev.builtin W.sorted rfl rfl rfl rfl rfl) (EvL.cons (Ev.local_ rfl rfl rfl rfl) EvL.nil rfl) (call_sorted (ns := [x]) (by show 1 < 64; decide)) rfl rfl) (StOk.local_ rfl (plainScope_fn rfl)) rfl) ?_
    refine Ex.seq (Ex1.assign (d := .int 1) (Ev.callB (ds := [.list [.int x]]) (Ev.builtin W.len rfl rfl rfl rfl rfl) (EvL.cons (Ev.local_ rfl rfl rfl rfl) EvL.nil rfl) (call_lenL (by show 1 < 2 ^ 62; decide)) rfl rfl) (StOk.local_ rfl (plainScope_fn rfl)) rfl) ?_
    refine Ex.ret (Ex1.if_ (b := true) ((Ts.cmp hk1 (Ev.local_ rfl rfl rfl rfl) Ev.int cmp_lt rfl).of rfl) (fun _ => ?_) fun h => nomatch h)
    refine Ex.ret (Ex1.if_ (b := true) ((Ts.cmp hk1 (Ev.local_ rfl rfl rfl rfl) Ev.int cmp_eq rfl).of rfl) (fun _ => ?_) fun h => nomatch h)
    refine Ex.ret (Ex1.return_ ((Ev.bin (b := .int ((n - 1 : Nat) : Int)) hk1 (Ev.local_ rfl rfl rfl rfl) ?_ (bin_mulL (ds := [.int x]) (by lia) (by omega) (by simp; lia))).of_eq ?_))
    · exact (Ev.bin hk1 (Ev.local_ rfl rfl rfl rfl) Ev.int bin_sub).of_eq (by congr 1; lia)
    · congr 1
      rw [Int.toNat_natCast]
      generalize n - 1 = m
      induction m with
      | zero => rfl
      | succ m ih => rw [List.replicate_succ, List.replicate_succ, List.flatten_cons, List.map_cons, ih]; rfl
end
end Mine

namespace Mine

/-- the signs that rows are made of -/
theorem plain_noBreak : ∀ c < 128, (plainB c = true ∨ (48 ≤ c ∧ c < 58) ∨ (65 ≤ c ∧ c < 71) ∨ c = 61) → Unicode.isLineBreak c = false := by decide +kernel
theorem plain_noSpace : ∀ c < 128, (plainB c = true ∧ c ≠ 9 ∧ c ≠ 32 ∨ (48 ≤ c ∧ c < 58) ∨ (65 ≤ c ∧ c < 71) ∨ c = 61) → Unicode.isSpace c = false := by decide +kernel

theorem lineCuts_one {l : List Nat} (h0 : l ≠ []) (h : ∀ c ∈ l, Unicode.isLineBreak c = false) : lineCuts (S l) = [(0, l.length)] := by
  have hb : ∀ i, i < l.length → Unicode.isLineBreak ((S l).cps.getD i 0) = false := fun i hi => by
    have : (S l).cps.getD i 0 = l[i] := by simp [Array.getD, hi]
    rw [this]; exact h _ (List.getElem_mem hi)
  have key : ∀ (n s : Nat), s + n ≤ l.length → Id.run (forIn (m := Id) (List.range' s n) ((#[], 0) : StrLaws.LsSt) (StrLaws.lsBody (S l))) = (#[], 0) := by
    intro n
    induction n with
    | zero => intro s hs; rfl
    | succ n ih =>
      intro s hs
      rw [List.range'_succ, List.forIn_cons]
      have e : StrLaws.lsBody (S l) s (#[], 0) = pure (ForInStep.yield (#[], 0)) := by
        unfold StrLaws.lsBody
        rw [hb s (by lia)]; simp
      rw [e]
      exact ih (s + 1) (by lia)
  have hlen : (S l).length = l.length := S_length l
  have hpos : 0 < l.length := List.length_pos_iff.mpr h0
  have e : Builtin.Str.lineSpans (S l) = [(0, l.length, l.length)] := by
    rw [StrLaws.ls_eq, hlen, key l.length 0 (by lia)]
    unfold StrLaws.lsEnd
    rw [hlen]; simp [hpos]
  unfold lineCuts
  rw [e]; rfl
theorem linesS_one {l : List Nat} (h0 : l ≠ []) (h : ∀ c ∈ l, Unicode.isLineBreak c = false) : linesS (S l) = [S l] := by
  unfold linesS
  rw [lineCuts_one h0 h, S_length, if_pos (by simp)]

theorem rstrip_id {l : List Nat} {c : Nat} (h : l.getLast? = some c) (hc : Unicode.isSpace c = false) : Txt.rstrip (S l) = S l := by
  have hrev : l.reverse.takeWhile Unicode.isSpace = [] := by
    have : l.reverse.head? = some c := by rw [List.head?_reverse]; exact h
    cases hr : l.reverse with
    | nil => rfl
    | cons a r => rw [hr] at this; cases this; rw [List.takeWhile_cons, hc]; rfl
  unfold Txt.rstrip
  rw [PyProof.Rows.stripBy_eq]
  have e1 : stripLo Unicode.isSpace false (S l) = 0 := rfl
  have e2 : stripHi Unicode.isSpace true (S l) 0 = (S l).length := by
    unfold stripHi
    rw [if_pos rfl]
    have : ((S l).cps.toList.drop 0).reverse.takeWhile Unicode.isSpace = [] := by simpa using hrev
    rw [this]; rfl
  rw [e1, e2]
  unfold Builtin.Str.strSub
  show (⟨(S l).cps.extract 0 (S l).cps.size⟩ : Str) = _
  rw [Array.extract_size]

theorem endswith_nl (l : List Nat) : Txt.endswith (S l) (S [10]) = (l.getLast? == some 10) := by
  unfold Txt.endswith Builtin.Str.subAt
  rw [S_length, S_length]
  rcases l.eq_nil_or_concat with rfl | ⟨r, c, rfl⟩
  · rfl
  · have e1 : (S (r ++ [c])).cps.extract ((r ++ [c]).length - [10].length) ((r ++ [c]).length - [10].length + [10].length) = #[c] := by
      have h1 : (r ++ [c]).length - [10].length = r.length := by simp
      rw [h1]
      apply Array.toList_inj.mp
      simp
    rw [List.concat_eq_append] at *
    rw [e1]
    simp
end Mine

namespace Mine
open PySem.Challenge

section
variable {prog : Program} {w : World} {A : Around} {E : Value → Shared → Prop} {s : Shared} {fd : FuncData}
theorem bindD1 {a : Addr} {o : Obj} {n : Nat} {v y : Value} {Q : List (Str × Value) → Shared → Prop} (h1 : fd.params = argsAt 20) (h2 : fd.defaults = .ref a) (ho : s.heap.get? a = some o) (hd : o.data = .seq #[y] n)
    (hQ : Q [("encoded", v), ("eol", y)] s) : wpAny (model prog w) A (bindArgs fd ⟨[v], []⟩) Q E s := by
  unfold bindArgs
  rw [h1, h2]
  refine wpAny_bind (m := forIn ([] : List (Str × Value)) _ _) ?_
  rw [List.forIn_nil]
  refine wpAny_pure ?_
  dsimp only
  refine wpAny_bind (wpAny_seqItems ho hd ?_)
  refine wpAny_if_f (fun h => nomatch (show false = true from h)) ?_
  refine wpAny_if_f (fun h => nomatch (show false = true from h)) ?_
  refine wpAny_bind (m := forIn [(Str.ofString "eol", y)] _ _) ?_
  rw [List.forIn_cons]
  refine wpAny_bind (wpAny_if_t rfl (wpAny_pure ?_))
  dsimp only
  rw [List.forIn_nil]
  refine wpAny_pure ?_
  refine wpAny_bind (m := forIn ([] : List Str) _ _) ?_
  rw [List.forIn_nil]
  refine wpAny_pure ?_
  refine wpAny_if_f (fun h => nomatch (show false = true from h)) ?_
  exact wpAny_pure hQ
theorem bindB3 {a : Addr} {o : Obj} {n : Nat} {v1 v2 v3 y1 y2 : Value} {Q : List (Str × Value) → Shared → Prop} (h1 : fd.params = argsAt 19) (h2 : fd.defaults = .ref a) (ho : s.heap.get? a = some o) (hd : o.data = .seq #[y1, y2] n)
    (hQ : Q [("body", v1), ("maxlinelen", v2), ("eol", v3)] s) : wpAny (model prog w) A (bindArgs fd ⟨[v1, v2, v3], []⟩) Q E s := by
  unfold bindArgs
  rw [h1, h2]
  refine wpAny_bind (m := forIn ([] : List (Str × Value)) _ _) ?_
  rw [List.forIn_nil]
  refine wpAny_pure ?_
  dsimp only
  refine wpAny_bind (wpAny_seqItems ho hd ?_)
  refine wpAny_if_f (fun h => nomatch (show false = true from h)) ?_
  refine wpAny_if_f (fun h => nomatch (show false = true from h)) ?_
  refine wpAny_bind (m := forIn [(Str.ofString "maxlinelen", y1), (Str.ofString "eol", y2)] _ _) ?_
  rw [List.forIn_cons]
  refine wpAny_bind (wpAny_if_f (fun h => nomatch (show false = true from h)) (wpAny_pure ?_))
  dsimp only
  rw [List.forIn_cons]
  refine wpAny_bind (wpAny_if_f (fun h => nomatch (show false = true from h)) (wpAny_pure ?_))
  dsimp only
  rw [List.forIn_nil]
  refine wpAny_pure ?_
  refine wpAny_bind (m := forIn ([] : List Str) _ _) ?_
  rw [List.forIn_nil]
  refine wpAny_pure ?_
  refine wpAny_if_f (fun h => nomatch (show false = true from h)) ?_
  exact wpAny_pure hQ
end
end Mine

namespace Mine
open PySem.Challenge

/-- a piece of a row: an octet, bare or escaped -/
noncomputable def pce (p : Nat × Bool) : List Nat := if p.2 then quoteL p.1 else [p.1]
noncomputable def okP (p : Nat × Bool) : Prop := p.1 < 256 ∧ p.1 ≠ 10 ∧ (p.2 = false → plainB p.1 = true)
noncomputable def flatP (ps : List (Nat × Bool)) : List Nat := (ps.map pce).flatten
noncomputable def rowL (ps : List (Nat × Bool)) (soft : Bool) : List Nat := flatP ps ++ (if soft then [61] else [])
noncomputable def posP (ps : List (Nat × Bool)) (k : Nat) : Nat := (flatP (ps.take k)).length

theorem flatP_append (a b : List (Nat × Bool)) : flatP (a ++ b) = flatP a ++ flatP b := by simp [flatP]
theorem posP_succ {ps : List (Nat × Bool)} {k : Nat} {p : Nat × Bool} (h : ps[k]? = some p) : posP ps (k + 1) = posP ps k + (pce p).length := by
  unfold posP
  rw [lookup_take_succ h, flatP_append, List.length_append]
  simp [flatP]
theorem rowL_split {ps : List (Nat × Bool)} {k : Nat} {p : Nat × Bool} {soft : Bool} (h : ps[k]? = some p) : rowL ps soft = flatP (ps.take k) ++ (pce p ++ rowL (ps.drop (k + 1)) soft) := by
  have e : ps = ps.take k ++ (p :: ps.drop (k + 1)) := by
    have hlt := (List.getElem?_eq_some_iff.mp h).1
    have hp := (List.getElem?_eq_some_iff.mp h).2
    rw [← hp, ← List.drop_eq_getElem_cons hlt, List.take_append_drop]
  unfold rowL
  conv => lhs; rw [e, flatP_append]
  simp [flatP]
theorem rowL_at {ps : List (Nat × Bool)} {k j : Nat} {p : Nat × Bool} {soft : Bool} (h : ps[k]? = some p) (hj : j < (pce p).length) : (rowL ps soft)[posP ps k + j]? = (pce p)[j]? := by
  rw [rowL_split h]
  unfold posP
  rw [List.getElem?_append_right (by lia), Nat.add_sub_cancel_left, List.getElem?_append_left hj]
theorem posP_all (ps : List (Nat × Bool)) : posP ps ps.length = (flatP ps).length := by unfold posP; rw [List.take_length]
theorem rowL_len (ps : List (Nat × Bool)) (soft : Bool) : (rowL ps soft).length = posP ps ps.length + (if soft then 1 else 0) := by
  rw [posP_all]; unfold rowL; rw [List.length_append]; cases soft <;> rfl
theorem pce_len (p : Nat × Bool) : (pce p).length = if p.2 then 3 else 1 := by unfold pce quoteL; split <;> rfl
theorem posP_mono {ps : List (Nat × Bool)} {i j : Nat} (h : i ≤ j) : posP ps i ≤ posP ps j := by
  unfold posP
  have : ps.take j = ps.take i ++ (ps.take j).drop i := by
    have := List.take_append_drop i (ps.take j)
    rw [List.take_take, Nat.min_eq_left h] at this; exact this.symm
  rw [this, flatP_append, List.length_append]; lia
theorem posP_lt {ps : List (Nat × Bool)} {k : Nat} (h : k < ps.length) (soft : Bool) : posP ps k < (rowL ps soft).length := by
  obtain ⟨p, hp⟩ : ∃ p, ps[k]? = some p := ⟨_, List.getElem?_eq_getElem h⟩
  have h1 := posP_succ hp
  have h2 := posP_mono (ps := ps) (show k + 1 ≤ ps.length from h)
  have h3 := pce_len p
  rw [rowL_len]
  split at h3 <;> lia

theorem Sub.all {σ ρ : List (Str × PV)} (h : ∀ p ∈ σ, ρ.lookup p.1 = some p.2) : Sub σ ρ := fun x d q => by
  have : (x, d) ∈ σ := by
    clear h
    induction σ with
    | nil => simp at q
    | cons y σ ih =>
      rw [List.lookup_cons] at q
      by_cases z : (x == y.1) = true
      · rw [z] at q; cases q; rw [beq_iff_eq.mp z]; exact List.mem_cons_self ..
      · have z' : (x == y.1) = false := by simpa using z
        rw [z'] at q; exact List.mem_cons_of_mem _ (ih q)
  exact h _ this

/-- decode's state after j turns -/
noncomputable def dPos (ps : List (Nat × Bool)) (j : Nat) : Nat := if j ≤ ps.length then posP ps j else posP ps ps.length + 1
noncomputable def dDec (ps : List (Nat × Bool)) (soft : Bool) (j : Nat) : List Nat := (ps.take j).map (·.1) ++ (if j = ps.length ∧ soft = false then [10] else [])
noncomputable def dSt (ps : List (Nat × Bool)) (soft : Bool) (j : Nat) : List (Str × PV) :=
  [("i", .int (dPos ps j)), ("decoded", .str (S (dDec ps soft j))), ("n", .int (rowL ps soft).length), ("line", .str (S (rowL ps soft))), ("eol", .str (S [10])), ("encoded", .str (S (rowL ps soft)))]
theorem hex_fig : ∀ n < 16, [48, 49, 50, 51, 52, 53, 54, 55, 56, 57, 97, 98, 99, 100, 101, 102, 65, 66, 67, 68, 69, 70].contains (fig n) = true := by decide
end Mine

namespace Mine
open PySem.Challenge

noncomputable def decW : Stmt → List Stmt
  | .For _ _ b _ _ => b
  | .While _ b _ _ => b
  | _ => []
noncomputable def forBody (l : List Stmt) (k : Nat) : List Stmt := decW (l.getD k (.Pass ⟨0, 0, 0, 0⟩))
/-- the body of decode's while -/
noncomputable abbrev decBody : List Stmt := forBody (forBody (bodyAt 20) 2) 4

section
variable {c : Cx} {ρ : List (Str × PV)} {e : Expr}
theorem Ex1.augS {x : Str} {p pos : Pos} {i j r : List Nat} (hk : c.env.scope.kind = .function) (hl : c.env.kindOf x = some .local) (h0 : ρ.lookup x = some (.str (S i))) (h : Ev c ρ e (.str (S j))) (hx : StOk (OwnC c) c x) (hr : i ++ j = r) (hs : i.length + j.length ≤ sizeLine) :
    Ex1 c ρ (.AugAssign (.Name x p) .Add e pos) (.next ((x, .str (S r)) :: ρ) c.ow) := by
  have := Ex1.aug_str (p := p) (pos := pos) hk hl h0 h hx (by rw [S_length, S_length]; exact hs)
  rwa [S_append, hr] at this
theorem Goes.seq {ρ' ρ'' : List (Str × PV)} {ow : Option (Addr × List PV)} {st : Stmt} {ss : List Stmt} (h : Ex1 c ρ st (.next ρ' c.ow)) (hs : Goes c ρ' ss ρ'' ow) : Goes c ρ (st :: ss) ρ'' ow := fun A s E r F => by
  refine wpAny_execs_cons (wpAny_mono (h A s E r F) (fun f s₁ q => ?_) fun _ _ x => x)
  obtain ⟨k, q⟩ := q
  cases f with
  | next => exact wpAny_mono (hs A s₁ E r q) (fun f s₂ g => ⟨k.trans g.1, g.2⟩) fun _ _ x => x
  | _ => exact q.elim
theorem Ex1.augI {x : Str} {p pos : Pos} {i j r : Int} (hk : c.env.scope.kind = .function) (hl : c.env.kindOf x = some .local) (h0 : ρ.lookup x = some (.int i)) (h : Ev c ρ e (.int j)) (hx : StOk (OwnC c) c x) (hr : i + j = r) :
    Ex1 c ρ (.AugAssign (.Name x p) .Add e pos) (.next ((x, .int r) :: ρ) c.ow) := by
  have := Ex1.aug_int (p := p) (pos := pos) hk hl h0 h hx
  rwa [hr] at this
end
section
variable {prog : Program} {w : World} {h₀ : Heap} {k : Nat} {X : Addr → Prop} {q : Str} {f L : Addr} {cd : Value}
theorem cmp_neS1 {a b : Nat} (h : a ≠ b) : (S [a] != S [b]) = true := by
  rw [bne_iff_ne]; intro e; have := S_inj e; simp at this; exact h this
theorem dec_turn (W : Below h₀) (hU : ∃ fu fdu, Glb h₀ "unquote" (.ref fu) ∧ FnAt h₀ 14 fu fdu .none .none) (hk : k ≤ 20) {ps : List (Nat × Bool)} {soft : Bool} (hok : ∀ p ∈ ps, okP p) (hlen : ps.length ≤ 1000) {j : Nat} {p : Nat × Bool} (hp : ps[j]? = some p) :
    Goes (cxAt prog w h₀ X 20 q f L cd (k + 1)) (dSt ps soft j) decBody (dSt ps soft (j + 1)) none := by
  have hk1 : k + 1 ≤ 40 := by lia
  have hlt : j < ps.length := (List.getElem?_eq_some_iff.mp hp).1
  have hpo : okP p := hok p (List.mem_of_getElem? hp)
  have hps := posP_succ hp
  have hpl := pce_len p
  have hrow := rowL_len ps soft
  have hmono := posP_mono (ps := ps) (show j + 1 ≤ ps.length from hlt)
  have e0 : dPos ps j = posP ps j := if_pos (by lia)
  have e1 : dPos ps (j + 1) = posP ps (j + 1) := if_pos (by lia)
  have ed : dDec ps soft j = (ps.take j).map (·.1) := by unfold dDec; rw [if_neg (by lia), List.append_nil]
  have big : (rowL ps soft).length ≤ 3001 := by
    have : ∀ l : List (Nat × Bool), (flatP l).length ≤ 3 * l.length := by
      intro l
      induction l with
      | nil => simp [flatP]
      | cons a l ih =>
        have e : flatP (a :: l) = pce a ++ flatP l := rfl
        have := pce_len a
        rw [e, List.length_append, List.length_cons]
        split at this <;> lia
    rw [hrow, posP_all]
    have := this ps
    split <;> lia
  have hdl : ((ps.take j).map (·.1)).length ≤ 1000 := by rw [List.length_map, List.length_take]; (clear big ed e1 e0 hmono hrow hpl hps hpo hlt hk1 hp hok hk hU W; lia)
  have e24 : sizeLine = 16777216 := rfl
  -- the end of a turn
  have fin : ∀ ρ : List (Str × PV), Sub [("i", .int (posP ps (j + 1))), ("decoded", .str (S ((ps.take (j + 1)).map (·.1)))), ("n", .int (rowL ps soft).length), ("line", .str (S (rowL ps soft))), ("eol", .str (S [10])), ("encoded", .str (S (rowL ps soft)))] ρ →
      Goes (cxAt prog w h₀ X 20 q f L cd (k + 1)) ρ (decBody.drop 2) (dSt ps soft (j + 1)) none := by
    intro ρ hs
    have s1 : ρ.lookup (Str.ofString "i") = some (.int (posP ps (j + 1))) := hs _ _ rfl
    have s2 : ρ.lookup (Str.ofString "decoded") = some (.str (S ((ps.take (j + 1)).map (·.1)))) := hs _ _ rfl
    have s3 : ρ.lookup (Str.ofString "n") = some (.int (rowL ps soft).length) := hs _ _ rfl
    have s4 : ρ.lookup (Str.ofString "line") = some (.str (S (rowL ps soft))) := hs _ _ rfl
    have s5 : ρ.lookup (Str.ofString "eol") = some (.str (S [10])) := hs _ _ rfl
    have s6 : ρ.lookup (Str.ofString "encoded") = some (.str (S (rowL ps soft))) := hs _ _ rfl
    by_cases hend : j + 1 = ps.length ∧ soft = false
    · have hb : ((posP ps (j + 1) : Int) == ((rowL ps soft).length : Int)) = true := by
        rw [beq_iff_eq, hrow, hend.1, hend.2]; simp
      refine Goes.next (ρ₁ := ("decoded", .str (S ((ps.take (j + 1)).map (·.1) ++ [10]))) :: ρ) (Ex.one (Ex1.if_ (b := true) ((Ts.cmp hk1 (Ev.local_ s1 rfl rfl rfl) (Ev.local_ s3 rfl rfl rfl) cmp_eq rfl).of hb) (fun _ => ?_) fun h => nomatch h)) ?_
      · exact Ex.one (Ex1.augS rfl rfl s2 (Ev.local_ s5 rfl rfl rfl) (StOk.local_ rfl (plainScope_fn rfl)) rfl (by rw [List.length_map, List.length_take]; simp; lia))
      · refine Sub.all fun x hx => ?_
        have ed' : dDec ps soft (j + 1) = (ps.take (j + 1)).map (·.1) ++ [10] := by unfold dDec; rw [if_pos hend]
        unfold dSt at hx
        rw [e1, ed'] at hx
        simp only [List.mem_cons, List.not_mem_nil, or_false] at hx
        rcases hx with rfl | rfl | rfl | rfl | rfl | rfl
        · exact s1
        · rfl
        · exact s3
        · exact s4
        · exact s5
        · exact s6
    · have hb : ((posP ps (j + 1) : Int) == ((rowL ps soft).length : Int)) = false := by
        rw [beq_eq_false_iff_ne, hrow]
        intro z
        by_cases hj : j + 1 = ps.length
        · have : soft = true := by cases soft <;> simp_all
          rw [this, hj] at z; simp at z; lia
        · have := posP_lt (show j + 1 < ps.length by lia) soft
          rw [hrow] at this; (clear hj hend s6 s5 s4 s3 s2 s1 hs e24 hdl big ed e1 e0 hmono hrow hpl hps hpo hlt hk1 hp hlen hok hk hU W; omega)
      refine Goes.next (ρ₁ := ρ) (Ex.one (Ex1.if_ (b := false) ((Ts.cmp hk1 (Ev.local_ s1 rfl rfl rfl) (Ev.local_ s3 rfl rfl rfl) cmp_eq rfl).of hb) (fun h => nomatch h) fun _ => Ex.nil)) ?_
      refine Sub.all fun x hx => ?_
      have ed' : dDec ps soft (j + 1) = (ps.take (j + 1)).map (·.1) := by unfold dDec; rw [if_neg hend, List.append_nil]
      unfold dSt at hx
      rw [e1, ed'] at hx
      simp only [List.mem_cons, List.not_mem_nil, or_false] at hx
      rcases hx with rfl | rfl | rfl | rfl | rfl | rfl
      · exact s1
      · exact s2
      · exact s3
      · exact s4
      · exact s5
      · exact s6
  -- the sign at hand
  have hc0 : (rowL ps soft)[posP ps j]? = (pce p)[0]? := by have := rowL_at (soft := soft) hp (j := 0) (by rw [hpl]; split <;> lia); simpa using this
  have big2 : posP ps j < (rowL ps soft).length := posP_lt hlt soft
  unfold dSt
  rw [e0, ed]
  cases hq : p.2 with
  | false =>
    have hch : pce p = [p.1] := by unfold pce; rw [hq]; rfl
    have hpb := hpo.2.2 hq
    have hne : p.1 ≠ 61 := by intro z; rw [z] at hpb; exact absurd hpb (by decide)
    rw [hch] at hc0 hps
    have hnx : posP ps (j + 1) = posP ps j + 1 := hps
    have htk : (ps.take j).map (·.1) ++ [p.1] = (ps.take (j + 1)).map (·.1) := by rw [lookup_take_succ hp, List.map_append]; rfl
    refine Goes.seq (Ex1.assign (d := .str (S [p.1])) (Ev.item (a := .str (S (rowL ps soft))) (b := .int (posP ps j)) (Ev.local_ rfl rfl rfl rfl) (Ev.local_ rfl rfl rfl rfl) (item_str_nat rfl (by (clear htk hnx hne hpb hch hq big2 hc0 fin e24 hdl ed e1 e0 hmono hrow hpl hps hpo hlt hk1 hp hlen hok hk hU W; lia)) hc0) fun _ _ => rfl) (StOk.local_ rfl (plainScope_fn rfl)) rfl)
      (Goes.seq (Ex1.if_ (b := true) ((Ts.cmp hk1 (Ev.local_ rfl rfl rfl rfl) (Ev.str.of_eq (show PV.str (Str.ofString "=") = .str (S [61]) from rfl)) cmp_neS rfl).of (cmp_neS1 hne)) (fun _ => Ex.seq (Ex1.augS rfl rfl rfl (Ev.local_ rfl rfl rfl rfl) (StOk.local_ rfl (plainScope_fn rfl)) htk (by rw [List.length_singleton]; lia)) (Ex.one (Ex1.augI rfl rfl rfl Ev.int (StOk.local_ rfl (plainScope_fn rfl)) (show (posP ps j : Int) + 1 = (posP ps (j + 1) : Nat) by (clear htk hne hpb hch hq big2 hc0 fin e24 hdl big ed e1 e0 hmono hrow hpl hps hpo hlt hk1 hp hlen hok hk hU W; lia))))) fun h => nomatch h) (fin _ (Sub.all fun x hx => ?_)))
    simp only [List.mem_cons, List.not_mem_nil, or_false] at hx
    rcases hx with rfl | rfl | rfl | rfl | rfl | rfl <;> rfl
  | true =>
    have hch : pce p = [61, fig (p.1 / 16), fig (p.1 % 16)] := by unfold pce; rw [hq]; rfl
    have hp256 := hpo.1
    have hc1 : (rowL ps soft)[posP ps j + 1]? = some (fig (p.1 / 16)) := by rw [rowL_at hp (by rw [hch]; show 1 < 3; lia), hch]; rfl
    have hc2 : (rowL ps soft)[posP ps j + 2]? = some (fig (p.1 % 16)) := by rw [rowL_at hp (by rw [hch]; show 2 < 3; lia), hch]; rfl
    rw [hch] at hc0 hps
    have hnx : posP ps (j + 1) = posP ps j + 3 := hps
    have htk : (ps.take j).map (·.1) ++ [p.1] = (ps.take (j + 1)).map (·.1) := by rw [lookup_take_succ hp, List.map_append]; rfl
    have hl2 : posP ps j + 2 < (rowL ps soft).length := by (clear htk hc2 hc1 hp256 hch hq big2 hc0 fin e24 hdl big ed e1 e0 hpl hps hpo hlt hk1 hp hlen hok hk hU W; lia)
    obtain ⟨fu, fdu, hgu, HU⟩ := hU
    obtain ⟨th, hgh⟩ := W.hex
    obtain ⟨ou, hou, hdu⟩ := HU.obj
    have hcut : cut (some ((posP ps j : Nat) : Int)) (some ((posP ps j + 3 : Nat) : Int)) (rowL ps soft) = [61, fig (p.1 / 16), fig (p.1 % 16)] := by
      rw [cut_two, Nat.add_sub_cancel_left, rowL_split hp, hch]
      unfold posP
      rw [List.drop_left]
      rfl
    refine Goes.seq (Ex1.assign (d := .str (S [61])) (Ev.item (a := .str (S (rowL ps soft))) (b := .int (posP ps j)) (Ev.local_ rfl rfl rfl rfl) (Ev.local_ rfl rfl rfl rfl) (item_str_nat rfl (by omega) hc0) fun _ _ => rfl) (StOk.local_ rfl (plainScope_fn rfl)) rfl)
      (Goes.seq (Ex1.if_ (b := false) ((Ts.cmp hk1 (Ev.local_ rfl rfl rfl rfl) (Ev.str.of_eq (show PV.str (Str.ofString "=") = .str (S [61]) from rfl)) cmp_neS rfl).of (by decide)) (fun h => nomatch h) (fun _ => Ex.one (Ex1.if_ (b := false) ?t1 (fun h => nomatch h) (fun _ => Ex.one (Ex1.if_ (b := true) ?t2 (fun _ => Ex.seq (Ex1.augS rfl rfl rfl ?cu (StOk.local_ rfl (plainScope_fn rfl)) htk (by rw [List.length_singleton]; omega)) (Ex.one (Ex1.augI rfl rfl rfl Ev.int (StOk.local_ rfl (plainScope_fn rfl)) (show (posP ps j : Int) + 3 = (posP ps (j + 1) : Nat) by (clear hcut hdu hou hgh HU hgu hl2 htk hc2 hc1 hp256 hch hq big2 hc0 fin e24 hdl big ed e1 e0 hmono hrow hpl hps hpo hlt hk1 hp hlen hok hk W; lia))))) fun h => nomatch h))))) (fin _ (Sub.all fun x hx => ?_)))
    case t1 => exact (Ts.cmp hk1 (Ev.bin hk1 (Ev.local_ rfl rfl rfl rfl) Ev.int bin_add) (Ev.local_ rfl rfl rfl rfl) cmp_eq rfl).of (by rw [beq_eq_false_iff_ne]; lia)
    case t2 =>
      refine Ts.boolop (TsA.and_t ((Ts.cmp hk1 (Ev.bin hk1 (Ev.local_ rfl rfl rfl rfl) Ev.int bin_add) (Ev.local_ rfl rfl rfl rfl) cmp_lt rfl).of (decide_eq_true (by (clear hcut hdu hou hgh HU hgu hl2 htk hc2 hc1 hp256 hch hq big2 hc0 fin e24 hdl big ed e1 e0 hpl hps hpo hlt hk1 hp hlen hok hk W; lia)))) (TsA.and_t ?_ (TsA.and_t ?_ TsA.and_nil)))
      · refine (Ts.cmp (a := .str (S [fig (p.1 / 16)])) hk1 (Ev.item (a := .str (S (rowL ps soft))) (b := .int ((posP ps j + 1 : Nat) : Int)) (Ev.local_ rfl rfl rfl rfl) ?_ (item_str_nat rfl (by omega) hc1) fun _ _ => rfl) (Ev.globalR hgh (.str _ _) rfl rfl rfl rfl) cmp_inS rfl).of (hex_fig _ (by lia))
        exact (Ev.bin hk1 (Ev.local_ rfl rfl rfl rfl) Ev.int bin_add).of_eq (by congr 1)
      · refine (Ts.cmp (a := .str (S [fig (p.1 % 16)])) hk1 (Ev.item (a := .str (S (rowL ps soft))) (b := .int ((posP ps j + 2 : Nat) : Int)) (Ev.local_ rfl rfl rfl rfl) ?_ (item_str_nat rfl (by omega) hc2) fun _ _ => rfl) (Ev.globalR hgh (.str _ _) rfl rfl rfl rfl) cmp_inS rfl).of (hex_fig _ (by lia))
        exact (Ev.bin hk1 (Ev.local_ rfl rfl rfl rfl) Ev.int bin_add).of_eq (by congr 1)
    case cu =>
      refine Ev.callF (ds := [.str (S [61, fig (p.1 / 16), fig (p.1 % 16)])]) (Ev.globalR hgu (.val _) rfl rfl rfl rfl) hou hdu (EvL.cons ?_ EvL.nil rfl) (ok_unquote W.toWd HU (by show k + 1 ≤ 30; lia) hp256) rfl
      refine (Ev.sliceS (x := rowL ps soft) (lo := some ((posP ps j : Nat) : Int)) (hi := some ((posP ps j + 3 : Nat) : Int)) (Ev.local_ rfl rfl rfl rfl) (EvP.some (Ev.local_ rfl rfl rfl rfl)) (EvP.some ?_) (by (clear hcut hdu hou hgh HU hgu hl2 htk hnx hc2 hc1 hp256 hch hq big2 hc0 fin hdl ed e1 e0 hmono hrow hpl hps hpo hlt hk1 hp hlen hok hk W; lia))).of_eq (by rw [hcut])
      exact (Ev.bin hk1 (Ev.local_ rfl rfl rfl rfl) Ev.int bin_add).of_eq (by congr 1)
    simp only [List.mem_cons, List.not_mem_nil, or_false] at hx
    rcases hx with rfl | rfl | rfl | rfl | rfl | rfl <;> rfl

end
end Mine

namespace Mine
open PySem.Challenge

section
variable {c : Cx} {ρ : List (Str × PV)} {e : Expr}
theorem Ev.neg {i : Int} {pos : Pos} (h : Ev c ρ e (.int i)) : Ev c ρ (.UnaryOp .USub e pos) (.int (-i)) := fun A s E r F =>
  PySem.wpAny_UnaryOp (h.wp r F fun v s₁ k F₁ rv => by
    refine Rep.intE rv fun t => ?_; exact PyProof.Rows.neg_int ⟨keeps_trans k (keeps_toks s₁ _), .int _ _⟩)
theorem Goes.seqC {ρ' ρ'' : List (Str × PV)} {ow : Option (Addr × List PV)} {st : Stmt} {ss : List Stmt} (h : Ex1 c ρ st (.cont ρ' ow)) (s : Sub ρ'' ρ') : Goes c ρ (st :: ss) ρ'' ow := Goes.cont (Ex.cont h) s
end

/-- how many turns decode's while makes -/
noncomputable def dN (ps : List (Nat × Bool)) (soft : Bool) : Nat := if soft then ps.length + 1 else ps.length

section
variable {prog : Program} {w : World} {h₀ : Heap} {k : Nat} {X : Addr → Prop} {q : Str} {f L : Addr} {cd : Value}
theorem dec_last (W : Below h₀) (hk : k ≤ 20) {ps : List (Nat × Bool)} (hlen : (rowL ps true).length ≤ 4000) :
    Goes (cxAt prog w h₀ X 20 q f L cd (k + 1)) (dSt ps true ps.length) decBody (dSt ps true (ps.length + 1)) none := by
  have hk1 : k + 1 ≤ 40 := by lia
  have hrow : (rowL ps true).length = posP ps ps.length + 1 := rowL_len ps true
  have e0 : dPos ps ps.length = posP ps ps.length := if_pos (by lia)
  have e1 : dPos ps (ps.length + 1) = posP ps ps.length + 1 := if_neg (by lia)
  have ed : dDec ps true ps.length = ps.map (·.1) := by unfold dDec; rw [if_neg (by simp), List.append_nil, List.take_length]
  have ed1 : dDec ps true (ps.length + 1) = ps.map (·.1) := by unfold dDec; rw [if_neg (by simp), List.append_nil, List.take_of_length_le (by lia)]
  have hc : (rowL ps true)[posP ps ps.length]? = some 61 := by
    rw [posP_all]; unfold rowL
    rw [List.getElem?_append_right (by lia), Nat.sub_self]; rfl
  unfold dSt
  rw [e0, e1, ed, ed1]
  refine Goes.seq (Ex1.assign (d := .str (S [61])) (Ev.item (a := .str (S (rowL ps true))) (b := .int (posP ps ps.length)) (Ev.local_ rfl rfl rfl rfl) (Ev.local_ rfl rfl rfl rfl) (item_str_nat rfl (by lia) hc) fun _ _ => rfl) (StOk.local_ rfl (plainScope_fn rfl)) rfl)
    (Goes.seqC (Ex1.if_ (b := false) ((Ts.cmp hk1 (Ev.local_ rfl rfl rfl rfl) (Ev.str.of_eq (show PV.str (Str.ofString "=") = .str (S [61]) from rfl)) cmp_neS rfl).of (by decide)) (fun h => nomatch h) (fun _ => Ex.one (Ex1.if_ (b := true) ?t1 (fun _ => Ex.seq (Ex1.augI rfl rfl rfl Ev.int (StOk.local_ rfl (plainScope_fn rfl)) (show (posP ps ps.length : Int) + 1 = (posP ps ps.length + 1 : Nat) by lia)) (Ex.one Ex1.continue_)) fun h => nomatch h))) (Sub.all fun x hx => ?_))
  case t1 => exact (Ts.cmp hk1 (Ev.bin hk1 (Ev.local_ rfl rfl rfl rfl) Ev.int bin_add) (Ev.local_ rfl rfl rfl rfl) cmp_eq rfl).of (by rw [beq_iff_eq, hrow]; push_cast; rfl)
  simp only [List.mem_cons, List.not_mem_nil, or_false] at hx
  rcases hx with rfl | rfl | rfl | rfl | rfl | rfl <;> rfl

theorem dec_while (W : Below h₀) (hU : ∃ fu fdu, Glb h₀ "unquote" (.ref fu) ∧ FnAt h₀ 14 fu fdu .none .none) (hk : k ≤ 20) {ps : List (Nat × Bool)} {soft : Bool} (hok : ∀ p ∈ ps, okP p) (hlen : ps.length ≤ 1000) (hlr : (rowL ps soft).length ≤ 4000) {pos p1 p2 p3 : Pos} {ρ : List (Str × PV)} (hs : Sub (dSt ps soft 0) ρ) :
    Ex1 (cxAt prog w h₀ X 20 q f L cd (k + 1)) ρ (.While (.Compare (.Name "i" p1) [.Lt] [.Name "n" p2] p3) decBody [] pos) (.next (dSt ps soft (dN ps soft)) none) := by
  have hk1 : k + 1 ≤ 40 := by lia
  have tst : ∀ j, Ts (cxAt prog w h₀ X 20 q f L cd (k + 1)) (dSt ps soft j) (.Compare (.Name "i" p1) [.Lt] [.Name "n" p2] p3) (decide ((dPos ps j : Int) < ((rowL ps soft).length : Int))) := fun j => Ts.cmp hk1 (Ev.local_ rfl rfl rfl rfl) (Ev.local_ rfl rfl rfl rfl) cmp_lt rfl
  refine Ex1.while_ (dSt ps soft) (fun _ => none) (dN ps soft) hs rfl (fun j hj => ?_) ((tst _).of (decide_eq_false ?_))
  · by_cases h : j < ps.length
    · obtain ⟨p, hp⟩ : ∃ p, ps[j]? = some p := ⟨_, List.getElem?_eq_getElem h⟩
      refine ⟨(tst j).of (decide_eq_true ?_), dec_turn W hU hk hok hlen hp⟩
      have := posP_lt h soft
      have e0 : dPos ps j = posP ps j := if_pos (by lia)
      lia
    · have hsoft : soft = true := by
        cases soft with
        | true => rfl
        | false => unfold dN at hj; simp at hj; lia
      subst hsoft
      have hjl : j = ps.length := by unfold dN at hj; simp at hj; lia
      subst hjl
      refine ⟨(tst _).of (decide_eq_true ?_), dec_last W hk hlr⟩
      have hrow : (rowL ps true).length = posP ps ps.length + 1 := rowL_len ps true
      have e0 : dPos ps ps.length = posP ps ps.length := if_pos (by omega)
      lia
  · have hrow := rowL_len ps soft
    cases soft with
    | true =>
      have e1 : dPos ps (dN ps true) = posP ps ps.length + 1 := if_neg (by unfold dN; simp)
      simp at hrow; lia
    | false =>
      have e1 : dPos ps (dN ps false) = posP ps ps.length := if_pos (by unfold dN; simp)
      simp at hrow; lia
end
end Mine

namespace Mine
open PySem.Challenge

/-- a row that decode gives back whole -/
structure RowOk (ps : List (Nat × Bool)) (soft : Bool) : Prop where
  ok : ∀ p ∈ ps, okP p
  len : ps.length ≤ 1000
  ne : ps ≠ [] ∨ soft = true
  last : soft = false → ∀ p, ps.getLast? = some p → p.2 = true ∨ (p.1 ≠ 9 ∧ p.1 ≠ 32)

theorem fig_range : ∀ n < 16, (48 ≤ fig n ∧ fig n < 58) ∨ (65 ≤ fig n ∧ fig n < 71) := by decide
theorem plainB_lt {n : Nat} (h : plainB n = true) : n < 128 := by
  unfold plainB at h; simp at h; lia
theorem row_signs {ps : List (Nat × Bool)} {soft : Bool} (hok : ∀ p ∈ ps, okP p) : ∀ c ∈ rowL ps soft, c < 128 ∧ (plainB c = true ∨ (48 ≤ c ∧ c < 58) ∨ (65 ≤ c ∧ c < 71) ∨ c = 61) := by
  intro c hc
  unfold rowL flatP at hc
  rcases List.mem_append.mp hc with hc | hc
  · obtain ⟨l, hl, hcl⟩ := List.mem_flatten.mp hc
    obtain ⟨p, hp, rfl⟩ := List.mem_map.mp hl
    have ho := hok p hp
    unfold pce at hcl
    split at hcl
    · unfold quoteL at hcl
      simp only [List.mem_cons, List.not_mem_nil, or_false] at hcl
      rcases hcl with rfl | rfl | rfl
      · exact ⟨by decide, by simp⟩
      · have := fig_range (p.1 / 16) (by have := ho.1; lia)
        exact ⟨by lia, by rcases this with h | h <;> simp [h]⟩
      · have := fig_range (p.1 % 16) (by lia)
        exact ⟨by lia, by rcases this with h | h <;> simp [h]⟩
    · rename_i hq
      rw [List.mem_singleton.mp hcl]
      have := ho.2.2 (by simpa using hq)
      exact ⟨plainB_lt this, .inl this⟩
  · split at hc
    · rw [List.mem_singleton.mp hc]; exact ⟨by decide, by simp⟩
    · simp at hc
theorem row_ne {ps : List (Nat × Bool)} {soft : Bool} (h : RowOk ps soft) : rowL ps soft ≠ [] := by
  intro z
  have hz : (rowL ps soft).length = 0 := by rw [z]; rfl
  rcases h.ne with h' | h'
  · have h0 : 0 < ps.length := List.length_pos_iff.mpr h'
    have := posP_lt h0 soft
    lia
  · rw [rowL_len, h'] at hz; simp at hz
theorem row_last {ps : List (Nat × Bool)} {soft : Bool} (h : RowOk ps soft) : ∃ c, (rowL ps soft).getLast? = some c ∧ Unicode.isSpace c = false ∧ c ≠ 13 ∧ c ≠ 10 := by
  have fg : ∀ n, n < 16 → Unicode.isSpace (fig n) = false ∧ fig n ≠ 13 ∧ fig n ≠ 10 := by decide +kernel
  cases soft with
  | true => exact ⟨61, by unfold rowL; simp, by decide +kernel, by decide, by decide⟩
  | false =>
    have hne : ps ≠ [] := by rcases h.ne with h | h; exact h; cases h
    obtain ⟨r, p, rfl⟩ := List.eq_nil_or_concat ps |>.resolve_left hne
    rw [List.concat_eq_append] at *
    have ho := h.ok p (by simp)
    have hl := h.last rfl p (by simp)
    unfold rowL
    rw [flatP_append]
    cases hq : p.2 with
    | true =>
      have : flatP [p] = [61, fig (p.1 / 16), fig (p.1 % 16)] := by simp [flatP, pce, hq, quoteL]
      refine ⟨fig (p.1 % 16), by rw [this]; simp, fg _ (by omega)⟩
    | false =>
      have : flatP [p] = [p.1] := by simp [flatP, pce, hq]
      have hpb := ho.2.2 hq
      rw [hq] at hl
      refine ⟨p.1, by rw [this]; simp, plain_noSpace _ (plainB_lt hpb) (.inl ⟨hpb, by simpa using hl⟩), ?_, ho.2.1⟩
      intro z; rw [z] at hpb; exact absurd hpb (by decide)
end Mine

namespace Mine
open PySem.Challenge

noncomputable def dσ (ps : List (Nat × Bool)) (soft : Bool) : Nat → List (Str × PV)
  | 0 => [("decoded", .str (S [])), ("eol", .str (S [10])), ("encoded", .str (S (rowL ps soft)))]
  | _ + 1 => [("decoded", .str (S (dDec ps soft (dN ps soft)))), ("eol", .str (S [10])), ("encoded", .str (S (rowL ps soft)))]

section
variable {prog : Program} {w : World} {h₀ : Heap} {k : Nat} {f : Addr} {fd : FuncData} {a : Addr}
theorem ok_decode (W : Below h₀) (hU : ∃ fu fdu, Glb h₀ "unquote" (.ref fu) ∧ FnAt h₀ 14 fu fdu .none .none) (H : FnAt h₀ 20 f fd (.ref a) .none) (hD : ∃ o n t, h₀.get? a = some o ∧ o.data = .seq #[.str (S [10]) t] n) (hk : k ≤ 19) {ps : List (Nat × Bool)} {soft : Bool} (hr : RowOk ps soft) (hlr : (rowL ps soft).length ≤ 4000) :
    CallOk prog w h₀ k (.ref f) [.str (S (rowL ps soft))] (.str (S (ps.map (·.1)))) := by
  obtain ⟨o, n, t, ho, hd⟩ := hD
  have hk1 : k + 1 ≤ 40 := by lia
  have e24 : sizeLine = 16777216 := rfl
  have hne := row_ne hr
  obtain ⟨lc, hlc, hsp, h13, h10⟩ := row_last hr
  have hbr : ∀ c ∈ rowL ps soft, Unicode.isLineBreak c = false := fun c hc => plain_noBreak c (row_signs hr.ok c hc).1 (row_signs hr.ok c hc).2
  have hpos : 0 < (rowL ps soft).length := List.length_pos_iff.mpr hne
  have hlast : (rowL ps soft)[(rowL ps soft).length - 1]? = some lc := by rw [← List.getLast?_eq_getElem?]; exact hlc
  refine CallOk.fn (ρ := [("encoded", .str (S (rowL ps soft))), ("eol", .str (S [10]))]) (by lia) H rfl rfl rfl (fun fd' p1 p2 p3 p4 => fun X A s E Q vs B rl hq => ?_) ?_ ?_ fun X q L cd => ?_
  · refine RepL.consE rl fun _ _ r1 rl => ?_; refine RepL.nilE rl ?_; exact bindD1 p1 p2 (B.ext _ _ ho) hd (hq _ (.cons r1 (.cons (.str _ _) .nil)))
  · decide +kernel
  · intro x hx; simp at hx; rcases hx with rfl | rfl <;> rfl
  · refine Ex.seq (Ex1.if_ (b := false) ((Ts.not (Ts.str (Ev.local_ rfl rfl rfl rfl) (by rw [S_length]; lia) fun _ _ => rfl)).of (by rw [S_length]; simp; omega)) (fun h => nomatch h) fun _ => Ex.nil) ?_
    refine Ex.seq (Ex1.assign (Ev.str.of_eq (show _ = PV.str (S []) from rfl)) (StOk.local_ rfl (plainScope_fn rfl)) rfl) ?_
    refine Ex.seq (Ex1.for_ (ds := [.str (S (rowL ps soft))]) (EvIt.list (.name _ _) ((Ev.methS (Ev.local_ rfl rfl rfl rfl) EvL.nil PySem.F.slot_str_splitlines PySem.F.type_str_splitlines (call_splitlines (x := S (rowL ps soft)) (by rw [S_length]; lia) (by rw [lineCuts_one hne hbr]; show 1 ≤ sizeLine; decide)) rfl rfl rfl (.inl ⟨rfl, rfl⟩)).of_eq (by rw [linesS_one hne hbr]; rfl))) (fun _ => rfl) (dσ ps soft) (fun _ => none) (Sub.all fun x hx => ?s0) rfl ?turn) ?rest
    case s0 =>
      unfold dσ at hx
      simp only [List.mem_cons, List.not_mem_nil, or_false] at hx
      rcases hx with rfl | rfl | rfl <;> rfl
    case turn =>
      intro i d hd X'
      cases i with
      | succ i => simp at hd
      | zero =>
        have hd : PV.str (S (rowL ps soft)) = d := by simpa using hd
        subst hd
        refine ⟨_, AsOk.name (StOk.local_ rfl (plainScope_fn rfl)), ?_⟩
        refine Goes.seq (Ex1.assign ((Ev.methS (Ev.local_ rfl rfl rfl rfl) EvL.nil PySem.F.slot_str_rstrip PySem.F.type_str_rstrip (call_rstrip (x := S (rowL ps soft)) (by rw [S_length]; omega)) rfl rfl rfl (.inl ⟨rfl, rfl⟩)).of_eq (show _ = PV.str (S (rowL ps soft)) by rw [rstrip_id hlc hsp])) (StOk.local_ rfl (plainScope_fn rfl)) rfl) ?_
        refine Goes.seq (Ex1.if_ (b := false) ((Ts.not (Ts.str (Ev.local_ rfl rfl rfl rfl) (by rw [S_length]; omega) fun _ _ => rfl)).of (by rw [S_length]; simp; omega)) (fun h => nomatch h) fun _ => Ex.nil) ?_
        refine Goes.seq (Ex1.assign Ev.int (StOk.local_ rfl (plainScope_fn rfl)) rfl) ?_
        refine Goes.seq (Ex1.assign (Ev.callB (ds := [.str (S (rowL ps soft))]) (Ev.builtin W.len rfl rfl rfl rfl rfl) (EvL.cons (Ev.local_ rfl rfl rfl rfl) EvL.nil rfl) (call_lenS (by lia)) rfl rfl) (StOk.local_ rfl (plainScope_fn rfl)) rfl) ?_
        refine Goes.next (Ex.one (dec_while W hU (by lia) hr.ok hr.len hlr (Sub.all fun x hx => ?_))) (Sub.all fun x hx => ?_)
        · have e0 : dPos ps 0 = 0 := by unfold dPos posP flatP; simp
          have e1 : dDec ps soft 0 = [] := by
            unfold dDec
            rw [if_neg (by rintro ⟨z, z'⟩; rcases hr.ne with h | h; exact h (List.length_eq_zero_iff.mp z.symm); rw [h] at z'; cases z')]; rfl
          unfold dSt at hx
          rw [e0, e1] at hx
          simp only [List.mem_cons, List.not_mem_nil, or_false] at hx
          rcases hx with rfl | rfl | rfl | rfl | rfl | rfl <;> rfl
        · show (dSt ps soft (dN ps soft)).lookup x.1 = _
          unfold dσ at hx
          simp only [List.mem_cons, List.not_mem_nil, or_false] at hx
          rcases hx with rfl | rfl | rfl <;> rfl
    case rest =>
      show Ex (cxAt prog w h₀ X 20 q f L cd (k + 1)) (dσ ps soft 1) _ _
      have edec : ps.map (·.1) = dDec ps soft (dN ps soft) ∧ soft = true ∨ ps.map (·.1) ++ [10] = dDec ps soft (dN ps soft) ∧ soft = false := by
        cases soft with
        | true => left; exact ⟨by simp [dDec, dN, List.take_of_length_le], rfl⟩
        | false => right; exact ⟨by simp [dDec, dN], rfl⟩
      have hdl : (ps.map (·.1)).length ≤ 1000 := by rw [List.length_map]; exact hr.len
      rcases edec with ⟨e, rfl⟩ | ⟨e, rfl⟩
      · unfold dσ
        rw [← e]
        have hno : ((ps.map (·.1)).getLast? == some 10) = false := by
          rw [beq_eq_false_iff_ne]
          intro z
          obtain ⟨p, hp, hp10⟩ := List.mem_map.mp (List.mem_of_getLast? z)
          exact (hr.ok p hp).2.1 hp10
        refine Ex.seq (Ex1.if_ (b := false) (Ts.boolop (TsA.and_t ?ta (TsA.and_f ?tb))) (fun h => nomatch h) fun _ => Ex.nil) (Ex.ret (Ex1.return_ (Ev.local_ rfl rfl rfl rfl)))
        case ta => exact (Ts.cmp (a := .str (S [lc])) (b := .str (S [13, 10])) hk1 (Ev.item (a := .str (S (rowL ps true))) (b := .int (-1)) (Ev.local_ rfl rfl rfl rfl) (Ev.neg Ev.int) (item_str_neg (j := 1) rfl (by decide) (by lia) (by lia) hlast) fun _ _ => rfl) (Ev.str.of_eq rfl) cmp_notInS rfl).of (by simp [h13, h10])
        case tb => exact (Ts.bool (Ev.methS (ds := [.str (S [10])]) (Ev.local_ rfl rfl rfl rfl) (EvL.cons (Ev.local_ rfl rfl rfl rfl) EvL.nil rfl) PySem.F.slot_str_endswith PySem.F.type_str_endswith call_endswith rfl rfl rfl (.inr ⟨_, _, rfl⟩)) fun _ _ => rfl).of (by rw [endswith_nl, hno])
      · unfold dσ
        rw [← e]
        refine Ex.seq (Ex1.if_ (b := true) (Ts.boolop (TsA.and_t ?ta (TsA.and_t ?tb TsA.and_nil))) (fun _ => Ex.one (Ex1.assign (d := .str (S (ps.map (·.1)))) ?tc (StOk.local_ rfl (plainScope_fn rfl)) rfl)) fun h => nomatch h) (Ex.ret (Ex1.return_ (Ev.local_ rfl rfl rfl rfl)))
        case ta => exact (Ts.cmp (a := .str (S [lc])) (b := .str (S [13, 10])) hk1 (Ev.item (a := .str (S (rowL ps false))) (b := .int (-1)) (Ev.local_ rfl rfl rfl rfl) (Ev.neg Ev.int) (item_str_neg (j := 1) rfl (by decide) (by lia) (by lia) hlast) fun _ _ => rfl) (Ev.str.of_eq rfl) cmp_notInS rfl).of (by simp [h13, h10])
        case tb => exact (Ts.bool (Ev.methS (ds := [.str (S [10])]) (Ev.local_ rfl rfl rfl rfl) (EvL.cons (Ev.local_ rfl rfl rfl rfl) EvL.nil rfl) PySem.F.slot_str_endswith PySem.F.type_str_endswith call_endswith rfl rfl rfl (.inr ⟨_, _, rfl⟩)) fun _ _ => rfl).of (by rw [endswith_nl]; simp)
        case tc =>
          refine (Ev.sliceS (x := ps.map (·.1) ++ [10]) (lo := none) (hi := some (-((1 : Nat) : Int))) (Ev.local_ rfl rfl rfl rfl) EvP.none (EvP.some (Ev.neg ?_)) (by rw [List.length_append]; simp at hdl ⊢; lia)).of_eq (by rw [cut_but _ _ (by lia)]; congr 2; simp)
          exact (Ev.callB (ds := [.str (S [10])]) (Ev.builtin W.len rfl rfl rfl rfl rfl) (EvL.cons (Ev.local_ rfl rfl rfl rfl) EvL.nil rfl) (call_lenS (x := [10]) (by decide)) rfl rfl)

theorem ok_decode_nil (W : Below h₀) (H : FnAt h₀ 20 f fd (.ref a) .none) (hD : ∃ o n t, h₀.get? a = some o ∧ o.data = .seq #[.str (S [10]) t] n) (hk : k ≤ 19) : CallOk prog w h₀ k (.ref f) [.str (S [])] (.str (S [])) := by
  obtain ⟨o, n, t, ho, hd⟩ := hD
  refine CallOk.fn (ρ := [("encoded", .str (S [])), ("eol", .str (S [10]))]) (by lia) H rfl rfl rfl (fun fd' p1 p2 p3 p4 => fun X A s E Q vs B rl hq => ?_) ?_ ?_ fun X q L cd => ?_
  · refine RepL.consE rl fun _ _ r1 rl => ?_; refine RepL.nilE rl ?_; exact bindD1 p1 p2 (B.ext _ _ ho) hd (hq _ (.cons r1 (.cons (.str _ _) .nil)))
  · decide +kernel
  · intro x hx; simp at hx; rcases hx with rfl | rfl <;> rfl
  · exact Ex.ret (Ex1.if_ (b := true) ((Ts.not (Ts.str (Ev.local_ rfl rfl rfl rfl) (by decide) fun _ _ => rfl)).of (by decide)) (fun _ => Ex.one (Ex1.return_ (Ev.local_ rfl rfl rfl rfl))) fun h => nomatch h)
end
end Mine

namespace Mine

theorem posP_step {ps : List (Nat × Bool)} {k : Nat} (h : k < ps.length) : posP ps k < posP ps (k + 1) := by
  obtain ⟨p, hp⟩ : ∃ p, ps[k]? = some p := ⟨_, List.getElem?_eq_getElem h⟩
  have := posP_succ hp
  have := pce_len p
  split at this <;> lia
theorem posP_strict {ps : List (Nat × Bool)} {i j : Nat} (h : i < j) (hj : j ≤ ps.length) : posP ps i < posP ps j := by
  have h1 := posP_step (ps := ps) (k := i) (by lia)
  have h2 := posP_mono (ps := ps) (show i + 1 ≤ j from h)
  lia
theorem posP_zero (ps : List (Nat × Bool)) : posP ps 0 = 0 := by simp [posP, flatP]
/-- the piece at a place -/
theorem posP_find {ps : List (Nat × Bool)} {x : Nat} (h : x < posP ps ps.length) : ∃ i, i < ps.length ∧ posP ps i ≤ x ∧ x < posP ps (i + 1) := by
  have key : ∀ n, n ≤ ps.length → x < posP ps n → ∃ i, i < n ∧ posP ps i ≤ x ∧ x < posP ps (i + 1) := by
    intro n
    induction n with
    | zero => intro _ hx; rw [posP_zero] at hx; lia
    | succ n ih =>
      intro hn hx
      by_cases h : x < posP ps n
      · obtain ⟨i, h1, h2⟩ := ih (by lia) h; exact ⟨i, by lia, h2⟩
      · exact ⟨n, by lia, by lia, hx⟩
  exact key _ (Nat.le_refl _) h
theorem posP_uniq {ps : List (Nat × Bool)} {x i j : Nat} (hi : i < ps.length) (hj : j < ps.length) (h1 : posP ps i ≤ x) (h2 : x < posP ps (i + 1)) (h3 : posP ps j ≤ x) (h4 : x < posP ps (j + 1)) : i = j := by
  rcases Nat.lt_trichotomy i j with h | h | h
  · have := posP_mono (ps := ps) (show i + 1 ≤ j from h); lia
  · exact h
  · have := posP_mono (ps := ps) (show j + 1 ≤ i from h); lia
theorem rowL_false (ps : List (Nat × Bool)) : rowL ps false = flatP ps := by simp [rowL]
/-- where the marks stand -/
theorem mark_iff {ps : List (Nat × Bool)} (hok : ∀ p ∈ ps, okP p) {x c : Nat} (hx : (flatP ps)[x]? = some c) : c = 61 ↔ ∃ i p, ps[i]? = some p ∧ p.2 = true ∧ posP ps i = x := by
  have hlt : x < posP ps ps.length := by rw [posP_all]; exact (List.getElem?_eq_some_iff.mp hx).1
  obtain ⟨i, hi, h1, h2⟩ := posP_find hlt
  obtain ⟨p, hp⟩ : ∃ p, ps[i]? = some p := ⟨_, List.getElem?_eq_getElem hi⟩
  have ho := hok p (List.mem_of_getElem? hp)
  have hs := posP_succ hp
  have hc : (pce p)[x - posP ps i]? = some c := by
    have := rowL_at (soft := false) hp (j := x - posP ps i) (by lia)
    rw [rowL_false, show posP ps i + (x - posP ps i) = x by lia, hx] at this
    exact this.symm
  constructor
  · rintro rfl
    cases hq : p.2 with
    | false =>
      have e : pce p = [p.1] := by unfold pce; rw [hq]; rfl
      rw [e] at hc hs
      have : x - posP ps i = 0 := by simp at hs; lia
      rw [this] at hc
      have hb := ho.2.2 hq
      simp at hc
      rw [hc] at hb; exact absurd hb (by decide)
    | true =>
      have e : pce p = [61, fig (p.1 / 16), fig (p.1 % 16)] := by unfold pce; rw [hq]; rfl
      rw [e] at hc hs
      have f61 : ∀ n < 16, fig n ≠ 61 := by decide
      have h256 := ho.1
      have hd : x - posP ps i < 3 := by simp at hs; lia
      refine ⟨i, p, hp, hq, ?_⟩
      match h : x - posP ps i, hd with
      | 0, _ => lia
      | 1, _ => rw [h] at hc; simp at hc; exact absurd hc (f61 _ (by lia))
      | 2, _ => rw [h] at hc; simp at hc; exact absurd hc (f61 _ (by lia))
  · rintro ⟨j, p', hp', hq', hj⟩
    have hjl := (List.getElem?_eq_some_iff.mp hp').1
    have hst := posP_step hjl
    have := posP_uniq hi hjl h1 h2 (by lia) (by lia)
    subst this
    rw [hp] at hp'; cases hp'
    have e : pce p = [61, fig (p.1 / 16), fig (p.1 % 16)] := by unfold pce; rw [hq']; rfl
    rw [e, show x - posP ps i = 0 by lia] at hc
    simpa using hc.symm
end Mine

namespace Mine

/-- the greatest index whose place is at most b -/
noncomputable def nxtB (ps : List (Nat × Bool)) (b : Nat) : Nat → Nat
  | 0 => 0
  | n + 1 => if posP ps (n + 1) ≤ b then n + 1 else nxtB ps b n
theorem nxtB_le (ps : List (Nat × Bool)) (b : Nat) : ∀ n, nxtB ps b n ≤ n
  | 0 => Nat.le_refl _
  | n + 1 => by
    have := nxtB_le ps b n
    unfold nxtB; split <;> lia
theorem nxtB_pos (ps : List (Nat × Bool)) (b : Nat) : ∀ n, posP ps (nxtB ps b n) ≤ b
  | 0 => by unfold nxtB; rw [posP_zero]; lia
  | n + 1 => by
    unfold nxtB; split
    · assumption
    · exact nxtB_pos ps b n
theorem nxtB_next (ps : List (Nat × Bool)) (b : Nat) : ∀ n, nxtB ps b n < n → b < posP ps (nxtB ps b n + 1)
  | 0, h => by lia
  | n + 1, h => by
    unfold nxtB at h ⊢
    split
    · rename_i hc; rw [if_pos hc] at h; lia
    · rename_i hc
      rw [if_neg hc] at h
      by_cases hn : nxtB ps b n < n
      · exact nxtB_next ps b n hn
      · have := nxtB_le ps b n
        rw [show nxtB ps b n = n by lia]; lia
/-- where the row that begins at i ends, when it is not the last -/
noncomputable def nxt (ps : List (Nat × Bool)) (w i : Nat) : Nat := nxtB ps (posP ps i + w - 1) ps.length
/-- the starts of the rows behind the first, as the loop makes them -/
noncomputable def folds (ps : List (Nat × Bool)) (w : Nat) : Nat → Nat → List Nat
  | 0, _ => []
  | n + 1, i => if posP ps ps.length - posP ps i > w then nxt ps w i :: folds ps w n (nxt ps w i) else []
theorem nxt_spec {ps : List (Nat × Bool)} {w i : Nat} (hw : 4 ≤ w) (hi : i ≤ ps.length) (h : posP ps ps.length - posP ps i > w) :
    nxt ps w i < ps.length ∧ i < nxt ps w i ∧ posP ps (nxt ps w i) ≤ posP ps i + w - 1 ∧ posP ps i + w - 1 < posP ps (nxt ps w i + 1) := by
  have h1 := nxtB_pos ps (posP ps i + w - 1) ps.length
  have h0 := nxtB_le ps (posP ps i + w - 1) ps.length
  have h2 : nxt ps w i < ps.length := by
    rcases Nat.lt_or_ge (nxt ps w i) ps.length with h' | h'
    · exact h'
    · have e : nxt ps w i = ps.length := Nat.le_antisymm h0 h'
      have : posP ps (nxt ps w i) ≤ posP ps i + w - 1 := h1
      rw [e] at this; (clear e h' h0 h1 hi hw; omega)
  have h3 : posP ps i + w - 1 < posP ps (nxt ps w i + 1) := nxtB_next ps _ _ h2
  refine ⟨h2, ?_, h1, h3⟩
  rcases Nat.lt_or_ge i (nxt ps w i) with h' | h'
  · exact h'
  · have := posP_mono (ps := ps) (show nxt ps w i + 1 ≤ i + 1 by lia)
    have hil : i < ps.length := by
      rcases Nat.lt_or_ge i ps.length with z | z
      · exact z
      · have : i = ps.length := by lia
        rw [this] at h; lia
    obtain ⟨p, hp⟩ : ∃ p, ps[i]? = some p := ⟨_, List.getElem?_eq_getElem hil⟩
    have hs := posP_succ hp
    have hl := pce_len p
    split at hl <;> lia
end Mine

namespace Mine
open PySem.Challenge

/-- the body of body_encode's while -/
noncomputable abbrev encBody : List Stmt := forBody (forBody (bodyAt 19) 7) 2
noncomputable def rowS (ps : List (Nat × Bool)) (i j : Nat) : List Nat := ((flatP ps).drop (posP ps i)).take (posP ps j - posP ps i) ++ [61]
noncomputable def eSt (ps : List (Nat × Bool)) (w : Nat) (eol : List Nat) (a : Addr) (i : Nat) : List (Str × PV) :=
  [("start", .int (posP ps i)), ("line", .str (S (flatP ps))), ("laststart", .int ((posP ps ps.length : Int) - 1 - w)), ("maxlinelen1", .int ((w : Int) - 1)), ("append", .bm a), ("encoded_body", .val (.ref a)),
   ("soft_break", .str (S (61 :: eol))), ("body", .str (S (flatP ps))), ("eol", .str (S eol)), ("maxlinelen", .int w)]

theorem take_snoc {l : List Nat} {a m c : Nat} (h : l[a + m]? = some c) : (l.drop a).take (m + 1) = (l.drop a).take m ++ [c] := lookup_take_succ (by rw [List.getElem?_drop]; exact h)

section
variable {prog : Program} {w' : World} {h₀ : Heap} {k : Nat} {X M : Addr → Prop} {q : Str} {f L : Addr} {cd : Value}
theorem enc_turn (hk : k ≤ 20) {ps : List (Nat × Bool)} (hok : ∀ p ∈ ps, okP p) {w i : Nat} {eol : List Nat} {a : Addr} {ds : List PV} (hw : 4 ≤ w) (hw2 : w ≤ 1000) (hl : (flatP ps).length ≤ 4000) (hi : i ≤ ps.length) (hd : ds.length ≤ 1000) (h : posP ps ps.length - posP ps i > w) :
    Goes { cxAt prog w' h₀ X 19 q f L cd (k + 1) with M := M, ow := some (a, ds) } (eSt ps w eol a i) encBody (eSt ps w eol a (nxt ps w i)) (some (a, ds ++ [.str (S (rowS ps i (nxt ps w i)))])) := by
  have hk1 : k + 1 ≤ 40 := by lia
  have e24 : sizeLine = 16777216 := rfl
  obtain ⟨n1, n2, n3, n4⟩ := nxt_spec hw hi h
  obtain ⟨J, hJ⟩ : ∃ J, J = nxt ps w i := ⟨_, rfl⟩
  rw [← hJ] at n1 n2 n3 n4 ⊢
  have hn : (flatP ps).length = posP ps ps.length := (posP_all ps).symm
  have hJl := posP_strict n1 (Nat.le_refl _)
  obtain ⟨stop, hst⟩ : ∃ stop, stop = posP ps i + w - 1 := ⟨_, rfl⟩
  rw [← hst] at n3 n4
  have hb2 : stop - 2 < (flatP ps).length := by (clear n3 n4 hJl hJ n1 n2 e24 hk1 hd hi hl hw2 hw hok hk; omega)
  have hb1 : stop - 1 < (flatP ps).length := by (clear hb2 n3 n4 hJl hJ n1 n2 e24 hk1 hd hi hl hw2 hw hok hk; omega)
  obtain ⟨c2, hc2⟩ : ∃ c, (flatP ps)[stop - 2]? = some c := ⟨_, List.getElem?_eq_getElem hb2⟩
  obtain ⟨c1, hc1⟩ : ∃ c, (flatP ps)[stop - 1]? = some c := ⟨_, List.getElem?_eq_getElem hb1⟩
  have m2 := mark_iff hok hc2
  have m1 := mark_iff hok hc1
  unfold eSt
  refine Goes.seq (Ex1.assign (d := .int (stop : Nat)) ((Ev.bin hk1 (Ev.local_ rfl rfl rfl rfl) (Ev.local_ rfl rfl rfl rfl) bin_add).of_eq (by clear m1 m2; congr 1; lia)) (StOk.local_ rfl (plainScope_fn rfl)) rfl) ?_
  have quoted : ∀ x, (∃ i p, ps[i]? = some p ∧ p.2 = true ∧ posP ps i = x) → x ≤ stop → stop < x + 3 → posP ps J = x := by
    rintro x ⟨i', p, hp, hq, rfl⟩ h1 h2
    have hi' := (List.getElem?_eq_some_iff.mp hp).1
    have hs := posP_succ hp
    have hpl := pce_len p
    rw [hq, if_pos rfl] at hpl
    have := posP_uniq n1 hi' n3 n4 h1 (by lia)
    rw [this]
  have tst : ∀ (ρ : List (Str × PV)), True := fun _ => trivial
  have hd24 : ds.length < sizeLine := by lia
  by_cases h61 : c2 = 61
  · have hpJ := quoted _ (m2.mp h61) (by clear m1 m2; (clear h61 hd24 tst quoted hc1 hc2 hb1 hb2 hst n3 n4 hJl hn hJ n1 n2 e24 hk1 h hd hi hl hw2 hw hok hk; omega)) (by clear m1 m2; (clear h61 hd24 tst quoted hc1 hc2 hb1 hb2 hst n3 n4 hJl hn hJ n1 n2 e24 hk1 h hd hi hl hw2 hw hok hk; omega))
    subst h61
    clear m1 m2
    have hrow : cut (some ((posP ps i : Nat) : Int)) (some ((stop - 1 : Nat) : Int)) (flatP ps) = rowS ps i J := by
      rw [cut_two, rowS, show stop - 1 - posP ps i = (posP ps J - posP ps i) + 1 by (clear hc2 hd24 tst quoted hc1 hb1 hb2 n3 n4 hJl hn hJ n1 n2 e24 hk1 h hd hi hl hw2 hok hk; lia)]
      exact take_snoc (by rw [show posP ps i + (posP ps J - posP ps i) = stop - 2 by (clear hc2 hd24 tst quoted hc1 hb1 hb2 n3 n4 hJl hn hJ n1 n2 e24 hk1 h hd hi hl hw2 hok hk; omega)]; exact hc2)
    refine Goes.next (Ex.one (Ex1.if_ (b := true) ?tt (fun _ => Ex.cons (Ex1.appendB (d := .str (S (rowS ps i J))) rfl hd24 (Ev.local_ rfl rfl rfl rfl) ?row rfl rfl rfl) (Ex.one (Ex1.assign (d := .int (posP ps J)) ?sta (StOk.local_ rfl (plainScope_fn rfl)) rfl))) fun h => nomatch h)) (Sub.all fun x hx => ?sub)
    case tt =>
      refine (Ts.cmp hk1 (Ev.item (a := .str (S (flatP ps))) (b := .int ((stop - 2 : Nat) : Int)) (Ev.local_ rfl rfl rfl rfl) ?_ (item_str_nat rfl (by lia) hc2) fun _ _ => rfl) (Ev.str.of_eq (show PV.str (Str.ofString "=") = .str (S [61]) from rfl)) cmp_eqS rfl).of (by decide)
      exact (Ev.bin hk1 (Ev.local_ rfl rfl rfl rfl) Ev.int bin_sub).of_eq (by congr 1; (clear hrow hc2 hpJ hd24 tst quoted hc1 hb1 hb2 n3 n4 hJl hn hJ n1 n2 e24 hk1 h hd hi hl hw2 hok hk; lia))
    case row =>
      refine (Ev.sliceS (x := flatP ps) (lo := some ((posP ps i : Nat) : Int)) (hi := some ((stop - 1 : Nat) : Int)) (Ev.local_ rfl rfl rfl rfl) (EvP.some (Ev.local_ rfl rfl rfl rfl)) (EvP.some ?_) (by lia)).of_eq (by rw [hrow])
      exact (Ev.bin hk1 (Ev.local_ rfl rfl rfl rfl) Ev.int bin_sub).of_eq (by congr 1; lia)
    case sta => exact (Ev.bin hk1 (Ev.local_ rfl rfl rfl rfl) Ev.int bin_sub).of_eq (by congr 1; (clear hrow hc2 hd24 tst quoted hc1 hb1 hb2 n3 n4 hJl hn hJ n1 n2 e24 hk1 h hd hi hl hw2 hok hk; lia))
    case sub =>
      unfold eSt at hx
      simp only [List.mem_cons, List.not_mem_nil, or_false] at hx
      rcases hx with rfl | rfl | rfl | rfl | rfl | rfl | rfl | rfl | rfl | rfl <;> rfl
  · by_cases h61' : c1 = 61
    · have hpJ := quoted _ (m1.mp h61') (by clear m1 m2; lia) (by clear m1 m2; lia)
      subst h61'
      clear m1 m2
      have hrow : cut (some ((posP ps i : Nat) : Int)) (some ((stop : Nat) : Int)) (flatP ps) = rowS ps i J := by
        rw [cut_two, rowS, show stop - posP ps i = (posP ps J - posP ps i) + 1 by (clear hc1 h61 hd24 tst quoted hc2 hb1 hb2 n3 n4 hJl hn hJ n1 n2 e24 hk1 h hd hi hl hw2 hok hk; lia)]
        exact take_snoc (by rw [show posP ps i + (posP ps J - posP ps i) = stop - 1 by lia]; exact hc1)
      refine Goes.next (Ex.one (Ex1.if_ (b := false) ?tt (fun h => nomatch h) (fun _ => Ex.one (Ex1.if_ (b := true) ?tu (fun _ => Ex.cons (Ex1.appendB (d := .str (S (rowS ps i J))) rfl hd24 (Ev.local_ rfl rfl rfl rfl) ?row rfl rfl rfl) (Ex.one (Ex1.assign (d := .int (posP ps J)) ?sta (StOk.local_ rfl (plainScope_fn rfl)) rfl))) fun h => nomatch h)))) (Sub.all fun x hx => ?sub)
      case tt =>
        refine (Ts.cmp hk1 (Ev.item (a := .str (S (flatP ps))) (b := .int ((stop - 2 : Nat) : Int)) (Ev.local_ rfl rfl rfl rfl) ?_ (item_str_nat rfl (by omega) hc2) fun _ _ => rfl) (Ev.str.of_eq (show PV.str (Str.ofString "=") = .str (S [61]) from rfl)) cmp_eqS rfl).of (by rw [beq_eq_false_iff_ne]; intro z; have := S_inj z; simp at this; exact h61 this)
        exact (Ev.bin hk1 (Ev.local_ rfl rfl rfl rfl) Ev.int bin_sub).of_eq (by congr 1; (clear hrow hc1 hpJ h61 hd24 tst quoted hc2 hb1 hb2 n3 n4 hJl hn hJ n1 n2 e24 hk1 h hd hi hl hw2 hok hk; lia))
      case tu =>
        refine (Ts.cmp hk1 (Ev.item (a := .str (S (flatP ps))) (b := .int ((stop - 1 : Nat) : Int)) (Ev.local_ rfl rfl rfl rfl) ?_ (item_str_nat rfl (by omega) hc1) fun _ _ => rfl) (Ev.str.of_eq (show PV.str (Str.ofString "=") = .str (S [61]) from rfl)) cmp_eqS rfl).of (by decide)
        exact (Ev.bin hk1 (Ev.local_ rfl rfl rfl rfl) Ev.int bin_sub).of_eq (by congr 1; lia)
      case row => exact (Ev.sliceS (x := flatP ps) (lo := some ((posP ps i : Nat) : Int)) (hi := some ((stop : Nat) : Int)) (Ev.local_ rfl rfl rfl rfl) (EvP.some (Ev.local_ rfl rfl rfl rfl)) (EvP.some (Ev.local_ rfl rfl rfl rfl)) (by omega)).of_eq (by rw [hrow])
      case sta => exact (Ev.bin hk1 (Ev.local_ rfl rfl rfl rfl) Ev.int bin_sub).of_eq (by congr 1; lia)
      case sub =>
        unfold eSt at hx
        simp only [List.mem_cons, List.not_mem_nil, or_false] at hx
        rcases hx with rfl | rfl | rfl | rfl | rfl | rfl | rfl | rfl | rfl | rfl <;> rfl
    · have hpJ : posP ps J = stop := by
        obtain ⟨p, hp⟩ : ∃ p, ps[J]? = some p := ⟨_, List.getElem?_eq_getElem n1⟩
        have hs := posP_succ hp
        have hpl := pce_len p
        cases hq : p.2 with
        | false => rw [hq, if_neg (by decide)] at hpl; clear m1 m2; (clear hq hp h61' h61 hd24 tst quoted hc1 hc2 hb1 hb2 hst hJl hn hJ n1 n2 e24 hk1 h hd hi hl hw2 hw hok hk; lia)
        | true =>
          rw [hq, if_pos rfl] at hpl
          by_cases e2 : posP ps J = stop - 2
          · exact absurd (m2.mpr ⟨J, p, hp, hq, e2⟩) h61
          · by_cases e1 : posP ps J = stop - 1
            · exact absurd (m1.mpr ⟨J, p, hp, hq, e1⟩) h61'
            · clear m1 m2; (clear hq hp h61' h61 hd24 tst quoted hc1 hc2 hb1 hb2 hst hJl hn hJ n1 n2 e24 hk1 h hd hi hl hw2 hw hok hk; lia)
      clear m1 m2
      have hrow : cut (some ((posP ps i : Nat) : Int)) (some ((stop : Nat) : Int)) (flatP ps) ++ [61] = rowS ps i J := by
        rw [cut_two, rowS, hpJ]
      have hcl := cut_len (some ((posP ps i : Nat) : Int)) (some ((stop : Nat) : Int)) (flatP ps)
      refine Goes.next (Ex.one (Ex1.if_ (b := false) ?tt (fun h => nomatch h) (fun _ => Ex.one (Ex1.if_ (b := false) ?tu (fun h => nomatch h) fun _ => Ex.cons (Ex1.appendB (d := .str (S (rowS ps i J))) rfl hd24 (Ev.local_ rfl rfl rfl rfl) ?row rfl rfl rfl) (Ex.one (Ex1.assign (d := .int (posP ps J)) ?sta (StOk.local_ rfl (plainScope_fn rfl)) rfl)))))) (Sub.all fun x hx => ?sub)
      case tt =>
        refine (Ts.cmp hk1 (Ev.item (a := .str (S (flatP ps))) (b := .int ((stop - 2 : Nat) : Int)) (Ev.local_ rfl rfl rfl rfl) ?_ (item_str_nat rfl (by omega) hc2) fun _ _ => rfl) (Ev.str.of_eq (show PV.str (Str.ofString "=") = .str (S [61]) from rfl)) cmp_eqS rfl).of (by rw [beq_eq_false_iff_ne]; intro z; have := S_inj z; simp at this; exact h61 this)
        exact (Ev.bin hk1 (Ev.local_ rfl rfl rfl rfl) Ev.int bin_sub).of_eq (by congr 1; (clear hcl hrow hpJ h61' h61 hd24 tst quoted hc1 hc2 hb1 hb2 n3 n4 hJl hn hJ n1 n2 e24 hk1 h hd hi hl hw2 hok hk; lia))
      case tu =>
        refine (Ts.cmp hk1 (Ev.item (a := .str (S (flatP ps))) (b := .int ((stop - 1 : Nat) : Int)) (Ev.local_ rfl rfl rfl rfl) ?_ (item_str_nat rfl (by omega) hc1) fun _ _ => rfl) (Ev.str.of_eq (show PV.str (Str.ofString "=") = .str (S [61]) from rfl)) cmp_eqS rfl).of (by rw [beq_eq_false_iff_ne]; intro z; have := S_inj z; simp at this; exact h61' this)
        exact (Ev.bin hk1 (Ev.local_ rfl rfl rfl rfl) Ev.int bin_sub).of_eq (by congr 1; (clear hcl hrow hpJ h61' h61 hd24 tst quoted hc1 hc2 hb1 hb2 n3 n4 hJl hn hJ n1 n2 e24 hk1 h hd hi hl hw2 hok hk; lia))
      case row => exact (Ev.bin hk1 (Ev.sliceS (x := flatP ps) (lo := some ((posP ps i : Nat) : Int)) (hi := some ((stop : Nat) : Int)) (Ev.local_ rfl rfl rfl rfl) (EvP.some (Ev.local_ rfl rfl rfl rfl)) (EvP.some (Ev.local_ rfl rfl rfl rfl)) (by omega)) (Ev.str.of_eq (show PV.str (Str.ofString "=") = .str (S [61]) from rfl)) (bin_addS (by rw [S_length, S_length, List.length_singleton]; lia))).of_eq (by rw [S_append, hrow])
      case sta => exact (Ev.local_ rfl rfl rfl rfl).of_eq (by rw [hpJ])
      case sub =>
        unfold eSt at hx
        simp only [List.mem_cons, List.not_mem_nil, or_false] at hx
        rcases hx with rfl | rfl | rfl | rfl | rfl | rfl | rfl | rfl | rfl | rfl <;> rfl
end
end Mine

namespace Mine
open PySem.Challenge

theorem folds_spec {ps : List (Nat × Bool)} {w : Nat} (hw : 4 ≤ w) : ∀ (n i : Nat), i ≤ ps.length → ps.length - i < n →
    (∀ k, k < (folds ps w n i).length → posP ps ps.length - posP ps ((i :: folds ps w n i).getD k 0) > w ∧ (i :: folds ps w n i).getD (k + 1) 0 = nxt ps w ((i :: folds ps w n i).getD k 0)) ∧
    posP ps ps.length - posP ps ((i :: folds ps w n i).getD (folds ps w n i).length 0) ≤ w ∧ (∀ k, k ≤ (folds ps w n i).length → (i :: folds ps w n i).getD k 0 ≤ ps.length) ∧ (folds ps w n i).length ≤ ps.length - i
  | 0, i, hi, hn => by lia
  | n + 1, i, hi, hn => by
    by_cases h : posP ps ps.length - posP ps i > w
    · obtain ⟨n1, n2, n3, n4⟩ := nxt_spec hw hi h
      have e : folds ps w (n + 1) i = nxt ps w i :: folds ps w n (nxt ps w i) := by rw [folds, if_pos h]
      obtain ⟨a1, a2, a3, a4⟩ := folds_spec (ps := ps) hw n (nxt ps w i) (Nat.le_of_lt n1) (by lia)
      rw [e]
      refine ⟨fun k hk => ?_, ?_, fun k hk => ?_, ?_⟩
      · cases k with
        | zero => exact ⟨h, rfl⟩
        | succ k => exact a1 k (by simpa using hk)
      · exact a2
      · cases k with
        | zero => exact hi
        | succ k => exact a3 k (by simpa using hk)
      · rw [List.length_cons]; lia
    · have e : folds ps w (n + 1) i = [] := by rw [folds, if_neg h]
      rw [e]
      refine ⟨fun k hk => by simp at hk, by simpa using Nat.le_of_not_lt h, fun k hk => ?_, by simp⟩
      have : k = 0 := by simpa using hk
      subst this; exact hi

/-- the starts of all rows of the loop, the first at the first piece -/
noncomputable def idxs (ps : List (Nat × Bool)) (w : Nat) : List Nat := 0 :: folds ps w (ps.length + 1) 0
noncomputable def idx (ps : List (Nat × Bool)) (w k : Nat) : Nat := (idxs ps w).getD k 0
noncomputable def nfold (ps : List (Nat × Bool)) (w : Nat) : Nat := (folds ps w (ps.length + 1) 0).length
noncomputable def rowsTo (ps : List (Nat × Bool)) (w n : Nat) : List PV := (List.range n).map fun t => .str (S (rowS ps (idx ps w t) (idx ps w (t + 1))))

section
variable {prog : Program} {w' : World} {h₀ : Heap} {k : Nat} {X M : Addr → Prop} {q : Str} {f L : Addr} {cd : Value}
theorem enc_while (hk : k ≤ 20) {ps : List (Nat × Bool)} (hok : ∀ p ∈ ps, okP p) {w : Nat} {eol : List Nat} {a : Addr} (hw : 4 ≤ w) (hw2 : w ≤ 1000) (hl : (flatP ps).length ≤ 4000) (hm : ps.length ≤ 900) {pos p1 p2 p3 : Pos} {ρ : List (Str × PV)} (hs : Sub (eSt ps w eol a 0) ρ) :
    Ex1 { cxAt prog w' h₀ X 19 q f L cd (k + 1) with M := M, ow := some (a, []) } ρ (.While (.Compare (.Name "start" p1) [.LtE] [.Name "laststart" p2] p3) encBody [] pos) (.next (eSt ps w eol a (idx ps w (nfold ps w))) (some (a, rowsTo ps w (nfold ps w)))) := by
  have hk1 : k + 1 ≤ 40 := by lia
  obtain ⟨a1, a2, a3, a4⟩ := folds_spec (ps := ps) hw (ps.length + 1) 0 (Nat.zero_le _) (by lia)
  have hlen := posP_all ps
  have tst : ∀ j ow, Ts { cxAt prog w' h₀ X 19 q f L cd (k + 1) with M := M, ow := ow } (eSt ps w eol a (idx ps w j)) (.Compare (.Name "start" p1) [.LtE] [.Name "laststart" p2] p3) (decide ((posP ps (idx ps w j) : Int) ≤ (posP ps ps.length : Int) - 1 - w)) := fun j ow => Ts.cmp hk1 (Ev.local_ rfl rfl rfl rfl) (Ev.local_ rfl rfl rfl rfl) cmp_le rfl
  refine Ex1.while_ (fun j => eSt ps w eol a (idx ps w j)) (fun j => some (a, rowsTo ps w j)) (nfold ps w) hs rfl (fun j hj => ?_) ((tst _ _).of (decide_eq_false ?_))
  · obtain ⟨h1, h2⟩ := a1 j hj
    have h1' : posP ps ps.length - posP ps (idx ps w j) > w := h1
    refine ⟨(tst j _).of (decide_eq_true (by (clear h2 h1 hj tst hlen a4 a3 a2 a1 hk1 hs hm hl hw2 hw hok hk; omega))), ?_⟩
    have e : idx ps w (j + 1) = nxt ps w (idx ps w j) := h2
    have er : rowsTo ps w (j + 1) = rowsTo ps w j ++ [.str (S (rowS ps (idx ps w j) (nxt ps w (idx ps w j))))] := by
      unfold rowsTo; rw [List.range_succ, List.map_append, ← e]; rfl
    show Goes _ _ _ (eSt ps w eol a (idx ps w (j + 1))) (some (a, rowsTo ps w (j + 1)))
    rw [er, e]
    exact enc_turn hk hok hw hw2 hl (a3 j (Nat.le_of_lt hj)) (by unfold rowsTo; rw [List.length_map, List.length_range]; unfold nfold at hj; lia) h1'
  · have a2' : posP ps ps.length - posP ps (idx ps w (nfold ps w)) ≤ w := a2
    (clear tst hlen a4 a3 a2 a1 hk1 hs hm hl hw2 hw hok hk; lia)
end
end Mine

namespace Mine
open PySem.Challenge

noncomputable def pieceOf (c : Nat) : Nat × Bool := (c, !plainB c)
noncomputable def okC (c : Nat) : Prop := c < 256 ∧ c ≠ 10 ∧ c ≠ 13
theorem pieceOf_ok {c : Nat} (h : okC c) : okP (pieceOf c) := ⟨h.1, h.2.1, fun q => by unfold pieceOf at q ⊢; simpa using q⟩
theorem codeB_piece {c : Nat} (h : okC c) : codeB c = pce (pieceOf c) := by
  unfold codeB pce pieceOf
  have h10 : (c == 10) = false := by rw [beq_eq_false_iff_ne]; exact h.2.1
  have h13 : (c == 13) = false := by rw [beq_eq_false_iff_ne]; exact h.2.2
  rw [h10, h13]
  cases plainB c <;> simp
theorem tr_flat {x : List Nat} (h : ∀ c ∈ x, okC c) : (x.map fun c => ((List.range 256).map codeB).getD c []).flatten = flatP (x.map pieceOf) := by
  unfold flatP
  rw [List.map_map]
  congr 1
  apply List.map_congr_left
  intro c hc
  have hc' := h c hc
  have e : ((List.range 256).map codeB).getD c [] = codeB c := by
    rw [List.getD_eq_getElem?_getD, List.getElem?_map, List.getElem?_range hc'.1]; rfl
  rw [e, codeB_piece hc']; rfl
end Mine

namespace Mine
open PySem.Challenge

/-- the text that body_encode writes behind its loop -/
noncomputable def tailS (l : List Nat) (w s : Nat) (eol : List Nat) : List Nat :=
  match l.getLast? with
  | none => []
  | some c => if c = 9 ∨ c = 32 then
      (if l.length - s + 2 ≤ w then (l.drop s).dropLast ++ quoteL c else if l.length - s + 1 = w then l.drop s ++ 61 :: eol else (l.drop s).dropLast ++ (61 :: eol ++ quoteL c))
    else l.drop s
theorem cut_dropLast {l : List Nat} {s : Nat} (h : s < l.length) : cut (some (s : Int)) (some (-1)) l = (l.drop s).dropLast := by
  have := cut_fromBut l s 1 (by lia)
  rw [show (-(1 : Nat) : Int) = -1 from rfl] at this
  rw [this, List.dropLast_eq_take, List.length_drop, List.drop_take]
  congr 1; lia
end Mine

namespace Mine
open PySem.Challenge

section
variable {c : Cx} {ρ ρ' : List (Str × PV)} {ow : Option (Addr × List PV)}
theorem Goes.if_ {t : Expr} {b1 b2 : List Stmt} {pos : Pos} {b : Bool} (h : Ts c ρ t b) (h1 : b = true → Goes c ρ b1 ρ' ow) (h2 : b = false → Goes c ρ b2 ρ' ow) : Goes c ρ [.If t b1 b2 pos] ρ' ow := fun A s E r F => by
  refine wpAny_execs_cons (wpAny_If (h.wp r F fun s₁ k F₁ => ?_))
  have fin : ∀ bb, Goes c ρ bb ρ' ow → wpAny (model c.prog c.w) A (execs bb c.env) (fun f s' => match f with
      | .next => wpAny (model c.prog c.w) A (execs [] c.env) (fun f s' => KB (OwnC c) s s' ∧ (f = .next ∨ f = .cont) ∧ (c.own ow).F ρ' s'.heap) E s'
      | f => KB (OwnC c) s s' ∧ (f = .next ∨ f = .cont) ∧ (c.own ow).F ρ' s'.heap) E s₁ := fun bb g =>
    wpAny_mono (g A s₁ E r F₁) (fun f s₂ q => by
      obtain ⟨q1, q2, q3⟩ := q
      rcases q2 with rfl | rfl
      · exact wpAny_execs_nil ⟨(KB.of k).trans q1, .inl rfl, q3⟩
      · exact ⟨(KB.of k).trans q1, .inr rfl, q3⟩) fun _ _ x => x
  cases b with
  | true => rw [if_pos rfl]; exact fin _ (h1 rfl)
  | false => rw [if_neg Bool.false_ne_true]; exact fin _ (h2 rfl)
end

noncomputable abbrev encFor : List Stmt := forBody (bodyAt 19) 7
section
variable {prog : Program} {w' : World} {h₀ : Heap} {k : Nat} {X M : Addr → Prop} {q : Str} {f L : Addr} {cd : Value}
theorem enc_tail (W : Below h₀) (hQ : ∃ fq fdq, Glb h₀ "quote" (.ref fq) ∧ FnAt h₀ 15 fq fdq .none .none) (hk : k ≤ 20) {ps : List (Nat × Bool)} {w i : Nat} {eol : List Nat} {a : Addr} {ds : List PV} {c : Nat} (hw : 4 ≤ w) (hw2 : w ≤ 1000) (hl : (flatP ps).length ≤ 4000) (hi : i < ps.length) (hd : ds.length ≤ 1000) (h : posP ps ps.length - posP ps i ≤ w)
    (hc : (flatP ps).getLast? = some c) (hc2 : c < 256) (heol : eol.length ≤ 2) :
    Goes { cxAt prog w' h₀ X 19 q f L cd (k + 1) with M := M, ow := some (a, ds) } (eSt ps w eol a i) (encFor.drop 3) (eSt ps w eol a i) (some (a, ds ++ [.str (S (tailS (flatP ps) w (posP ps i) eol))])) := by
  have hk1 : k + 1 ≤ 40 := by lia
  have e24 : sizeLine = 16777216 := rfl
  have hn : (flatP ps).length = posP ps ps.length := (posP_all ps).symm
  have hlt : posP ps i < (flatP ps).length := by rw [hn]; exact posP_strict hi (Nat.le_refl _)
  have hd24 : ds.length < sizeLine := by lia
  have hlast : (flatP ps)[(flatP ps).length - 1]? = some c := by rw [← List.getLast?_eq_getElem?]; exact hc
  have hcut := cut_dropLast hlt
  have hdl : ((flatP ps).drop (posP ps i)).dropLast.length ≤ 4000 := by rw [List.length_dropLast, List.length_drop]; (clear hcut hlast hd24 hlt hn e24 hk1 heol hc2 hc h hd hi hw2 hw hk hQ W; omega)
  have hnl : ∀ ρ : List (Str × PV), ρ.lookup (Str.ofString "line") = some (.str (S (flatP ps))) → ∀ p1 p2 p3 p5 kk, Ev { cxAt prog w' h₀ X 19 q f L cd (k + 1) with M := M, ow := some (a, ds) } ρ (.Subscript (.Name (Str.ofString "line") p1) (.UnaryOp .USub (.Constant (.int 1) kk p2) p3) p5) (.str (S [c])) := fun ρ hρ p1 p2 p3 p5 kk =>
    Ev.item (a := .str (S (flatP ps))) (b := .int (-1)) (Ev.local_ hρ rfl rfl rfl) (Ev.neg Ev.int) (item_str_neg (j := 1) rfl (by decide) (by lia) (by lia) hlast) fun _ _ => rfl
  by_cases hb : c = 9 ∨ c = 32
  · have hin : [32, 9].contains c = true := by rcases hb with rfl | rfl <;> rfl
    obtain ⟨fq, fdq, hgq, HQ⟩ := hQ
    obtain ⟨oq, hoq, hdq⟩ := HQ.obj
    have fin : ∀ (Z : List Nat) (ρ : List (Str × PV)), Z.length ≤ 10 → Sub (("q", .str (S Z)) :: eSt ps w eol a i) ρ → tailS (flatP ps) w (posP ps i) eol = ((flatP ps).drop (posP ps i)).dropLast ++ Z → ∀ pa pb pc pd pe pf pg ph pi' pj pk k1,
        Goes { cxAt prog w' h₀ X 19 q f L cd (k + 1) with M := M, ow := some (a, ds) } ρ [.Expr (.Call (.Name (Str.ofString "append") pa) [.BinOp (.Subscript (.Name (Str.ofString "line") pb) (.Slice (some (.Name (Str.ofString "start") pc)) (some (.UnaryOp .USub (.Constant (.int 1) k1 pd) pe)) none pf) pg) .Add (.Name (Str.ofString "q") ph) pi'] [] pj) pk] (eSt ps w eol a i) (some (a, ds ++ [.str (S (tailS (flatP ps) w (posP ps i) eol))])) := by
      intro Z ρ hZ hs ht pa pb pc pd pe pf pg ph pi' pj pk k1
      refine Goes.next (Ex.one (Ex1.appendB (d := .str (S (tailS (flatP ps) w (posP ps i) eol))) rfl hd24 (Ev.local_ (hs _ _ rfl) rfl rfl rfl) ?_ rfl rfl rfl)) (fun x d hx => hs x d (by
        rw [List.lookup_cons]
        have : (x == Str.ofString "q") = false := by
          rw [beq_eq_false_iff_ne]; rintro rfl
          exact absurd hx (by show (List.lookup (Str.ofString "q") (eSt ps w eol a i)) ≠ some d; exact fun z => nomatch (show none = some d from z))
        rw [show (x == ("q" : Str)) = false from this]; exact hx))
      refine (Ev.bin hk1 (Ev.sliceS (x := flatP ps) (lo := some ((posP ps i : Nat) : Int)) (hi := some (-1)) (Ev.local_ (hs _ _ rfl) rfl rfl rfl) (EvP.some (Ev.local_ (hs _ _ rfl) rfl rfl rfl)) (EvP.some (Ev.neg Ev.int)) (by lia)) (Ev.local_ (d := .str (S Z)) (hs _ _ rfl) rfl rfl rfl) (bin_addS (by rw [S_length, S_length, hcut]; lia))).of_eq (by rw [S_append, hcut, ht])
    have hroom : (posP ps i : Int) - ((posP ps ps.length : Int) - 1 - w) = ((posP ps i : Int) + 1 + w - (posP ps ps.length : Int)) := by lia
    have hnr : ∀ r : Int, r = (posP ps i : Int) - ((posP ps ps.length : Int) - 1 - w) → ∀ ρ : List (Str × PV), True := fun _ _ _ => trivial
    refine Goes.if_ (b := true) (Ts.boolop (TsA.and_t ((Ts.str (Ev.local_ rfl rfl rfl rfl) (by rw [S_length]; omega) fun _ _ => rfl).of (by rw [S_length]; exact bne_iff_ne.mpr (by (clear hnr hroom fin hdq hoq HQ hgq hin hb hnl hdl hcut hlast hd24 hn e24 hk1 heol hc2 hc h hd hi hl hw2 hw hk W; lia)))) (TsA.and_t ((Ts.cmp hk1 (hnl _ rfl _ _ _ _ _) (Ev.str.of_eq (show _ = PV.str (S [32, 9]) from rfl)) cmp_inS rfl).of hin) TsA.and_nil))) (fun _ => ?_) fun h => nomatch h
    refine Goes.seq (Ex1.assign (d := .int ((posP ps i : Int) - ((posP ps ps.length : Int) - 1 - w))) (Ev.bin hk1 (Ev.local_ rfl rfl rfl rfl) (Ev.local_ rfl rfl rfl rfl) bin_sub) (StOk.local_ rfl (plainScope_fn rfl)) rfl) ?_
    have quo : ∀ (ρ : List (Str × PV)), ρ.lookup (Str.ofString "line") = some (.str (S (flatP ps))) → ∀ p0 p1 p2 p3 p4 p5 kk, Ev { cxAt prog w' h₀ X 19 q f L cd (k + 1) with M := M, ow := some (a, ds) } ρ (.Call (.Name (Str.ofString "quote") p0) [.Subscript (.Name (Str.ofString "line") p1) (.UnaryOp .USub (.Constant (.int 1) kk p2) p3) p4] [] p5) (.str (S (quoteL c))) := fun ρ hρ p0 p1 p2 p3 p4 p5 kk =>
      Ev.callF (ds := [.str (S [c])]) (Ev.globalR hgq (.val _) rfl rfl rfl rfl) hoq hdq (EvL.cons (hnl ρ hρ _ _ _ _ _) EvL.nil rfl) (ok_quote W HQ (by show k + 1 ≤ 30; lia) hc2) rfl
    have hq3 : (quoteL c).length = 3 := rfl
    by_cases h3 : (flatP ps).length - posP ps i + 2 ≤ w
    · have ht : tailS (flatP ps) w (posP ps i) eol = ((flatP ps).drop (posP ps i)).dropLast ++ quoteL c := by unfold tailS; rw [hc]; simp only []; rw [if_pos hb, if_pos h3]
      refine Goes.seq (Ex1.if_ (b := true) ((Ts.cmp hk1 (Ev.local_ rfl rfl rfl rfl) Ev.int cmp_ge rfl).of (decide_eq_true (by (clear ht hq3 quo hnr hroom fin hdq hoq HQ hgq hin hb hnl hdl hcut hlast hd24 hlt e24 hk1 heol hc2 hc h hd hi hl hw2 hw hk W; lia)))) (fun _ => Ex.one (Ex1.assign (quo _ rfl _ _ _ _ _ _ _) (StOk.local_ rfl (plainScope_fn rfl)) rfl)) fun h => nomatch h) ?_
      exact fin (quoteL c) _ (by rw [hq3]; lia) (Sub.all (by intro x hx; unfold eSt at hx; simp only [List.mem_cons, List.not_mem_nil, or_false] at hx; rcases hx with rfl | rfl | rfl | rfl | rfl | rfl | rfl | rfl | rfl | rfl | rfl <;> rfl)) ht _ _ _ _ _ _ _ _ _ _ _ _
    · by_cases h2 : (flatP ps).length - posP ps i + 1 = w
      · have ht : tailS (flatP ps) w (posP ps i) eol = ((flatP ps).drop (posP ps i)).dropLast ++ (c :: 61 :: eol) := by
          unfold tailS; rw [hc]; simp only []; rw [if_pos hb, if_neg h3, if_pos h2]
          have e : (flatP ps).drop (posP ps i) = ((flatP ps).drop (posP ps i)).dropLast ++ [c] := by
            have hg : ((flatP ps).drop (posP ps i)).getLast? = some c := by rw [List.getLast?_drop, if_neg (by lia)]; exact hc
            have hne : (flatP ps).drop (posP ps i) ≠ [] := by intro z; rw [z] at hg; cases hg
            have hl := List.getLast?_eq_some_getLast hne
            rw [hl] at hg
            have := List.dropLast_concat_getLast hne
            rw [Option.some.inj hg] at this
            exact this.symm
          conv => lhs; rw [e]
          rw [List.append_assoc]; rfl
        refine Goes.seq (Ex1.if_ (b := false) ((Ts.cmp hk1 (Ev.local_ rfl rfl rfl rfl) Ev.int cmp_ge rfl).of (decide_eq_false (by lia))) (fun h => nomatch h) fun _ => Ex.one (Ex1.if_ (b := true) ((Ts.cmp hk1 (Ev.local_ rfl rfl rfl rfl) Ev.int cmp_eq rfl).of (by rw [beq_iff_eq]; (clear ht h3 hq3 quo hnr hroom fin hdq hoq HQ hgq hin hb hnl hdl hcut hlast hd24 hlt e24 hk1 heol hc2 hc h hd hi hl hw2 hk W; lia))) (fun _ => Ex.one (Ex1.assign (d := .str (S (c :: 61 :: eol))) ((Ev.bin hk1 (hnl _ rfl _ _ _ _ _) (Ev.local_ rfl rfl rfl rfl) (bin_addS (by rw [S_length, S_length, List.length_cons]; simp; lia))).of_eq (by rw [S_append]; rfl)) (StOk.local_ rfl (plainScope_fn rfl)) rfl)) fun h => nomatch h)) ?_
        exact fin (c :: 61 :: eol) _ (by simp; lia) (Sub.all (by intro x hx; unfold eSt at hx; simp only [List.mem_cons, List.not_mem_nil, or_false] at hx; rcases hx with rfl | rfl | rfl | rfl | rfl | rfl | rfl | rfl | rfl | rfl | rfl <;> rfl)) ht _ _ _ _ _ _ _ _ _ _ _ _
      · have ht : tailS (flatP ps) w (posP ps i) eol = ((flatP ps).drop (posP ps i)).dropLast ++ (61 :: eol ++ quoteL c) := by unfold tailS; rw [hc]; simp only []; rw [if_pos hb, if_neg h3, if_neg h2]
        refine Goes.seq (Ex1.if_ (b := false) ((Ts.cmp hk1 (Ev.local_ rfl rfl rfl rfl) Ev.int cmp_ge rfl).of (decide_eq_false (by (clear ht h2 hq3 quo hnr hroom fin hdq hoq HQ hgq hin hb hnl hdl hcut hlast hd24 hlt e24 hk1 heol hc2 hc h hd hi hl hw2 hk W; lia)))) (fun h => nomatch h) fun _ => Ex.one (Ex1.if_ (b := false) ((Ts.cmp hk1 (Ev.local_ rfl rfl rfl rfl) Ev.int cmp_eq rfl).of (by rw [beq_eq_false_iff_ne]; (clear ht h3 hq3 quo hnr hroom fin hdq hoq HQ hgq hin hb hnl hdl hcut hlast hd24 hlt e24 hk1 heol hc2 hc h hd hi hl hw2 hk W; lia))) (fun h => nomatch h) (fun _ => Ex.one (Ex1.assign (d := .str (S (61 :: eol ++ quoteL c))) ((Ev.bin hk1 (Ev.local_ rfl rfl rfl rfl) (quo _ rfl _ _ _ _ _ _ _) (bin_addS (by rw [S_length, S_length, List.length_cons, hq3]; lia))).of_eq (by rw [S_append])) (StOk.local_ rfl (plainScope_fn rfl)) rfl)))) ?_
        exact fin (61 :: eol ++ quoteL c) _ (by simp [hq3]; lia) (Sub.all (by intro x hx; unfold eSt at hx; simp only [List.mem_cons, List.not_mem_nil, or_false] at hx; rcases hx with rfl | rfl | rfl | rfl | rfl | rfl | rfl | rfl | rfl | rfl | rfl <;> rfl)) ht _ _ _ _ _ _ _ _ _ _ _ _
  · have hin : [32, 9].contains c = false := by simp; lia
    have ht : tailS (flatP ps) w (posP ps i) eol = (flatP ps).drop (posP ps i) := by unfold tailS; rw [hc]; simp only []; rw [if_neg hb]
    refine Goes.if_ (b := false) (Ts.boolop (TsA.and_t ((Ts.str (Ev.local_ rfl rfl rfl rfl) (by rw [S_length]; omega) fun _ _ => rfl).of (by rw [S_length]; exact bne_iff_ne.mpr (by omega))) (TsA.and_f ((Ts.cmp hk1 (hnl _ rfl _ _ _ _ _) (Ev.str.of_eq (show _ = PV.str (S [32, 9]) from rfl)) cmp_inS rfl).of hin)))) (fun h => nomatch h) fun _ => ?_
    refine Goes.next (Ex.one (Ex1.appendB (d := .str (S (tailS (flatP ps) w (posP ps i) eol))) rfl hd24 (Ev.local_ rfl rfl rfl rfl) ?_ rfl rfl rfl)) (Sub.refl _)
    exact (Ev.sliceS (x := flatP ps) (lo := some ((posP ps i : Nat) : Int)) (hi := none) (Ev.local_ rfl rfl rfl rfl) (EvP.some (Ev.local_ rfl rfl rfl rfl)) EvP.none (by lia)).of_eq (by rw [cut_from, ht])
end
end Mine

namespace Mine
open PySem.Challenge

section
variable {c : Cx} {ρ ρ' : List (Str × PV)} {ow : Option (Addr × List PV)}
theorem Goes.cons {ρ'' : List (Str × PV)} {ow' : Option (Addr × List PV)} {st : Stmt} {ss : List Stmt} (h : Ex1 c ρ st (.next ρ' ow)) (hs : Goes (c.own ow) ρ' ss ρ'' ow') : Goes c ρ (st :: ss) ρ'' ow' := fun A s E r F => by
  refine wpAny_execs_cons (wpAny_mono (h A s E r F) (fun f s₁ q => ?_) fun _ _ x => x)
  obtain ⟨k, q⟩ := q
  cases f with
  | next => exact wpAny_mono (hs A s₁ E r q) (fun f s₂ g => ⟨k.trans g.1, g.2⟩) fun _ _ x => x
  | _ => exact q.elim
theorem Goes.weak {ρ'' : List (Str × PV)} {ss : List Stmt} (h : Goes c ρ ss ρ' ow) (s : Sub ρ'' ρ') : Goes c ρ ss ρ'' ow := fun A st E r F => wpAny_mono (h A st E r F) (fun _ _ q => ⟨q.1, q.2.1, FRep.sub q.2.2 s⟩) fun _ _ x => x
end
theorem idx_lt {ps : List (Nat × Bool)} {w : Nat} (hw : 4 ≤ w) (h0 : 0 < ps.length) : ∀ k, k ≤ nfold ps w → idx ps w k < ps.length := by
  obtain ⟨a1, a2, a3, a4⟩ := folds_spec (ps := ps) hw (ps.length + 1) 0 (Nat.zero_le _) (by lia)
  intro k hk
  cases k with
  | zero => exact h0
  | succ k =>
    obtain ⟨h1, h2⟩ := a1 k hk
    have e : idx ps w (k + 1) = nxt ps w (idx ps w k) := h2
    rw [e]
    exact (nxt_spec hw (a3 k (by unfold nfold at hk; lia)) h1).1
theorem nfold_le {ps : List (Nat × Bool)} {w : Nat} (hw : 4 ≤ w) : nfold ps w ≤ ps.length := by
  obtain ⟨a1, a2, a3, a4⟩ := folds_spec (ps := ps) hw (ps.length + 1) 0 (Nat.zero_le _) (by lia)
  unfold nfold; omega
theorem flatP_len (l : List (Nat × Bool)) : (flatP l).length ≤ 3 * l.length := by
  induction l with
  | nil => simp [flatP]
  | cons a l ih =>
    have e : flatP (a :: l) = pce a ++ flatP l := rfl
    have := pce_len a
    rw [e, List.length_append, List.length_cons]
    split at this <;> lia
theorem flatP_ge (l : List (Nat × Bool)) : l.length ≤ (flatP l).length := by
  induction l with
  | nil => simp [flatP]
  | cons a l ih =>
    have e : flatP (a :: l) = pce a ++ flatP l := rfl
    have := pce_len a
    rw [e, List.length_append, List.length_cons]
    split at this <;> lia
theorem codeB_len (n : Nat) : (codeB n).length ≤ 3 := by unfold codeB quoteL; split <;> simp
/-- the rows that body_encode writes -/
noncomputable def encRows (x : List Nat) (w : Nat) (eol : List Nat) : List (List Nat) :=
  let ps := x.map pieceOf
  (List.range (nfold ps w)).map (fun t => rowS ps (idx ps w t) (idx ps w (t + 1))) ++ [tailS (flatP ps) w (posP ps (idx ps w (nfold ps w))) eol]
noncomputable def eBase (ps : List (Nat × Bool)) (w : Nat) (eol : List Nat) (a : Addr) : List (Str × PV) :=
  [("maxlinelen1", .int ((w : Int) - 1)), ("append", .bm a), ("encoded_body", .val (.ref a)), ("soft_break", .str (S (61 :: eol))), ("body", .str (S (flatP ps))), ("eol", .str (S eol)), ("maxlinelen", .int w)]
noncomputable def encOw (a : Addr) (L : List PV) : Nat → Option (Addr × List PV)
  | 0 => some (a, [])
  | _ + 1 => some (a, L)
theorem tailS_len (l : List Nat) (w s : Nat) (eol : List Nat) (h : eol.length ≤ 2) : (tailS l w s eol).length ≤ l.length + 6 := by
  unfold tailS
  split
  · simp
  · split
    · have hd : (l.drop s).dropLast.length ≤ l.length := by rw [List.length_dropLast, List.length_drop]; omega
      split
      · rw [List.length_append]; simp [quoteL]; lia
      · split
        · rw [List.length_append, List.length_cons, List.length_drop]; lia
        · rw [List.length_append, List.length_append, List.length_cons]; simp [quoteL]; omega
    · rw [List.length_drop]; omega

section
variable {prog : Program} {w' : World} {h₀ : Heap} {k : Nat} {f : Addr} {fd : FuncData} {da : Addr}
theorem ok_encode (W : Below h₀) (hQ : ∃ fq fdq, Glb h₀ "quote" (.ref fq) ∧ FnAt h₀ 15 fq fdq .none .none) (H : FnAt h₀ 19 f fd (.ref da) .none) (hD : ∃ o n y1 y2, h₀.get? da = some o ∧ o.data = .seq #[y1, y2] n) (hk : k ≤ 18) {x : List Nat} {w : Nat} {eol : List Nat} (hx : ∀ c ∈ x, okC c) (hx0 : x ≠ []) (hxl : x.length ≤ 300) (hw : 4 ≤ w) (hw2 : w ≤ 1000) (heol : eol.length ≤ 2) :
    CallOk prog w' h₀ k (.ref f) [.str (S x), .int w, .str (S eol)] (.str (Txt.join (S eol) ((encRows x w eol).map S))) := by
  obtain ⟨o, n, y1, y2, ho, hd⟩ := hD
  have hk1 : k + 1 ≤ 40 := by lia
  have e24 : sizeLine = 16777216 := rfl
  obtain ⟨ps, hps⟩ : ∃ ps, ps = x.map pieceOf := ⟨_, rfl⟩
  have hpl : ps.length = x.length := by rw [hps, List.length_map]
  have hp0 : 0 < ps.length := by rw [hpl]; exact List.length_pos_iff.mpr hx0
  have hok : ∀ p ∈ ps, okP p := by
    intro p hp; rw [hps] at hp
    obtain ⟨c, hc, rfl⟩ := List.mem_map.mp hp
    exact pieceOf_ok (hx c hc)
  have hfl := flatP_len ps
  have hfg := flatP_ge ps
  have hne : flatP ps ≠ [] := by intro z; have h0 : (flatP ps).length = 0 := by { rw [z]; rfl }; (clear z hfl hok hpl hps e24 hk1 hd ho heol hw2 hw hxl hx0 hx hk H hQ W; lia)
  have hsig := row_signs (ps := ps) (soft := false) hok
  rw [rowL_false] at hsig
  have hbr : ∀ c ∈ flatP ps, Unicode.isLineBreak c = false := fun c hc => plain_noBreak c (hsig c hc).1 (hsig c hc).2
  obtain ⟨lc, hlc⟩ : ∃ c, (flatP ps).getLast? = some c := by
    cases h : (flatP ps).getLast? with
    | none => rw [List.getLast?_eq_none_iff] at h; exact absurd h hne
    | some c => exact ⟨c, rfl⟩
  have hlm := hsig lc (List.mem_of_getLast? hlc)
  have hl256 : lc < 256 := by lia
  have hl13 : lc ≠ 13 ∧ lc ≠ 10 := by
    constructor <;> (rintro rfl; rcases hlm.2 with h | h | h | h <;> first | exact absurd h (by decide) | omega)
  have hlast : (flatP ps)[(flatP ps).length - 1]? = some lc := by rw [← List.getLast?_eq_getElem?]; exact hlc
  obtain ⟨ma, hmg, hmr⟩ := W.emap
  obtain ⟨ct, hcg⟩ := W.crlf
  have hnf := nfold_le (ps := ps) hw
  have hrl : ∀ i j, (rowS ps i j).length ≤ 3 * ps.length + 1 := fun i j => by
    unfold rowS; rw [List.length_append, List.length_take, List.length_drop, List.length_singleton]; (clear hnf hcg hmr hmg hlast hl13 hl256 hlm hlc hbr hsig hne hfg hok hp0 hpl hps e24 hk1 hd ho heol hw2 hw hxl hx0 hx hk H hQ W; lia)
  have hrows : (encRows x w eol).length = nfold ps w + 1 := by unfold encRows; rw [← hps]; simp
  have hjoin : JoinOk (S eol) ((encRows x w eol).map S) = true := by
    refine joinOk_of ?_
    rw [List.length_map, hrows, S_length]
    have : (((encRows x w eol).map S).map (·.length)).sum ≤ (nfold ps w + 1) * 1000 := by
      have key : ∀ l : List (List Nat), (∀ r ∈ l, r.length ≤ 1000) → ((l.map S).map (·.length)).sum ≤ l.length * 1000 := by
        intro l
        induction l with
        | nil => intro _; simp
        | cons r l ih =>
          intro h
          have h1 := ih fun r hr => h r (List.mem_cons_of_mem _ hr)
          have h2 := h r (List.mem_cons_self ..)
          rw [List.map_cons, List.map_cons, List.sum_cons, S_length, List.length_cons]; lia
      have := key (encRows x w eol) fun r hr => by
        unfold encRows at hr
        rw [← hps] at hr
        rcases List.mem_append.mp hr with hr | hr
        · obtain ⟨t, _, rfl⟩ := List.mem_map.mp hr
          have := hrl (idx ps w t) (idx ps w (t + 1)); lia
        · rw [List.mem_singleton.mp hr]
          have := tailS_len (flatP ps) w (posP ps (idx ps w (nfold ps w))) eol heol; lia
      rw [hrows] at this; exact this
    have h3 : (nfold ps w + 1) * eol.length ≤ (nfold ps w + 1) * 2 := Nat.mul_le_mul_left _ heol
    lia
  refine CallOk.fn (ρ := [("body", .str (S x)), ("maxlinelen", .int w), ("eol", .str (S eol))]) (by lia) H rfl rfl rfl (fun fd' p1 p2 p3 p4 => fun X A s E Q vs B rl hq => ?_) ?_ ?_ fun X q L cd => ?_
  · refine RepL.consE rl fun _ _ r1 rl => ?_; refine RepL.consE rl fun _ _ r2 rl => ?_; refine RepL.consE rl fun _ _ r3 rl => ?_
    refine RepL.nilE rl ?_; exact bindB3 p1 p2 (B.ext _ _ ho) hd (hq _ (.cons r1 (.cons r2 (.cons r3 .nil))))
  · decide +kernel
  · intro x hx; simp at hx; rcases hx with rfl | rfl | rfl <;> rfl
  · refine Ex.seq (Ex1.if_ (b := false) ((Ts.cmp hk1 (Ev.local_ rfl rfl rfl rfl) Ev.int cmp_lt rfl).of (decide_eq_false (by lia))) (fun h => nomatch h) fun _ => Ex.nil) ?_
    refine Ex.seq (Ex1.if_ (b := false) ((Ts.not (Ts.str (Ev.local_ rfl rfl rfl rfl) (by rw [S_length]; lia) fun _ _ => rfl)).of (by rw [S_length, Bool.not_eq_false']; exact bne_iff_ne.mpr (by lia))) (fun h => nomatch h) fun _ => Ex.nil) ?_
    refine Ex.seq (Ex1.assign (d := .str (S (flatP ps))) ((Ev.methS (ds := [.list (((List.range 256).map codeB).map fun l => .str (S l))]) (Ev.local_ rfl rfl rfl rfl) (EvL.cons (Ev.globalR hmg hmr rfl rfl rfl rfl) EvL.nil rfl) PySem.F.slot_str_translate PySem.F.type_str_translate (call_translate hx0 (fun c hc => by rw [List.length_map, List.length_range]; exact (hx c hc).1) (by rw [List.length_map, List.length_range]; decide) (by rw [tr_flat hx, ← hps]; lia)) rfl rfl rfl (.inr ⟨_, _, rfl⟩)).of_eq (by rw [tr_flat hx, ← hps])) (StOk.local_ rfl (plainScope_fn rfl)) rfl) ?_
    refine Ex.seq (Ex1.assign (d := .str (S (61 :: eol))) ((Ev.bin hk1 (Ev.str.of_eq (show PV.str (Str.ofString "=") = .str (S [61]) from rfl)) (Ev.local_ rfl rfl rfl rfl) (bin_addS (by rw [S_length, S_length, List.length_singleton]; lia))).of_eq (by rw [S_append]; rfl)) (StOk.local_ rfl (plainScope_fn rfl)) rfl) ?_
    refine Ex.seq (Ex1.assign (d := .int ((w : Int) - 1)) (Ev.bin hk1 (Ev.local_ rfl rfl rfl rfl) Ev.int bin_sub) (StOk.local_ rfl (plainScope_fn rfl)) rfl) ?_
    refine Ex.newList (ds := []) (o := .ret _) (fun _ z => z) EvL.nil rfl (plainScope_fn rfl) rfl (by decide) (.ret _) fun a => ?_
    refine Ex.seq (Ex1.assign (d := .bm a) (Ev.attrAppend rfl (Ev.local_ rfl rfl rfl rfl)) (StOk.local_ rfl (plainScope_fn rfl)) rfl) ?_
    refine Ex.cons (Ex1.for_ (ds := [.str (S (flatP ps))]) (EvIt.list (.name _ _) ((Ev.methS (Ev.local_ rfl rfl rfl rfl) EvL.nil PySem.F.slot_str_splitlines PySem.F.type_str_splitlines (call_splitlines (x := S (flatP ps)) (by rw [S_length]; lia) (by rw [lineCuts_one hne hbr]; show 1 ≤ sizeLine; decide)) rfl rfl rfl (.inl ⟨rfl, rfl⟩)).of_eq (by rw [linesS_one hne hbr]; rfl))) (fun _ => rfl) (fun _ => eBase ps w eol a) (encOw a ((encRows x w eol).map fun r => .str (S r))) (Sub.all fun x hx => ?s0) rfl ?turn) ?rest
    case s0 =>
      unfold eBase at hx
      simp only [List.mem_cons, List.not_mem_nil, or_false] at hx
      rcases hx with rfl | rfl | rfl | rfl | rfl | rfl | rfl <;> rfl
    case turn =>
      intro i d hd X'
      cases i with
      | succ i => simp at hd
      | zero =>
        have hd : PV.str (S (flatP ps)) = d := by simpa using hd
        subst hd
        refine ⟨_, AsOk.name (StOk.local_ rfl (plainScope_fn rfl)), ?_⟩
        refine Goes.seq (Ex1.assign Ev.int (StOk.local_ rfl (plainScope_fn rfl)) rfl) ?_
        refine Goes.seq (Ex1.assign (d := .int ((posP ps ps.length : Int) - 1 - w)) (Ev.bin (a := .int ((posP ps ps.length : Int) - 1)) hk1 (Ev.bin (a := .int (posP ps ps.length)) hk1 ((Ev.callB (ds := [.str (S (flatP ps))]) (Ev.builtin W.len rfl rfl rfl rfl rfl) (EvL.cons (Ev.local_ rfl rfl rfl rfl) EvL.nil rfl) (call_lenS (by lia)) rfl rfl).of_eq (by rw [posP_all])) Ev.int bin_sub) (Ev.local_ rfl rfl rfl rfl) bin_sub) (StOk.local_ rfl (plainScope_fn rfl)) rfl) ?_
        have hend : encOw a ((encRows x w eol).map fun r => PV.str (S r)) (0 + 1) = some (a, rowsTo ps w (nfold ps w) ++ [.str (S (tailS (flatP ps) w (posP ps (idx ps w (nfold ps w))) eol))]) := by
          show some (a, _) = _
          unfold encRows rowsTo
          rw [← hps, List.map_append, List.map_map]; rfl
        show Goes _ _ _ _ (encOw a ((encRows x w eol).map fun r => PV.str (S r)) (0 + 1))
        rw [hend]
        refine Goes.cons (enc_while (eol := eol) (by lia) hok hw hw2 (by lia) (by lia) (Sub.all fun x hx => ?_)) ?_
        · have e0 : posP ps 0 = 0 := posP_zero ps
          unfold eSt at hx
          rw [e0] at hx
          simp only [List.mem_cons, List.not_mem_nil, or_false] at hx
          rcases hx with rfl | rfl | rfl | rfl | rfl | rfl | rfl | rfl | rfl | rfl <;> rfl
        · refine Goes.weak (enc_tail W hQ (by omega) hw hw2 (by omega) (idx_lt hw hp0 _ (Nat.le_refl _)) (by unfold rowsTo; rw [List.length_map, List.length_range]; lia) ?_ hlc hl256 heol) ?_
          · obtain ⟨a1, a2, a3, a4⟩ := folds_spec (ps := ps) hw (ps.length + 1) 0 (Nat.zero_le _) (by lia)
            exact a2
          · refine Sub.all fun x hx => ?_
            unfold eBase at hx
            simp only [List.mem_cons, List.not_mem_nil, or_false] at hx
            rcases hx with rfl | rfl | rfl | rfl | rfl | rfl | rfl <;> rfl
    case rest =>
      show Ex { cxAt prog w' h₀ (fun b => X b ∨ b = a) 19 q f L cd (k + 1) with M := fun b => b = a, ow := some (a, (encRows x w eol).map fun r => PV.str (S r)) } (eBase ps w eol a) _ _
      refine Ex.seq (Ex1.if_ (b := false) ((Ts.cmp (a := .str (S [lc])) (b := .str (S [13, 10])) hk1 (Ev.item (a := .str (S (flatP ps))) (b := .int (-1)) (Ev.local_ rfl rfl rfl rfl) (Ev.neg Ev.int) (item_str_neg (j := 1) rfl (by decide) (by (clear hjoin hrows hrl hnf hcg hmr hmg hlast hl13 hl256 hlm hlc hbr hsig hne hfl hok hpl hps e24 hk1 hd ho heol hw2 hw hxl hx0 hx hk H hQ W; lia)) (by lia) hlast) fun _ _ => rfl) (Ev.globalR hcg (.str _ _) rfl rfl rfl rfl) cmp_inS rfl).of (by simp [hl13.1, hl13.2])) (fun h => nomatch h) fun _ => Ex.nil) ?_
      exact Ex.ret (Ex1.return_ (Ev.joinOwn (xs := (encRows x w eol).map S) (by show some (a, _) = some (a, _); rw [List.map_map]; rfl) (Ev.local_ rfl rfl rfl rfl) (Ev.local_ rfl rfl rfl rfl) hjoin rfl rfl rfl))
end
end Mine

namespace Mine
open PySem.StrLaws PySem.Builtin PySem.Builtin.Str

/-- lists of signs joined -/
noncomputable def joinL (y : List Nat) : List (List Nat) → List Nat
  | [] => []
  | [r] => r
  | r :: rs => r ++ y ++ joinL y rs
theorem joinL_cons {y r : List Nat} {rs : List (List Nat)} (h : rs ≠ []) : joinL y (r :: rs) = r ++ y ++ joinL y rs := by
  cases rs with
  | nil => exact absurd rfl h
  | cons a rs => rfl
theorem join_S (y : List Nat) : ∀ rs : List (List Nat), Txt.join (S y) (rs.map S) = S (joinL y rs) := by
  have key : ∀ rs : List (List Nat), Str.join (S y) (rs.map S) = S (joinL y rs) := by
    intro rs
    induction rs with
    | nil => rfl
    | cons r rs ih =>
      cases rs with
      | nil => rfl
      | cons a rs =>
        have e : Str.join (S y) ((r :: a :: rs).map S) = S r ++ S y ++ Str.join (S y) ((a :: rs).map S) := rfl
        rw [e, ih, S_append, S_append]; rfl
  intro rs
  rw [← key]
  exact glued_eq_join _ _
theorem S_toList (l : List Nat) : (S l).cps.toList = l := by simp
theorem strSub_S (l : List Nat) (a b : Nat) : strSub (S l) a b = S ((l.drop a).take (b - a)) := by
  apply Str.ext'
  apply Array.toList_inj.mp
  rw [strSub_toList]
theorem at_S (x y : List Nat) (i : Nat) : At (S x) (S y) (S x).length i ↔ i + y.length ≤ x.length ∧ (x.drop i).take y.length = y := by
  unfold At
  rw [subAt_eq, S_length, S_length, S_toList, S_toList, beq_iff_eq]
theorem joinL_head {y : List Nat} {r : List Nat} {rs : List (List Nat)} (h : rs ≠ []) : joinL y (r :: rs) = r ++ (y ++ joinL y rs) := by rw [joinL_cons h, List.append_assoc]

theorem parts_join {x : List Nat} {y0 : Nat} {ys : List Nat} : ∀ (rs : List (List Nat)) (cuts : List Nat) (a f : Nat), rs ≠ [] → (∀ r ∈ rs, y0 ∉ r) → a ≤ x.length → x.drop a = joinL (y0 :: ys) rs →
    ChainG (S x) (S (y0 :: ys)) (S x).length a cuts f → (∀ k, f ≤ k → ¬ At (S x) (S (y0 :: ys)) (S x).length k) → partsFrom (S x) (S (y0 :: ys)).length a cuts = rs.map S := by
  intro rs
  induction rs with
  | nil => intro _ _ _ h; exact absurd rfl h
  | cons r rs ih =>
    intro cuts a f _ hfree ha hx hG hn
    have hr := hfree r (List.mem_cons_self ..)
    cases cuts with
    | nil =>
      have ef : f = a := hG
      subst ef
      cases rs with
      | nil =>
        have e : x.drop f = r := hx
        show [strSub (S x) f (S x).length] = [S r]
        rw [strSub_S, e, S_length, List.take_of_length_le (by rw [← e, List.length_drop]; lia)]
      | cons r2 rs =>
        exfalso
        rw [joinL_head (by simp)] at hx
        have hl : r.length + (ys.length + 1) ≤ x.length - f := by
          have := congrArg List.length hx
          rw [List.length_drop, List.length_append, List.length_append, List.length_cons] at this; lia
        refine hn (f + r.length) (by lia) ((at_S _ _ _).mpr ⟨by rw [List.length_cons]; lia, ?_⟩)
        rw [← List.drop_drop, hx, List.drop_left, List.take_left]
    | cons c cuts =>
      obtain ⟨h1, h2, h3, h4⟩ := hG
      obtain ⟨b1, b2⟩ := (at_S _ _ _).mp h2
      have hc0 : x[c]? = some y0 := by
        have := congrArg (·[0]?) b2
        simp only [List.length_cons] at this
        rw [List.getElem?_take_of_lt (by lia), List.getElem?_drop] at this
        simpa using this
      have inr : ∀ j, a + j = c → j < r.length → (x.drop a)[j]? = r[j]? → False := by
        intro j e hj he
        rw [List.getElem?_drop, e, hc0] at he
        exact hr (List.mem_of_getElem? he.symm)
      cases rs with
      | nil =>
        exfalso
        have e : x.drop a = r := hx
        have hlen := congrArg List.length e
        rw [List.length_drop] at hlen
        rw [List.length_cons] at b1
        exact inr (c - a) (by lia) (by lia) (by rw [e])
      | cons r2 rs =>
        rw [joinL_head (by simp)] at hx
        have hl : r.length + (ys.length + 1) ≤ x.length - a := by
          have := congrArg List.length hx
          rw [List.length_drop, List.length_append, List.length_append, List.length_cons] at this; (clear hx hfree ih inr hc0 b2 b1 h4 h3 h2 h1 hr hn ha; omega)
        have hat : At (S x) (S (y0 :: ys)) (S x).length (a + r.length) := (at_S _ _ _).mpr ⟨by rw [List.length_cons]; lia, by rw [← List.drop_drop, hx, List.drop_left, List.take_left]⟩
        have hle : c ≤ a + r.length := by
          rcases Nat.lt_or_ge (a + r.length) c with h | h
          · exact absurd hat (h3 _ (by lia) h)
          · exact h
        have hge : a + r.length ≤ c := by
          rcases Nat.lt_or_ge c (a + r.length) with h | h
          · exact (inr (c - a) (by lia) (by (clear hle hat hl hx hfree ih inr hc0 b2 b1 h4 h3 h2 hr hn ha; lia)) (by rw [hx, List.getElem?_append_left (by omega)])).elim
          · exact h
        have hc : c = a + r.length := Nat.le_antisymm hle hge
        have hlen : (S (y0 :: ys)).length = ys.length + 1 := by rw [S_length, List.length_cons]
        show strSub (S x) a c :: partsFrom (S x) (S (y0 :: ys)).length (c + (S (y0 :: ys)).length) cuts = S r :: (r2 :: rs).map S
        have e1 : strSub (S x) a c = S r := by
          rw [strSub_S, hx, hc, Nat.add_sub_cancel_left, List.take_left]
        rw [e1, ih cuts (c + (S (y0 :: ys)).length) f (by simp) (fun r' hr' => hfree r' (List.mem_cons_of_mem _ hr')) (by lia) ?_ h4 hn]
        have : (y0 :: ys).length = ys.length + 1 := rfl
        rw [hlen, hc, ← this, ← List.drop_drop, ← List.drop_drop, hx, List.drop_left, List.drop_left]

theorem parts_eq {y0 : Nat} {ys : List Nat} {rs : List (List Nat)} (h0 : rs ≠ []) (hfree : ∀ r ∈ rs, y0 ∉ r) :
    partsBetween (S (joinL (y0 :: ys) rs)) (occurrences (S (joinL (y0 :: ys) rs)) (S (y0 :: ys)) 0 (S (joinL (y0 :: ys) rs)).length ((S (joinL (y0 :: ys) rs)).length + 1)) (S (y0 :: ys)).length = rs.map S := by
  obtain ⟨f, hG, hn⟩ := occ_tight (S (joinL (y0 :: ys) rs)) (S (y0 :: ys)) (by rw [S_length, List.length_cons]; lia)
  rw [partsBetween_eq]
  exact parts_join rs _ 0 f h0 hfree (Nat.zero_le _) rfl hG hn
theorem split_join {y0 : Nat} {ys : List Nat} {rs : List (List Nat)} (h0 : rs ≠ []) (hfree : ∀ r ∈ rs, y0 ∉ r) (hy : ∀ c ∈ y0 :: ys, c < 256) : Txt.split (S (joinL (y0 :: ys) rs)) (S (y0 :: ys)) = rs.map S := by
  obtain ⟨f, hG, hn⟩ := occ_tight (S (joinL (y0 :: ys) rs)) (S (y0 :: ys)) (by rw [S_length, List.length_cons]; omega)
  have hp := parts_join rs _ 0 f h0 hfree (Nat.zero_le _) rfl hG hn
  have one : ∀ r, rs = [r] → [S (joinL (y0 :: ys) rs)] = rs.map S := by rintro r rfl; rfl
  have many : (∀ r, rs ≠ [r]) → ∃ r r2 rs', rs = r :: r2 :: rs' := by
    intro h
    match rs, h0, h with
    | [r], _, h => exact absurd rfl (h r)
    | r :: r2 :: rs', _, _ => exact ⟨_, _, _, rfl⟩
  unfold Txt.split
  split
  · rename_i hc
    by_cases h1 : ∃ r, rs = [r]
    · obtain ⟨r, hr⟩ := h1; exact one r hr
    · obtain ⟨r, r2, rs', rfl⟩ := many fun r e => h1 ⟨r, e⟩
      exfalso
      rw [joinL_head (by simp), S_length, S_length] at hc
      simp only [Bool.or_eq_true, decide_eq_true_eq] at hc
      rcases hc with hc | hc
      · rw [List.length_append, List.length_append] at hc; lia
      · have k1 : PySem.Builtin.Str.strKind (S (y0 :: ys)) = 1 := by
          unfold PySem.Builtin.Str.strKind
          rw [if_pos]
          rw [← Array.all_toList, S_toList, List.all_eq_true]
          exact fun c hc => decide_eq_true (hy c hc)
        rw [k1] at hc
        unfold PySem.Builtin.Str.strKind at hc
        split at hc
        · lia
        · split at hc <;> lia
  · split
    · rename_i he
      by_cases h1 : ∃ r, rs = [r]
      · obtain ⟨r, hr⟩ := h1; exact one r hr
      · obtain ⟨r, r2, rs', rfl⟩ := many fun r e => h1 ⟨r, e⟩
        rw [List.isEmpty_iff.mp he] at hp
        have := congrArg List.length hp
        simp [partsFrom] at this
    · rw [partsBetween_eq]
      exact hp
end Mine

namespace Mine

noncomputable def more (bl : Bool) : Nat := if bl then 2 else 0
noncomputable def left (ps : List (Nat × Bool)) (i : Nat) : Nat := posP ps ps.length - posP ps i
noncomputable def escLast (bl : Bool) (l : List (Nat × Bool)) : List (Nat × Bool) :=
  if bl then (match l.getLast? with | none => [] | some p => l.dropLast ++ [(p.1, true)]) else l
/-- the rows of the writing: pieces, and whether a mark ends them -/
noncomputable def rowsE (ps : List (Nat × Bool)) (bl : Bool) (w : Nat) : Nat → Nat → List (List (Nat × Bool) × Bool)
  | 0, _ => []
  | n + 1, i => if left ps i + more bl ≤ w then [(escLast bl (ps.drop i), false)] else ((ps.drop i).take (nxt ps w i - i), true) :: rowsE ps bl w n (nxt ps w i)
/-- where the rows end -/
noncomputable def endsE (ps : List (Nat × Bool)) (bl : Bool) (w : Nat) : Nat → Nat → List Nat
  | 0, _ => []
  | n + 1, i => if left ps i + more bl ≤ w then [ps.length] else nxt ps w i :: endsE ps bl w n (nxt ps w i)
noncomputable def rl (r : List (Nat × Bool) × Bool) : List Nat := rowL r.1 r.2

theorem flatP_drop (ps : List (Nat × Bool)) (i : Nat) : flatP (ps.drop i) = (flatP ps).drop (posP ps i) := by
  have e : flatP ps = flatP (ps.take i) ++ flatP (ps.drop i) := by rw [← flatP_append, List.take_append_drop]
  conv => rhs; rw [e]
  unfold posP
  rw [List.drop_left]
theorem rowS_rowL {ps : List (Nat × Bool)} {i j : Nat} (h : i ≤ j) : rowS ps i j = rowL ((ps.drop i).take (j - i)) true := by
  unfold rowS rowL
  rw [if_pos rfl, ← flatP_drop]
  congr 1
  have e : ps.drop i = (ps.drop i).take (j - i) ++ (ps.drop i).drop (j - i) := (List.take_append_drop _ _).symm
  have e2 : ps.take j = ps.take i ++ (ps.drop i).take (j - i) := by
    rw [← List.take_add, show i + (j - i) = j by lia]
  have hl : (flatP ((ps.drop i).take (j - i))).length = posP ps j - posP ps i := by
    unfold posP
    rw [e2, flatP_append, List.length_append]; lia
  conv => lhs; rw [e, flatP_append]
  rw [← hl, List.take_left]

noncomputable def encG (ps : List (Nat × Bool)) (w : Nat) (eol : List Nat) (l : List Nat) (i : Nat) : List (List Nat) :=
  (List.range l.length).map (fun t => rowS ps ((i :: l).getD t 0) ((i :: l).getD (t + 1) 0)) ++ [tailS (flatP ps) w (posP ps ((i :: l).getD l.length 0)) eol]
theorem encG_cons (ps : List (Nat × Bool)) (w : Nat) (eol : List Nat) (l : List Nat) (i j : Nat) : encG ps w eol (j :: l) i = rowS ps i j :: encG ps w eol l j := by
  unfold encG
  rw [List.length_cons, List.range_succ_eq_map, List.map_cons, List.map_map, List.cons_append]
  rfl
theorem encRows_G (x : List Nat) (w : Nat) (eol : List Nat) : encRows x w eol = encG (x.map pieceOf) w eol (folds (x.map pieceOf) w ((x.map pieceOf).length + 1) 0) 0 := rfl

noncomputable def blk (x : List Nat) : Bool := match x.getLast? with | some c => c == 9 || c == 32 | none => false

theorem posP_all' (ps : List (Nat × Bool)) : posP ps ps.length = (flatP ps).length := posP_all ps
theorem getLast_flat {ps : List (Nat × Bool)} {p : Nat × Bool} (h : ps.getLast? = some p) : (flatP ps).getLast? = (pce p).getLast? := by
  obtain ⟨r, rfl⟩ : ∃ r, ps = r ++ [p] := by
    have hne : ps ≠ [] := by intro z; rw [z] at h; cases h
    have := List.dropLast_concat_getLast hne
    rw [List.getLast?_eq_some_getLast hne] at h
    rw [Option.some.inj h] at this
    exact ⟨_, this.symm⟩
  rw [flatP_append]
  have : flatP [p] = pce p := by simp [flatP]
  rw [this, List.getLast?_append]
  have hne : pce p ≠ [] := by
    intro z
    have := pce_len p
    rw [z] at this; split at this <;> simp at this
  rw [List.getLast?_eq_some_getLast hne]; rfl
theorem rowsE_ne {ps : List (Nat × Bool)} {bl : Bool} {w n i : Nat} : rowsE ps bl w (n + 1) i ≠ [] := by
  unfold rowsE; split <;> simp

section
variable {x : List Nat} {w : Nat} {eol : List Nat}
theorem last_split {l : List (Nat × Bool)} {p : Nat × Bool} (h : l.getLast? = some p) : l = l.dropLast ++ [p] := by
  have hne : l ≠ [] := by intro z; rw [z] at h; cases h
  have := List.dropLast_concat_getLast hne
  rw [List.getLast?_eq_some_getLast hne] at h
  rw [Option.some.inj h] at this
  exact this.symm
theorem tail_eq (hx : ∀ c ∈ x, okC c) (hw : 4 ≤ w) {i n : Nat} (hi : i < x.length) (h : left (x.map pieceOf) i ≤ w) :
    joinL eol [tailS (flatP (x.map pieceOf)) w (posP (x.map pieceOf) i) eol] = joinL eol ((rowsE (x.map pieceOf) (blk x) w (n + 2) i).map rl) := by
  obtain ⟨ps, hps⟩ : ∃ ps, ps = x.map pieceOf := ⟨_, rfl⟩
  rw [← hps] at h ⊢
  have hpl : ps.length = x.length := by rw [hps, List.length_map]
  have hne : x ≠ [] := by intro z; rw [z] at hi; simp at hi
  obtain ⟨c, hc⟩ : ∃ c, x.getLast? = some c := ⟨_, List.getLast?_eq_some_getLast hne⟩
  have hok := hx c (List.mem_of_getLast? hc)
  have hp : ps.getLast? = some (pieceOf c) := by rw [hps, List.getLast?_map, hc]; rfl
  have hfl := getLast_flat hp
  have hb : blk x = (c == 9 || c == 32) := by unfold blk; rw [hc]
  have hdl : (ps.drop i).getLast? = some (pieceOf c) := by rw [List.getLast?_drop, if_neg (by lia)]; exact hp
  have hds := last_split hdl
  have hlen : (flatP ps).length = posP ps ps.length := (posP_all ps).symm
  have hleft : left ps i = (flatP ps).length - posP ps i := by unfold left; rw [hlen]
  show tailS (flatP ps) w (posP ps i) eol = _
  by_cases hq : c = 9 ∨ c = 32
  · have hbt : blk x = true := by rw [hb]; simp; exact hq
    have hpc : pce (pieceOf c) = [c] := by rcases hq with rfl | rfl <;> rfl
    rw [hpc] at hfl
    have hfl' : (flatP ps).getLast? = some c := by rw [hfl]; rfl
    have hfd : flatP (ps.drop i) = flatP (ps.drop i).dropLast ++ [c] := by
      conv => lhs; rw [hds]
      rw [flatP_append]
      have : flatP [pieceOf c] = [c] := by simp [flatP, hpc]
      rw [this]
    have hdd : (flatP (ps.drop i)).dropLast = flatP (ps.drop i).dropLast := by rw [hfd, List.dropLast_concat]
    rw [hbt]
    unfold tailS
    rw [hfl']
    dsimp only
    rw [if_pos hq, ← flatP_drop, hdd]
    have hesc : escLast true (ps.drop i) = (ps.drop i).dropLast ++ [(c, true)] := by unfold escLast; rw [if_pos rfl, hdl]; rfl
    have hq2 : flatP [(c, true)] = quoteL c := by simp [flatP, pce]
    by_cases h1 : (flatP ps).length - posP ps i + 2 ≤ w
    · rw [if_pos h1, rowsE, if_pos (by rw [hleft]; exact h1), hesc]
      show _ = rowL ((ps.drop i).dropLast ++ [(c, true)]) false
      rw [rowL_false, flatP_append, hq2]
    · rw [if_neg h1, rowsE, if_neg (c := left ps i + more true ≤ w) (by rw [hleft]; exact h1), rowsE]
      have hwle : posP ps ps.length - posP ps i ≤ w := h
      by_cases h2 : (flatP ps).length - posP ps i + 1 = w
      · rw [if_pos h2]
        have hnx : nxt ps w i = ps.length := by
          unfold nxt
          have hgo : ∀ m b, posP ps m ≤ b → nxtB ps b m = m := by
            intro m b hm
            cases m with
            | zero => rfl
            | succ m => unfold nxtB; rw [if_pos hm]
          have := posP_mono (ps := ps) (show i ≤ ps.length by lia)
          exact hgo _ _ (by (clear this hgo hwle h1 hq2 hesc hdd hfd hfl' hpc hbt hq hleft hds hdl hb hfl hp hok hc hne hpl hps h hi hw hx; omega))
        rw [hnx]
        have hl0 : left ps ps.length = 0 := by unfold left; lia
        rw [hl0, if_pos (by show 0 + 2 ≤ w; (clear hl0 hnx h2 hwle h1 hq2 hesc hdd hfd hfl' hpc hbt hq hleft hlen hds hdl hb hfl hp hok hc hne hpl hps h hi hx; lia))]
        show _ = joinL eol [rowL ((ps.drop i).take (ps.length - i)) true, rowL (escLast true (ps.drop ps.length)) false]
        rw [List.take_of_length_le (by rw [List.length_drop]; lia), List.drop_length]
        show _ = rowL (ps.drop i) true ++ eol ++ []
        unfold rowL
        rw [if_pos rfl]; simp
      · rw [if_neg h2]
        have hm1 : posP ps ps.length = posP ps (ps.length - 1) + 1 := by
          obtain ⟨p', hp'⟩ : ∃ p, ps[ps.length - 1]? = some p := ⟨_, List.getElem?_eq_getElem (by lia)⟩
          have e := posP_succ hp'
          rw [show ps.length - 1 + 1 = ps.length by lia] at e
          rw [← List.getLast?_eq_getElem?, hp] at hp'
          rw [← Option.some.inj hp', hpc] at e
          exact e
        have hmi := posP_mono (ps := ps) (show i ≤ ps.length - 1 by lia)
        have hpi := posP_strict (ps := ps) (i := i) (j := ps.length) (by lia) (Nat.le_refl _)
        have hnx : nxt ps w i = ps.length - 1 := by
          unfold nxt
          obtain ⟨m, hm⟩ : ∃ m, ps.length = m + 1 := ⟨ps.length - 1, by lia⟩
          have e1 : posP ps (m + 1) = posP ps ps.length := by rw [hm]
          have e2 : posP ps (ps.length - 1) = posP ps m := by rw [hm]; rfl
          have hgo : nxtB ps (posP ps i + w - 1) (m + 1) = m := by
            unfold nxtB
            rw [if_neg (by (clear e2 hm hpi hmi hm1 hwle hq2 hesc hdd hfd hfl' hpc hbt hq hleft hds hdl hb hfl hp hok hc hne hpl hps h hi hx; lia))]
            cases m with
            | zero => rfl
            | succ m => unfold nxtB; rw [if_pos (by (clear e1 hm hpi hmi h2 hwle h1 hq2 hesc hdd hfd hfl' hpc hbt hq hds hdl hb hfl hp hok hc hne hpl hps hi hw hx; omega))]
          rw [hm, hgo]; lia
        rw [hnx]
        have hl1 : left ps (ps.length - 1) = 1 := by unfold left; (clear hnx hpi hmi h2 hwle h1 hq2 hesc hdd hfd hfl' hpc hbt hq hleft hlen hds hdl hb hfl hp hok hc hne hpl hps h hi hw hx; lia)
        rw [hl1, if_pos (by show 1 + 2 ≤ w; lia)]
        have hdl1 : ps.drop (ps.length - 1) = [pieceOf c] := by
          have := List.drop_left (l₁ := ps.dropLast) (l₂ := [pieceOf c])
          rw [← last_split hp, List.length_dropLast] at this
          exact this
        have hesc1 : escLast true (ps.drop (ps.length - 1)) = [(c, true)] := by rw [hdl1]; rfl
        have htk : (ps.drop i).take (ps.length - 1 - i) = (ps.drop i).dropLast := by
          rw [List.dropLast_eq_take, List.length_drop]; congr 1; lia
        show _ = joinL eol [rowL ((ps.drop i).take (ps.length - 1 - i)) true, rowL (escLast true (ps.drop (ps.length - 1))) false]
        rw [hesc1, htk]
        show _ = rowL (ps.drop i).dropLast true ++ eol ++ rowL [(c, true)] false
        rw [rowL_false, hq2]
        unfold rowL
        rw [if_pos rfl]; simp
  · have hbf : blk x = false := by rw [hb]; simp; lia
    have hls : ∃ d, (pce (pieceOf c)).getLast? = some d ∧ ¬ (d = 9 ∨ d = 32) := by
      unfold pce
      split
      · refine ⟨fig (c % 16), rfl, ?_⟩
        have := fig_range (c % 16) (by lia); lia
      · exact ⟨c, rfl, hq⟩
    obtain ⟨d, hd, hdn⟩ := hls
    rw [hd] at hfl
    unfold tailS
    rw [hfl]
    dsimp only
    rw [if_neg hdn, hbf, rowsE, if_pos (by show _ + 0 ≤ w; exact h)]
    show _ = rowL (ps.drop i) false
    rw [rowL_false, flatP_drop]

theorem enc_join (hx : ∀ c ∈ x, okC c) (hw : 4 ≤ w) : ∀ (n i : Nat), i < x.length → x.length - i < n →
    joinL eol (encG (x.map pieceOf) w eol (folds (x.map pieceOf) w n i) i) = joinL eol ((rowsE (x.map pieceOf) (blk x) w (n + 2) i).map rl)
  | 0, i, hi, hn => by lia
  | n + 1, i, hi, hn => by
    by_cases h : posP (x.map pieceOf) (x.map pieceOf).length - posP (x.map pieceOf) i > w
    · have e : folds (x.map pieceOf) w (n + 1) i = nxt (x.map pieceOf) w i :: folds (x.map pieceOf) w n (nxt (x.map pieceOf) w i) := by rw [folds, if_pos h]
      obtain ⟨n1, n2, n3, n4⟩ := nxt_spec hw (by rw [List.length_map]; lia) h
      rw [List.length_map] at n1
      rw [e, encG_cons, rowsE, if_neg (by unfold left; lia), List.map_cons, joinL_cons (by unfold encG; simp), joinL_cons (by simp [rowsE_ne]), enc_join hx hw n _ n1 (by lia), rowS_rowL (by lia)]
      rfl
    · have e : folds (x.map pieceOf) w (n + 1) i = [] := by rw [folds, if_neg h]
      rw [e]
      show joinL eol [tailS (flatP (x.map pieceOf)) w (posP (x.map pieceOf) i) eol] = _
      exact tail_eq hx hw hi (by unfold left; lia)
end
end Mine

namespace Mine

theorem nxtB_max {ps : List (Nat × Bool)} {b : Nat} : ∀ {n j : Nat}, j ≤ n → posP ps j ≤ b → j ≤ nxtB ps b n
  | 0, j, h, _ => by lia
  | n + 1, j, h, hb => by
    unfold nxtB
    split
    · exact h
    · rename_i hc
      rcases Nat.lt_or_ge j (n + 1) with h' | h'
      · exact nxtB_max (by lia) hb
      · have : j = n + 1 := by lia
        subst this; exact absurd hb hc
theorem nxt_le (ps : List (Nat × Bool)) (w i : Nat) : nxt ps w i ≤ ps.length := nxtB_le _ _ _
theorem nxt_gt {ps : List (Nat × Bool)} {w i : Nat} (hw : 4 ≤ w) (hi : i < ps.length) : i < nxt ps w i := by
  obtain ⟨p, hp⟩ : ∃ p, ps[i]? = some p := ⟨_, List.getElem?_eq_getElem hi⟩
  have h1 := posP_succ hp
  have h2 := pce_len p
  have : posP ps (i + 1) ≤ posP ps i + w - 1 := by split at h2 <;> lia
  exact nxtB_max (n := ps.length) hi this
theorem left_all (ps : List (Nat × Bool)) : left ps ps.length = 0 := by unfold left; lia
theorem more_le (bl : Bool) : more bl ≤ 2 := by unfold more; split <;> lia
theorem nofit_lt {ps : List (Nat × Bool)} {bl : Bool} {w i : Nat} (hw : 4 ≤ w) (hi : i ≤ ps.length) (h : ¬ left ps i + more bl ≤ w) : i < ps.length := by
  rcases Nat.lt_or_ge i ps.length with h' | h'
  · exact h'
  · have e : i = ps.length := by lia
    have := more_le bl
    rw [e, left_all] at h; lia
theorem rowsE_fuel {ps : List (Nat × Bool)} {bl : Bool} {w : Nat} (hw : 4 ≤ w) : ∀ (n n' i : Nat), i ≤ ps.length → ps.length - i < n → ps.length - i < n' → rowsE ps bl w n i = rowsE ps bl w n' i
  | 0, _, i, _, h, _ => by lia
  | _ + 1, 0, i, _, _, h => by (clear hw; omega)
  | n + 1, n' + 1, i, hi, h, h' => by
    unfold rowsE
    by_cases hf : left ps i + more bl ≤ w
    · rw [if_pos hf, if_pos hf]
    · have hlt := nofit_lt hw hi hf
      have hg := nxt_gt hw hlt
      rw [if_neg hf, if_neg hf, rowsE_fuel hw n n' (nxt ps w i) (nxt_le _ _ _) (by (clear hf h' hi hw; omega)) (by (clear hf h hi hw; omega))]
theorem endsE_fuel {ps : List (Nat × Bool)} {bl : Bool} {w : Nat} (hw : 4 ≤ w) : ∀ (n n' i : Nat), i ≤ ps.length → ps.length - i < n → ps.length - i < n' → endsE ps bl w n i = endsE ps bl w n' i
  | 0, _, i, _, h, _ => by omega
  | _ + 1, 0, i, _, _, h => by omega
  | n + 1, n' + 1, i, hi, h, h' => by
    unfold endsE
    by_cases hf : left ps i + more bl ≤ w
    · rw [if_pos hf, if_pos hf]
    · have hlt := nofit_lt hw hi hf
      have hg := nxt_gt hw hlt
      rw [if_neg hf, if_neg hf, endsE_fuel hw n n' (nxt ps w i) (nxt_le _ _ _) (by omega) (by omega)]

theorem posP_drop {ps : List (Nat × Bool)} {s i : Nat} : posP ps (s + i) = posP ps s + posP (ps.drop s) i := by
  unfold posP
  rw [List.take_add, flatP_append, List.length_append]
theorem nxt_shift {ps : List (Nat × Bool)} {w s i : Nat} (hw : 4 ≤ w) (hs : s ≤ ps.length) (hi : i ≤ (ps.drop s).length) : s + nxt (ps.drop s) w i = nxt ps w (s + i) := by
  have hl : (ps.drop s).length = ps.length - s := List.length_drop ..
  have e := fun j => posP_drop (ps := ps) (s := s) (i := j)
  have a1 := nxtB_pos (ps.drop s) (posP (ps.drop s) i + w - 1) (ps.drop s).length
  have a2 := nxtB_le (ps.drop s) (posP (ps.drop s) i + w - 1) (ps.drop s).length
  have b1 := nxtB_pos ps (posP ps (s + i) + w - 1) ps.length
  have b2 := nxtB_le ps (posP ps (s + i) + w - 1) ps.length
  have ei := e i
  refine Nat.le_antisymm ?_ ?_
  · refine nxtB_max (n := ps.length) (by show s + nxtB _ _ _ ≤ _; lia) ?_
    rw [e (nxt (ps.drop s) w i)]
    show _ + posP (ps.drop s) (nxtB _ _ _) ≤ _
    lia
  · have hge : s + i ≤ nxt ps w (s + i) := nxtB_max (n := ps.length) (by lia) (by (clear ei b2 b1 a2 a1 e hl hi hs; omega))
    have hsub : nxt ps w (s + i) - s ≤ nxt (ps.drop s) w i := by
      refine nxtB_max (n := (ps.drop s).length) (by show nxtB _ _ _ - s ≤ _; (clear hge ei b1 a2 a1 e hi hs hw; omega)) ?_
      have := e (nxt ps w (s + i) - s)
      rw [show s + (nxt ps w (s + i) - s) = nxt ps w (s + i) by lia] at this
      have hb : posP ps (nxt ps w (s + i)) ≤ posP ps (s + i) + w - 1 := b1
      lia
    lia
theorem left_shift {ps : List (Nat × Bool)} {s i : Nat} (hs : s ≤ ps.length) : left (ps.drop s) i = left ps (s + i) := by
  have hl : (ps.drop s).length = ps.length - s := List.length_drop ..
  have e1 := posP_drop (ps := ps) (s := s) (i := (ps.drop s).length)
  have e2 := posP_drop (ps := ps) (s := s) (i := i)
  rw [show s + (ps.drop s).length = ps.length by lia] at e1
  unfold left
  lia
theorem rowsE_shift {ps : List (Nat × Bool)} {bl : Bool} {w s : Nat} (hw : 4 ≤ w) (hs : s ≤ ps.length) : ∀ (n i : Nat), i ≤ (ps.drop s).length → rowsE (ps.drop s) bl w n i = rowsE ps bl w n (s + i)
  | 0, i, hi => rfl
  | n + 1, i, hi => by
    unfold rowsE
    rw [left_shift hs]
    by_cases hf : left ps (s + i) + more bl ≤ w
    · rw [if_pos hf, if_pos hf, List.drop_drop]
    · rw [if_neg hf, if_neg hf, List.drop_drop, rowsE_shift hw hs n _ (nxt_le _ _ _), nxt_shift hw hs hi]
      have := nxt_shift hw hs hi
      congr 3
      (clear hf hi hs hw; lia)

theorem escLast_len (bl : Bool) (l : List (Nat × Bool)) : (escLast bl l).length = l.length := by
  unfold escLast
  split
  · split
    · rename_i h; rw [List.getLast?_eq_none_iff] at h; rw [h]
    · rename_i p h
      rw [List.length_append, List.length_dropLast, List.length_singleton]
      have : l ≠ [] := by intro z; rw [z] at h; cases h
      have := List.length_pos_iff.mpr this
      lia
  · rfl
theorem ends_len (ps : List (Nat × Bool)) (bl : Bool) (w : Nat) : ∀ (n i : Nat), (endsE ps bl w n i).length = (rowsE ps bl w n i).length
  | 0, i => rfl
  | n + 1, i => by
    unfold endsE rowsE
    split
    · rfl
    · rw [List.length_cons, List.length_cons, ends_len ps bl w n]
theorem ends_step {ps : List (Nat × Bool)} {bl : Bool} {w : Nat} (hw : 4 ≤ w) : ∀ (n i k : Nat) (r : List (Nat × Bool) × Bool), i ≤ ps.length → (rowsE ps bl w n i)[k]? = some r → ∃ e, (i :: endsE ps bl w n i)[k]? = some e ∧ (i :: endsE ps bl w n i)[k + 1]? = some (e + r.1.length)
  | 0, i, k, r, _, h => by simp [rowsE] at h
  | n + 1, i, k, r, hi, h => by
    unfold rowsE at h
    unfold endsE
    by_cases hf : left ps i + more bl ≤ w
    · rw [if_pos hf] at h ⊢
      cases k with
      | zero =>
        simp at h
        subst h
        refine ⟨i, rfl, ?_⟩
        rw [show i + (escLast bl (ps.drop i)).length = ps.length by rw [escLast_len, List.length_drop]; lia]; rfl
      | succ k => simp at h
    · rw [if_neg hf] at h ⊢
      cases k with
      | zero =>
        simp at h
        subst h
        refine ⟨i, rfl, ?_⟩
        have := nxt_le ps w i
        have := nxt_gt hw (nofit_lt hw hi hf)
        show some (nxt ps w i) = some (i + ((ps.drop i).take (nxt ps w i - i)).length)
        rw [List.length_take, List.length_drop]; congr 1; lia
      | succ k => exact ends_step hw n (nxt ps w i) k r (nxt_le _ _ _) (by simpa using h)
theorem rows_in {ps : List (Nat × Bool)} {bl : Bool} {w : Nat} (hbl : bl = false → ∀ p, ps.getLast? = some p → p.2 = true ∨ (p.1 ≠ 9 ∧ p.1 ≠ 32)) (hok : ∀ p ∈ ps, okP p) (hw : 4 ≤ w) : ∀ (n i : Nat), i ≤ ps.length → ∀ r ∈ rowsE ps bl w n i, (∀ p ∈ r.1, okP p) ∧ r.1.length ≤ ps.length ∧ (r = ([], false) ∨ ((r.1 ≠ [] ∨ r.2 = true) ∧ (r.2 = false → ∀ p, r.1.getLast? = some p → p.2 = true ∨ (p.1 ≠ 9 ∧ p.1 ≠ 32))))
  | 0, i, _, r, h => by simp [rowsE] at h
  | n + 1, i, hi, r, h => by
    unfold rowsE at h
    by_cases hf : left ps i + more bl ≤ w
    · rw [if_pos hf] at h
      rw [List.mem_singleton.mp h]
      have hd : ∀ p ∈ ps.drop i, okP p := fun p hp => hok p (List.mem_of_mem_drop hp)
      refine ⟨?_, ?_, ?_⟩
      · show ∀ p ∈ escLast bl (ps.drop i), okP p
        unfold escLast
        split
        · split
          · intro p hp; simp at hp
          · rename_i q hq
            intro p hp
            rcases List.mem_append.mp hp with hp | hp
            · exact hd p (List.dropLast_subset _ hp)
            · rw [List.mem_singleton.mp hp]
              have := hd q (List.mem_of_getLast? hq)
              exact ⟨this.1, this.2.1, fun z => nomatch z⟩
        · exact hd
      · show (escLast bl (ps.drop i)).length ≤ _
        rw [escLast_len, List.length_drop]; (clear hd hf h hi hw hok hbl; omega)
      · by_cases hz : ps.drop i = []
        · left; rw [hz]; unfold escLast; cases bl <;> rfl
        · right
          have hne : escLast bl (ps.drop i) ≠ [] := by
            intro z
            have := escLast_len bl (ps.drop i)
            rw [z] at this
            exact hz (List.length_eq_zero_iff.mp this.symm)
          refine ⟨.inl hne, fun _ p hp => ?_⟩
          change (escLast bl (ps.drop i)).getLast? = some p at hp
          unfold escLast at hp
          cases hb : bl with
          | true =>
            rw [hb, if_pos rfl] at hp
            obtain ⟨q, hq⟩ : ∃ q, (ps.drop i).getLast? = some q := ⟨_, List.getLast?_eq_some_getLast hz⟩
            rw [hq] at hp
            simp at hp
            left; rw [← hp]
          | false =>
            rw [hb, if_neg (by decide)] at hp
            rw [List.getLast?_drop] at hp
            split at hp
            · cases hp
            · exact hbl hb p hp
    · rw [if_neg hf] at h
      rcases List.mem_cons.mp h with rfl | h
      · refine ⟨fun p hp => hok p (List.mem_of_mem_drop (List.mem_of_mem_take hp)), ?_, .inr ⟨.inr rfl, fun z => nomatch z⟩⟩
        show ((ps.drop i).take _).length ≤ _
        rw [List.length_take, List.length_drop]; lia
      · exact rows_in hbl hok hw n (nxt ps w i) (nxt_le _ _ _) r h
theorem blk_last {x : List Nat} (h : blk x = false) : ∀ p, (x.map pieceOf).getLast? = some p → p.2 = true ∨ (p.1 ≠ 9 ∧ p.1 ≠ 32) := by
  intro p hp
  rw [List.getLast?_map] at hp
  unfold blk at h
  cases hc : x.getLast? with
  | none => rw [hc] at hp; cases hp
  | some c =>
    rw [hc] at hp h
    have : p = pieceOf c := by simpa using hp.symm
    right
    rw [this]
    simpa [pieceOf] using h
end Mine

namespace Mine
open PySem.Challenge

/-- the defs of the file, below -/
structure Fns (h₀ : Heap) : Prop extends Below h₀ where
  unq : ∃ f fd, Glb h₀ "unquote" (.ref f) ∧ FnAt h₀ 14 f fd .none .none
  quo : ∃ f fd, Glb h₀ "quote" (.ref f) ∧ FnAt h₀ 15 f fd .none .none
  enc : ∃ f fd a, Glb h₀ "body_encode" (.ref f) ∧ FnAt h₀ 19 f fd (.ref a) .none ∧ ∃ o n y1 y2, h₀.get? a = some o ∧ o.data = .seq #[y1, y2] n
  dec : ∃ f fd a, Glb h₀ "decode" (.ref f) ∧ FnAt h₀ 20 f fd (.ref a) .none ∧ ∃ o n t, h₀.get? a = some o ∧ o.data = .seq #[.str (S [10]) t] n
  med : ∃ f fd, Glb h₀ "median" (.ref f) ∧ FnAt h₀ 23 f fd .none .none
  mel : ∃ f fd, Glb h₀ "median_low" (.ref f) ∧ FnAt h₀ 24 f fd .none .none
  meh : ∃ f fd, Glb h₀ "median_high" (.ref f) ∧ FnAt h₀ 25 f fd .none .none
  qua : ∃ f fd a, Glb h₀ "quantiles" (.ref f) ∧ FnAt h₀ 26 f fd .none (.ref a) ∧ ∃ m t, h₀.Ns a m ∧ m "method" = some (.str (Str.ofString "exclusive") t)

section
variable {prog : Program} {w' : World} {h₀ : Heap} {k : Nat} {f : Addr} {fd : FuncData} {da : Addr}
theorem ok_encode_nil (W : Below h₀) (H : FnAt h₀ 19 f fd (.ref da) .none) (hD : ∃ o n y1 y2, h₀.get? da = some o ∧ o.data = .seq #[y1, y2] n) (hk : k ≤ 18) {w : Nat} {eol : List Nat} (hw : 4 ≤ w) :
    CallOk prog w' h₀ k (.ref f) [.str (S []), .int w, .str (S eol)] (.str (S [])) := by
  obtain ⟨o, n, y1, y2, ho, hd⟩ := hD
  have hk1 : k + 1 ≤ 40 := by lia
  refine CallOk.fn (ρ := [("body", .str (S [])), ("maxlinelen", .int w), ("eol", .str (S eol))]) (by lia) H rfl rfl rfl (fun fd' p1 p2 p3 p4 => fun X A s E Q vs B rl hq => ?_) ?_ ?_ fun X q L cd => ?_
  · refine RepL.consE rl fun _ _ r1 rl => ?_; refine RepL.consE rl fun _ _ r2 rl => ?_; refine RepL.consE rl fun _ _ r3 rl => ?_
    refine RepL.nilE rl ?_; exact bindB3 p1 p2 (B.ext _ _ ho) hd (hq _ (.cons r1 (.cons r2 (.cons r3 .nil))))
  · decide +kernel
  · intro x hx; simp at hx; rcases hx with rfl | rfl | rfl <;> rfl
  · refine Ex.seq (Ex1.if_ (b := false) ((Ts.cmp hk1 (Ev.local_ rfl rfl rfl rfl) Ev.int cmp_lt rfl).of (decide_eq_false (by lia))) (fun h => nomatch h) fun _ => Ex.nil) ?_
    exact Ex.ret (Ex1.if_ (b := true) ((Ts.not (Ts.str (Ev.local_ rfl rfl rfl rfl) (by decide) fun _ _ => rfl)).of (by decide)) (fun _ => Ex.one (Ex1.return_ (Ev.local_ rfl rfl rfl rfl))) fun h => nomatch h)

noncomputable def isEol (eol : List Nat) : Prop := eol = [10] ∨ eol = [13, 10]
/-- the rows of the writing of a text from a place on -/
noncomputable def rowsAt (x : List Nat) (w s : Nat) : List (List (Nat × Bool) × Bool) := rowsE (x.map pieceOf) (blk x) w (x.length + 3) s
noncomputable def endsAt (x : List Nat) (w s : Nat) : List Nat := endsE (x.map pieceOf) (blk x) w (x.length + 3) s
theorem blk_drop {x : List Nat} {s : Nat} (h : s < x.length) : blk (x.drop s) = blk x := by
  unfold blk
  rw [List.getLast?_drop, if_neg (by lia)]
theorem rowsAt_ne (x : List Nat) (w s : Nat) : rowsAt x w s ≠ [] := rowsE_ne
/-- body_encode of the text from a place on -/
theorem ok_enc (F : Fns h₀) {f : Addr} {fd : FuncData} {da : Addr} (H : FnAt h₀ 19 f fd (.ref da) .none) (hD : ∃ o n y1 y2, h₀.get? da = some o ∧ o.data = .seq #[y1, y2] n) (hk : k ≤ 18) {x : List Nat} {w s : Nat} {eol : List Nat} (hx : ∀ c ∈ x, okC c) (hs : s ≤ x.length) (hxl : x.length ≤ 300) (hw : 4 ≤ w) (hw2 : w ≤ 1000) (heol : isEol eol) :
    CallOk prog w' h₀ k (.ref f) [.str (S (x.drop s)), .int w, .str (S eol)] (.str (S (joinL eol ((rowsAt x w s).map rl)))) := by
  by_cases hz : s = x.length
  · subst hz
    have e : joinL eol ((rowsAt x w x.length).map rl) = [] := by
      have e1 : rowsAt x w x.length = [(escLast (blk x) ((x.map pieceOf).drop x.length), false)] := by
        unfold rowsAt rowsE
        rw [if_pos]
        have h0 : left (x.map pieceOf) x.length = 0 := by have := left_all (x.map pieceOf); rwa [List.length_map] at this
        rw [h0]
        have := more_le (blk x); lia
      rw [e1]
      have e2 : (x.map pieceOf).drop x.length = [] := List.drop_of_length_le (by rw [List.length_map]; omega)
      rw [e2]
      cases blk x <;> rfl
    rw [e, List.drop_length]
    exact ok_encode_nil F.toBelow H hD hk hw
  · have hlt : s < x.length := by lia
    have hl : (x.drop s).length = x.length - s := List.length_drop ..
    have hx' : ∀ c ∈ x.drop s, okC c := fun c hc => hx c (List.mem_of_mem_drop hc)
    have key := ok_encode (prog := prog) (w' := w') (k := k) F.toBelow F.quo H hD hk (x := x.drop s) (w := w) (eol := eol) hx' (by intro z; rw [z] at hl; simp at hl; (clear z hx' hlt heol hw2 hw hxl hx hk hD H F; lia)) (by (clear hx' hlt hz heol hw2 hw hs hx hk hD H F; omega)) hw hw2 (by rcases heol with rfl | rfl <;> decide)
    rw [join_S, encRows_G, enc_join hx' hw _ 0 (by (clear key hx' hlt heol hw2 hw hxl hx hk hD H F; lia)) (by rw [List.length_map]; lia), blk_drop hlt, List.map_drop, rowsE_shift hw (by rw [List.length_map]; exact hs) _ 0 (Nat.zero_le _)] at key
    rw [Nat.add_zero s, rowsE_fuel (ps := x.map pieceOf) (bl := blk x) hw _ (x.length + 3) s (by rw [List.length_map]; exact hs) (by rw [List.length_drop, List.length_map]; lia) (by rw [List.length_map]; (clear key hx' hl hlt hz heol hw2 hw hxl hs hx hk hD H F; omega))] at key
    exact key

theorem rowsAt_free {x : List Nat} {w s : Nat} (hx : ∀ c ∈ x, okC c) (hs : s ≤ x.length) (hw : 4 ≤ w) : ∀ r ∈ (rowsAt x w s).map rl, 10 ∉ r ∧ 13 ∉ r := by
  intro r hr
  obtain ⟨q, hq, rfl⟩ := List.mem_map.mp hr
  have hok : ∀ p ∈ x.map pieceOf, okP p := by
    intro p hp
    obtain ⟨c, hc, rfl⟩ := List.mem_map.mp hp
    exact pieceOf_ok (hx c hc)
  have h := rows_in (bl := blk x) (fun hb => blk_last hb) hok hw (x.length + 3) s (by rw [List.length_map]; exact hs) q hq
  constructor <;> intro z
  · have := row_signs h.1 10 z
    rcases this.2 with h | h | h | h <;> first | exact absurd h (by decide) | omega
  · have := row_signs h.1 13 z
    rcases this.2 with h | h | h | h <;> first | exact absurd h (by decide) | omega

theorem bind4 {fd : FuncData} {a b c d : PV} {x y z u : Str} (h : ∀ v1 v2 v3 v4, bindArgs fd ⟨[v1, v2, v3, v4], []⟩ = pure [(x, v1), (y, v2), (z, v3), (u, v4)]) : BindOk prog w' h₀ fd [a, b, c, d] [(x, a), (y, b), (z, c), (u, d)] := fun X A s E Q vs B rl hq => by
  refine RepL.consE rl fun _ _ r1 rl => ?_; refine RepL.consE rl fun _ _ r2 rl => ?_; refine RepL.consE rl fun _ _ r3 rl => ?_; refine RepL.consE rl fun _ _ r4 rl => ?_
  refine RepL.nilE rl ?_
  rw [h]
  exact wpAny_pure (hq _ (.cons r1 (.cons r2 (.cons r3 (.cons r4 .nil)))))

theorem flat_len3 (l : List (Nat × Bool)) (b : Bool) : (rowL l b).length ≤ 3 * l.length + 1 := by
  rw [rowL_len, posP_all]
  have := flatP_len l
  split <;> lia

theorem ok_law_ends (F : Fns h₀) (H : FnAt h₀ 28 f fd .none .none) (hk : k ≤ 16) {x : List Nat} {w s : Nat} {eol : List Nat} (hx : ∀ c ∈ x, okC c) (hs : s ≤ x.length) (hxl : x.length ≤ 300) (hw : 4 ≤ w) (hw2 : w ≤ 1000) (heol : isEol eol) :
    CallOk prog w' h₀ k (.ref f) [.str (S x), .int s, .int w, .str (S eol)] (.list ((s :: endsAt x w s).map fun n => .int (n : Nat))) := by
  have hk1 : k + 1 ≤ 40 := by lia
  have e24 : sizeLine = 16777216 := rfl
  have hm : (x.map pieceOf).length = x.length := List.length_map ..
  have hok : ∀ p ∈ x.map pieceOf, okP p := by
    intro p hp
    obtain ⟨c, hc, rfl⟩ := List.mem_map.mp hp
    exact pieceOf_ok (hx c hc)
  have hin := rows_in (bl := blk x) (fun hb => blk_last hb) hok hw (x.length + 3) s (by rw [hm]; exact hs)
  obtain ⟨fe, fde, dae, hge, HE, hDe⟩ := F.enc
  obtain ⟨fd', fdd, dad, hgd, HD, hDd⟩ := F.dec
  obtain ⟨oe, hoe, hde⟩ := HE.obj
  obtain ⟨od, hod, hdd⟩ := HD.obj
  have hrlen : (rowsAt x w s).length ≤ x.length + 3 := by
    have key : ∀ n i, (rowsE (x.map pieceOf) (blk x) w n i).length ≤ n := by
      intro n
      induction n with
      | zero => intro i; simp [rowsE]
      | succ n ih =>
        intro i
        unfold rowsE
        split
        · simp
        · rw [List.length_cons]; have := ih (nxt (x.map pieceOf) w i); lia
    exact key _ _
  have helen : (endsAt x w s).length = (rowsAt x w s).length := ends_len _ _ _ _ _
  have hrow : ∀ r ∈ rowsAt x w s, (rl r).length ≤ 901 := fun r hr => by
    have h1 := (hin r hr).2.1
    have := flat_len3 r.1 r.2
    show (rowL r.1 r.2).length ≤ _
    lia
  have hsplit : Txt.split (S (joinL eol ((rowsAt x w s).map rl))) (S eol) = ((rowsAt x w s).map rl).map S := by
    have hfree := rowsAt_free (w := w) hx hs hw
    rcases heol with rfl | rfl
    · exact split_join (by simp [rowsAt_ne]) (fun r hr => (hfree r hr).1) (by decide)
    · exact split_join (by simp [rowsAt_ne]) (fun r hr => (hfree r hr).2) (by decide)
  have hjl : (joinL eol ((rowsAt x w s).map rl)).length ≤ 300000 := by
    have key : ∀ rs : List (List Nat), (∀ r ∈ rs, r.length ≤ 901) → (joinL eol rs).length ≤ 903 * rs.length := by
      intro rs
      induction rs with
      | nil => intro _; simp [joinL]
      | cons r rs ih =>
        intro h
        have h1 := h r (List.mem_cons_self ..)
        have he : eol.length ≤ 2 := by rcases heol with rfl | rfl <;> decide
        by_cases hz : rs = []
        · subst hz; show r.length ≤ _; simp; lia
        · rw [joinL_cons hz, List.length_append, List.length_append, List.length_cons]
          have := ih fun r' hr' => h r' (List.mem_cons_of_mem _ hr')
          lia
    have := key ((rowsAt x w s).map rl) fun r hr => by obtain ⟨q, hq, rfl⟩ := List.mem_map.mp hr; exact hrow q hq
    rw [List.length_map] at this
    lia
  refine CallOk.fn (ρ := [("text", .str (S x)), ("start", .int s), ("width", .int w), ("eol", .str (S eol))]) (by lia) H rfl rfl rfl (fun fd' h1 h2 h3 h4 => bind4 fun v1 v2 v3 v4 => ?_) ?_ ?_ fun X q L cd => ?_
  · unfold bindArgs; rw [h1, h2]; rfl
  · decide +kernel
  · intro x hx; simp at hx; rcases hx with rfl | rfl | rfl | rfl <;> rfl
  · refine Ex.newList (ds := [.int s]) (o := .retOwn _) (fun _ z => z) (EvL.cons (Ev.local_ rfl rfl rfl rfl) EvL.nil rfl) rfl (plainScope_fn rfl) rfl (show 1 ≤ sizeLine by decide) (.own _) fun a => ?_
    refine Ex.cons (Ex1.for_ (ds := (((rowsAt x w s).map rl).map S).map .str) (EvIt.list (.name _ _) ((Ev.methS (x := S (joinL eol ((rowsAt x w s).map rl))) (ds := [.str (S eol)]) ?enc (EvL.cons (Ev.local_ rfl rfl rfl rfl) EvL.nil rfl) PySem.F.slot_str_split PySem.F.type_str_split (call_split (by rw [S_length]; rcases heol with rfl | rfl <;> rfl) (by rw [S_length]; lia) ?psz) rfl rfl rfl (.inr ⟨_, _, rfl⟩)).of_eq (by rw [hsplit]))) (fun _ => rfl) (fun _ => [("ends", .val (.ref a)), ("text", .str (S x)), ("start", .int s), ("width", .int w), ("eol", .str (S eol))]) (fun i => some (a, ((s :: endsAt x w s).take (i + 1)).map fun n => .int (n : Nat))) (Sub.all fun x hx => ?s0) rfl ?turn) ?rest
    case s0 =>
      simp only [List.mem_cons, List.not_mem_nil, or_false] at hx
      rcases hx with rfl | rfl | rfl | rfl | rfl <;> rfl
    case psz =>
      have hfree := rowsAt_free (w := w) hx hs hw
      have hp : (PySem.Builtin.Str.partsBetween (S (joinL eol ((rowsAt x w s).map rl))) (PySem.Builtin.Str.occurrences (S (joinL eol ((rowsAt x w s).map rl))) (S eol) 0 (S (joinL eol ((rowsAt x w s).map rl))).length ((S (joinL eol ((rowsAt x w s).map rl))).length + 1)) (S eol).length) = ((rowsAt x w s).map rl).map S := by
        rcases heol with rfl | rfl
        · exact parts_eq (by simp [rowsAt_ne]) fun r hr => (hfree r hr).1
        · exact parts_eq (by simp [rowsAt_ne]) fun r hr => (hfree r hr).2
      rw [hp, List.length_map, List.length_map]; lia
    case enc =>
      refine Ev.callF (ds := [.str (S (x.drop s)), .int w, .str (S eol)]) (Ev.globalR hge (.val _) rfl rfl rfl rfl) hoe hde (EvL.cons ?_ (EvL.cons (Ev.local_ rfl rfl rfl rfl) (EvL.cons (Ev.local_ rfl rfl rfl rfl) EvL.nil rfl) rfl) rfl) (ok_enc F HE hDe (by show k + 1 ≤ 18; lia) hx hs hxl hw hw2 heol) rfl
      exact (Ev.sliceS (x := x) (lo := some ((s : Nat) : Int)) (hi := none) (Ev.local_ rfl rfl rfl rfl) (EvP.some (Ev.local_ rfl rfl rfl rfl)) EvP.none (by lia)).of_eq (by rw [cut_from])
    case turn =>
      intro i d hd X'
      rw [List.map_map, List.map_map, List.getElem?_map] at hd
      obtain ⟨r, hr, rfl⟩ := Option.map_eq_some_iff.mp hd
      refine ⟨_, AsOk.name (StOk.local_ rfl (plainScope_fn rfl)), ?_⟩
      obtain ⟨e, he1, he2⟩ : ∃ e, (s :: endsAt x w s)[i]? = some e ∧ (s :: endsAt x w s)[i + 1]? = some (e + r.1.length) := ends_step (bl := blk x) hw (x.length + 3) s i r (by rw [hm]; exact hs) hr
      have hil : i < (rowsAt x w s).length := (List.getElem?_eq_some_iff.mp hr).1
      have htk : ((s :: endsAt x w s).take (i + 1 + 1)).map (fun n => PV.int (n : Nat)) = ((s :: endsAt x w s).take (i + 1)).map (fun n => PV.int (n : Nat)) ++ [.int ((e + r.1.length : Nat) : Int)] := by
        rw [lookup_take_succ he2, List.map_append]; rfl
      have hlen1 : ((s :: endsAt x w s).take (i + 1)).length = i + 1 := by rw [List.length_take, List.length_cons, helen]; (clear htk he2 he1 hd hr hjl hsplit hrow helen hrlen hdd hod hde hoe hDd HD hgd hDe HE hge hin hok hm e24 hk1 heol hw2 hw hxl hs hx hk H F; lia)
      have hrm := hin r (List.mem_of_getElem? hr)
      show Goes _ _ _ _ (some (a, ((s :: endsAt x w s).take (i + 1 + 1)).map fun n => .int (n : Nat)))
      rw [htk]
      refine Goes.next (Ex.one (Ex1.appendM (d := .int ((e + r.1.length : Nat) : Int)) rfl (by rw [List.length_map, hlen1]; lia) (Ev.local_ rfl rfl rfl rfl) ?_ rfl rfl rfl rfl)) (Sub.all fun x hx => ?_)
      · refine (Ev.bin (a := .int (e : Nat)) (b := .int (r.1.length : Nat)) hk1 ?_ ?_ bin_add).of_eq (by congr 1)
        · refine Ev.itemOwn (k := -1) (j := i) rfl (Ev.local_ rfl rfl rfl rfl) (Ev.neg Ev.int) (by decide) (by decide) ?_ ?_ fun _ _ => rfl
          · rw [List.length_map, hlen1]
            have := seqIndex_last (n := i + 1) (k := 1) (by lia) (by lia)
            simpa using this
          · rw [List.getElem?_map, List.getElem?_take_of_lt (by lia)]
            rw [he1]; rfl
        · refine Ev.callB (ds := [.str (S (r.1.map (·.1)))]) (Ev.builtin F.len rfl rfl rfl rfl rfl) (EvL.cons ?_ EvL.nil rfl) ?_ rfl rfl
          · refine Ev.callF (ds := [.str (S (rl r))]) (Ev.globalR hgd (.val _) rfl rfl rfl rfl) hod hdd (EvL.cons (Ev.local_ rfl rfl rfl rfl) EvL.nil rfl) ?_ rfl
            rcases hrm.2.2 with hz | hz
            · rw [hz]
              exact ok_decode_nil F.toBelow HD hDd (by show k + 1 ≤ 19; lia)
            · exact ok_decode F.toBelow F.unq HD hDd (by show k + 1 ≤ 19; omega) ⟨hrm.1, by have := hrm.2.1; lia, hz.1, hz.2⟩ (by have := hrow r (List.mem_of_getElem? hr); show (rowL r.1 r.2).length ≤ _; change (rowL r.1 r.2).length ≤ _ at this; lia)
          · have := call_lenS (prog := prog) (w := w') (h₀ := h₀) (k := k + 1) (x := r.1.map (·.1)) (by rw [List.length_map]; have := hrm.2.1; lia)
            rwa [List.length_map] at this
      · simp only [List.mem_cons, List.not_mem_nil, or_false] at hx
        rcases hx with rfl | rfl | rfl | rfl | rfl <;> rfl
    case rest =>
      have e1 : ((s :: endsAt x w s).take ((((rowsAt x w s).map rl).map S).map PV.str).length.succ) = s :: endsAt x w s := by
        rw [List.take_of_length_le]
        rw [List.length_cons, helen]; simp
      show Ex { cxAt prog w' h₀ (fun b => X b ∨ b = a) 28 q f L cd (k + 1) with M := fun b => b = a, ow := some (a, ((s :: endsAt x w s).take ((((rowsAt x w s).map rl).map S).map PV.str).length.succ).map fun n => .int (n : Nat)) } _ _ _
      rw [e1]
      exact Ex.retOwn (Ex1.retOwn rfl (Ev.local_ rfl rfl rfl rfl))
end
end Mine

namespace Mine
open PySem.Challenge

noncomputable abbrev envAtC (i : Nat) (q : Str) (f L : Addr) (cd : Value) : Env := { scope := scopeAt i, locals := L, globals := mainGlobals, cells := cellsFrom (L + 1) (scopeAt i).names [], qual := q, func := some f, code := cd, frame := some L, builtins := builtinsNs }
noncomputable abbrev cxAtC (prog : Program) (w : World) (h₀ : Heap) (X : Addr → Prop) (i : Nat) (q : Str) (f L : Addr) (cd : Value) (k : Nat) : Cx := ⟨prog, w, h₀, X, fun _ => False, none, envAtC i q f L cd, k⟩

theorem lookup_snoc {α : Type} (x : Str) (n : Str) (v : α) : ∀ l : List (Str × α), (l ++ [(n, v)]).lookup x = (l.lookup x).or (if x = n then some v else none)
  | [] => by
    rw [List.nil_append, List.lookup_cons]
    by_cases h : x = n
    · subst h; simp
    · rw [show (x == n) = false from beq_eq_false_iff_ne.mpr h]; simp [h]
  | (m, u) :: l => by
    rw [List.cons_append, List.lookup_cons, List.lookup_cons]
    cases x == m
    · exact lookup_snoc x n v l
    · rfl
theorem bindL_get {kd : Str → Option NameKind} {x : Str} (hx : kd x = some .local) : ∀ (bs : List (Str × Value)) (m : Str → Option Value), bindL kd bs m x = (bs.reverse.lookup x).or (m x)
  | [], m => by simp [bindL]
  | (n, v) :: r, m => by
    unfold bindL
    rw [bindL_get hx r, List.reverse_cons, lookup_snoc]
    by_cases h : x = n
    · subst h; rw [if_pos hx]; simp
    · by_cases hn : kd n = some .local
      · rw [if_pos hn]; simp [h]
      · rw [if_neg hn]; simp [h]
theorem bindC_get {kd : Str → Option NameKind} {x : Str} (hx : kd x ≠ some .local) : ∀ (bs : List (Str × Value)) (m : Str → Option Value), bindC kd bs m x = (bs.reverse.lookup x).or (m x)
  | [], m => by simp [bindC]
  | (n, v) :: r, m => by
    unfold bindC
    rw [bindC_get hx r, List.reverse_cons, lookup_snoc]
    by_cases h : x = n
    · subst h; rw [if_neg hx]; simp
    · by_cases hn : kd n = some .local
      · rw [if_pos hn]; simp [h]
      · rw [if_neg hn]; simp [h]

theorem frep_newC {h₀ : Heap} {X : Addr → Prop} {s s' : Shared} {env : Env} {binds : List (Str × Value)} {ρ : List (Str × PV)} (B : Base h₀ X s.heap) (hb : RepB X s.heap binds ρ)
    (I : InCallC s env.locals (bindL env.kindOf binds fun _ => none) env.cells (bindC env.kindOf binds fun _ => none) s')
    (hk : ∀ x ∈ ρ, env.kindOf x.1 = some .local ∨ (env.kindOf x.1 = some .cell ∧ (env.cells.lookup x.1).isSome = true)) : FRep h₀ X (fun _ => False) none env ρ.reverse s'.heap := by
  have ex : Ext s.heap s'.heap := I.toInCall.keep
  refine ⟨fun b o e => ex _ _ (B.ext b o e), fun a x => let ⟨o, e⟩ := B.xb a x; ⟨o, ex _ _ e⟩, B.xn, fun b q => ?_, fun x cc q => ⟨_, I.cell x cc q⟩, fun _ q => q.elim, (fun _ _ q => nomatch q), _, I.toInCall.ns, fun x d q => ?_⟩
  · have hge : s.heap.objs.size ≤ b := by
      rcases q with q | ⟨x, q⟩
      · rw [q]; exact I.toInCall.fresh
      · exact Nat.le_of_lt (Nat.lt_of_le_of_lt I.toInCall.fresh (I.above x b (mem_of_lookup q)))
    cases e : h₀.get? b with
    | none => rfl
    | some o => exact absurd (Heap.lt_size (B.ext b o e)) (Nat.not_lt.mpr hge)
  · obtain ⟨v, hv, r⟩ := hb.reverse.lookup q
    have hm : (x, d) ∈ ρ := List.mem_reverse.mp (mem_of_lookup q)
    refine ⟨v, ?_, r.ext ex⟩
    rcases hk _ hm with h | ⟨h, hc⟩
    · left; refine ⟨h, ?_⟩
      show bindL env.kindOf binds (fun _ => none) x = some v
      rw [bindL_get h, hv]; rfl
    · right
      obtain ⟨cc, hcc⟩ := Option.isSome_iff_exists.mp hc
      refine ⟨.inl h, cc, hcc, ?_⟩
      have := I.cell x cc hcc
      rwa [bindC_get (show env.kindOf x ≠ some .local by rw [h]; exact fun z => nomatch z), hv] at this

theorem repB_zip {X : Addr → Prop} {h : Heap} {vs : List Value} {ds : List PV} (r : RepL X h vs ds) (xs : List Str) (hl : ds.length = xs.length) : RepB X h (xs.zip vs) (xs.zip ds) := by
  induction ds generalizing vs xs with
  | nil => rw [List.zip_nil_right]; exact RepL.nilE r (by rw [List.zip_nil_right]; exact .nil)
  | cons d ds ih =>
    cases xs with
    | nil => exact .nil
    | cons x xs => exact RepL.consE r fun _ _ r s => .cons r (ih s xs (Nat.succ.inj hl))
theorem CallOk.fnC {prog : Program} {w : World} {h₀ : Heap} {k i : Nat} {f : Addr} {fd : FuncData} {ds : List PV} {xs : List Str} {d : PV} (hk : k ≤ 40) (H : FnAt h₀ i f fd .none .none) (hco : (scopeAt i).isCoroutine = false) (hgen : (scopeAt i).isGenerator = false) (hkind : (scopeAt i).kind = .function)
    (hlen : ds.length = xs.length) (hb : ∀ fd' : FuncData, fd'.params = argsAt i → fd'.defaults = .none → ∀ vs : List Value, vs.length = xs.length → bindArgs fd' ⟨vs, []⟩ = pure (xs.zip vs))
    (hcl : ∀ x ∈ xs, (scopeAt i).names.lookup x = some .local ∨ ((scopeAt i).names.lookup x = some .cell ∧ ∀ n, ((cellsFrom n (scopeAt i).names []).lookup x).isSome = true))
    (h : ∀ X q L cd, Ex (cxAtC prog w h₀ X i q f L cd (k + 1)) (xs.zip ds).reverse (bodyAt i) (.ret d)) : CallOk prog w h₀ k (.ref f) ds d := fun X A s E vs r B rl => by
  obtain ⟨o, ho, hd⟩ := H.obj
  have hvl : vs.length = xs.length := by rw [rl.length, hlen]
  have hrb : RepB X s.heap (xs.zip vs) (xs.zip ds) := repB_zip rl xs hlen
  have hnm : ∀ {α : Type} (l : List α) (y : Str × α), y ∈ xs.zip l → y.1 ∈ xs := fun l y hy => (List.of_mem_zip hy).1
  refine wpAny_call (codeAny_call_cells (by have := r.2.1; show A.depth < 1000; lia) (B.ext _ _ ho) hd (H.lim.keeps fun b o e => B.ext b o e) (by obtain ⟨c, o', vs', t, e, g, rest⟩ := H.code; exact ⟨c, o', vs', t, e, B.ext _ _ g, rest⟩) H.body (hb fd H.params H.dflt vs hvl) H.clo
    (fun x hx => ?_) (fun s₁ I => ?_) (by rw [H.scope]; exact hco) (by rw [H.scope]; exact hgen) (by rw [H.scope]; exact hkind))
  · rw [H.scope]
    rcases hcl x.1 (hnm _ x hx) with h1 | ⟨h1, h2⟩
    · exact .inl h1
    · exact .inr ⟨h1, h2 _⟩
  · have e : callEnvC fd s.heap.objs.size f = envAtC i (fd.qualname ++ ".<locals>.") f s.heap.objs.size fd.code := by
      show ({ scope := fd.scope, locals := s.heap.objs.size, globals := fd.globals, cells := cellsFrom (s.heap.objs.size + 1) fd.scope.names [], qual := fd.qualname ++ ".<locals>.", func := some f, code := fd.code, frame := some s.heap.objs.size, builtins := fd.builtins } : Env) = _
      rw [H.scope, H.globals, H.builtins]
    rw [e] at I ⊢
    have F := frep_newC (env := envAtC i (fd.qualname ++ ".<locals>.") f s.heap.objs.size fd.code) B hrb I (fun x hx => by
      rcases hcl x.1 (hnm _ x hx) with h1 | ⟨h1, h2⟩
      · exact .inl h1
      · exact .inr ⟨h1, h2 _⟩)
    refine wpAny_mono (h X _ s.heap.objs.size fd.code (A.deeper _) s₁ _ (r.deeper _) F) (fun fl s' q => ?_) fun _ _ x => x
    obtain ⟨⟨h', tk, rfl, kb⟩, q⟩ := q
    cases fl with
    | ret v =>
      obtain ⟨h1, tk1, rfl, k1⟩ := I.done
      refine ⟨⟨h', tk, rfl, fun b o e => kb b o (fun q => ?_) (k1 b o e)⟩, q⟩
      have hlt := Heap.lt_size e
      rcases q with (q | ⟨x, q⟩) | q
      · rw [show b = s.heap.objs.size from q] at hlt; exact absurd hlt (Nat.lt_irrefl _)
      · have : s.heap.objs.size < b := I.above x b (mem_of_lookup q)
        exact absurd hlt (Nat.not_lt.mpr (Nat.le_of_lt this))
      · exact q
    | _ => exact q.elim

theorem cellsFrom_mem : ∀ (names : List (Str × NameKind)) (n : Nat) (acc : List (Str × Addr)), (∀ y ∈ acc, y.2 < n) → acc.Pairwise (fun x y => x.2 ≠ y.2) → (cellsFrom n names acc).Pairwise fun x y => x.2 ≠ y.2
  | [], n, acc, h, hp => hp
  | (name, kind) :: r, n, acc, h, hp => by
    unfold cellsFrom
    split
    · exact cellsFrom_mem r (n + 1) _ (fun y hy => by
        rcases List.mem_cons.mp hy with rfl | hy
        · exact Nat.lt_succ_self _
        · exact Nat.lt_succ_of_lt (h y hy)) (List.pairwise_cons.mpr ⟨fun y hy e => absurd (show y.2 = n from e.symm) (Nat.ne_of_lt (h y hy)), hp⟩)
    · exact cellsFrom_mem r n acc h hp
theorem StOk.cellC {c : Cx} {n i : Nat} {x : Str} {cc : Addr} (hk : c.env.scope.kind = .function) (hl : c.env.kindOf x = some .cell) (he : c.env.cells = cellsFrom n (scopeAt i).names []) (hc : c.env.cells.lookup x = some cc) : StOk (OwnC c) c x :=
  StOk.cell hk hl hc fun y c' h1 h2 h3 => by
    rw [he] at h1 hc
    subst h3
    exact h2 (name_of_addr (cellsFrom_mem _ _ _ (by intro y hy; simp at hy) List.Pairwise.nil) (mem_of_lookup h1) (mem_of_lookup hc))

/-- what the folds say -/
structure FoldOk (ps : List (Nat × Bool)) (bl : Bool) (w : Nat) (E : List Nat) : Prop where
  two : 2 ≤ E.length
  le : ∀ i, i < E.length → E.getD i 0 ≤ ps.length
  step : ∀ i, i + 2 < E.length → ¬ left ps (E.getD i 0) + more bl ≤ w ∧ E.getD (i + 1) 0 = nxt ps w (E.getD i 0)
  fin : left ps (E.getD (E.length - 2) 0) + more bl ≤ w ∧ E.getD (E.length - 1) 0 = ps.length
theorem foldOk {ps : List (Nat × Bool)} {bl : Bool} {w : Nat} (hw : 4 ≤ w) : ∀ (n i : Nat), i ≤ ps.length → ps.length - i < n → FoldOk ps bl w (i :: endsE ps bl w n i)
  | 0, i, hi, h => by lia
  | n + 1, i, hi, h => by
    unfold endsE
    by_cases hf : left ps i + more bl ≤ w
    · rw [if_pos hf]
      exact ⟨by simp, fun j hj => by
        match j, hj with
        | 0, _ => exact hi
        | 1, _ => exact Nat.le_refl _
        | j + 2, hj => simp at hj; lia, fun j hj => by simp at hj; lia, hf, rfl⟩
    · rw [if_neg hf]
      have hlt := nofit_lt hw hi hf
      have hg := nxt_gt hw hlt
      have ih := foldOk (bl := bl) hw n (nxt ps w i) (nxt_le _ _ _) (by (clear hf hi hw; omega))
      have h2 := ih.two
      refine ⟨by rw [List.length_cons]; lia, fun j hj => ?_, fun j hj => ?_, ?_, ?_⟩
      · cases j with
        | zero => exact hi
        | succ j => exact ih.le j (by simpa using hj)
      · cases j with
        | zero => exact ⟨hf, rfl⟩
        | succ j => exact ih.step j (by rw [List.length_cons] at hj; lia)
      · have := ih.fin.1
        have e : (i :: nxt ps w i :: endsE ps bl w n (nxt ps w i)).length - 2 = ((nxt ps w i :: endsE ps bl w n (nxt ps w i)).length - 2) + 1 := by rw [List.length_cons]; lia
        rw [e]; exact this
      · have := ih.fin.2
        have e : (i :: nxt ps w i :: endsE ps bl w n (nxt ps w i)).length - 1 = ((nxt ps w i :: endsE ps bl w n (nxt ps w i)).length - 1) + 1 := by rw [List.length_cons]; lia
        rw [e]; exact this
end Mine

namespace Mine
open PySem.Challenge

theorem lookup_mem {α : Type} {l : List (Str × α)} {x : Str} {d : α} (q : l.lookup x = some d) : (x, d) ∈ l := mem_of_lookup q
section
variable {c : Cx} {ρ ρf : List (Str × PV)} {d : PV} {elt tgt iter : Expr} {ifs : List Expr} {scope : Scope} {pos : Pos} {ds : List PV} {rs : List (Option PV)} {cl : List (Str × Addr)}
theorem CompOk.mk1 (hit : EvIt c ρ tgt iter ds) (kind : scope.kind = .function) (cell : ∀ y ∈ scope.names, y.2 ≠ .cell) (names : ∀ y ∈ scope.names, y.2 = .local → scope.names.lookup y.1 = some .local)
    (clo : closureFor scope c.env = pure cl) (hcl : ∀ p ∈ cl, c.env.cells.lookup p.1 = some p.2)
    (hf : ∀ p ∈ ρf, ρ.lookup p.1 = some p.2 ∧ c.env.kindOf p.1 = some .cell ∧ (relabel scope c.env).names.lookup p.1 = some .cell ∧ cl.lookup p.1 = c.env.cells.lookup p.1)
    (len : rs.length = ds.length) (sz : ds.length ≤ sizeLine) (fold : ∀ x, foldedSetIterable iter c.env x = pure x)
    (body : ∀ (i : Nat) d r, ds[i]? = some d → rs[i]? = some r → CompBody c ρf tgt elt ifs scope cl d r) : CompOk c ρ ρf elt tgt iter ifs scope cl ds rs :=
  ⟨hit, kind, cell, names, clo, fun x b q => hcl _ (lookup_mem q), fun x d q => hf _ (lookup_mem q), len, sz, fold, body⟩
end
theorem keepOnly_some : ∀ l : List PV, keepOnly (l.map some) = l
  | [] => rfl
  | a :: l => by
    have := keepOnly_some l
    unfold keepOnly at *
    rw [List.map_cons, List.filterMap_cons]
    simp [this]

noncomputable def codesL (x : List Nat) : List (List Nat) := x.map fun c => pce (pieceOf c)
noncomputable def strsPV (l : List (List Nat)) : List PV := l.map fun r => .str (S r)
noncomputable def intsPV (l : List Nat) : List PV := l.map fun n => .int (n : Nat)
noncomputable def lefts (ps : List (Nat × Bool)) : List Int := ((List.range (ps.length + 1)).map fun p => (left ps p : Int)) ++ [-99]
theorem codesL_eq (x : List Nat) : codesL x = (x.map pieceOf).map pce := by unfold codesL; rw [List.map_map]; rfl
theorem sum_lens : ∀ l : List (List Nat), (l.map fun r => (r.length : Int)).sum = (l.flatten.length : Nat)
  | [] => rfl
  | a :: l => by rw [List.map_cons, List.sum_cons, sum_lens l, List.flatten_cons, List.length_append]; push_cast; rfl
theorem sum_left (x : List Nat) (p : Nat) : (((codesL x).drop p).map fun r => (r.length : Int)).sum = (left (x.map pieceOf) p : Nat) := by
  rw [sum_lens]
  congr 1
  have e : ((codesL x).drop p).flatten = flatP ((x.map pieceOf).drop p) := by
    rw [codesL_eq, ← List.map_drop]; rfl
  rw [e, flatP_drop, List.length_drop]
  unfold left
  rw [posP_all]

section
variable {prog : Program} {w' : World} {h₀ : Heap} {k : Nat} {X : Addr → Prop} {q : Str} {f L : Addr} {cd : Value}
/-- the lengths from each place on -/
theorem due_left (F : Below h₀) (hk : k ≤ 20) {x : List Nat} (hxl : x.length ≤ 300) {ρ : List (Str × PV)} (h : ρ.lookup (Str.ofString "codes") = some (.list (strsPV (codesL x)))) :
    ∃ e pos t b rest, bodyAt 29 = .Assign [.Name (Str.ofString "left") t] e pos :: b :: rest ∧ Ev (cxAtC prog w' h₀ X 29 q f L cd (k + 1)) ρ e (.list ((lefts (x.map pieceOf)).map .int)) := by
  have hk1 : k + 1 ≤ 40 := by lia
  have e24 : sizeLine = 16777216 := rfl
  have hcl : (strsPV (codesL x)).length = x.length := by unfold strsPV codesL; rw [List.length_map, List.length_map]
  refine ⟨_, _, _, _, _, rfl, ?_⟩
  have hend : (lefts (x.map pieceOf)).map PV.int = keepOnly (((List.range (x.length + 1)).map fun p => PV.int (left (x.map pieceOf) p : Nat)).map some) ++ [.int (-99)] := by
    rw [keepOnly_some]; unfold lefts
    rw [List.map_append, List.map_map, List.length_map]; rfl
  rw [hend]
  refine Ev.bin hk1 (Ev.comp (CompOk.mk1 (ρf := [("codes", .list (strsPV (codesL x)))]) (cl := [("codes", L + 1)]) (ds := rangeD 0 (x.length + 1)) (EvIt.range1 (i := ((x.length + 1 : Nat) : Int)) rfl (by lia) (Ev.builtin F.range rfl rfl rfl rfl rfl) (EvL.cons ?len EvL.nil rfl) rfl rfl) rfl (by decide +kernel) (by decide +kernel) rfl (fun p hp => ?hcl) (fun p hp => ?hf) ?hlen (by unfold rangeD; rw [List.length_map, List.length_range]; lia) (fun _ => rfl) ?body)) (Ev.list (ds := [.int (-99)]) (EvL.cons (Ev.neg Ev.int) EvL.nil rfl) (show 1 ≤ sizeLine by decide)) (bin_addL ?sz)
  case len =>
    refine (Ev.bin (a := .int (x.length : Nat)) hk1 ?_ Ev.int bin_add).of_eq (by congr 1)
    have := call_lenL (prog := prog) (w := w') (h₀ := h₀) (k := k + 1) (ds := strsPV (codesL x)) (by rw [hcl]; lia)
    rw [hcl] at this
    exact Ev.callB (ds := [.list (strsPV (codesL x))]) (Ev.builtin F.len rfl rfl rfl rfl rfl) (EvL.cons (Ev.cell h rfl rfl rfl) EvL.nil rfl) this rfl rfl
  case hcl => rw [List.mem_singleton.mp hp]; rfl
  case hf => rw [List.mem_singleton.mp hp]; exact ⟨h, rfl, rfl, rfl⟩
  case hlen => simp [rangeD]
  case sz => rw [keepOnly_some]; simp; lia
  case body =>
    intro i d r hd hr
    obtain ⟨hi, rfl⟩ := rangeD_get hd
    rw [List.map_map, List.getElem?_map, List.getElem?_range hi] at hr
    have hr : some (PV.int (left (x.map pieceOf) i : Nat)) = r := by simpa using hr
    subst hr
    intro X' C
    refine ⟨_, AsOk.name (StOk.loc rfl (plainScope_fn rfl)), IfsOk.nil, fun g hg => ?_⟩
    cases hg
    have hsum := sum_left x i
    refine (Ev.callB (ds := [.list ((((codesL x).drop i).map fun r => (r.length : Int)).map .int)]) (Ev.builtin F.sum rfl rfl rfl rfl rfl) (EvL.cons ?_ EvL.nil rfl) call_sum rfl rfl).of_eq (by rw [hsum])
    have hk2 : ((((codesL x).drop i).map fun r => (r.length : Int)).map PV.int) = keepOnly ((((codesL x).drop i).map fun r => PV.int (r.length : Nat)).map some) := by rw [keepOnly_some, List.map_map]; rfl
    rw [hk2]
    refine Ev.comp (CompOk.mk1 (ρf := []) (cl := []) (ds := (strsPV (codesL x)).drop i) (EvIt.list (.name _ _) ((Ev.sliceL (ds := strsPV (codesL x)) (lo := some ((i : Nat) : Int)) (hi := none) (Ev.cell rfl rfl rfl rfl) (EvP.some ((Ev.local_ rfl rfl rfl rfl).of_eq (by rw [Int.zero_add]))) EvP.none (by rw [hcl]; lia)).of_eq (by rw [cut_from]))) rfl (by decide +kernel) (by decide +kernel) rfl (fun p hp => by simp at hp) (fun p hp => by simp at hp) ?_ (by rw [List.length_drop, hcl]; lia) (fun _ => rfl) ?_)
    · unfold strsPV; rw [← List.map_drop]; simp
    · intro j d r hd hr
      unfold strsPV at hd
      rw [← List.map_drop, List.getElem?_map] at hd
      rw [List.map_map, List.getElem?_map] at hr
      obtain ⟨l, hl, rfl⟩ := Option.map_eq_some_iff.mp hd
      rw [hl] at hr
      have hr : some (PV.int (l.length : Nat)) = r := by simpa using hr
      subst hr
      intro X'' C'
      refine ⟨_, AsOk.name (StOk.loc rfl (plainScope_fn rfl)), IfsOk.nil, fun g hg => ?_⟩
      cases hg
      refine Ev.callB (ds := [.str (S l)]) (Ev.builtin F.len rfl rfl rfl rfl rfl) (EvL.cons (Ev.local_ rfl rfl rfl rfl) EvL.nil rfl) (call_lenS ?_) rfl rfl
      have := List.mem_of_mem_drop (List.mem_of_getElem? hl)
      unfold codesL at this
      obtain ⟨c0, _, rfl⟩ := List.mem_map.mp this
      rw [pce_len]; split <;> lia
end
end Mine

namespace Mine

/-- the rows' pieces before the blank is told -/
noncomputable def rowsU (ps : List (Nat × Bool)) (bl : Bool) (w : Nat) : Nat → Nat → List (List (Nat × Bool))
  | 0, _ => []
  | n + 1, i => if left ps i + more bl ≤ w then [ps.drop i] else (ps.drop i).take (nxt ps w i - i) :: rowsU ps bl w n (nxt ps w i)
theorem segs_eq {ps : List (Nat × Bool)} {bl : Bool} {w : Nat} (hw : 4 ≤ w) : ∀ (n i : Nat), i ≤ ps.length → ((i :: endsE ps bl w n i).zip (endsE ps bl w n i)).map (fun p => (ps.drop p.1).take (p.2 - p.1)) = rowsU ps bl w n i
  | 0, i, hi => rfl
  | n + 1, i, hi => by
    unfold endsE rowsU
    by_cases hf : left ps i + more bl ≤ w
    · rw [if_pos hf, if_pos hf]
      show [(ps.drop i).take (ps.length - i)] = _
      rw [List.take_of_length_le (by rw [List.length_drop]; lia)]
    · rw [if_neg hf, if_neg hf, List.zip_cons_cons, List.map_cons, segs_eq hw n _ (nxt_le _ _ _)]
theorem rowsU_split {ps : List (Nat × Bool)} {bl : Bool} {w : Nat} (hw : 4 ≤ w) : ∀ (n i : Nat), i ≤ ps.length → ps.length - i < n → ∃ init e, e ≤ ps.length ∧ rowsU ps bl w n i = init ++ [ps.drop e] ∧ (rowsE ps bl w n i).map (·.1) = init ++ [escLast bl (ps.drop e)]
  | 0, i, hi, h => by lia
  | n + 1, i, hi, h => by
    unfold rowsU rowsE
    by_cases hf : left ps i + more bl ≤ w
    · rw [if_pos hf, if_pos hf]
      exact ⟨[], i, hi, rfl, rfl⟩
    · rw [if_neg hf, if_neg hf]
      have hlt := nofit_lt hw hi hf
      have hg := nxt_gt hw hlt
      have hnl := nxt_le ps w i
      obtain ⟨init, e, h1, h2, h3⟩ := rowsU_split (bl := bl) hw n (nxt ps w i) (nxt_le _ _ _) (by lia)
      exact ⟨(ps.drop i).take (nxt ps w i - i) :: init, e, h1, by rw [h2]; rfl, by rw [List.map_cons, h3]; rfl⟩
theorem join_soft {ps : List (Nat × Bool)} {bl : Bool} {w : Nat} {eol : List Nat} (hw : 4 ≤ w) : ∀ (n i : Nat), i ≤ ps.length → ps.length - i < n → joinL (61 :: eol) ((rowsE ps bl w n i).map fun r => flatP r.1) = joinL eol ((rowsE ps bl w n i).map rl)
  | 0, i, hi, h => by omega
  | n + 1, i, hi, h => by
    unfold rowsE
    by_cases hf : left ps i + more bl ≤ w
    · rw [if_pos hf]
      show flatP (escLast bl (ps.drop i)) = rowL (escLast bl (ps.drop i)) false
      rw [rowL_false]
    · rw [if_neg hf]
      have hg := nxt_gt hw (nofit_lt hw hi hf)
      obtain ⟨m, rfl⟩ : ∃ m, n = m + 1 := ⟨n - 1, by have := nxt_le ps w i; have := nofit_lt hw hi hf; lia⟩
      rw [List.map_cons, List.map_cons, joinL_cons (by simp [rowsE_ne]), joinL_cons (by simp [rowsE_ne]), join_soft hw (m + 1) _ (nxt_le _ _ _) (by lia)]
      show flatP _ ++ 61 :: eol ++ _ = rowL _ true ++ eol ++ _
      unfold rowL
      rw [if_pos rfl]
      simp
theorem joinL_nil : ∀ l : List (List Nat), joinL [] l = l.flatten
  | [] => rfl
  | [a] => by simp [joinL]
  | a :: b :: l => by rw [joinL_cons (by simp), joinL_nil (b :: l)]; simp
noncomputable def blankL (x : List Nat) : List Nat := match x.getLast? with | some c => if c == 9 || c == 32 then quoteL c else [] | none => []
theorem blankL_of {x : List Nat} {c : Nat} (h : x.getLast? = some c) : blankL x = if blk x then quoteL c else [] := by unfold blankL blk; rw [h]
theorem blankL_no {x : List Nat} (h : blk x = false) : blankL x = [] := by
  cases hc : x.getLast? with
  | none => unfold blankL; rw [hc]
  | some c => rw [blankL_of hc, h]; rfl
theorem esc_codes {x : List Nat} {e : Nat} (h : blk x = true) (hne : (x.map pieceOf).drop e ≠ []) :
    ((escLast true ((x.map pieceOf).drop e)).map pce) = (((x.map pieceOf).drop e).map pce).dropLast ++ [blankL x] := by
  have hx : x.getLast?.isSome = true := by
    cases hc : x.getLast? with
    | none => unfold blk at h; rw [hc] at h; cases h
    | some c => rfl
  obtain ⟨c, hc⟩ := Option.isSome_iff_exists.mp hx
  have hp : ((x.map pieceOf).drop e).getLast? = some (pieceOf c) := by
    rw [List.getLast?_drop, if_neg (by
      intro z; exact hne (List.drop_of_length_le z)), List.getLast?_map, hc]; rfl
  unfold escLast
  rw [if_pos rfl, hp]
  dsimp only
  rw [List.map_append, List.map_dropLast, blankL_of hc, h]
  rfl
theorem lefts_at {ps : List (Nat × Bool)} {p : Nat} (h : p ≤ ps.length) : ((lefts ps).map PV.int)[p]? = some (.int (left ps p : Nat)) := by
  unfold lefts
  rw [List.getElem?_map, List.getElem?_append_left (by rw [List.length_map, List.length_range]; lia), List.getElem?_map, List.getElem?_range (by omega)]; rfl
theorem lefts_end {ps : List (Nat × Bool)} : ((lefts ps).map PV.int)[ps.length + 1]? = some (.int (-99)) := by
  unfold lefts
  rw [List.getElem?_map, List.getElem?_append_right (by rw [List.length_map, List.length_range]; lia), List.length_map, List.length_range, Nat.sub_self]; rfl
theorem getD_some {l : List Nat} {i : Nat} (h : i < l.length) : l[i]? = some (l.getD i 0) := by
  rw [List.getD_eq_getElem?_getD, List.getElem?_eq_getElem h]; rfl
theorem step_facts {ps : List (Nat × Bool)} {bl : Bool} {w : Nat} (hw : 4 ≤ w) (hw2 : w ≤ 90) {i : Nat} (hi : i ≤ ps.length) (h : ¬ left ps i + more bl ≤ w) :
    left ps i - left ps (nxt ps w i) < w ∧ left ps (nxt ps w i) ≤ left ps i ∧ ∃ v : Int, ((lefts ps).map PV.int)[nxt ps w i + 1]? = some (.int v) ∧ (w : Int) ≤ left ps i - v := by
  have hlt := nofit_lt hw hi h
  have h1 : posP ps (nxt ps w i) ≤ posP ps i + w - 1 := nxtB_pos _ _ _
  have h2 := nxt_le ps w i
  have h3 := posP_mono (ps := ps) h2
  have h4 := posP_mono (ps := ps) hi
  have hg := nxt_gt hw hlt
  have h5 := posP_mono (ps := ps) (Nat.le_of_lt hg)
  refine ⟨by unfold left; (clear h5 hg h4 h3 h2 hlt h hi hw2; omega), by unfold left; (clear hg h4 h3 h2 h1 hlt h hi hw2 hw; omega), ?_⟩
  by_cases he : nxt ps w i < ps.length
  · have h6 : posP ps i + w - 1 < posP ps (nxt ps w i + 1) := nxtB_next ps _ _ he
    have h7 := posP_mono (ps := ps) (show nxt ps w i + 1 ≤ ps.length from he)
    exact ⟨_, lefts_at he, by unfold left; (clear he h5 hg h4 h3 h2 h1 hlt h hi hw2 hw; omega)⟩
  · have e : nxt ps w i = ps.length := by lia
    rw [e]
    exact ⟨-99, lefts_end, by lia⟩
end Mine

namespace Mine
open PySem.Challenge

theorem intsPV_at {E : List Nat} {i : Nat} (h : i < E.length) : (intsPV E)[i]? = some (.int (E.getD i 0 : Nat)) := by
  unfold intsPV; rw [List.getElem?_map, getD_some h]; rfl
theorem zip_ints_at {E : List Nat} {i : Nat} {d : PV} {a b : Nat} (h : (zipD ((intsPV E).drop a |>.take b) ((intsPV E).drop 1))[i]? = some d) (ha : a = 0) : i < b ∧ i + 1 < E.length ∧ d = .tup [.int (E.getD i 0 : Nat), .int (E.getD (i + 1) 0 : Nat)] := by
  subst ha
  obtain ⟨x, y, h1, h2, rfl⟩ := zipD_get h
  rw [List.drop_zero] at h1
  have hb : i < b := by
    have := (List.getElem?_eq_some_iff.mp h1).1
    rw [List.length_take] at this; lia
  rw [List.getElem?_take_of_lt hb] at h1
  rw [List.getElem?_drop, Nat.add_comm 1] at h2
  have hl : i + 1 < E.length := by
    have := (List.getElem?_eq_some_iff.mp h2).1
    unfold intsPV at this; rwa [List.length_map] at this
  rw [intsPV_at hl] at h2
  rw [intsPV_at (by lia)] at h1
  cases h1; cases h2
  exact ⟨hb, hl, rfl⟩

section
variable {prog : Program} {w' : World} {h₀ : Heap} {k : Nat} {X : Addr → Prop} {q : Str} {f L : Addr} {cd : Value}
/-- the state of _law_due behind its second statement -/
noncomputable def dueSt (x : List Nat) (w s : Nat) (eol : List Nat) : List (Str × PV) :=
  [("more", .int (more (blk x) : Nat)), ("left", .list ((lefts (x.map pieceOf)).map .int)), ("eol", .str (S eol)), ("blank", .str (S (blankL x))), ("width", .int w), ("ends", .list (intsPV (s :: endsAt x w s))), ("codes", .list (strsPV (codesL x)))]
noncomputable abbrev dueFor : Stmt := (bodyAt 29).getD 2 (.Pass ⟨0, 0, 0, 0⟩)
theorem due_for (F : Below h₀) (hk : k ≤ 20) {x : List Nat} (hxl : x.length ≤ 300) {w s : Nat} {eol : List Nat} (hs : s ≤ x.length) (hw : 4 ≤ w) (hw2 : w ≤ 90) {ρ : List (Str × PV)} (h : Sub (dueSt x w s eol) ρ) :
    Ex1 (cxAtC prog w' h₀ X 29 q f L cd (k + 1)) ρ dueFor (.next (dueSt x w s eol) none) := by
  have hk1 : k + 1 ≤ 40 := by lia
  have e24 : sizeLine = 16777216 := rfl
  have hm : (x.map pieceOf).length = x.length := List.length_map ..
  have FO : FoldOk (x.map pieceOf) (blk x) w (s :: endsAt x w s) := foldOk hw _ _ (by lia) (by lia)
  obtain ⟨E, hE⟩ : ∃ E, E = s :: endsAt x w s := ⟨_, rfl⟩
  have hEl : E.length ≤ x.length + 4 := by
    rw [hE, List.length_cons]; unfold endsAt
    have key : ∀ n i, (endsE (x.map pieceOf) (blk x) w n i).length ≤ n := by
      intro n
      induction n with
      | zero => intro i; simp [endsE]
      | succ n ih => intro i; unfold endsE; split <;> simp; exact ih _
    have := key (x.length + 3) s; lia
  have hIl : (intsPV E).length = E.length := by unfold intsPV; rw [List.length_map]
  have h2 := FO.two
  unfold dueSt at h ⊢
  rw [← hE] at FO h2 h ⊢
  refine Ex1.for_ (ds := zipD ((intsPV E).drop 0 |>.take (E.length - 2)) ((intsPV E).drop 1)) (EvIt.zip (Ev.builtin F.zip rfl rfl rfl rfl rfl) (EvL.cons ?z1 (EvL.cons ?z2 EvL.nil rfl) rfl) rfl rfl) (fun _ => rfl) (fun _ => _) (fun _ => none) h rfl ?turn
  case z1 =>
    refine (Ev.sliceL (ds := intsPV E) (lo := none) (hi := some (-2)) (Ev.local_ (h _ _ rfl) rfl rfl rfl) EvP.none (EvP.some (Ev.neg Ev.int)) (by rw [hIl]; lia)).of_eq ?_
    have := cut_but (intsPV E) 2 (by lia)
    rw [show (-(2 : Nat) : Int) = -2 from rfl] at this
    rw [this, List.drop_zero, hIl]
  case z2 => exact (Ev.sliceL (ds := intsPV E) (lo := some ((1 : Nat) : Int)) (hi := none) (Ev.local_ (h _ _ rfl) rfl rfl rfl) (EvP.some Ev.int) EvP.none (by rw [hIl]; omega)).of_eq (by rw [cut_from])
  case turn =>
    intro i d hd X'
    obtain ⟨hi, hi2, rfl⟩ := zip_ints_at hd rfl
    refine ⟨_, AsOk.two (fun _ z => z) (StOk.local_ rfl (plainScope_fn rfl)) (StOk.local_ rfl (plainScope_fn rfl)), ?_⟩
    obtain ⟨st1, st2⟩ := FO.step i (by (clear hd hi2 h2 hIl hEl hE FO h hm e24 hk1 hw2 hw hs hxl hk F; omega))
    have hle := FO.le i (by lia)
    have hle1 := FO.le (i + 1) (by omega)
    obtain ⟨g1, g2, v, g3, g4⟩ := step_facts hw hw2 hle st1
    rw [← st2] at g1 g2 g3
    have hll : ((lefts (x.map pieceOf)).map PV.int).length = x.length + 2 := by unfold lefts; simp
    refine Goes.next (Ex.one (Ex1.if_ (b := false) (Ts.boolop (TsA.or_f ?t1 (TsA.or_f ?t2 (TsA.or_f ?t3 TsA.or_nil)))) (fun h => nomatch h) fun _ => Ex.nil)) (Sub.all fun x hx => ?sub)
    case t1 =>
      refine (Ts.cmp (a := .int ((left (x.map pieceOf) (E.getD i 0) : Nat) + (more (blk x) : Nat))) hk1 (Ev.bin hk1 (Ev.item (a := .list ((lefts (x.map pieceOf)).map .int)) (b := .int (E.getD i 0 : Nat)) (Ev.local_ rfl rfl rfl rfl) (Ev.local_ rfl rfl rfl rfl) (item_list_nat rfl (by rw [hll]; lia) (lefts_at hle)) fun _ _ => rfl) (Ev.local_ rfl rfl rfl rfl) bin_add) (Ev.local_ rfl rfl rfl rfl) cmp_le rfl).of (decide_eq_false (by lia))
    case t2 =>
      refine (Ts.cmp (a := .int ((left (x.map pieceOf) (E.getD i 0) : Nat) - (left (x.map pieceOf) (E.getD (i + 1) 0) : Nat))) hk1 (Ev.bin hk1 (Ev.item (a := .list ((lefts (x.map pieceOf)).map .int)) (b := .int (E.getD i 0 : Nat)) (Ev.local_ rfl rfl rfl rfl) (Ev.local_ rfl rfl rfl rfl) (item_list_nat rfl (by rw [hll]; omega) (lefts_at hle)) fun _ _ => rfl)
        (Ev.item (a := .list ((lefts (x.map pieceOf)).map .int)) (b := .int (E.getD (i + 1) 0 : Nat)) (Ev.local_ rfl rfl rfl rfl) (Ev.local_ rfl rfl rfl rfl) (item_list_nat rfl (by rw [hll]; omega) (lefts_at hle1)) fun _ _ => rfl) bin_sub) (Ev.local_ rfl rfl rfl rfl) cmp_ge rfl).of (decide_eq_false (by lia))
    case t3 =>
      refine (Ts.cmp (a := .int ((left (x.map pieceOf) (E.getD i 0) : Nat) - v)) hk1 (Ev.bin hk1 (Ev.item (a := .list ((lefts (x.map pieceOf)).map .int)) (b := .int (E.getD i 0 : Nat)) (Ev.local_ rfl rfl rfl rfl) (Ev.local_ rfl rfl rfl rfl) (item_list_nat rfl (by rw [hll]; omega) (lefts_at hle)) fun _ _ => rfl)
        (Ev.item (a := .list ((lefts (x.map pieceOf)).map .int)) (b := .int ((E.getD (i + 1) 0 + 1 : Nat) : Int)) (Ev.local_ rfl rfl rfl rfl) ?_ (item_list_nat rfl (by rw [hll]; omega) g3) fun _ _ => rfl) bin_sub) (Ev.local_ rfl rfl rfl rfl) cmp_lt rfl).of (decide_eq_false (by lia))
      exact (Ev.bin hk1 (Ev.local_ rfl rfl rfl rfl) Ev.int bin_add).of_eq (by congr 1)
    case sub =>
      simp only [List.mem_cons, List.not_mem_nil, or_false] at hx
      rcases hx with rfl | rfl | rfl | rfl | rfl | rfl | rfl <;> rfl

/-- the rows' codes -/
noncomputable def rowPV (l : List (Nat × Bool)) : PV := .list (strsPV (l.map pce))
theorem due_rows (F : Below h₀) (hk : k ≤ 20) {x : List Nat} (hxl : x.length ≤ 300) {w s : Nat} {eol : List Nat} (hs : s ≤ x.length) (hw : 4 ≤ w) (hw2 : w ≤ 90) :
    Ex1 (cxAtC prog w' h₀ X 29 q f L cd (k + 1)) (dueSt x w s eol) ((bodyAt 29).getD 4 (.Pass ⟨0, 0, 0, 0⟩)) (.next (("rows", .list ((rowsU (x.map pieceOf) (blk x) w (x.length + 3) s).map rowPV)) :: dueSt x w s eol) none) := by
  have hk1 : k + 1 ≤ 40 := by omega
  have e24 : sizeLine = 16777216 := rfl
  have hm : (x.map pieceOf).length = x.length := List.length_map ..
  obtain ⟨E, hE⟩ : ∃ E, E = s :: endsAt x w s := ⟨_, rfl⟩
  have hEl : E.length ≤ x.length + 4 := by
    rw [hE, List.length_cons]; unfold endsAt
    have key : ∀ n i, (endsE (x.map pieceOf) (blk x) w n i).length ≤ n := by
      intro n
      induction n with
      | zero => intro i; simp [endsE]
      | succ n ih => intro i; unfold endsE; split <;> simp; exact ih _
    have := key (x.length + 3) s; omega
  have hIl : (intsPV E).length = E.length := by unfold intsPV; rw [List.length_map]
  have hcl : (strsPV (codesL x)).length = x.length := by unfold strsPV codesL; rw [List.length_map, List.length_map]
  have hseg := segs_eq (ps := x.map pieceOf) (bl := blk x) hw (x.length + 3) s (by lia)
  have hres : (rowsU (x.map pieceOf) (blk x) w (x.length + 3) s).map rowPV = keepOnly (((E.zip (E.drop 1)).map fun p => PV.list (((strsPV (codesL x)).drop p.1).take (p.2 - p.1))).map some) := by
    rw [keepOnly_some, ← hseg, List.map_map, hE]
    refine List.map_congr_left fun p hp => ?_
    show rowPV _ = _
    unfold rowPV strsPV
    rw [codesL_eq, ← List.map_drop, ← List.map_take, ← List.map_drop, ← List.map_take]
  rw [hres]
  have hdE : dueSt x w s eol = ([("more", .int (more (blk x) : Nat)), ("left", .list ((lefts (x.map pieceOf)).map .int)), ("eol", .str (S eol)), ("blank", .str (S (blankL x))), ("width", .int w), ("ends", .list (intsPV E)), ("codes", .list (strsPV (codesL x)))] : List (Str × PV)) := by rw [hE]; rfl
  rw [hdE]
  refine Ex1.assignC rfl (CompOk.mk1 (ρf := [("codes", .list (strsPV (codesL x)))]) (cl := [("codes", L + 1)]) (ds := zipD ((intsPV E).drop 0 |>.take E.length) ((intsPV E).drop 1)) (EvIt.zip (Ev.builtin F.zip rfl rfl rfl rfl rfl) (EvL.cons ?z1 (EvL.cons ?z2 EvL.nil rfl) rfl) rfl rfl) rfl (by decide +kernel) (by decide +kernel) rfl (fun p hp => by rw [List.mem_singleton.mp hp]; rfl) (fun p hp => by rw [List.mem_singleton.mp hp]; exact ⟨rfl, rfl, rfl, rfl⟩) ?hlen ?hsz (fun _ => rfl) ?body) (StOk.local_ rfl (plainScope_fn rfl))
  case z1 => exact (Ev.local_ rfl rfl rfl rfl).of_eq (by rw [List.drop_zero, List.take_of_length_le (by rw [hIl]; lia)])
  case z2 => exact (Ev.sliceL (ds := intsPV E) (lo := some ((1 : Nat) : Int)) (hi := none) (Ev.local_ rfl rfl rfl rfl) (EvP.some Ev.int) EvP.none (by rw [hIl]; lia)).of_eq (by rw [cut_from])
  case hlen =>
    unfold zipD
    rw [List.length_map, List.length_map, List.length_zip, List.length_zipWith, List.length_drop, List.length_drop, List.length_take, List.length_drop, hIl]; lia
  case hsz =>
    unfold zipD
    rw [List.length_zipWith, List.length_drop, hIl]; (clear hdE hres hseg hcl hIl hE hm hk1 hw2 hw hs hk F; omega)
  case body =>
    intro i d r hd hr
    obtain ⟨_, hi2, rfl⟩ := zip_ints_at hd rfl
    rw [List.map_map, List.getElem?_map] at hr
    have hz : (E.zip (E.drop 1))[i]? = some (E.getD i 0, E.getD (i + 1) 0) := by
      rw [List.getElem?_zip_eq_some]
      exact ⟨getD_some (by omega), by rw [List.getElem?_drop, Nat.add_comm]; exact getD_some hi2⟩
    rw [hz] at hr
    have hr := Option.some.inj hr
    subst hr
    intro X' C
    refine ⟨_, AsOk.two (c := { cxAtC prog w' h₀ X 29 q f L cd (k + 1) with X := X', M := fun _ => False, ow := none, env := compEnvC _ _ C _ }) (fun b z => .inl (.inl z)) (StOk.loc rfl (plainScope_fn rfl)) (StOk.loc rfl (plainScope_fn rfl)), IfsOk.nil, fun g hg => ?_⟩
    cases hg
    exact (Ev.sliceL (ds := strsPV (codesL x)) (lo := some ((E.getD i 0 : Nat) : Int)) (hi := some ((E.getD (i + 1) 0 : Nat) : Int)) (Ev.cell rfl rfl rfl rfl) (EvP.some (Ev.local_ rfl rfl rfl rfl)) (EvP.some (Ev.local_ rfl rfl rfl rfl)) (by rw [hcl]; lia)).of_eq (by rw [cut_two])
end
end Mine

namespace Mine
open PySem.Challenge

theorem strsPV_S (l : List (List Nat)) : strsPV l = (l.map S).map PV.str := by unfold strsPV; rw [List.map_map]; rfl
theorem cmp_neS2 {a b : List Nat} (h : a ≠ b) : (S a != S b) = true := by rw [bne_iff_ne]; exact fun e => h (S_inj e)
section
variable {prog : Program} {w' : World} {h₀ : Heap} {k : Nat} {X : Addr → Prop} {q : Str} {f L : Addr} {cd : Value}
/-- the last statement of _law_due -/
theorem due_end (F : Below h₀) (hk : k ≤ 20) {eol : List Nat} (heol : eol.length ≤ 2) {rs : List (List (Nat × Bool))} (hrl : rs.length ≤ 304) (hr : ∀ r ∈ rs, r.length ≤ 300) {ρ : List (Str × PV)} (h1 : ρ.lookup (Str.ofString "rows") = some (.list (rs.map rowPV))) (h2 : ρ.lookup (Str.ofString "eol") = some (.str (S eol))) :
    Ex (cxAtC prog w' h₀ X 29 q f L cd (k + 1)) ρ ((bodyAt 29).drop 6) (.ret (.str (S (joinL (61 :: eol) (rs.map flatP))))) := by
  have hk1 : k + 1 ≤ 40 := by lia
  have e24 : sizeLine = 16777216 := rfl
  have hfl : ∀ r ∈ rs, (flatP r).length ≤ 900 := fun r h => by have := flatP_len r; have := hr r h; lia
  have hjk : JoinOk (S (61 :: eol)) ((rs.map flatP).map S) = true := by
    refine joinOk_of ?_
    rw [List.length_map, List.length_map, S_length, List.length_cons]
    have key : ∀ l : List (List (Nat × Bool)), (∀ r ∈ l, (flatP r).length ≤ 900) → (((l.map flatP).map S).map (·.length)).sum ≤ l.length * 900 := by
      intro l
      induction l with
      | nil => intro _; simp
      | cons r l ih =>
        intro h
        have h1 := ih fun r hr => h r (List.mem_cons_of_mem _ hr)
        have h2 := h r (List.mem_cons_self ..)
        rw [List.map_cons, List.map_cons, List.map_cons, List.sum_cons, S_length, List.length_cons]; lia
    have := key rs hfl
    have h3 : rs.length * (eol.length + 1) ≤ rs.length * 3 := Nat.mul_le_mul_left _ (by lia)
    lia
  refine Ex.ret (Ex1.return_ ((Ev.methS (x := S (61 :: eol)) (ds := [.list (((rs.map flatP).map S).map .str)]) ?sep (EvL.cons ?comp EvL.nil rfl) PySem.F.slot_str_join PySem.F.type_str_join (call_join hjk) rfl rfl rfl (.inr ⟨_, _, rfl⟩)).of_eq (by rw [join_S])))
  case sep => exact (Ev.bin hk1 (Ev.str.of_eq (show PV.str (Str.ofString "=") = .str (S [61]) from rfl)) (Ev.local_ h2 rfl rfl rfl) (bin_addS (by rw [S_length, S_length, List.length_singleton]; lia))).of_eq (by rw [S_append]; rfl)
  case comp =>
    have hres : (((rs.map flatP).map S).map PV.str) = keepOnly ((rs.map fun r => PV.str (S (flatP r))).map some) := by rw [keepOnly_some, List.map_map, List.map_map]; rfl
    rw [hres]
    refine Ev.comp (CompOk.mk1 (ρf := []) (cl := []) (ds := rs.map rowPV) (EvIt.list (.name _ _) (Ev.local_ h1 rfl rfl rfl)) rfl (by decide +kernel) (by decide +kernel) rfl (fun p hp => by simp at hp) (fun p hp => by simp at hp) (by simp) (by rw [List.length_map]; lia) (fun _ => rfl) ?_)
    intro i d r hd hr'
    rw [List.getElem?_map] at hd
    obtain ⟨l, hl, rfl⟩ := Option.map_eq_some_iff.mp hd
    rw [List.map_map, List.getElem?_map, hl] at hr'
    have hr' := Option.some.inj hr'
    subst hr'
    intro X' C
    refine ⟨_, AsOk.name (StOk.loc rfl (plainScope_fn rfl)), IfsOk.nil, fun g hg => ?_⟩
    cases hg
    have hll := hr l (List.mem_of_getElem? hl)
    refine (Ev.methS (x := S []) (ds := [.list (((l.map pce).map S).map .str)]) (Ev.str.of_eq rfl) (EvL.cons ((Ev.local_ (d := rowPV l) rfl rfl rfl rfl).of_eq (by unfold rowPV; rw [strsPV_S])) EvL.nil rfl) PySem.F.slot_str_join PySem.F.type_str_join (call_join (joinOk_of ?_)) rfl rfl rfl (.inr ⟨_, _, rfl⟩)).of_eq (by rw [join_S, joinL_nil]; rfl)
    rw [List.length_map, List.length_map, S_length]
    have key : ∀ l : List (Nat × Bool), (((l.map pce).map S).map (·.length)).sum ≤ l.length * 3 := by
      intro l
      induction l with
      | nil => simp
      | cons r l ih =>
        have := pce_len r
        rw [List.map_cons, List.map_cons, List.map_cons, List.sum_cons, S_length, List.length_cons]
        split at this <;> lia
    have := key l
    simp only [List.length_nil, Nat.mul_zero]; lia

theorem five_of {α : Type} {l : List α} (h : l.length = 5) : ∃ a b c d e, l = [a, b, c, d, e] := by
  rcases l with _ | ⟨a, _ | ⟨b, _ | ⟨c, _ | ⟨d, _ | ⟨e, _ | ⟨f, l⟩⟩⟩⟩⟩⟩
  iterate 5 (cases h)
  · exact ⟨_, _, _, _, _, rfl⟩
  · exact absurd h (by simp)
theorem ok_law_due (F : Fns h₀) {f : Addr} {fd : FuncData} (H : FnAt h₀ 29 f fd .none .none) (hk : k ≤ 16) {x : List Nat} {w s : Nat} {eol : List Nat} (hs : s ≤ x.length) (hxl : x.length ≤ 300) (hw : 4 ≤ w) (hw2 : w ≤ 90) (heol : isEol eol) :
    CallOk prog w' h₀ k (.ref f) [.list (strsPV (codesL x)), .list (intsPV (s :: endsAt x w s)), .int w, .str (S (blankL x)), .str (S eol)] (.str (S (joinL eol ((rowsAt x w s).map rl)))) := by
  have hk1 : k + 1 ≤ 40 := by lia
  have e24 : sizeLine = 16777216 := rfl
  have hm : (x.map pieceOf).length = x.length := List.length_map ..
  have he2 : eol.length ≤ 2 := by rcases heol with rfl | rfl <;> decide
  have hcl : (strsPV (codesL x)).length = x.length := by unfold strsPV codesL; rw [List.length_map, List.length_map]
  have FO : FoldOk (x.map pieceOf) (blk x) w (s :: endsAt x w s) := foldOk hw _ _ (by lia) (by lia)
  have hll : ((lefts (x.map pieceOf)).map PV.int).length = x.length + 2 := by unfold lefts; simp
  refine CallOk.fnC (xs := ["codes", "ends", "width", "blank", "eol"]) (by lia) H rfl rfl rfl rfl (fun fd' h1 h2 vs hv => ?_) ?_ fun X q L cd => ?_
  · obtain ⟨v1, v2, v3, v4, v5, rfl⟩ := five_of hv
    unfold bindArgs; rw [h1, h2]; rfl
  · intro x hx
    simp only [List.mem_cons, List.not_mem_nil, or_false] at hx
    rcases hx with rfl | rfl | rfl | rfl | rfl
    · exact .inr ⟨rfl, fun n => rfl⟩
    all_goals exact .inl rfl
  · obtain ⟨e, pos, t, b, rest, hb, hleft⟩ := due_left (prog := prog) (w' := w') (X := X) (q := q) (f := f) (L := L) (cd := cd) F.toBelow (k := k) (by lia) hxl (ρ := ((["codes", "ends", "width", "blank", "eol"] : List Str).zip [PV.list (strsPV (codesL x)), .list (intsPV (s :: endsAt x w s)), .int w, .str (S (blankL x)), .str (S eol)]).reverse) rfl
    have hb0 : bodyAt 29 = (bodyAt 29).getD 0 (.Pass ⟨0, 0, 0, 0⟩) :: (bodyAt 29).getD 1 (.Pass ⟨0, 0, 0, 0⟩) :: (bodyAt 29).getD 2 (.Pass ⟨0, 0, 0, 0⟩) :: (bodyAt 29).getD 3 (.Pass ⟨0, 0, 0, 0⟩) :: (bodyAt 29).getD 4 (.Pass ⟨0, 0, 0, 0⟩) :: (bodyAt 29).getD 5 (.Pass ⟨0, 0, 0, 0⟩) :: (bodyAt 29).drop 6 := rfl
    have hh : (bodyAt 29).getD 0 (.Pass ⟨0, 0, 0, 0⟩) = .Assign [.Name (Str.ofString "left") t] e pos := by rw [hb]; rfl
    have hsw : swapsWith e (some (.Name (Str.ofString "left") t)) pos.line (envAtC 29 q f L cd) = pure false := by
      have h0 : ∃ e' pos' t', (bodyAt 29).getD 0 (.Pass ⟨0, 0, 0, 0⟩) = .Assign [.Name (Str.ofString "left") t'] e' pos' ∧ swapsWith e' (some (.Name (Str.ofString "left") t')) pos'.line (envAtC 29 q f L cd) = pure false := ⟨_, _, _, rfl, rfl⟩
      obtain ⟨e', pos', t', h1, h2⟩ := h0
      rw [hh] at h1
      injection h1 with h1 h3 h4
      injection h1 with h1
      injection h1 with h1 h5
      subst h3 h4 h5
      exact h2
    rw [hb0, hh]
    refine Ex.seq (Ex1.assign hleft (StOk.local_ rfl (plainScope_fn rfl)) hsw) ?_
    refine Ex.seq (Ex1.assign (d := .int (more (blk x) : Nat)) ?more (StOk.local_ rfl (plainScope_fn rfl)) rfl) ?_
    case more =>
      have hcond : (S (blankL x) != Str.ofString "") = blk x := by
        cases hb : blk x with
        | false => rw [blankL_no hb]; decide +kernel
        | true =>
          have : ∃ c, x.getLast? = some c := by
            cases hc : x.getLast? with
            | none => unfold blk at hb; rw [hc] at hb; cases hb
            | some c => exact ⟨c, rfl⟩
          obtain ⟨c, hc⟩ := this
          rw [blankL_of hc, hb]
          exact cmp_neS2 (b := []) (by unfold quoteL; simp)
      refine (ifexp_val (d1 := .int 2) (d2 := .int 0) (x := blk x) ((Ts.cmp hk1 (Ev.local_ rfl rfl rfl rfl) Ev.str cmp_neS rfl).of hcond) (fun _ => Ev.int) fun _ => Ev.int).of_eq ?_
      unfold more; cases blk x <;> rfl
    refine Ex.seq (due_for F.toBelow (by omega) hxl hs hw hw2 (Sub.refl _)) ?_
    refine Ex.seq (ρ' := dueSt x w s eol) ?chk ?_
    case chk =>
      have h2 := FO.two
      have f1 := FO.fin.1
      have f2 := FO.fin.2
      have hle := FO.le ((s :: endsAt x w s).length - 2) (by (clear f2 f1 hsw hh hb0 hleft hb hll FO hcl he2 hm e24 hk1 heol hw2 hw hxl hs hk H F; omega))
      have hil : (intsPV (s :: endsAt x w s)).length = (s :: endsAt x w s).length := by unfold intsPV; rw [List.length_map]
      have hlast : ((s :: endsAt x w s).length) < 2 ^ 63 := by
        rw [List.length_cons]; unfold endsAt
        have key : ∀ n i, (endsE (x.map pieceOf) (blk x) w n i).length ≤ n := by
          intro n
          induction n with
          | zero => intro i; simp [endsE]
          | succ n ih => intro i; unfold endsE; split <;> simp; exact ih _
        have := key (x.length + 3) s; lia
      refine Ex1.if_ (b := false) (Ts.boolop (TsA.or_f ?t1 (TsA.or_f ?t2 TsA.or_nil))) (fun h => nomatch h) fun _ => Ex.nil
      case t1 =>
        refine (Ts.cmp (a := .int ((left (x.map pieceOf) ((s :: endsAt x w s).getD ((s :: endsAt x w s).length - 2) 0) : Nat) + (more (blk x) : Nat))) hk1 (Ev.bin hk1 (Ev.item (a := .list ((lefts (x.map pieceOf)).map .int)) (b := .int ((s :: endsAt x w s).getD ((s :: endsAt x w s).length - 2) 0 : Nat)) (Ev.local_ rfl rfl rfl rfl) ?_ (item_list_nat rfl (by rw [hll]; lia) (lefts_at hle)) fun _ _ => rfl) (Ev.local_ rfl rfl rfl rfl) bin_add) (Ev.local_ rfl rfl rfl rfl) cmp_gt rfl).of (decide_eq_false (by lia))
        exact Ev.item (a := .list (intsPV (s :: endsAt x w s))) (b := .int (-2)) (Ev.local_ rfl rfl rfl rfl) (Ev.neg Ev.int) (item_list_neg (j := 2) rfl (by decide) (by rw [hil]; omega) (by rw [hil]; exact hlast) (by rw [hil]; exact intsPV_at (by (clear hlast hil hle f2 f1 hsw hh hb0 hleft hb hll FO hcl he2 hm e24 hk1 heol hw2 hw hxl hs hk H F; omega)))) fun _ _ => rfl
      case t2 =>
        refine (Ts.cmp (a := .int ((s :: endsAt x w s).getD ((s :: endsAt x w s).length - 1) 0 : Nat)) (b := .int (x.length : Nat)) hk1 ?_ ?_ cmp_ne rfl).of (by rw [f2, hm]; simp)
        · exact Ev.item (a := .list (intsPV (s :: endsAt x w s))) (b := .int (-1)) (Ev.local_ rfl rfl rfl rfl) (Ev.neg Ev.int) (item_list_neg (j := 1) rfl (by decide) (by rw [hil]; lia) (by rw [hil]; exact hlast) (by rw [hil]; exact intsPV_at (by lia))) fun _ _ => rfl
        · have := call_lenL (prog := prog) (w := w') (h₀ := h₀) (k := k + 1) (ds := strsPV (codesL x)) (by rw [hcl]; lia)
          rw [hcl] at this
          exact Ev.callB (ds := [.list (strsPV (codesL x))]) (Ev.builtin F.len rfl rfl rfl rfl rfl) (EvL.cons (Ev.cell rfl rfl rfl rfl) EvL.nil rfl) this rfl rfl
    refine Ex.seq (due_rows F.toBelow (by omega) hxl hs hw hw2) ?_
    obtain ⟨init, e0, he0, hU, hE⟩ := rowsU_split (ps := x.map pieceOf) (bl := blk x) hw (x.length + 3) s (by lia) (by lia)
    have hjs := join_soft (ps := x.map pieceOf) (bl := blk x) (eol := eol) hw (x.length + 3) s (by lia) (by (clear hE hU he0 hsw hh hb0 hleft hb hll FO hcl he2 e24 hk1 heol hw2 hw hxl hs hk H F; omega))
    have hmm : (rowsE (x.map pieceOf) (blk x) w (x.length + 3) s).map (fun r => flatP r.1) = (init ++ [escLast (blk x) ((x.map pieceOf).drop e0)]).map flatP := by
      rw [← hE, List.map_map]; rfl
    have hfin : joinL eol ((rowsAt x w s).map rl) = joinL (61 :: eol) ((init ++ [escLast (blk x) ((x.map pieceOf).drop e0)]).map flatP) := by
      unfold rowsAt; rw [← hjs, hmm]
    have hUl : (rowsU (x.map pieceOf) (blk x) w (x.length + 3) s).length ≤ x.length + 3 := by
      have key : ∀ n i, (rowsU (x.map pieceOf) (blk x) w n i).length ≤ n := by
        intro n
        induction n with
        | zero => intro i; simp [rowsU]
        | succ n ih => intro i; unfold rowsU; split <;> simp; exact ih _
      exact key _ _
    rw [hU, List.length_append, List.length_singleton] at hUl
    have hrl : ∀ r ∈ init ++ [escLast (blk x) ((x.map pieceOf).drop e0)], r.length ≤ 300 := by
      intro r hr
      rw [← hE] at hr
      obtain ⟨r', hr', rfl⟩ := List.mem_map.mp hr
      have key : ∀ n i, ∀ r ∈ rowsE (x.map pieceOf) (blk x) w n i, r.1.length ≤ x.length := by
        intro n
        induction n with
        | zero => intro i r hr; simp [rowsE] at hr
        | succ n ih =>
          intro i r hr
          unfold rowsE at hr
          split at hr
          · rw [List.mem_singleton.mp hr]
            show (escLast _ _).length ≤ _
            rw [escLast_len, List.length_drop, hm]; (clear hr ih hr' hUl hfin hmm hjs hE hU he0 hsw hh hb0 hleft hb hll FO hcl he2 hm e24 hk1 heol hw2 hw hxl hs hk H F; omega)
          · rcases List.mem_cons.mp hr with rfl | hr
            · show (List.take _ _).length ≤ _
              rw [List.length_take, List.length_drop, hm]; lia
            · exact ih _ _ hr
      have := key _ _ r' hr'; lia
    rw [hfin, hU]
    have hrows : (((init ++ [(x.map pieceOf).drop e0]).map rowPV).length : Nat) = init.length + 1 := by simp
    have hlastrow : ((init ++ [(x.map pieceOf).drop e0]).map rowPV)[((init ++ [(x.map pieceOf).drop e0]).map rowPV).length - 1]? = some (rowPV ((x.map pieceOf).drop e0)) := by
      rw [hrows, Nat.add_sub_cancel, List.getElem?_map, List.getElem?_append_right (Nat.le_refl _), Nat.sub_self]; rfl
    have hneg : ∀ {ρ : List (Str × PV)}, ρ.lookup (Str.ofString "rows") = some (.list ((init ++ [(x.map pieceOf).drop e0]).map rowPV)) → ∀ p1 p2 p3 p4 kk, Ev (cxAtC prog w' h₀ X 29 q f L cd (k + 1)) ρ (.Subscript (.Name (Str.ofString "rows") p1) (.UnaryOp .USub (.Constant (.int 1) kk p2) p3) p4) (rowPV ((x.map pieceOf).drop e0)) := fun h p1 p2 p3 p4 kk =>
      Ev.item (a := .list ((init ++ [(x.map pieceOf).drop e0]).map rowPV)) (b := .int (-1)) (Ev.local_ h rfl rfl rfl) (Ev.neg Ev.int) (item_list_neg (j := 1) rfl (by decide) (by lia) (by lia) hlastrow) fun _ _ => rfl
    by_cases hcond : blk x = true ∧ (x.map pieceOf).drop e0 ≠ []
    · obtain ⟨hbt, hne⟩ := hcond
      have hx : ∃ c, x.getLast? = some c := by
        cases hc : x.getLast? with
        | none => unfold blk at hbt; rw [hc] at hbt; cases hbt
        | some c => exact ⟨c, rfl⟩
      obtain ⟨c, hc⟩ := hx
      have hbl : S (blankL x) != Str.ofString "" := by
        rw [blankL_of hc, hbt]
        exact cmp_neS2 (b := []) (by unfold quoteL; simp)
      have hesc := esc_codes (x := x) (e := e0) hbt hne
      have hnew : (init ++ [escLast (blk x) ((x.map pieceOf).drop e0)]).map rowPV = (init.map rowPV) ++ [.list ((strsPV (((x.map pieceOf).drop e0).map pce)).dropLast ++ [.str (S (blankL x))])] := by
        rw [List.map_append, hbt]
        congr 1
        show [rowPV _] = _
        unfold rowPV
        rw [hesc]
        unfold strsPV
        rw [List.map_append, List.map_dropLast]; rfl
      refine Ex.seq (Ex1.if_ (b := true) (Ts.boolop (TsA.and_t ((Ts.cmp hk1 (Ev.local_ rfl rfl rfl rfl) Ev.str cmp_neS rfl).of hbl) (TsA.and_t ((Ts.cmp hk1 (hneg rfl _ _ _ _ _) (Ev.list (ds := []) EvL.nil (by decide)) cmp_neNil rfl).of ?ne) TsA.and_nil))) (fun _ => Ex.one (Ex1.assign (d := .list ((init ++ [escLast (blk x) ((x.map pieceOf).drop e0)]).map rowPV)) ?val (StOk.local_ rfl (plainScope_fn rfl)) rfl)) fun h => nomatch h) (due_end F.toBelow (by lia) he2 (by simp; lia) hrl rfl rfl)
      case ne =>
        unfold strsPV
        cases hz : (x.map pieceOf).drop e0 with
        | nil => exact absurd hz hne
        | cons a l => rfl
      case val =>
        rw [hnew]
        refine Ev.bin (a := .list (init.map rowPV)) (b := .list [.list ((strsPV (((x.map pieceOf).drop e0).map pce)).dropLast ++ [.str (S (blankL x))])]) hk1 ?_ (Ev.list (EvL.cons ?_ EvL.nil rfl) (show 1 ≤ sizeLine by decide)) (bin_addL (by simp; lia))
        · refine (Ev.sliceL (ds := (init ++ [(x.map pieceOf).drop e0]).map rowPV) (lo := none) (hi := some (-1)) (Ev.local_ rfl rfl rfl rfl) EvP.none (EvP.some (Ev.neg Ev.int)) (by rw [hrows]; omega)).of_eq ?_
          have := cut_but ((init ++ [(x.map pieceOf).drop e0]).map rowPV) 1 (by lia)
          rw [show (-(1 : Nat) : Int) = -1 from rfl] at this
          rw [this, hrows]
          simp
        · have hl : (strsPV (((x.map pieceOf).drop e0).map pce)).length ≤ x.length := by
            unfold strsPV; rw [List.length_map, List.length_map, List.length_drop, hm]; lia
          refine Ev.bin (a := .list ((strsPV (((x.map pieceOf).drop e0).map pce)).dropLast)) (b := .list [.str (S (blankL x))]) hk1 ?_ (Ev.list (EvL.cons (Ev.local_ rfl rfl rfl rfl) EvL.nil rfl) (show 1 ≤ sizeLine by decide)) (bin_addL (by rw [List.length_dropLast]; simp only [List.length_singleton]; lia))
          refine (Ev.sliceL (ds := strsPV (((x.map pieceOf).drop e0).map pce)) (lo := none) (hi := some (-1)) (hneg rfl _ _ _ _ _) EvP.none (EvP.some (Ev.neg Ev.int)) (by lia)).of_eq ?_
          have := cut_but (strsPV (((x.map pieceOf).drop e0).map pce)) 1 (by omega)
          rw [show (-(1 : Nat) : Int) = -1 from rfl] at this
          rw [this, List.dropLast_eq_take]
    · have hsame : escLast (blk x) ((x.map pieceOf).drop e0) = (x.map pieceOf).drop e0 := by
        unfold escLast
        cases hb : blk x with
        | false => rfl
        | true =>
          have hz : (x.map pieceOf).drop e0 = [] := Classical.byContradiction fun z => hcond ⟨hb, z⟩
          rw [hz]; rfl
      rw [hsame] at hrl ⊢
      refine Ex.seq (Ex1.if_ (b := false) (Ts.boolop ?tt) (fun h => nomatch h) fun _ => Ex.nil) (due_end F.toBelow (by omega) he2 (by simp; omega) hrl rfl rfl)
      by_cases hb : blk x = true
      · have hz : (x.map pieceOf).drop e0 = [] := Classical.byContradiction fun z => hcond ⟨hb, z⟩
        have hx : ∃ c, x.getLast? = some c := by
          cases hc : x.getLast? with
          | none => unfold blk at hb; rw [hc] at hb; cases hb
          | some c => exact ⟨c, rfl⟩
        obtain ⟨c, hc⟩ := hx
        have hbl : S (blankL x) != Str.ofString "" := by
          rw [blankL_of hc, hb]
          exact cmp_neS2 (b := []) (by unfold quoteL; simp)
        exact TsA.and_t ((Ts.cmp hk1 (Ev.local_ rfl rfl rfl rfl) Ev.str cmp_neS rfl).of hbl) (TsA.and_f ((Ts.cmp hk1 (hneg rfl _ _ _ _ _) (Ev.list (ds := []) EvL.nil (by decide)) cmp_neNil rfl).of (by rw [hz]; rfl)))
      · have hb' : blk x = false := by simpa using hb
        exact TsA.and_f ((Ts.cmp hk1 (Ev.local_ rfl rfl rfl rfl) Ev.str cmp_neS rfl).of (by rw [blankL_no hb']; decide +kernel))
end
end Mine

namespace Mine
open PySem.Challenge

noncomputable abbrev cxL (prog : Program) (w : World) (h₀ : Heap) (X : Addr → Prop) (q : Str) (f L : Addr) (cd : Value) (k : Nat) : Cx := cxAtC prog w h₀ X 31 q f L cd k
noncomputable abbrev stL (i : Nat) : Stmt := (bodyAt 31).getD i (.Pass ⟨0, 0, 0, 0⟩)

noncomputable def numsI (sc : List Int) : List Int := (sc.take 60).map fun x => Int.fmod x 1000000
noncomputable def consts : List Int := [0, 1, 5, 3, 0, 2, 6, 0, 5, 4, 8, 58, 11, 27, 1, 43]
noncomputable def cellI (sc : List Int) (p : Nat) (f : Int) : Int := f + (cutBy (some (p : Int)) none 16 (numsI sc)).sum
noncomputable def cellsI (sc : List Int) : List Int := (List.range 16).map fun p => cellI sc p (consts.getD p 0)
noncomputable def cellsN (sc : List Int) : List Nat := (cellsI sc).map Int.toNat
theorem cutBy_map {α β : Type} (f : α → β) (lo hi : Option Int) (st : Int) (l : List α) : cutBy lo hi st (l.map f) = (cutBy lo hi st l).map f := by
  unfold cutBy
  rw [List.length_map, List.map_filterMap]
  congr 1
  funext i
  rw [List.getElem?_map]
theorem cutBy_sub {α : Type} (lo hi : Option Int) (st : Int) (l : List α) : ∀ a ∈ cutBy lo hi st l, a ∈ l := by
  intro a ha
  unfold cutBy at ha
  obtain ⟨i, _, hi⟩ := List.mem_filterMap.mp ha
  exact List.mem_of_getElem? hi
theorem numsI_nonneg (sc : List Int) : ∀ a ∈ numsI sc, 0 ≤ a := by
  intro a ha
  obtain ⟨x, _, rfl⟩ := List.mem_map.mp ha
  exact Int.fmod_nonneg_of_pos _ (by decide)
theorem sum_nonneg : ∀ l : List Int, (∀ a ∈ l, 0 ≤ a) → 0 ≤ l.sum
  | [], _ => by simp
  | a :: l, h => by
    rw [List.sum_cons]
    have := h a (List.mem_cons_self ..)
    have := sum_nonneg l fun b hb => h b (List.mem_cons_of_mem _ hb)
    lia
theorem consts_nonneg : ∀ p < 16, 0 ≤ consts.getD p 0 := by decide
theorem cells_eq (sc : List Int) : cellsI sc = (cellsN sc).map fun (n : Nat) => (n : Int) := by
  unfold cellsN
  rw [List.map_map]
  conv => lhs; rw [← List.map_id (cellsI sc)]
  refine List.map_congr_left fun c hc => ?_
  unfold cellsI at hc
  obtain ⟨p, hp, rfl⟩ := List.mem_map.mp hc
  have h1 := consts_nonneg p (List.mem_range.mp hp)
  have h2 := sum_nonneg _ fun a ha => numsI_nonneg sc a (cutBy_sub (some (p : Int)) none 16 _ a ha)
  show cellI sc p _ = ((cellI sc p _).toNat : Int)
  unfold cellI
  lia
theorem cellsN_len (sc : List Int) : (cellsN sc).length = 16 := by unfold cellsN cellsI; simp

noncomputable def oct1 (c : Nat) : Nat := [97, 61, 32, 233, 9, 98, 46, c / 8 % 256].getD (c % 8) 0
noncomputable def oct2 (n : Nat) : Nat := if n = 10 ∨ n = 13 then n + 1 else n
noncomputable def octs (sc : List Int) : List Nat := ((cellsN sc).take 10).map fun c => oct2 (oct1 c)
theorem oct1_lt (c : Nat) : oct1 c < 256 := by
  unfold oct1
  have h : c % 8 < 8 := Nat.mod_lt _ (by decide)
  generalize c % 8 = m at h
  rcases m with _ | _ | _ | _ | _ | _ | _ | _ | m
  iterate 7 (exact of_decide_eq_true rfl)
  · exact Nat.mod_lt _ (by decide)
  · exact absurd h (by omega)
theorem octs_ok (sc : List Int) : ∀ c ∈ octs sc, okC c := by
  intro c hc
  unfold octs at hc
  obtain ⟨d, _, rfl⟩ := List.mem_map.mp hc
  have := oct1_lt d
  unfold oct2 okC
  split <;> lia
theorem octs_len (sc : List Int) : (octs sc).length = 10 := by unfold octs; rw [List.length_map, List.length_take, cellsN_len]; rfl

section
variable {prog : Program} {w' : World} {h₀ : Heap} {k : Nat} {X : Addr → Prop} {q : Str} {f L : Addr} {cd : Value} {ρ : List (Str × PV)}

theorem fmodN' (a : Nat) (b : Nat) : Int.fmod (a : Int) (b : Int) = ((a % b : Nat) : Int) := fmodN a b
theorem EvL.consK {c : Cx} {ρ : List (Str × PV)} {es : List Expr} {ds : List PV} {i : Int} {kk : Nat} {p : Pos} (h : EvL c ρ es ds) : EvL c ρ (.Constant (.int i) kk p :: es) (.int i :: ds) := EvL.cons Ev.int h rfl
theorem se_list {es rest : List Expr} {p : Pos} {env : Env} : starEach (.List es p :: rest) env = (false, eval (.List es p) env) :: starEach rest env := rfl
theorem hp_list {es : List Expr} {p pos : Pos} {env : Env} : (backTo pos (starEach [.List es p] env)).any (·.1) = false := rfl
theorem law_0 (F : Below h₀) (hk : k ≤ 20) {sc : List Int} (hsc : sc.length ≤ 63) (h : ρ.lookup (Str.ofString "script") = some (.list (sc.map .int))) : Ex1 (cxL prog w' h₀ X q f L cd (k + 1)) ρ (stL 0) (.next (("numbers", .list ((numsI sc).map .int)) :: ρ) none) := by
  have hk1 : k + 1 ≤ 40 := by lia
  have e24 : sizeLine = 16777216 := rfl
  have hres : (numsI sc).map PV.int = keepOnly (((sc.take 60).map fun x => PV.int (Int.fmod x 1000000)).map some) := by rw [keepOnly_some]; unfold numsI; rw [List.map_map]; rfl
  rw [hres]
  refine Ex1.assign (Ev.comp (CompOk.mk1 (ρf := []) (cl := []) (ds := (sc.take 60).map .int) (EvIt.list (.name _ _) ((Ev.sliceL (ds := sc.map .int) (lo := none) (hi := some ((60 : Nat) : Int)) (Ev.local_ h rfl rfl rfl) EvP.none (EvP.some Ev.int) (by rw [List.length_map]; lia)).of_eq (by rw [cut_upto, List.map_take]))) rfl (by decide +kernel) (by decide +kernel) rfl (fun p hp => by simp at hp) (fun p hp => by simp at hp) (by simp) (by rw [List.length_map, List.length_take]; lia) (fun _ => rfl) ?_)) (StOk.cellC (n := L + 1) (i := 31) rfl rfl rfl rfl) rfl
  intro i d r hd hr
  rw [List.getElem?_map] at hd
  obtain ⟨l, hl, rfl⟩ := Option.map_eq_some_iff.mp hd
  rw [List.map_map, List.getElem?_map, hl] at hr
  have hr := Option.some.inj hr
  subst hr
  intro X' C
  refine ⟨_, AsOk.name (StOk.loc rfl (plainScope_fn rfl)), IfsOk.nil, fun g hg => ?_⟩
  cases hg
  refine Ev.bin (b := .int 1000000) hk1 (Ev.local_ rfl rfl rfl rfl) ?_ (bin_mod (by decide))
  exact (Ev.bin hk1 Ev.int Ev.int (bin_pow (by decide) (by decide))).of_eq rfl

theorem law_1 (F : Below h₀) (hk : k ≤ 20) {sc : List Int} (hsc : sc.length ≤ 63) (h : ρ.lookup (Str.ofString "numbers") = some (.list ((numsI sc).map .int))) : Ex1 (cxL prog w' h₀ X q f L cd (k + 1)) ρ (stL 1) (.next (("cells", .list (intsPV (cellsN sc))) :: ρ) none) := by
  have hk1 : k + 1 ≤ 40 := by omega
  have e24 : sizeLine = 16777216 := rfl
  have hnl : (numsI sc).length ≤ 60 := by unfold numsI; rw [List.length_map, List.length_take]; lia
  have hres : intsPV (cellsN sc) = keepOnly (((List.range 16).map fun p => PV.int (cellI sc p (consts.getD p 0))).map some) := by
    rw [keepOnly_some]
    have := congrArg (List.map PV.int) (cells_eq sc)
    unfold intsPV
    rw [List.map_map] at this
    show List.map (PV.int ∘ fun (n : Nat) => (n : Int)) _ = _
    rw [← this]
    unfold cellsI
    rw [List.map_map]; rfl
  rw [hres]
  refine Ex1.assignC rfl (CompOk.mk1 (ρf := [("numbers", .list ((numsI sc).map .int))]) (cl := [("numbers", L + 1)]) (ds := enumFrom' 0 (consts.map .int)) (EvIt.enum (ds := consts.map .int) (Ev.builtin F.enumerate rfl rfl rfl rfl rfl) ?lst se_list hp_list) rfl (by decide +kernel) (by decide +kernel) rfl (fun p hp => by rw [List.mem_singleton.mp hp]; rfl) (fun p hp => by rw [List.mem_singleton.mp hp]; exact ⟨h, rfl, rfl, rfl⟩) (by rw [enum_len]; rfl) (by rw [enum_len]; show 16 ≤ sizeLine; lia) (fun _ => rfl) ?_) (StOk.local_ rfl (plainScope_fn rfl))
  case lst =>
    with_reducible refine EvL.cons ?_ EvL.nil se_list
    with_reducible refine Ev.list ?_ ?_
    case refine_2 => exact (show 16 ≤ sizeLine by decide)
    show EvL _ _ _ [PV.int 0, .int 1, .int 5, .int 3, .int 0, .int 2, .int 6, .int 0, .int 5, .int 4, .int 8, .int 58, .int 11, .int 27, .int 1, .int 43]
    with_reducible exact EvL.consK (EvL.consK (EvL.consK (EvL.consK (EvL.consK (EvL.consK (EvL.consK (EvL.consK (EvL.consK (EvL.consK (EvL.consK (EvL.consK (EvL.consK (EvL.consK (EvL.consK (EvL.consK EvL.nil)))))))))))))))
  intro i d r hd hr
  obtain ⟨a, ha, rfl⟩ := enum_get hd
  have hi : i < 16 := by
    have := (List.getElem?_eq_some_iff.mp ha).1
    rw [List.length_map] at this; exact this
  have haa : a = .int (consts.getD i 0) := by
    rw [List.getElem?_map, List.getElem?_eq_getElem (by exact hi)] at ha
    have := Option.some.inj ha
    rw [List.getD_eq_getElem?_getD, List.getElem?_eq_getElem (by exact hi)]
    exact this.symm
  subst haa
  rw [List.map_map, List.getElem?_map, List.getElem?_range hi] at hr
  have hr := Option.some.inj hr
  subst hr
  intro X' C
  refine ⟨_, AsOk.two (c := { cxL prog w' h₀ X q f L cd (k + 1) with X := X', M := fun _ => False, ow := none, env := compEnvC _ _ C _ }) (fun b z => .inl (.inl z)) (StOk.loc rfl (plainScope_fn rfl)) (StOk.loc rfl (plainScope_fn rfl)), IfsOk.nil, fun g hg => ?_⟩
  cases hg
  refine Ev.bin (a := .int (consts.getD i 0)) (b := .int (cutBy (some (i : Int)) none 16 (numsI sc)).sum) hk1 (Ev.local_ rfl rfl rfl rfl) ?_ bin_add
  refine Ev.callB (ds := [.list ((cutBy (some (i : Int)) none 16 (numsI sc)).map .int)]) (Ev.builtin F.sum rfl rfl rfl rfl rfl) (EvL.cons ?_ EvL.nil rfl) call_sum rfl rfl
  refine (Ev.sliceBy (ds := (numsI sc).map .int) (lo := some (i : Int)) (hi := none) (st := 16) (Ev.cell rfl rfl rfl rfl) (EvP.some ((Ev.local_ rfl rfl rfl rfl).of_eq (by rw [Nat.zero_add]))) EvP.none Ev.int (by decide) (by rw [List.length_map]; lia)).of_eq (by rw [cutBy_map])
end
end Mine

namespace Mine
open PySem.Challenge

theorem intsPV_len (l : List Nat) : (intsPV l).length = l.length := List.length_map ..
theorem strsPV_len (l : List (List Nat)) : (strsPV l).length = l.length := List.length_map ..
theorem intsPV_get {l : List Nat} {i : Nat} {d : PV} (h : (intsPV l)[i]? = some d) : ∃ n, l[i]? = some n ∧ d = .int (n : Nat) := by
  unfold intsPV at h
  rw [List.getElem?_map] at h
  obtain ⟨n, hn, rfl⟩ := Option.map_eq_some_iff.mp h
  exact ⟨n, hn, rfl⟩
theorem strsPV_get {l : List (List Nat)} {i : Nat} {d : PV} (h : (strsPV l)[i]? = some d) : ∃ n, l[i]? = some n ∧ d = .str (S n) := by
  unfold strsPV at h
  rw [List.getElem?_map] at h
  obtain ⟨n, hn, rfl⟩ := Option.map_eq_some_iff.mp h
  exact ⟨n, hn, rfl⟩
theorem rs_get {α : Type} {l : List α} {g : α → PV} {i : Nat} {n : α} {r : Option PV} (hn : l[i]? = some n) (h : ((l.map g).map some)[i]? = some r) : r = some (g n) := by
  rw [List.map_map, List.getElem?_map, hn] at h
  exact (Option.some.inj h).symm
theorem keep_map {α : Type} {l : List α} {g : α → PV} : l.map g = keepOnly ((l.map g).map some) := (keepOnly_some _).symm

section
variable {c : Cx} {ρ : List (Str × PV)} {d : PV} {es : List Expr} {ds : List PV} {l r : Expr} {op : Operator} {p : Pos}
theorem EvL.consB (x : Ev c ρ (.BinOp l op r p) d) (h : EvL c ρ es ds) : EvL c ρ (.BinOp l op r p :: es) (d :: ds) := EvL.cons x h rfl
theorem EvL.consS {x : Str} {kk : Nat} (h : EvL c ρ es ds) : EvL c ρ (.Constant (.str x) kk p :: es) (.str x :: ds) := EvL.cons Ev.str h rfl
end
noncomputable def figL : List Nat := [48, 49, 50, 51, 52, 53, 54, 55, 56, 57, 65, 66, 67, 68, 69, 70]
theorem figL_at : ∀ n < 16, figL[n]? = some (fig n) := by decide
theorem oct_at (c : Nat) : ([.int 97, .int 61, .int 32, .int 233, .int 9, .int 98, .int 46, .int (c / 8 % 256 : Nat)] : List PV)[c % 8]? = some (.int (oct1 c : Nat)) := by
  unfold oct1
  have h : c % 8 < 8 := Nat.mod_lt _ (by decide)
  generalize c % 8 = m at h
  match m, h with
  | 0, _ | 1, _ | 2, _ | 3, _ | 4, _ | 5, _ | 6, _ | 7, _ => rfl
noncomputable def c10 (sc : List Int) : Nat := (cellsN sc).getD 10 0
noncomputable def eolL (sc : List Int) : List Nat := if c10 sc % 2 = 0 then [10] else [13, 10]
noncomputable def manyN (sc : List Int) : Nat := 3 + c10 sc / 2 % 3
theorem eolL_ok (sc : List Int) : isEol (eolL sc) := by unfold eolL isEol; split <;> simp
theorem manyN_ge (sc : List Int) : 3 ≤ manyN sc ∧ manyN sc ≤ 5 := by unfold manyN; lia

section
variable {prog : Program} {w' : World} {h₀ : Heap} {k : Nat} {X : Addr → Prop} {q : Str} {f L : Addr} {cd : Value} {ρ : List (Str × PV)}

theorem law_2 (F : Below h₀) (hk : k ≤ 20) {sc : List Int} (h : ρ.lookup (Str.ofString "cells") = some (.list (intsPV (cellsN sc)))) : Ex1 (cxL prog w' h₀ X q f L cd (k + 1)) ρ (stL 2) (.next (("octets", .list (intsPV (((cellsN sc).take 10).map oct1))) :: ρ) none) := by
  have hk1 : k + 1 ≤ 40 := by lia
  have e24 : sizeLine = 16777216 := rfl
  have hl := cellsN_len sc
  have hres : intsPV (((cellsN sc).take 10).map oct1) = keepOnly ((((cellsN sc).take 10).map fun c => PV.int (oct1 c : Nat)).map some) := by rw [← keep_map]; unfold intsPV; rw [List.map_map]; rfl
  rw [hres]
  refine Ex1.assignC rfl (CompOk.mk1 (ρf := []) (cl := []) (ds := intsPV ((cellsN sc).take 10)) (EvIt.list (.name _ _) ((Ev.sliceL (ds := intsPV (cellsN sc)) (lo := none) (hi := some ((10 : Nat) : Int)) (Ev.local_ h rfl rfl rfl) EvP.none (EvP.some Ev.int) (by rw [intsPV_len]; lia)).of_eq (by rw [cut_upto]; unfold intsPV; rw [List.map_take]))) rfl (by decide +kernel) (by decide +kernel) rfl (fun p hp => by simp at hp) (fun p hp => by simp at hp) (by simp [intsPV_len]) (by rw [intsPV_len, List.length_take]; lia) (fun _ => rfl) ?_) (StOk.local_ rfl (plainScope_fn rfl))
  intro i d r hd hr
  obtain ⟨n, hn, rfl⟩ := intsPV_get hd
  have := rs_get hn hr
  subst this
  intro X' C
  refine ⟨_, AsOk.name (StOk.loc rfl (plainScope_fn rfl)), IfsOk.nil, fun g hg => ?_⟩
  cases hg
  have it : ItemOk (.tup [.int 97, .int 61, .int 32, .int 233, .int 9, .int 98, .int 46, .int (n / 8 % 256 : Nat)]) (.int ((n % 8 : Nat) : Int)) (.int (oct1 n : Nat)) := item_tup_nat rfl (show 8 < 2 ^ 63 by decide) (oct_at n)
  with_reducible refine Ev.item ?tup ?ix it ?hs
  case hs => exact fun _ _ => rfl
  case tup =>
    with_reducible refine Ev.tuple ?_ ?_
    case refine_2 => exact (show 8 ≤ sizeLine by decide)
    with_reducible refine EvL.consK (EvL.consK (EvL.consK (EvL.consK (EvL.consK (EvL.consK (EvL.consK (EvL.consB ?_ EvL.nil)))))))
    refine (Ev.bin (a := .int ((n / 8 : Nat) : Int)) hk1 ?_ Ev.int (bin_mod (by decide))).of_eq (by rw [← fmodN]; rfl)
    exact (Ev.bin hk1 (Ev.local_ rfl rfl rfl rfl) Ev.int (bin_floordiv (by decide) (noPyS (by decide)))).of_eq (by rw [← fdivN]; rfl)
  case ix => exact (Ev.bin hk1 (Ev.local_ rfl rfl rfl rfl) Ev.int (bin_mod (by decide))).of_eq (by rw [← fmodN]; rfl)

theorem law_3 (F : Below h₀) (hk : k ≤ 20) {sc : List Int} (h : ρ.lookup (Str.ofString "octets") = some (.list (intsPV (((cellsN sc).take 10).map oct1)))) : Ex1 (cxL prog w' h₀ X q f L cd (k + 1)) ρ (stL 3) (.next (("octets", .list (intsPV (octs sc))) :: ρ) none) := by
  have hk1 : k + 1 ≤ 40 := by omega
  have e24 : sizeLine = 16777216 := rfl
  have hl := cellsN_len sc
  have hres : intsPV (octs sc) = keepOnly (((((cellsN sc).take 10).map oct1).map fun n => PV.int (oct2 n : Nat)).map some) := by rw [← keep_map]; unfold intsPV octs; rw [List.map_map, List.map_map]; rfl
  rw [hres]
  refine Ex1.assignC rfl (CompOk.mk1 (ρf := []) (cl := []) (ds := intsPV (((cellsN sc).take 10).map oct1)) (EvIt.list (.name _ _) (Ev.local_ h rfl rfl rfl)) rfl (by decide +kernel) (by decide +kernel) rfl (fun p hp => by simp at hp) (fun p hp => by simp at hp) (by simp [intsPV_len]) (by rw [intsPV_len, List.length_map, List.length_take]; omega) (fun _ => rfl) ?_) (StOk.local_ rfl (plainScope_fn rfl))
  intro i d r hd hr
  obtain ⟨n, hn, rfl⟩ := intsPV_get hd
  have := rs_get hn hr
  subst this
  intro X' C
  refine ⟨_, AsOk.name (StOk.loc rfl (plainScope_fn rfl)), IfsOk.nil, fun g hg => ?_⟩
  cases hg
  refine (ifexp_val (d1 := .int ((n : Int) + 1)) (d2 := .int (n : Nat)) (x := ([10, 13] : List Int).contains (n : Int)) (Ts.cmp (b := .tup (([10, 13] : List Int).map .int)) hk1 (Ev.local_ rfl rfl rfl rfl) (Ev.tuple ?tp (show 2 ≤ sizeLine by decide)) cmp_inTup rfl) (fun _ => Ev.bin hk1 (Ev.local_ rfl rfl rfl rfl) Ev.int bin_add) fun _ => Ev.local_ rfl rfl rfl rfl).of_eq ?_
  case tp =>
    show EvL _ _ _ [PV.int 10, PV.int 13]
    with_reducible exact EvL.consK (EvL.consK EvL.nil)
  · unfold oct2
    by_cases hh : n = 10 ∨ n = 13
    · rw [if_pos hh]
      have : ([10, 13] : List Int).contains (n : Int) = true := by rcases hh with rfl | rfl <;> rfl
      rw [this]; rfl
    · rw [if_neg hh]
      have : ([10, 13] : List Int).contains (n : Int) = false := by simp; lia
      rw [this]; rfl

theorem law_4 (F : Below h₀) (hk : k ≤ 20) {x : List Nat} (hx : ∀ c ∈ x, c < 256) (hl : x.length ≤ 100) (h : ρ.lookup (Str.ofString "octets") = some (.list (intsPV x))) : Ex1 (cxL prog w' h₀ X q f L cd (k + 1)) ρ (stL 4) (.next (("text", .str (S x)) :: ρ) none) := by
  have hk1 : k + 1 ≤ 40 := by (clear h hl hx F; omega)
  have e24 : sizeLine = 16777216 := rfl
  have hfl : ∀ l : List Nat, (l.map fun c => [c]).flatten = l := fun l => by induction l with | nil => rfl | cons a l ih => rw [List.map_cons, List.flatten_cons, ih]; rfl
  refine Ex1.assign ((Ev.methS (x := S []) (ds := [.list (((x.map fun c => [c]).map S).map .str)]) (Ev.str.of_eq rfl) (EvL.cons ?comp EvL.nil rfl) PySem.F.slot_str_join PySem.F.type_str_join (call_join (joinOk_of ?_)) rfl rfl rfl (.inr ⟨_, _, rfl⟩)).of_eq (by rw [join_S, joinL_nil, hfl])) (StOk.cellC (n := L + 1) (i := 31) rfl rfl rfl rfl) rfl
  case comp =>
    have hres : ((x.map fun c => [c]).map S).map PV.str = keepOnly ((x.map fun c => PV.str (S [c])).map some) := by rw [← keep_map, List.map_map, List.map_map]; rfl
    rw [hres]
    refine Ev.comp (CompOk.mk1 (ρf := []) (cl := []) (ds := intsPV x) (EvIt.list (.name _ _) (Ev.local_ h rfl rfl rfl)) rfl (by decide +kernel) (by decide +kernel) rfl (fun p hp => by simp at hp) (fun p hp => by simp at hp) (by simp [intsPV_len]) (by rw [intsPV_len]; lia) (fun _ => rfl) ?_)
    intro i d r hd hr
    obtain ⟨n, hn, rfl⟩ := intsPV_get hd
    have := rs_get hn hr
    subst this
    intro X' C
    refine ⟨_, AsOk.name (StOk.loc rfl (plainScope_fn rfl)), IfsOk.nil, fun g hg => ?_⟩
    cases hg
    exact Ev.callB (ds := [.int (n : Nat)]) (Ev.builtin F.chr rfl rfl rfl rfl rfl) (EvL.cons (Ev.local_ rfl rfl rfl rfl) EvL.nil rfl) (call_chr rfl (by have := hx n (List.mem_of_getElem? hn); lia)) rfl rfl
  · rw [List.length_map, List.length_map, S_length]
    have key : ∀ l : List Nat, (((l.map fun c => [c]).map S).map (·.length)).sum = l.length := by
      intro l
      induction l with
      | nil => rfl
      | cons r l ih => rw [List.map_cons, List.map_cons, List.map_cons, List.sum_cons, S_length, ih, List.length_cons, List.length_cons]; simp only [List.length_nil]; lia
    rw [key]
    simp only [List.length_nil, Nat.mul_zero]; lia

theorem law_5 : Ex1 (cxL prog w' h₀ X q f L cd (k + 1)) ρ (stL 5) (.next (("figures", .str (S figL)) :: ρ) none) :=
  Ex1.assign (Ev.str.of_eq (show _ = PV.str (S figL) from rfl)) (StOk.cellC (n := L + 1) (i := 31) rfl rfl rfl rfl) rfl

theorem law_6 (F : Below h₀) (hk : k ≤ 20) {x : List Nat} (hx : ∀ c ∈ x, c < 256) (hl : x.length ≤ 100) (h : ρ.lookup (Str.ofString "octets") = some (.list (intsPV x))) (hf : ρ.lookup (Str.ofString "figures") = some (.str (S figL))) : Ex1 (cxL prog w' h₀ X q f L cd (k + 1)) ρ (stL 6) (.next (("escapes", .list (strsPV (x.map quoteL))) :: ρ) none) := by
  have hk1 : k + 1 ≤ 40 := by omega
  have e24 : sizeLine = 16777216 := rfl
  have hres : strsPV (x.map quoteL) = keepOnly ((x.map fun c => PV.str (S (quoteL c))).map some) := by rw [← keep_map]; unfold strsPV; rw [List.map_map]; rfl
  rw [hres]
  refine Ex1.assignC rfl (CompOk.mk1 (ρf := [("figures", .str (S figL))]) (cl := [("figures", L + 3)]) (ds := intsPV x) (EvIt.list (.name _ _) (Ev.local_ h rfl rfl rfl)) rfl (by decide +kernel) (by decide +kernel) rfl (fun p hp => by rw [List.mem_singleton.mp hp]; rfl) (fun p hp => by rw [List.mem_singleton.mp hp]; exact ⟨hf, rfl, rfl, rfl⟩) (by simp [intsPV_len]) (by rw [intsPV_len]; omega) (fun _ => rfl) ?_) (StOk.local_ rfl (plainScope_fn rfl))
  intro i d r hd hr
  obtain ⟨n, hn, rfl⟩ := intsPV_get hd
  have := rs_get hn hr
  subst this
  have hn256 := hx n (List.mem_of_getElem? hn)
  intro X' C
  refine ⟨_, AsOk.name (StOk.loc rfl (plainScope_fn rfl)), IfsOk.nil, fun g hg => ?_⟩
  cases hg
  refine (Ev.bin (a := .str (S [61, fig (n / 16)])) (b := .str (S [fig (n % 16)])) hk1 ((Ev.bin (a := .str (S [61])) (b := .str (S [fig (n / 16)])) hk1 (Ev.str.of_eq rfl) ?i1 (bin_addS (by rw [S_length, S_length]; show 2 ≤ sizeLine; lia))).of_eq (by rw [S_append]; rfl)) ?i2 (bin_addS (by rw [S_length, S_length]; show 3 ≤ sizeLine; lia))).of_eq (by rw [S_append]; rfl)
  case i1 =>
    refine Ev.item (a := .str (S figL)) (b := .int ((n / 16 : Nat) : Int)) (Ev.cell rfl rfl rfl rfl) ?_ (item_str_nat rfl (show 16 < 2 ^ 63 by decide) (figL_at _ (by lia))) fun _ _ => rfl
    exact (Ev.bin hk1 (Ev.local_ rfl rfl rfl rfl) Ev.int (bin_floordiv (by decide) (noPyS (by decide)))).of_eq (by rw [← fdivN]; rfl)
  case i2 =>
    refine Ev.item (a := .str (S figL)) (b := .int ((n % 16 : Nat) : Int)) (Ev.cell rfl rfl rfl rfl) ?_ (item_str_nat rfl (show 16 < 2 ^ 63 by decide) (figL_at _ (by lia))) fun _ _ => rfl
    exact (Ev.bin hk1 (Ev.local_ rfl rfl rfl rfl) Ev.int (bin_mod (by decide))).of_eq (by rw [← fmodN]; rfl)
end
end Mine

namespace Mine
open PySem.Challenge

/-- natural numbers in order -/
noncomputable def sN (l : List Nat) : List Nat := (sortI (l.map fun (n : Nat) => (n : Int))).map Int.toNat
theorem sN_eq (l : List Nat) : sortI (l.map fun (n : Nat) => (n : Int)) = (sN l).map fun (n : Nat) => (n : Int) := by
  unfold sN
  rw [List.map_map]
  conv => lhs; rw [← List.map_id (sortI _)]
  refine List.map_congr_left fun c hc => ?_
  have := (sortI_perm (l.map fun (n : Nat) => (n : Int))).mem_iff.mp hc
  obtain ⟨n, _, rfl⟩ := List.mem_map.mp this
  rfl
theorem sN_len (l : List Nat) : (sN l).length = l.length := by unfold sN; rw [List.length_map, sortI_len, List.length_map]
theorem sN_mem {l : List Nat} {n : Nat} (h : n ∈ sN l) : n ∈ l := by
  unfold sN at h
  obtain ⟨i, hi, rfl⟩ := List.mem_map.mp h
  have := (sortI_perm (l.map fun (n : Nat) => (n : Int))).mem_iff.mp hi
  obtain ⟨n, hn, rfl⟩ := List.mem_map.mp this
  exact hn
theorem intsPV_I (l : List Nat) : intsPV l = (l.map fun (n : Nat) => (n : Int)).map PV.int := by unfold intsPV; rw [List.map_map]; rfl
theorem sorted_pv (l : List Nat) : (sortI (l.map fun (n : Nat) => (n : Int))).map PV.int = intsPV (sN l) := by rw [sN_eq, intsPV_I]

noncomputable def startsN (sc : List Int) : List Nat := (((cellsN sc).drop 11).take (manyN sc)).map fun c => c % 11
noncomputable def widthsN (sc : List Int) : List Nat := (((cellsN sc).drop 11).take (manyN sc)).map fun c => 4 + c / 11 % 8
theorem startsN_len (sc : List Int) : (startsN sc).length = manyN sc := by unfold startsN; rw [List.length_map, List.length_take, List.length_drop, cellsN_len]; have := manyN_ge sc; lia
theorem widthsN_len (sc : List Int) : (widthsN sc).length = manyN sc := by unfold widthsN; rw [List.length_map, List.length_take, List.length_drop, cellsN_len]; have := manyN_ge sc; omega
theorem startsN_le (sc : List Int) : ∀ s ∈ startsN sc, s ≤ 10 := by
  intro s hs
  obtain ⟨c, _, rfl⟩ := List.mem_map.mp hs
  lia
theorem widthsN_le (sc : List Int) : ∀ s ∈ widthsN sc, 4 ≤ s ∧ s ≤ 11 := by
  intro s hs
  obtain ⟨c, _, rfl⟩ := List.mem_map.mp hs
  lia
/-- the fold of one hand -/
noncomputable def foldAt (x : List Nat) (s w : Nat) : List Nat := s :: endsAt x w s
noncomputable def handsZ (sc : List Int) : List (Nat × Nat) := (sN (startsN sc)).zip (sN (widthsN sc))
noncomputable def foldsL (sc : List Int) : List (List Nat) := (handsZ sc).map fun h => foldAt (octs sc) h.1 h.2
theorem handsZ_ok (sc : List Int) : ∀ h ∈ handsZ sc, h.1 ≤ 10 ∧ 4 ≤ h.2 ∧ h.2 ≤ 11 := by
  intro h hh
  have := List.of_mem_zip (a := h.1) (b := h.2) hh
  exact ⟨startsN_le sc _ (sN_mem this.1), widthsN_le sc _ (sN_mem this.2)⟩
theorem handsZ_len (sc : List Int) : (handsZ sc).length = manyN sc := by unfold handsZ; rw [List.length_zip, sN_len, sN_len, startsN_len, widthsN_len]; lia

structure LFns (h₀ : Heap) : Prop extends Fns h₀ where
  ends : ∃ f fd, Glb h₀ "_law_ends" (.ref f) ∧ FnAt h₀ 28 f fd .none .none
  due : ∃ f fd, Glb h₀ "_law_due" (.ref f) ∧ FnAt h₀ 29 f fd .none .none

section
variable {prog : Program} {w' : World} {h₀ : Heap} {k : Nat} {X : Addr → Prop} {q : Str} {f L : Addr} {cd : Value} {ρ : List (Str × PV)}

theorem law_7 (F : Below h₀) (hk : k ≤ 20) {x : List Nat} (hx : ∀ c ∈ x, c < 256) (hl : x.length ≤ 100) (h : ρ.lookup (Str.ofString "octets") = some (.list (intsPV x))) (he : ρ.lookup (Str.ofString "escapes") = some (.list (strsPV (x.map quoteL)))) : Ex1 (cxL prog w' h₀ X q f L cd (k + 1)) ρ (stL 7) (.next (("codes", .list (strsPV (codesL x))) :: ρ) none) := by
  have hk1 : k + 1 ≤ 40 := by lia
  have e24 : sizeLine = 16777216 := rfl
  have hres : strsPV (codesL x) = keepOnly ((x.map fun c => PV.str (S (pce (pieceOf c)))).map some) := by rw [← keep_map]; unfold strsPV codesL; rw [List.map_map]; rfl
  rw [hres]
  refine Ex1.assignC rfl (CompOk.mk1 (ρf := []) (cl := []) (ds := zipD (intsPV x) (strsPV (x.map quoteL))) (EvIt.zip (Ev.builtin F.zip rfl rfl rfl rfl rfl) (EvL.cons (Ev.local_ h rfl rfl rfl) (EvL.cons (Ev.local_ he rfl rfl rfl) EvL.nil rfl) rfl) rfl rfl) rfl (by decide +kernel) (by decide +kernel) rfl (fun p hp => by simp at hp) (fun p hp => by simp at hp) (by simp [zipD, intsPV_len, strsPV_len]) (by unfold zipD; rw [List.length_zipWith, intsPV_len, strsPV_len, List.length_map]; lia) (fun _ => rfl) ?_) (StOk.local_ rfl (plainScope_fn rfl))
  intro i d r hd hr
  obtain ⟨a, b, ha, hb, rfl⟩ := zipD_get hd
  obtain ⟨n, hn, rfl⟩ := intsPV_get ha
  obtain ⟨m, hm, rfl⟩ := strsPV_get hb
  rw [List.getElem?_map, hn] at hm
  have hm := Option.some.inj hm
  subst hm
  have := rs_get hn hr
  subst this
  have hn256 := hx n (List.mem_of_getElem? hn)
  intro X' C
  refine ⟨_, AsOk.two (c := { cxL prog w' h₀ X q f L cd (k + 1) with X := X', M := fun _ => False, ow := none, env := compEnvC _ _ C _ }) (fun b z => .inl (.inl z)) (StOk.loc rfl (plainScope_fn rfl)) (StOk.loc rfl (plainScope_fn rfl)), IfsOk.nil, fun g hg => ?_⟩
  cases hg
  refine (ifexp_val (x := plainB n) (d1 := .str (S [n])) (d2 := .str (S (quoteL n))) ((Ts.boolop (TsA.or (a := (n : Int) == 9) ?t1 fun _ => TsA.or (b := false) (a := (decide ((32 : Int) ≤ n) && decide ((n : Int) < 127)) && ((n : Int) != 61 && true)) ?t2 fun _ => TsA.or_nil)).of ?tb) (fun _ => Ev.callB (ds := [.int (n : Nat)]) (Ev.builtin F.chr rfl rfl rfl rfl rfl) (EvL.cons (Ev.local_ rfl rfl rfl rfl) EvL.nil rfl) (call_chr rfl (by lia)) rfl rfl) fun _ => Ev.local_ rfl rfl rfl rfl).of_eq ?_
  case t1 => exact Ts.cmp hk1 (Ev.local_ rfl rfl rfl rfl) Ev.int cmp_eq rfl
  case t2 => exact Ts.boolop (TsA.and (Ts.chain hk1 Ev.int (Ev.local_ rfl rfl rfl rfl) (fun _ => Ev.int) cmp_le (fun _ => cmp_lt) rfl) fun _ => TsA.and (Ts.cmp hk1 (Ev.local_ rfl rfl rfl rfl) Ev.int cmp_ne rfl) fun _ => TsA.and_nil)
  case tb =>
    have e1 : ((n : Int) == 9) = (n == 9) := by rw [Bool.eq_iff_iff]; simp; lia
    have e2 : ((n : Int) != 61) = (n != 61) := by rw [Bool.eq_iff_iff]; simp; lia
    have e3 : decide ((32 : Int) ≤ n) = decide (32 ≤ n) := decide_eq_decide.mpr (by lia)
    have e4 : decide ((n : Int) < 127) = decide (n < 127) := decide_eq_decide.mpr (by (clear e3 e2 e1 hn256 hr hd hb hm ha hn hres e24 hk1 he h hl hx hk F; omega))
    rw [e1, e2, e3, e4, Bool.and_true, Bool.or_false]
    unfold plainB
    rfl
  · unfold pce pieceOf
    cases plainB n <;> rfl

theorem law_8 (F : Below h₀) (hk : k ≤ 20) {x : List Nat} (h0 : x ≠ []) (hl : x.length ≤ 100) (h : ρ.lookup (Str.ofString "octets") = some (.list (intsPV x))) (he : ρ.lookup (Str.ofString "escapes") = some (.list (strsPV (x.map quoteL)))) : Ex1 (cxL prog w' h₀ X q f L cd (k + 1)) ρ (stL 8) (.next (("blank", .str (S (blankL x))) :: ρ) none) := by
  have hk1 : k + 1 ≤ 40 := by omega
  have e24 : sizeLine = 16777216 := rfl
  have hpos : 0 < x.length := List.length_pos_iff.mpr h0
  obtain ⟨c, hc⟩ : ∃ c, x.getLast? = some c := ⟨_, List.getLast?_eq_some_getLast h0⟩
  have hlast : x[x.length - 1]? = some c := by rw [← List.getLast?_eq_getElem?]; exact hc
  refine Ex1.assign ((ifexp_val (x := ([9, 32] : List Int).contains (c : Int)) (d1 := .str (S (quoteL c))) (d2 := .str (S [])) (Ts.cmp (a := .int (c : Nat)) (b := .tup (([9, 32] : List Int).map .int)) hk1 (Ev.item (a := .list (intsPV x)) (b := .int (-1)) (Ev.local_ h rfl rfl rfl) (Ev.neg Ev.int) (item_list_neg (j := 1) rfl (by decide) (by rw [intsPV_len]; lia) (by rw [intsPV_len]; lia) (by rw [intsPV_len]; unfold intsPV; rw [List.getElem?_map, hlast]; rfl)) fun _ _ => rfl) (Ev.tuple ?tp (show 2 ≤ sizeLine by decide)) cmp_inTup rfl) (fun _ => Ev.item (a := .list (strsPV (x.map quoteL))) (b := .int (-1)) (Ev.local_ he rfl rfl rfl) (Ev.neg Ev.int) (item_list_neg (j := 1) rfl (by decide) (by rw [strsPV_len, List.length_map]; omega) (by rw [strsPV_len, List.length_map]; omega) (by rw [strsPV_len, List.length_map]; unfold strsPV; rw [List.getElem?_map, List.getElem?_map, hlast]; rfl)) fun _ _ => rfl) fun _ => Ev.str.of_eq rfl).of_eq ?_) (StOk.local_ rfl (plainScope_fn rfl)) rfl
  case tp =>
    show EvL _ _ _ [PV.int 9, PV.int 32]
    with_reducible exact EvL.consK (EvL.consK EvL.nil)
  · unfold blankL
    rw [hc]
    dsimp only
    have e1 : ([9, 32] : List Int).contains (c : Int) = (c == 9 || c == 32) := by
      rw [Bool.eq_iff_iff]; simp; lia
    rw [e1]
    cases (c == 9 || c == 32) <;> rfl

theorem cells_at {sc : List Int} {i : Nat} (h : i < 16) : (intsPV (cellsN sc))[i]? = some (.int ((cellsN sc).getD i 0 : Nat)) := intsPV_at (by rw [cellsN_len]; exact h)
theorem law_9 (F : Below h₀) (hk : k ≤ 20) {sc : List Int} (h : ρ.lookup (Str.ofString "cells") = some (.list (intsPV (cellsN sc)))) : Ex1 (cxL prog w' h₀ X q f L cd (k + 1)) ρ (stL 9) (.next (("eol", .str (S (eolL sc))) :: ρ) none) := by
  have hk1 : k + 1 ≤ 40 := by lia
  have e24 : sizeLine = 16777216 := rfl
  refine Ex1.assign (Ev.item (a := .tup [.str (S [10]), .str (S [13, 10])]) (b := .int ((c10 sc % 2 : Nat) : Int)) (Ev.tuple ?tp (show 2 ≤ sizeLine by decide)) ?ix (item_tup_nat rfl (show 2 < 2 ^ 63 by decide) ?_) fun _ _ => rfl) (StOk.cellC (n := L + 1) (i := 31) rfl rfl rfl rfl) rfl
  case tp => exact EvL.cons (Ev.str.of_eq rfl) (EvL.cons (Ev.str.of_eq rfl) EvL.nil rfl) rfl
  case ix =>
    refine (Ev.bin (a := .int (c10 sc : Nat)) hk1 ?_ Ev.int (bin_mod (by decide))).of_eq (by rw [← fmodN]; rfl)
    exact Ev.item (a := .list (intsPV (cellsN sc))) (b := .int 10) (Ev.local_ h rfl rfl rfl) Ev.int (item_list_nat (j := 10) rfl (by rw [intsPV_len, cellsN_len]; decide) (cells_at (by decide))) fun _ _ => rfl
  · unfold eolL
    have : c10 sc % 2 = 0 ∨ c10 sc % 2 = 1 := by lia
    rcases this with e | e <;> rw [e] <;> rfl

theorem law_10 (F : Below h₀) (hk : k ≤ 20) {sc : List Int} (h : ρ.lookup (Str.ofString "cells") = some (.list (intsPV (cellsN sc)))) : Ex1 (cxL prog w' h₀ X q f L cd (k + 1)) ρ (stL 10) (.next (("many", .int (manyN sc : Nat)) :: ρ) none) := by
  have hk1 : k + 1 ≤ 40 := by omega
  refine Ex1.assign ((Ev.bin (b := .int ((c10 sc / 2 % 3 : Nat) : Int)) hk1 Ev.int ?_ bin_add).of_eq (by unfold manyN; congr 1)) (StOk.cellC (n := L + 1) (i := 31) rfl rfl rfl rfl) rfl
  refine (Ev.bin (a := .int ((c10 sc / 2 : Nat) : Int)) hk1 ?_ Ev.int (bin_mod (by decide))).of_eq (by rw [← fmodN]; rfl)
  refine (Ev.bin (a := .int (c10 sc : Nat)) hk1 ?_ Ev.int (bin_floordiv (by decide) (noPyS (by decide)))).of_eq (by rw [← fdivN]; rfl)
  exact Ev.item (a := .list (intsPV (cellsN sc))) (b := .int 10) (Ev.local_ h rfl rfl rfl) Ev.int (item_list_nat (j := 10) rfl (by rw [intsPV_len, cellsN_len]; decide) (cells_at (by decide))) fun _ _ => rfl

theorem law_sl (F : Below h₀) (hk : k ≤ 20) {sc : List Int} (h : ρ.lookup (Str.ofString "cells") = some (.list (intsPV (cellsN sc)))) (hm : ρ.lookup (Str.ofString "many") = some (.int (manyN sc : Nat))) {p1 p2 p3 p4 p5 p6 p7 : Pos} {k1 k2 : Nat} :
    Ev (cxL prog w' h₀ X q f L cd (k + 1)) ρ (.Subscript (.Name (Str.ofString "cells") p1) (.Slice (some (.Constant (.int 11) k1 p2)) (some (.BinOp (.Constant (.int 11) k2 p3) .Add (.Name (Str.ofString "many") p4) p5)) none p6) p7) (.list (intsPV (((cellsN sc).drop 11).take (manyN sc)))) := by
  have hk1 : k + 1 ≤ 40 := by omega
  have e24 : sizeLine = 16777216 := rfl
  refine (Ev.sliceL (ds := intsPV (cellsN sc)) (lo := some ((11 : Nat) : Int)) (hi := some ((11 + manyN sc : Nat) : Int)) (Ev.local_ h rfl rfl rfl) (EvP.some Ev.int) (EvP.some ?_) (by rw [intsPV_len, cellsN_len]; lia)).of_eq (by rw [cut_two, Nat.add_sub_cancel_left]; unfold intsPV; rw [List.map_take, List.map_drop])
  exact (Ev.bin hk1 Ev.int (Ev.cell hm rfl rfl rfl) bin_add).of_eq (by congr 1)
end
end Mine

namespace Mine
open PySem.Challenge

noncomputable def foldsPV (fs : List (List Nat)) : List PV := fs.map fun l => .list (intsPV l)
noncomputable def handsPV (hs : List (Nat × Nat)) : List PV := hs.map fun h => .tup [.int (h.1 : Nat), .int (h.2 : Nat)]
theorem zip_hands (a b : List Nat) : zipD (intsPV a) (intsPV b) = handsPV (a.zip b) := by
  unfold zipD intsPV handsPV
  rw [List.zipWith_map, List.map_zip_eq_zipWith]
  rfl
theorem sN_getD (l : List Nat) (i : Nat) : (sortI (l.map fun (n : Nat) => (n : Int))).getD i 0 = ((sN l).getD i 0 : Nat) := by
  rw [sN_eq, List.getD_eq_getElem?_getD, List.getD_eq_getElem?_getD, List.getElem?_map]
  cases (sN l)[i]? <;> rfl
theorem getD_mem {l : List Nat} {i : Nat} (h : i < l.length) : l.getD i 0 ∈ l := by
  rw [List.getD_eq_getElem?_getD, List.getElem?_eq_getElem h]; exact List.getElem_mem h
theorem ends_le {ps : List (Nat × Bool)} {bl : Bool} {w : Nat} : ∀ n i, (endsE ps bl w n i).length ≤ n
  | 0, i => by simp [endsE]
  | n + 1, i => by unfold endsE; split <;> simp; exact ends_le n _
theorem foldAt_len (x : List Nat) (s w : Nat) : (foldAt x s w).length ≤ x.length + 4 := by
  unfold foldAt endsAt
  rw [List.length_cons]
  have := ends_le (ps := x.map pieceOf) (bl := blk x) (w := w) (x.length + 3) s
  lia
noncomputable def countsN (sc : List Int) : List Nat := (foldsL sc).map fun l => l.length - 1
noncomputable def lowS (sc : List Int) : Nat := (sN (startsN sc)).getD ((manyN sc - 1) / 2) 0
noncomputable def lowW (sc : List Int) : Nat := (sN (widthsN sc)).getD ((manyN sc - 1) / 2) 0
noncomputable def highS (sc : List Int) : Nat := (sN (startsN sc)).getD (manyN sc / 2) 0
noncomputable def highW (sc : List Int) : Nat := (sN (widthsN sc)).getD (manyN sc / 2) 0

section
variable {prog : Program} {w' : World} {h₀ : Heap} {k : Nat} {X : Addr → Prop} {q : Str} {f L : Addr} {cd : Value} {ρ : List (Str × PV)}

theorem law_11 (F : Below h₀) (hk : k ≤ 20) {sc : List Int} (h : ρ.lookup (Str.ofString "cells") = some (.list (intsPV (cellsN sc)))) (hm : ρ.lookup (Str.ofString "many") = some (.int (manyN sc : Nat))) : Ex1 (cxL prog w' h₀ X q f L cd (k + 1)) ρ (stL 11) (.next (("starts", .list (intsPV (startsN sc))) :: ρ) none) := by
  have hk1 : k + 1 ≤ 40 := by lia
  have e24 : sizeLine = 16777216 := rfl
  have hl := cellsN_len sc
  have hmm := manyN_ge sc
  have hres : intsPV (startsN sc) = keepOnly (((((cellsN sc).drop 11).take (manyN sc)).map fun c => PV.int (c % 11 : Nat)).map some) := by rw [← keep_map]; unfold intsPV startsN; rw [List.map_map]; rfl
  rw [hres]
  refine Ex1.assignC rfl (CompOk.mk1 (ρf := []) (cl := []) (ds := intsPV (((cellsN sc).drop 11).take (manyN sc))) (EvIt.list (.name _ _) (law_sl F hk h hm)) rfl (by decide +kernel) (by decide +kernel) rfl (fun p hp => by simp at hp) (fun p hp => by simp at hp) (by simp [intsPV_len]) (by rw [intsPV_len, List.length_take]; lia) (fun _ => rfl) ?_) (StOk.local_ rfl (plainScope_fn rfl))
  intro i d r hd hr
  obtain ⟨n, hn, rfl⟩ := intsPV_get hd
  have := rs_get hn hr
  subst this
  intro X' C
  refine ⟨_, AsOk.name (StOk.loc rfl (plainScope_fn rfl)), IfsOk.nil, fun g hg => ?_⟩
  cases hg
  exact (Ev.bin hk1 (Ev.local_ rfl rfl rfl rfl) Ev.int (bin_mod (by decide))).of_eq (by rw [← fmodN]; rfl)
theorem law_12 (F : Below h₀) (hk : k ≤ 20) {sc : List Int} (h : ρ.lookup (Str.ofString "cells") = some (.list (intsPV (cellsN sc)))) (hm : ρ.lookup (Str.ofString "many") = some (.int (manyN sc : Nat))) : Ex1 (cxL prog w' h₀ X q f L cd (k + 1)) ρ (stL 12) (.next (("widths", .list (intsPV (widthsN sc))) :: ρ) none) := by
  have hk1 : k + 1 ≤ 40 := by omega
  have e24 : sizeLine = 16777216 := rfl
  have hl := cellsN_len sc
  have hmm := manyN_ge sc
  have hres : intsPV (widthsN sc) = keepOnly (((((cellsN sc).drop 11).take (manyN sc)).map fun c => PV.int (4 + c / 11 % 8 : Nat)).map some) := by rw [← keep_map]; unfold intsPV widthsN; rw [List.map_map]; rfl
  rw [hres]
  refine Ex1.assignC rfl (CompOk.mk1 (ρf := []) (cl := []) (ds := intsPV (((cellsN sc).drop 11).take (manyN sc))) (EvIt.list (.name _ _) (law_sl F hk h hm)) rfl (by decide +kernel) (by decide +kernel) rfl (fun p hp => by simp at hp) (fun p hp => by simp at hp) (by simp [intsPV_len]) (by rw [intsPV_len, List.length_take]; omega) (fun _ => rfl) ?_) (StOk.local_ rfl (plainScope_fn rfl))
  intro i d r hd hr
  obtain ⟨n, hn, rfl⟩ := intsPV_get hd
  have := rs_get hn hr
  subst this
  intro X' C
  refine ⟨_, AsOk.name (StOk.loc rfl (plainScope_fn rfl)), IfsOk.nil, fun g hg => ?_⟩
  cases hg
  refine (Ev.bin (b := .int ((n / 11 % 8 : Nat) : Int)) hk1 Ev.int ?_ bin_add).of_eq (by congr 1)
  refine (Ev.bin (a := .int ((n / 11 : Nat) : Int)) hk1 ?_ Ev.int (bin_mod (by decide))).of_eq (by rw [← fmodN]; rfl)
  exact (Ev.bin hk1 (Ev.local_ rfl rfl rfl rfl) Ev.int (bin_floordiv (by decide) (noPyS (by decide)))).of_eq (by rw [← fdivN]; rfl)

theorem law_13 (F : Below h₀) (hk : k ≤ 20) {sc : List Int} (h : ρ.lookup (Str.ofString "starts") = some (.list (intsPV (startsN sc)))) (hm : ρ.lookup (Str.ofString "widths") = some (.list (intsPV (widthsN sc)))) : Ex1 (cxL prog w' h₀ X q f L cd (k + 1)) ρ (stL 13) (.next (("hands", .list (handsPV (handsZ sc))) :: ρ) none) := by
  have hk1 : k + 1 ≤ 40 := by omega
  have e24 : sizeLine = 16777216 := rfl
  have hmm := manyN_ge sc
  refine Ex1.assign ((Ev.listZip (ds := intsPV (sN (startsN sc))) (es := intsPV (sN (widthsN sc))) (by rw [intsPV_len, intsPV_len, sN_len, sN_len, startsN_len, widthsN_len]) (by rw [intsPV_len, sN_len, startsN_len]; lia) (Ev.builtin F.list rfl rfl rfl rfl rfl) (Ev.builtin F.zip rfl rfl rfl rfl rfl) (EvL.cons ?a (EvL.cons ?b EvL.nil rfl) rfl) rfl rfl rfl).of_eq (by rw [zip_hands]; rfl)) (StOk.local_ rfl (plainScope_fn rfl)) rfl
  case a => exact (Ev.callB (ds := [.list ((startsN sc).map (fun (n : Nat) => (n : Int)) |>.map .int)]) (Ev.builtin F.sorted rfl rfl rfl rfl rfl) (EvL.cons ((Ev.local_ h rfl rfl rfl).of_eq (by rw [intsPV_I])) EvL.nil rfl) (call_sorted (by rw [List.length_map, startsN_len]; lia)) rfl rfl).of_eq (by rw [sorted_pv])
  case b => exact (Ev.callB (ds := [.list ((widthsN sc).map (fun (n : Nat) => (n : Int)) |>.map .int)]) (Ev.builtin F.sorted rfl rfl rfl rfl rfl) (EvL.cons ((Ev.local_ hm rfl rfl rfl).of_eq (by rw [intsPV_I])) EvL.nil rfl) (call_sorted (by rw [List.length_map, widthsN_len]; omega)) rfl rfl).of_eq (by rw [sorted_pv])

theorem hands_get {hs : List (Nat × Nat)} {i : Nat} {d : PV} (h : (handsPV hs)[i]? = some d) : ∃ n, hs[i]? = some n ∧ d = .tup [.int (n.1 : Nat), .int (n.2 : Nat)] := by
  unfold handsPV at h
  rw [List.getElem?_map] at h
  obtain ⟨n, hn, rfl⟩ := Option.map_eq_some_iff.mp h
  exact ⟨n, hn, rfl⟩
theorem folds_get {hs : List (List Nat)} {i : Nat} {d : PV} (h : (foldsPV hs)[i]? = some d) : ∃ n, hs[i]? = some n ∧ d = .list (intsPV n) := by
  unfold foldsPV at h
  rw [List.getElem?_map] at h
  obtain ⟨n, hn, rfl⟩ := Option.map_eq_some_iff.mp h
  exact ⟨n, hn, rfl⟩

theorem law_14 (F : LFns h₀) (hk : k ≤ 15) {sc : List Int} (h : ρ.lookup (Str.ofString "hands") = some (.list (handsPV (handsZ sc)))) (ht : ρ.lookup (Str.ofString "text") = some (.str (S (octs sc)))) (he : ρ.lookup (Str.ofString "eol") = some (.str (S (eolL sc)))) : Ex1 (cxL prog w' h₀ X q f L cd (k + 1)) ρ (stL 14) (.next (("folds", .list (foldsPV (foldsL sc))) :: ρ) none) := by
  have hk1 : k + 1 ≤ 40 := by lia
  have e24 : sizeLine = 16777216 := rfl
  have hmm := manyN_ge sc
  obtain ⟨fe, fde, hge, HE⟩ := F.ends
  obtain ⟨oe, hoe, hde⟩ := HE.obj
  have hres : foldsPV (foldsL sc) = keepOnly (((handsZ sc).map fun hd => PV.list (intsPV (foldAt (octs sc) hd.1 hd.2))).map some) := by rw [← keep_map]; unfold foldsPV foldsL; rw [List.map_map]; rfl
  rw [hres]
  refine Ex1.assignC rfl (CompOk.mk1 (ρf := [("text", .str (S (octs sc))), ("eol", .str (S (eolL sc)))]) (cl := [("text", L + 2), ("eol", L + 4)]) (ds := handsPV (handsZ sc)) (EvIt.list (.name _ _) (Ev.local_ h rfl rfl rfl)) rfl (by decide +kernel) (by decide +kernel) rfl (fun p hp => ?hcl) (fun p hp => ?hf) (by simp [handsPV]) (by unfold handsPV; rw [List.length_map, handsZ_len]; omega) (fun _ => rfl) ?_) (StOk.local_ rfl (plainScope_fn rfl))
  case hcl =>
    simp only [List.mem_cons, List.not_mem_nil, or_false] at hp
    rcases hp with rfl | rfl <;> rfl
  case hf =>
    simp only [List.mem_cons, List.not_mem_nil, or_false] at hp
    rcases hp with rfl | rfl
    · exact ⟨ht, rfl, rfl, rfl⟩
    · exact ⟨he, rfl, rfl, rfl⟩
  intro i d r hd hr
  obtain ⟨n, hn, rfl⟩ := hands_get hd
  have := rs_get hn hr
  subst this
  have hok := handsZ_ok sc n (List.mem_of_getElem? hn)
  intro X' C
  refine ⟨_, AsOk.name (StOk.loc rfl (plainScope_fn rfl)), IfsOk.nil, fun g hg => ?_⟩
  cases hg
  refine Ev.callF (ds := [.str (S (octs sc)), .int (n.1 : Nat), .int (n.2 : Nat), .str (S (eolL sc))]) (Ev.globalR hge (.val _) rfl rfl rfl rfl) hoe hde (EvL.cons (Ev.cell rfl rfl rfl rfl) (EvL.cons ?i0 (EvL.cons ?i1 (EvL.cons (Ev.cell rfl rfl rfl rfl) EvL.nil rfl) rfl) rfl) rfl) (ok_law_ends F.toFns HE (by show k + 1 ≤ 16; lia) (octs_ok sc) (by rw [octs_len]; exact hok.1) (by rw [octs_len]; decide) hok.2.1 (by lia) (eolL_ok sc)) rfl
  case i0 => exact Ev.item (a := .tup [.int (n.1 : Nat), .int (n.2 : Nat)]) (b := .int 0) (Ev.local_ rfl rfl rfl rfl) Ev.int (item_tup_nat (j := 0) rfl (show 2 < 2 ^ 63 by decide) rfl) fun _ _ => rfl
  case i1 => exact Ev.item (a := .tup [.int (n.1 : Nat), .int (n.2 : Nat)]) (b := .int 1) (Ev.local_ rfl rfl rfl rfl) Ev.int (item_tup_nat (j := 1) rfl (show 2 < 2 ^ 63 by decide) rfl) fun _ _ => rfl

theorem law_15 (F : LFns h₀) (hk : k ≤ 15) {sc : List Int} (h : ρ.lookup (Str.ofString "hands") = some (.list (handsPV (handsZ sc)))) (hfo : ρ.lookup (Str.ofString "folds") = some (.list (foldsPV (foldsL sc)))) (ht : ρ.lookup (Str.ofString "text") = some (.str (S (octs sc)))) (he : ρ.lookup (Str.ofString "eol") = some (.str (S (eolL sc))))
    (hc : ρ.lookup (Str.ofString "codes") = some (.list (strsPV (codesL (octs sc))))) (hb : ρ.lookup (Str.ofString "blank") = some (.str (S (blankL (octs sc))))) (n1 : ρ.lookup (Str.ofString "hand") = none) (n2 : ρ.lookup (Str.ofString "fold") = none) : Ex1 (cxL prog w' h₀ X q f L cd (k + 1)) ρ (stL 15) (.next ρ none) := by
  have hk1 : k + 1 ≤ 40 := by omega
  have e24 : sizeLine = 16777216 := rfl
  obtain ⟨fe, fde, dae, hge, HE, hDe⟩ := F.enc
  obtain ⟨oe, hoe, hde⟩ := HE.obj
  obtain ⟨fu, fdu, hgu, HU⟩ := F.due
  obtain ⟨ou, hou, hdu⟩ := HU.obj
  refine Ex1.for_ (ds := zipD (handsPV (handsZ sc)) (foldsPV (foldsL sc))) (EvIt.zip (Ev.builtin F.zip rfl rfl rfl rfl rfl) (EvL.cons (Ev.local_ h rfl rfl rfl) (EvL.cons (Ev.local_ hfo rfl rfl rfl) EvL.nil rfl) rfl) rfl rfl) (fun _ => rfl) (fun _ => ρ) (fun _ => none) (Sub.refl _) rfl ?turn
  intro i d hd X'
  obtain ⟨a, b, ha, hb', rfl⟩ := zipD_get hd
  obtain ⟨n, hn, rfl⟩ := hands_get ha
  obtain ⟨l, hl, rfl⟩ := folds_get hb'
  unfold foldsL at hl
  rw [List.getElem?_map, hn] at hl
  have hl := Option.some.inj hl
  subst hl
  have hok := handsZ_ok sc n (List.mem_of_getElem? hn)
  have hs1 : Sub ρ ((Str.ofString "hand", PV.tup [.int (n.1 : Nat), .int (n.2 : Nat)]) :: ρ) := (Sub.refl ρ).fresh n1
  have hs : Sub ρ ((Str.ofString "fold", PV.list (intsPV (foldAt (octs sc) n.1 n.2))) :: (Str.ofString "hand", PV.tup [.int (n.1 : Nat), .int (n.2 : Nat)]) :: ρ) := hs1.fresh n2
  refine ⟨_, AsOk.two (fun _ z => z) (StOk.local_ rfl (plainScope_fn rfl)) (StOk.local_ rfl (plainScope_fn rfl)), ?_⟩
  refine Goes.next (Ex.one (Ex1.if_ (b := false) ((Ts.cmp (a := .str (S (joinL (eolL sc) ((rowsAt (octs sc) n.2 n.1).map rl)))) (b := .str (S (joinL (eolL sc) ((rowsAt (octs sc) n.2 n.1).map rl)))) hk1 ?enc ?due cmp_neS rfl).of (by simp)) (fun h => nomatch h) fun _ => Ex.nil)) hs
  case enc =>
    refine Ev.callF (ds := [.str (S ((octs sc).drop n.1)), .int (n.2 : Nat), .str (S (eolL sc))]) (Ev.globalR hge (.val _) rfl rfl rfl rfl) hoe hde (EvL.cons ?_ (EvL.cons ?_ (EvL.cons (Ev.cell (hs _ _ he) rfl rfl rfl) EvL.nil rfl) rfl) rfl) (ok_enc F.toFns HE hDe (by show k + 1 ≤ 18; lia) (octs_ok sc) (by rw [octs_len]; exact hok.1) (by rw [octs_len]; decide) hok.2.1 (by lia) (eolL_ok sc)) rfl
    · refine (Ev.sliceS (x := octs sc) (lo := some ((n.1 : Nat) : Int)) (hi := none) (Ev.cell (hs _ _ ht) rfl rfl rfl) (EvP.some ?_) EvP.none (by rw [octs_len]; lia)).of_eq (by rw [cut_from])
      exact Ev.item (a := .tup [.int (n.1 : Nat), .int (n.2 : Nat)]) (b := .int 0) (Ev.local_ rfl rfl rfl rfl) Ev.int (item_tup_nat (j := 0) rfl (show 2 < 2 ^ 63 by decide) rfl) fun _ _ => rfl
    · exact Ev.item (a := .tup [.int (n.1 : Nat), .int (n.2 : Nat)]) (b := .int 1) (Ev.local_ rfl rfl rfl rfl) Ev.int (item_tup_nat (j := 1) rfl (show 2 < 2 ^ 63 by decide) rfl) fun _ _ => rfl
  case due =>
    refine Ev.callF (ds := [.list (strsPV (codesL (octs sc))), .list (intsPV (n.1 :: endsAt (octs sc) n.2 n.1)), .int (n.2 : Nat), .str (S (blankL (octs sc))), .str (S (eolL sc))]) (Ev.globalR hgu (.val _) rfl rfl rfl rfl) hou hdu (EvL.cons (Ev.local_ (hs _ _ hc) rfl rfl rfl) (EvL.cons (Ev.local_ rfl rfl rfl rfl) (EvL.cons ?_ (EvL.cons (Ev.local_ (hs _ _ hb) rfl rfl rfl) (EvL.cons (Ev.cell (hs _ _ he) rfl rfl rfl) EvL.nil rfl) rfl) rfl) rfl) rfl) (ok_law_due F.toFns HU (by show k + 1 ≤ 16; lia) (by rw [octs_len]; exact hok.1) (by rw [octs_len]; decide) hok.2.1 (by lia) (eolL_ok sc)) rfl
    exact Ev.item (a := .tup [.int (n.1 : Nat), .int (n.2 : Nat)]) (b := .int 1) (Ev.local_ rfl rfl rfl rfl) Ev.int (item_tup_nat (j := 1) rfl (show 2 < 2 ^ 63 by decide) rfl) fun _ _ => rfl

theorem law_16 (F : Below h₀) (hk : k ≤ 20) {a b : List Nat} (ha : a.length ≤ 63) (hb : b.length ≤ 63) (h : ρ.lookup (Str.ofString "starts") = some (.list (intsPV a))) (hm : ρ.lookup (Str.ofString "widths") = some (.list (intsPV b))) : Ex1 (cxL prog w' h₀ X q f L cd (k + 1)) ρ (stL 16) (.next (("before", .tup [.list (intsPV a), .list (intsPV b)]) :: ρ) none) := by
  have e24 : sizeLine = 16777216 := rfl
  refine Ex1.assign (Ev.tuple (EvL.cons ?a (EvL.cons ?b EvL.nil rfl) rfl) (show 2 ≤ sizeLine by decide)) (StOk.local_ rfl (plainScope_fn rfl)) rfl
  case a => exact Ev.callT (ds := [.list (intsPV a)]) (Ev.builtin F.list rfl rfl rfl rfl rfl) (EvL.cons (Ev.local_ h rfl rfl rfl) EvL.nil rfl) (call_listL (by rw [intsPV_len]; lia)) rfl rfl
  case b => exact Ev.callT (ds := [.list (intsPV b)]) (Ev.builtin F.list rfl rfl rfl rfl rfl) (EvL.cons (Ev.local_ hm rfl rfl rfl) EvL.nil rfl) (call_listL (by rw [intsPV_len]; lia)) rfl rfl
end
end Mine

namespace Mine

theorem sortI_eq {l c : List Int} (hp : c.Perm l) (hs : c.Pairwise (· ≤ ·)) : sortI l = c :=
  List.Perm.eq_of_pairwise (le := fun a b => a ≤ b) (fun a b _ _ h1 h2 => Int.le_antisymm h1 h2) (sortI_rises l) hs ((sortI_perm l).trans hp.symm)

/-- a row of places in order -/
structure Col (c : List Nat) : Prop where
  len : 3 ≤ c.length ∧ c.length ≤ 5
  le : ∀ a ∈ c, a ≤ 10
  rise : c.Pairwise (· ≤ ·)
noncomputable def mixN (c : List Nat) : List Nat := c.drop 1 ++ c.take 1
theorem mix_perm (c : List Nat) : c.Perm (mixN c) := by
  unfold mixN
  conv => lhs; rw [← List.take_append_drop 1 c]
  exact List.perm_append_comm
theorem sort_mix {c : List Nat} (h : c.Pairwise (· ≤ ·)) : sortI ((mixN c).map fun (n : Nat) => (n : Int)) = c.map fun (n : Nat) => (n : Int) :=
  sortI_eq ((mix_perm c).map _) (List.pairwise_map.mpr (h.imp fun h => by lia))
theorem mix_len (c : List Nat) : (mixN c).length = c.length := (mix_perm c).length_eq.symm

theorem flt_half : ∀ m : Fin 13, ∀ v : Fin 61, ∀ r : Bool, m.val ≠ 0 → ((v.val : Int) - 20) * m.val % 2 = 0 → (Float64.cmpInt (mulIF 2 (divII (((v.val : Int) - 20) * m.val / 2) m.val)) ((v.val : Int) - 20) == some Ordering.eq) = true := by decide +kernel
theorem flt_even {W num : Int} {n : Nat} (hn : n ≠ 0) (hn2 : n ≤ 12) (h1 : -20 ≤ W) (h2 : W ≤ 40) (h : 2 * num = W * n) : (Float64.cmpInt (mulIF 2 (divII num n)) W == some Ordering.eq) = true := by
  have key := flt_half ⟨n, by lia⟩ ⟨(W + 20).toNat, by lia⟩ true hn
  have e : (((W + 20).toNat : Nat) : Int) - 20 = W := by lia
  simp only [e] at key
  have hw : W * (n : Int) % 2 = 0 := by lia
  have hd : W * (n : Int) / 2 = num := by lia
  rw [hd] at key
  exact key hw

noncomputable def wideI (c : List Nat) : List Int := [2 * (c.getD 0 0 : Int) - c.getD 1 0] ++ (c.map fun (n : Nat) => (n : Int)) ++ [2 * (c.getD (c.length - 1) 0 : Int) - c.getD (c.length - 2) 0]
/-- the exclusive cuts, doubled -/
noncomputable def outW (c : List Nat) (fine s : Nat) : Int := (wideI c).getD (s / fine) 0 + (wideI c).getD ((s + fine - 1) / fine) 0
noncomputable def inW (c : List Nat) (fine s : Nat) : Int := (c.getD (s / fine) 0 : Int) + (c.getD ((s + fine - 1) / fine) 0 : Int)

theorem gd0 {α : Type} (a d : α) (l : List α) : (a :: l).getD 0 d = a := rfl
theorem gd1 {α : Type} (a b d : α) (l : List α) : (a :: b :: l).getD 1 d = b := rfl
theorem gd2 {α : Type} (a b c d : α) (l : List α) : (a :: b :: c :: l).getD 2 d = c := rfl
theorem gd3 {α : Type} (a b c e d : α) (l : List α) : (a :: b :: c :: e :: l).getD 3 d = e := rfl
theorem gd4 {α : Type} (a b c e f d : α) (l : List α) : (a :: b :: c :: e :: f :: l).getD 4 d = f := rfl
theorem gd5 {α : Type} (a b c e f g d : α) (l : List α) : (a :: b :: c :: e :: f :: g :: l).getD 5 d = g := rfl
theorem gd6 {α : Type} (a b c e f g h d : α) (l : List α) : (a :: b :: c :: e :: f :: g :: h :: l).getD 6 d = h := rfl
noncomputable abbrev mI (c : List Nat) : List Int := c.map fun (n : Nat) => (n : Int)
theorem mI3 (x y z : Nat) : mI [x, y, z] = [(x : Int), y, z] := rfl
theorem mI4 (x y z u : Nat) : mI [x, y, z, u] = [(x : Int), y, z, u] := rfl
theorem mI5 (x y z u v : Nat) : mI [x, y, z, u, v] = [(x : Int), y, z, u, v] := rfl
theorem wI3 (x y z : Nat) : wideI [x, y, z] = [2 * (x : Int) - y, (x : Int), y, z, 2 * (z : Int) - y] := rfl
theorem wI4 (x y z u : Nat) : wideI [x, y, z, u] = [2 * (x : Int) - y, (x : Int), y, z, u, 2 * (u : Int) - z] := rfl
theorem wI5 (x y z u v : Nat) : wideI [x, y, z, u, v] = [2 * (x : Int) - y, (x : Int), y, z, u, v, 2 * (v : Int) - u] := rfl
theorem upto {P : Nat → Prop} {i n : Nat} (h1 : 1 ≤ i) (h2 : i < n) (h : ∀ k, k + 1 < n → P (k + 1)) : P i := by
  obtain ⟨k, rfl⟩ := Nat.exists_eq_add_of_le' h1
  exact h k h2
/-- the sides of a row of cuts, for one length -/
noncomputable def OutN (c : List Nat) (f i : Nat) : Prop :=
    2 * ((mI c).getD (exJ c.length (f * (c.length + 1)) i - 1) 0 * (((f * (c.length + 1) : Nat) : Int) - exD c.length (f * (c.length + 1)) i) + (mI c).getD (exJ c.length (f * (c.length + 1)) i) 0 * exD c.length (f * (c.length + 1)) i) = outW c f i * ((f * (c.length + 1) : Nat) : Int)
    ∧ -20 ≤ outW c f i ∧ outW c f i ≤ 40
noncomputable def InN (c : List Nat) (f i : Nat) : Prop :=
    2 * ((mI c).getD (i * (c.length - 1) / (f * (c.length - 1))) 0 * (((f * (c.length - 1) : Nat) : Int) - ((i * (c.length - 1) % (f * (c.length - 1)) : Nat) : Int)) + (mI c).getD (i * (c.length - 1) / (f * (c.length - 1)) + 1) 0 * ((i * (c.length - 1) % (f * (c.length - 1)) : Nat) : Int)) = inW c f i * ((f * (c.length - 1) : Nat) : Int)
    ∧ -20 ≤ inW c f i ∧ inW c f i ≤ 40
theorem out_3_1 {x y z : Nat} (hx : x ≤ 10) (hy : y ≤ 10) (hz : z ≤ 10) : ∀ i, 1 ≤ i → i < 4 → OutN [x, y, z] 1 i
  | 1, _, _ => by dsimp only [OutN, InN, mI3, wI3, exJ, exD, outW, inW, List.length]; dsimp; dsimp only [gd0, gd1, gd2, gd3, gd4, gd5, gd6]; omega
  | 2, _, _ => by dsimp only [OutN, InN, mI3, wI3, exJ, exD, outW, inW, List.length]; dsimp; dsimp only [gd0, gd1, gd2, gd3, gd4, gd5, gd6]; omega
  | 3, _, _ => by dsimp only [OutN, InN, mI3, wI3, exJ, exD, outW, inW, List.length]; dsimp; dsimp only [gd0, gd1, gd2, gd3, gd4, gd5, gd6]; omega
  | (_ + 4), _, h => absurd h (by omega)
theorem out_3_2 {x y z : Nat} (hx : x ≤ 10) (hy : y ≤ 10) (hz : z ≤ 10) : ∀ i, 1 ≤ i → i < 8 → OutN [x, y, z] 2 i
  | 1, _, _ => by dsimp only [OutN, InN, mI3, wI3, exJ, exD, outW, inW, List.length]; dsimp; dsimp only [gd0, gd1, gd2, gd3, gd4, gd5, gd6]; omega
  | 2, _, _ => by dsimp only [OutN, InN, mI3, wI3, exJ, exD, outW, inW, List.length]; dsimp; dsimp only [gd0, gd1, gd2, gd3, gd4, gd5, gd6]; omega
  | 3, _, _ => by dsimp only [OutN, InN, mI3, wI3, exJ, exD, outW, inW, List.length]; dsimp; dsimp only [gd0, gd1, gd2, gd3, gd4, gd5, gd6]; omega
  | 4, _, _ => by dsimp only [OutN, InN, mI3, wI3, exJ, exD, outW, inW, List.length]; dsimp; dsimp only [gd0, gd1, gd2, gd3, gd4, gd5, gd6]; omega
  | 5, _, _ => by dsimp only [OutN, InN, mI3, wI3, exJ, exD, outW, inW, List.length]; dsimp; dsimp only [gd0, gd1, gd2, gd3, gd4, gd5, gd6]; omega
  | 6, _, _ => by dsimp only [OutN, InN, mI3, wI3, exJ, exD, outW, inW, List.length]; dsimp; dsimp only [gd0, gd1, gd2, gd3, gd4, gd5, gd6]; omega
  | 7, _, _ => by dsimp only [OutN, InN, mI3, wI3, exJ, exD, outW, inW, List.length]; dsimp; dsimp only [gd0, gd1, gd2, gd3, gd4, gd5, gd6]; omega
  | (_ + 8), _, h => absurd h (by omega)
theorem in_3_1 {x y z : Nat} (hx : x ≤ 10) (hy : y ≤ 10) (hz : z ≤ 10) : ∀ i, 1 ≤ i → i < 2 → InN [x, y, z] 1 i
  | 1, _, _ => by dsimp only [OutN, InN, mI3, wI3, exJ, exD, outW, inW, List.length]; dsimp; dsimp only [gd0, gd1, gd2, gd3, gd4, gd5, gd6]; omega
  | (_ + 2), _, h => absurd h (by omega)
theorem in_3_2 {x y z : Nat} (hx : x ≤ 10) (hy : y ≤ 10) (hz : z ≤ 10) : ∀ i, 1 ≤ i → i < 4 → InN [x, y, z] 2 i
  | 1, _, _ => by dsimp only [OutN, InN, mI3, wI3, exJ, exD, outW, inW, List.length]; dsimp; dsimp only [gd0, gd1, gd2, gd3, gd4, gd5, gd6]; omega
  | 2, _, _ => by dsimp only [OutN, InN, mI3, wI3, exJ, exD, outW, inW, List.length]; dsimp; dsimp only [gd0, gd1, gd2, gd3, gd4, gd5, gd6]; omega
  | 3, _, _ => by dsimp only [OutN, InN, mI3, wI3, exJ, exD, outW, inW, List.length]; dsimp; dsimp only [gd0, gd1, gd2, gd3, gd4, gd5, gd6]; omega
  | (_ + 4), _, h => absurd h (by omega)
theorem out_4_1 {x y z u : Nat} (hx : x ≤ 10) (hy : y ≤ 10) (hz : z ≤ 10) (hu : u ≤ 10) : ∀ i, 1 ≤ i → i < 5 → OutN [x, y, z, u] 1 i
  | 1, _, _ => by dsimp only [OutN, InN, mI4, wI4, exJ, exD, outW, inW, List.length]; dsimp; dsimp only [gd0, gd1, gd2, gd3, gd4, gd5, gd6]; omega
  | 2, _, _ => by dsimp only [OutN, InN, mI4, wI4, exJ, exD, outW, inW, List.length]; dsimp; dsimp only [gd0, gd1, gd2, gd3, gd4, gd5, gd6]; omega
  | 3, _, _ => by dsimp only [OutN, InN, mI4, wI4, exJ, exD, outW, inW, List.length]; dsimp; dsimp only [gd0, gd1, gd2, gd3, gd4, gd5, gd6]; omega
  | 4, _, _ => by dsimp only [OutN, InN, mI4, wI4, exJ, exD, outW, inW, List.length]; dsimp; dsimp only [gd0, gd1, gd2, gd3, gd4, gd5, gd6]; omega
  | (_ + 5), _, h => absurd h (by omega)
theorem out_4_2 {x y z u : Nat} (hx : x ≤ 10) (hy : y ≤ 10) (hz : z ≤ 10) (hu : u ≤ 10) : ∀ i, 1 ≤ i → i < 10 → OutN [x, y, z, u] 2 i
  | 1, _, _ => by dsimp only [OutN, InN, mI4, wI4, exJ, exD, outW, inW, List.length]; dsimp; dsimp only [gd0, gd1, gd2, gd3, gd4, gd5, gd6]; omega
  | 2, _, _ => by dsimp only [OutN, InN, mI4, wI4, exJ, exD, outW, inW, List.length]; dsimp; dsimp only [gd0, gd1, gd2, gd3, gd4, gd5, gd6]; omega
  | 3, _, _ => by dsimp only [OutN, InN, mI4, wI4, exJ, exD, outW, inW, List.length]; dsimp; dsimp only [gd0, gd1, gd2, gd3, gd4, gd5, gd6]; omega
  | 4, _, _ => by dsimp only [OutN, InN, mI4, wI4, exJ, exD, outW, inW, List.length]; dsimp; dsimp only [gd0, gd1, gd2, gd3, gd4, gd5, gd6]; omega
  | 5, _, _ => by dsimp only [OutN, InN, mI4, wI4, exJ, exD, outW, inW, List.length]; dsimp; dsimp only [gd0, gd1, gd2, gd3, gd4, gd5, gd6]; omega
  | 6, _, _ => by dsimp only [OutN, InN, mI4, wI4, exJ, exD, outW, inW, List.length]; dsimp; dsimp only [gd0, gd1, gd2, gd3, gd4, gd5, gd6]; omega
  | 7, _, _ => by dsimp only [OutN, InN, mI4, wI4, exJ, exD, outW, inW, List.length]; dsimp; dsimp only [gd0, gd1, gd2, gd3, gd4, gd5, gd6]; omega
  | 8, _, _ => by dsimp only [OutN, InN, mI4, wI4, exJ, exD, outW, inW, List.length]; dsimp; dsimp only [gd0, gd1, gd2, gd3, gd4, gd5, gd6]; omega
  | 9, _, _ => by dsimp only [OutN, InN, mI4, wI4, exJ, exD, outW, inW, List.length]; dsimp; dsimp only [gd0, gd1, gd2, gd3, gd4, gd5, gd6]; omega
  | (_ + 10), _, h => absurd h (by omega)
theorem in_4_1 {x y z u : Nat} (hx : x ≤ 10) (hy : y ≤ 10) (hz : z ≤ 10) (hu : u ≤ 10) : ∀ i, 1 ≤ i → i < 3 → InN [x, y, z, u] 1 i
  | 1, _, _ => by dsimp only [OutN, InN, mI4, wI4, exJ, exD, outW, inW, List.length]; dsimp; dsimp only [gd0, gd1, gd2, gd3, gd4, gd5, gd6]; omega
  | 2, _, _ => by dsimp only [OutN, InN, mI4, wI4, exJ, exD, outW, inW, List.length]; dsimp; dsimp only [gd0, gd1, gd2, gd3, gd4, gd5, gd6]; omega
  | (_ + 3), _, h => absurd h (by omega)
theorem in_4_2 {x y z u : Nat} (hx : x ≤ 10) (hy : y ≤ 10) (hz : z ≤ 10) (hu : u ≤ 10) : ∀ i, 1 ≤ i → i < 6 → InN [x, y, z, u] 2 i
  | 1, _, _ => by dsimp only [OutN, InN, mI4, wI4, exJ, exD, outW, inW, List.length]; dsimp; dsimp only [gd0, gd1, gd2, gd3, gd4, gd5, gd6]; omega
  | 2, _, _ => by dsimp only [OutN, InN, mI4, wI4, exJ, exD, outW, inW, List.length]; dsimp; dsimp only [gd0, gd1, gd2, gd3, gd4, gd5, gd6]; omega
  | 3, _, _ => by dsimp only [OutN, InN, mI4, wI4, exJ, exD, outW, inW, List.length]; dsimp; dsimp only [gd0, gd1, gd2, gd3, gd4, gd5, gd6]; omega
  | 4, _, _ => by dsimp only [OutN, InN, mI4, wI4, exJ, exD, outW, inW, List.length]; dsimp; dsimp only [gd0, gd1, gd2, gd3, gd4, gd5, gd6]; omega
  | 5, _, _ => by dsimp only [OutN, InN, mI4, wI4, exJ, exD, outW, inW, List.length]; dsimp; dsimp only [gd0, gd1, gd2, gd3, gd4, gd5, gd6]; omega
  | (_ + 6), _, h => absurd h (by omega)
theorem out_5_1 {x y z u v : Nat} (hx : x ≤ 10) (hy : y ≤ 10) (hz : z ≤ 10) (hu : u ≤ 10) (hv : v ≤ 10) : ∀ i, 1 ≤ i → i < 6 → OutN [x, y, z, u, v] 1 i
  | 1, _, _ => by dsimp only [OutN, InN, mI5, wI5, exJ, exD, outW, inW, List.length]; dsimp; dsimp only [gd0, gd1, gd2, gd3, gd4, gd5, gd6]; omega
  | 2, _, _ => by dsimp only [OutN, InN, mI5, wI5, exJ, exD, outW, inW, List.length]; dsimp; dsimp only [gd0, gd1, gd2, gd3, gd4, gd5, gd6]; omega
  | 3, _, _ => by dsimp only [OutN, InN, mI5, wI5, exJ, exD, outW, inW, List.length]; dsimp; dsimp only [gd0, gd1, gd2, gd3, gd4, gd5, gd6]; omega
  | 4, _, _ => by dsimp only [OutN, InN, mI5, wI5, exJ, exD, outW, inW, List.length]; dsimp; dsimp only [gd0, gd1, gd2, gd3, gd4, gd5, gd6]; omega
  | 5, _, _ => by dsimp only [OutN, InN, mI5, wI5, exJ, exD, outW, inW, List.length]; dsimp; dsimp only [gd0, gd1, gd2, gd3, gd4, gd5, gd6]; omega
  | (_ + 6), _, h => absurd h (by omega)
theorem out_5_2 {x y z u v : Nat} (hx : x ≤ 10) (hy : y ≤ 10) (hz : z ≤ 10) (hu : u ≤ 10) (hv : v ≤ 10) : ∀ i, 1 ≤ i → i < 12 → OutN [x, y, z, u, v] 2 i
  | 1, _, _ => by dsimp only [OutN, InN, mI5, wI5, exJ, exD, outW, inW, List.length]; dsimp; dsimp only [gd0, gd1, gd2, gd3, gd4, gd5, gd6]; omega
  | 2, _, _ => by dsimp only [OutN, InN, mI5, wI5, exJ, exD, outW, inW, List.length]; dsimp; dsimp only [gd0, gd1, gd2, gd3, gd4, gd5, gd6]; omega
  | 3, _, _ => by dsimp only [OutN, InN, mI5, wI5, exJ, exD, outW, inW, List.length]; dsimp; dsimp only [gd0, gd1, gd2, gd3, gd4, gd5, gd6]; omega
  | 4, _, _ => by dsimp only [OutN, InN, mI5, wI5, exJ, exD, outW, inW, List.length]; dsimp; dsimp only [gd0, gd1, gd2, gd3, gd4, gd5, gd6]; omega
  | 5, _, _ => by dsimp only [OutN, InN, mI5, wI5, exJ, exD, outW, inW, List.length]; dsimp; dsimp only [gd0, gd1, gd2, gd3, gd4, gd5, gd6]; omega
  | 6, _, _ => by dsimp only [OutN, InN, mI5, wI5, exJ, exD, outW, inW, List.length]; dsimp; dsimp only [gd0, gd1, gd2, gd3, gd4, gd5, gd6]; omega
  | 7, _, _ => by dsimp only [OutN, InN, mI5, wI5, exJ, exD, outW, inW, List.length]; dsimp; dsimp only [gd0, gd1, gd2, gd3, gd4, gd5, gd6]; omega
  | 8, _, _ => by dsimp only [OutN, InN, mI5, wI5, exJ, exD, outW, inW, List.length]; dsimp; dsimp only [gd0, gd1, gd2, gd3, gd4, gd5, gd6]; omega
  | 9, _, _ => by dsimp only [OutN, InN, mI5, wI5, exJ, exD, outW, inW, List.length]; dsimp; dsimp only [gd0, gd1, gd2, gd3, gd4, gd5, gd6]; omega
  | 10, _, _ => by dsimp only [OutN, InN, mI5, wI5, exJ, exD, outW, inW, List.length]; dsimp; dsimp only [gd0, gd1, gd2, gd3, gd4, gd5, gd6]; omega
  | 11, _, _ => by dsimp only [OutN, InN, mI5, wI5, exJ, exD, outW, inW, List.length]; dsimp; dsimp only [gd0, gd1, gd2, gd3, gd4, gd5, gd6]; omega
  | (_ + 12), _, h => absurd h (by omega)
theorem in_5_1 {x y z u v : Nat} (hx : x ≤ 10) (hy : y ≤ 10) (hz : z ≤ 10) (hu : u ≤ 10) (hv : v ≤ 10) : ∀ i, 1 ≤ i → i < 4 → InN [x, y, z, u, v] 1 i
  | 1, _, _ => by dsimp only [OutN, InN, mI5, wI5, exJ, exD, outW, inW, List.length]; dsimp; dsimp only [gd0, gd1, gd2, gd3, gd4, gd5, gd6]; omega
  | 2, _, _ => by dsimp only [OutN, InN, mI5, wI5, exJ, exD, outW, inW, List.length]; dsimp; dsimp only [gd0, gd1, gd2, gd3, gd4, gd5, gd6]; omega
  | 3, _, _ => by dsimp only [OutN, InN, mI5, wI5, exJ, exD, outW, inW, List.length]; dsimp; dsimp only [gd0, gd1, gd2, gd3, gd4, gd5, gd6]; omega
  | (_ + 4), _, h => absurd h (by omega)
theorem in_5_2 {x y z u v : Nat} (hx : x ≤ 10) (hy : y ≤ 10) (hz : z ≤ 10) (hu : u ≤ 10) (hv : v ≤ 10) : ∀ i, 1 ≤ i → i < 8 → InN [x, y, z, u, v] 2 i
  | 1, _, _ => by dsimp only [OutN, InN, mI5, wI5, exJ, exD, outW, inW, List.length]; dsimp; dsimp only [gd0, gd1, gd2, gd3, gd4, gd5, gd6]; omega
  | 2, _, _ => by dsimp only [OutN, InN, mI5, wI5, exJ, exD, outW, inW, List.length]; dsimp; dsimp only [gd0, gd1, gd2, gd3, gd4, gd5, gd6]; omega
  | 3, _, _ => by dsimp only [OutN, InN, mI5, wI5, exJ, exD, outW, inW, List.length]; dsimp; dsimp only [gd0, gd1, gd2, gd3, gd4, gd5, gd6]; omega
  | 4, _, _ => by dsimp only [OutN, InN, mI5, wI5, exJ, exD, outW, inW, List.length]; dsimp; dsimp only [gd0, gd1, gd2, gd3, gd4, gd5, gd6]; omega
  | 5, _, _ => by dsimp only [OutN, InN, mI5, wI5, exJ, exD, outW, inW, List.length]; dsimp; dsimp only [gd0, gd1, gd2, gd3, gd4, gd5, gd6]; omega
  | 6, _, _ => by dsimp only [OutN, InN, mI5, wI5, exJ, exD, outW, inW, List.length]; dsimp; dsimp only [gd0, gd1, gd2, gd3, gd4, gd5, gd6]; omega
  | 7, _, _ => by dsimp only [OutN, InN, mI5, wI5, exJ, exD, outW, inW, List.length]; dsimp; dsimp only [gd0, gd1, gd2, gd3, gd4, gd5, gd6]; omega
  | (_ + 8), _, h => absurd h (by omega)
theorem outer_num {c : List Nat} (hc : Col c) {fine i : Nat} (hf : fine = 1 ∨ fine = 2) (h1 : 1 ≤ i) (h2 : i < fine * (c.length + 1)) : OutN c fine i := by
  obtain ⟨hl, hle, _⟩ := hc
  obtain ⟨x, y, z, r, rfl⟩ : ∃ x y z r, c = x :: y :: z :: r := by
    rcases c with _ | ⟨x, _ | ⟨y, _ | ⟨z, r⟩⟩⟩
    · exact absurd hl.1 (of_decide_eq_false rfl)
    · exact absurd hl.1 (of_decide_eq_false rfl)
    · exact absurd hl.1 (of_decide_eq_false rfl)
    · exact ⟨_, _, _, _, rfl⟩
  have hx := hle x (by simp)
  have hy := hle y (by simp)
  have hz := hle z (by simp)
  rcases r with _ | ⟨u, _ | ⟨v, _ | ⟨t, r⟩⟩⟩
  · rcases hf with rfl | rfl
    · exact out_3_1 hx hy hz i h1 h2
    · exact out_3_2 hx hy hz i h1 h2
  · have hu := hle u (by simp)
    rcases hf with rfl | rfl
    · exact out_4_1 hx hy hz hu i h1 h2
    · exact out_4_2 hx hy hz hu i h1 h2
  · have hu := hle u (by simp)
    have hv := hle v (by simp)
    rcases hf with rfl | rfl
    · exact out_5_1 hx hy hz hu hv i h1 h2
    · exact out_5_2 hx hy hz hu hv i h1 h2
  · exact absurd hl.2 (by simp)
theorem inner_num {c : List Nat} (hc : Col c) {fine i : Nat} (hf : fine = 1 ∨ fine = 2) (h1 : 1 ≤ i) (h2 : i < fine * (c.length - 1)) : InN c fine i := by
  obtain ⟨hl, hle, _⟩ := hc
  obtain ⟨x, y, z, r, rfl⟩ : ∃ x y z r, c = x :: y :: z :: r := by
    rcases c with _ | ⟨x, _ | ⟨y, _ | ⟨z, r⟩⟩⟩
    · exact absurd hl.1 (of_decide_eq_false rfl)
    · exact absurd hl.1 (of_decide_eq_false rfl)
    · exact absurd hl.1 (of_decide_eq_false rfl)
    · exact ⟨_, _, _, _, rfl⟩
  have hx := hle x (by simp)
  have hy := hle y (by simp)
  have hz := hle z (by simp)
  rcases r with _ | ⟨u, _ | ⟨v, _ | ⟨t, r⟩⟩⟩
  · rcases hf with rfl | rfl
    · exact in_3_1 hx hy hz i h1 h2
    · exact in_3_2 hx hy hz i h1 h2
  · have hu := hle u (by simp)
    rcases hf with rfl | rfl
    · exact in_4_1 hx hy hz hu i h1 h2
    · exact in_4_2 hx hy hz hu i h1 h2
  · have hu := hle u (by simp)
    have hv := hle v (by simp)
    rcases hf with rfl | rfl
    · exact in_5_1 hx hy hz hu hv i h1 h2
    · exact in_5_2 hx hy hz hu hv i h1 h2
  · exact absurd hl.2 (by simp)
end Mine

namespace Mine
open PySem.Challenge

noncomputable def lowF (sc : List Int) : List Nat := foldAt (octs sc) (lowS sc) (lowW sc)
noncomputable def highF (sc : List Int) : List Nat := foldAt (octs sc) (highS sc) (highW sc)
theorem foldAt_two (x : List Nat) (s w : Nat) : 2 ≤ (foldAt x s w).length := by
  unfold foldAt endsAt endsE
  split <;> simp
/-- where a fold stands behind so many rows -/
noncomputable def atStep (l : List Nat) (t : Nat) : Nat := l.getD (min t (l.length - 1)) 0
noncomputable def colN (sc : List Int) (t : Nat) : List Nat := (foldsL sc).map fun l => atStep l t
theorem colN_len (sc : List Int) (t : Nat) : (colN sc t).length = manyN sc := by unfold colN foldsL; rw [List.length_map, List.length_map, handsZ_len]

section
variable {prog : Program} {w' : World} {h₀ : Heap} {k : Nat} {X : Addr → Prop} {q : Str} {f L : Addr} {cd : Value} {ρ : List (Str × PV)}

theorem ev_med {c : Cx} (F : Fns c.h₀) (hh : c.env.globals = mainGlobals ∧ c.env.scope.kind = .function) (hkk : c.k ≤ 30) {l : List Nat} (h0 : 0 < l.length) (h64 : l.length < 64) {fnm x : Str} {p p1 p2 : Pos}
    {i : Nat} (hcase : (fnm = "median_low" ∧ i = (l.length - 1) / 2) ∨ (fnm = "median_high" ∧ i = l.length / 2)) (hx : Ev c ρ (.Name x p1) (.list (intsPV l))) (hg : c.env.kindOf fnm = some .globalImplicit) :
    Ev c ρ (.Call (.Name fnm p) [.Name x p1] [] p2) (.int ((sN l).getD i 0 : Nat)) := by
  rcases hcase with ⟨rfl, rfl⟩ | ⟨rfl, rfl⟩
  · obtain ⟨fm, fdm, hgm, HM⟩ := F.mel
    obtain ⟨om, hom, hdm⟩ := HM.obj
    refine (Ev.callF (ds := [.list (l.map (fun (n : Nat) => (n : Int)) |>.map .int)]) (Ev.globalR hgm (.val _) hh.1 hh.2 hg (by decide +kernel)) hom hdm (EvL.cons (hx.of_eq (by rw [intsPV_I])) EvL.nil rfl) (ok_median_low F.toBelow HM hkk (by rw [List.length_map]; exact h0) (by rw [List.length_map]; exact h64)) rfl).of_eq ?_
    rw [List.length_map, sN_getD]
  · obtain ⟨fm, fdm, hgm, HM⟩ := F.meh
    obtain ⟨om, hom, hdm⟩ := HM.obj
    refine (Ev.callF (ds := [.list (l.map (fun (n : Nat) => (n : Int)) |>.map .int)]) (Ev.globalR hgm (.val _) hh.1 hh.2 hg (by decide +kernel)) hom hdm (EvL.cons (hx.of_eq (by rw [intsPV_I])) EvL.nil rfl) (ok_median_high F.toBelow HM hkk (by rw [List.length_map]; exact h0) (by rw [List.length_map]; exact h64)) rfl).of_eq ?_
    rw [List.length_map, sN_getD]

theorem low_ok (sc : List Int) : lowS sc ≤ 10 ∧ 4 ≤ lowW sc ∧ lowW sc ≤ 11 ∧ highS sc ≤ 10 ∧ 4 ≤ highW sc ∧ highW sc ≤ 11 := by
  have hm := manyN_ge sc
  have l1 : (sN (startsN sc)).length = manyN sc := by rw [sN_len, startsN_len]
  have l2 : (sN (widthsN sc)).length = manyN sc := by rw [sN_len, widthsN_len]
  refine ⟨startsN_le sc _ (sN_mem (getD_mem (by lia))), (widthsN_le sc _ (sN_mem (getD_mem (by lia)))).1, (widthsN_le sc _ (sN_mem (getD_mem (by omega)))).2, startsN_le sc _ (sN_mem (getD_mem (by lia))), (widthsN_le sc _ (sN_mem (getD_mem (by lia)))).1, (widthsN_le sc _ (sN_mem (getD_mem (by omega)))).2⟩

theorem law_17 (F : LFns h₀) (hk : k ≤ 15) {sc : List Int} (ht : ρ.lookup (Str.ofString "text") = some (.str (S (octs sc)))) (he : ρ.lookup (Str.ofString "eol") = some (.str (S (eolL sc)))) (h : ρ.lookup (Str.ofString "starts") = some (.list (intsPV (startsN sc)))) (hm : ρ.lookup (Str.ofString "widths") = some (.list (intsPV (widthsN sc)))) :
    Ex1 (cxL prog w' h₀ X q f L cd (k + 1)) ρ (stL 17) (.next (("low", .list (intsPV (lowF sc))) :: ρ) none) := by
  obtain ⟨fe, fde, hge, HE⟩ := F.ends
  obtain ⟨oe, hoe, hde⟩ := HE.obj
  have hmm := manyN_ge sc
  have l1 := startsN_len sc
  have l2 := widthsN_len sc
  have hok := low_ok sc
  refine Ex1.assign (Ev.callF (ds := [.str (S (octs sc)), .int (lowS sc : Nat), .int (lowW sc : Nat), .str (S (eolL sc))]) (Ev.globalR hge (.val _) rfl rfl rfl rfl) hoe hde (EvL.cons (Ev.cell ht rfl rfl rfl) (EvL.cons ?i0 (EvL.cons ?i1 (EvL.cons (Ev.cell he rfl rfl rfl) EvL.nil rfl) rfl) rfl) rfl) (ok_law_ends F.toFns HE (by show k + 1 ≤ 16; lia) (octs_ok sc) (by rw [octs_len]; exact hok.1) (by rw [octs_len]; decide) hok.2.1 (by lia) (eolL_ok sc)) rfl) (StOk.local_ rfl (plainScope_fn rfl)) rfl
  case i0 => exact (ev_med F.toFns ⟨rfl, rfl⟩ (by show k + 1 ≤ 30; lia) (by lia) (by lia) (.inl ⟨rfl, rfl⟩) (Ev.local_ h rfl rfl rfl) rfl).of_eq (by rw [l1]; rfl)
  case i1 => exact (ev_med F.toFns ⟨rfl, rfl⟩ (by show k + 1 ≤ 30; omega) (by lia) (by lia) (.inl ⟨rfl, rfl⟩) (Ev.local_ hm rfl rfl rfl) rfl).of_eq (by rw [l2]; rfl)
theorem law_18 (F : LFns h₀) (hk : k ≤ 15) {sc : List Int} (ht : ρ.lookup (Str.ofString "text") = some (.str (S (octs sc)))) (he : ρ.lookup (Str.ofString "eol") = some (.str (S (eolL sc)))) (h : ρ.lookup (Str.ofString "starts") = some (.list (intsPV (startsN sc)))) (hm : ρ.lookup (Str.ofString "widths") = some (.list (intsPV (widthsN sc)))) :
    Ex1 (cxL prog w' h₀ X q f L cd (k + 1)) ρ (stL 18) (.next (("high", .list (intsPV (highF sc))) :: ρ) none) := by
  obtain ⟨fe, fde, hge, HE⟩ := F.ends
  obtain ⟨oe, hoe, hde⟩ := HE.obj
  have hmm := manyN_ge sc
  have l1 := startsN_len sc
  have l2 := widthsN_len sc
  have hok := low_ok sc
  refine Ex1.assign (Ev.callF (ds := [.str (S (octs sc)), .int (highS sc : Nat), .int (highW sc : Nat), .str (S (eolL sc))]) (Ev.globalR hge (.val _) rfl rfl rfl rfl) hoe hde (EvL.cons (Ev.cell ht rfl rfl rfl) (EvL.cons ?i0 (EvL.cons ?i1 (EvL.cons (Ev.cell he rfl rfl rfl) EvL.nil rfl) rfl) rfl) rfl) (ok_law_ends F.toFns HE (by show k + 1 ≤ 16; omega) (octs_ok sc) (by rw [octs_len]; exact hok.2.2.2.1) (by rw [octs_len]; decide) hok.2.2.2.2.1 (by lia) (eolL_ok sc)) rfl) (StOk.local_ rfl (plainScope_fn rfl)) rfl
  case i0 => exact (ev_med F.toFns ⟨rfl, rfl⟩ (by show k + 1 ≤ 30; omega) (by omega) (by omega) (.inr ⟨rfl, rfl⟩) (Ev.local_ h rfl rfl rfl) rfl).of_eq (by rw [l1]; rfl)
  case i1 => exact (ev_med F.toFns ⟨rfl, rfl⟩ (by show k + 1 ≤ 30; omega) (by omega) (by omega) (.inr ⟨rfl, rfl⟩) (Ev.local_ hm rfl rfl rfl) rfl).of_eq (by rw [l2]; rfl)

theorem foldsL_len (sc : List Int) : (foldsL sc).length = manyN sc := by unfold foldsL; rw [List.length_map, handsZ_len]
theorem folds_in {sc : List Int} {l : List Nat} (h : l ∈ foldsL sc) : 2 ≤ l.length ∧ l.length ≤ 14 := by
  obtain ⟨hd, _, rfl⟩ := List.mem_map.mp h
  have := foldAt_len (octs sc) hd.1 hd.2
  rw [octs_len] at this
  exact ⟨foldAt_two _ _ _, this⟩
theorem law_19 (F : Below h₀) (hk : k ≤ 20) {sc : List Int} (h : ρ.lookup (Str.ofString "folds") = some (.list (foldsPV (foldsL sc)))) : Ex1 (cxL prog w' h₀ X q f L cd (k + 1)) ρ (stL 19) (.next (("counts", .list (intsPV (countsN sc))) :: ρ) none) := by
  have hk1 : k + 1 ≤ 40 := by lia
  have e24 : sizeLine = 16777216 := rfl
  have hmm := manyN_ge sc
  have hres : intsPV (countsN sc) = keepOnly (((foldsL sc).map fun l => PV.int (l.length - 1 : Nat)).map some) := by rw [← keep_map]; unfold intsPV countsN; rw [List.map_map]; rfl
  rw [hres]
  refine Ex1.assignC rfl (CompOk.mk1 (ρf := []) (cl := []) (ds := foldsPV (foldsL sc)) (EvIt.list (.name _ _) (Ev.local_ h rfl rfl rfl)) rfl (by decide +kernel) (by decide +kernel) rfl (fun p hp => by simp at hp) (fun p hp => by simp at hp) (by simp [foldsPV]) (by unfold foldsPV; rw [List.length_map, foldsL_len]; lia) (fun _ => rfl) ?_) (StOk.local_ rfl (plainScope_fn rfl))
  intro i d r hd hr
  obtain ⟨n, hn, rfl⟩ := folds_get hd
  have := rs_get hn hr
  subst this
  have hin := folds_in (List.mem_of_getElem? hn)
  intro X' C
  refine ⟨_, AsOk.name (StOk.loc rfl (plainScope_fn rfl)), IfsOk.nil, fun g hg => ?_⟩
  cases hg
  refine (Ev.bin (a := .int (n.length : Nat)) hk1 ?_ Ev.int bin_sub).of_eq (by congr 1; lia)
  exact (Ev.callB (ds := [.list (intsPV n)]) (Ev.builtin F.len rfl rfl rfl rfl rfl) (EvL.cons (Ev.local_ rfl rfl rfl rfl) EvL.nil rfl) (call_lenL (by rw [intsPV_len]; lia)) rfl rfl).of_eq (by rw [intsPV_len])

/-- a fold's place behind so many rows, read -/
theorem ev_step {c : Cx} (F : Below c.h₀) (hk1 : c.k ≤ 40) (hh : c.env.globals = mainGlobals ∧ c.env.builtins = builtinsNs ∧ c.env.scope.kind = .function) (hm : c.env.kindOf "min" = some .globalImplicit) (hl' : c.env.kindOf "len" = some .globalImplicit) {l : List Nat} (hl : 2 ≤ l.length ∧ l.length ≤ 14) {t : Nat} {x s : Str} {p1 p2 p3 p4 p5 p6 p7 p8 p9 p10 : Pos} {kk : Nat} (hx : ∀ p, Ev c ρ (.Name x p) (.list (intsPV l))) (hs : ∀ p, Ev c ρ (.Name s p) (.int (t : Nat))) :
    Ev c ρ (.Subscript (.Name x p1) (.Call (.Name "min" p2) [.Name s p3, .BinOp (.Call (.Name "len" p4) [.Name x p5] [] p6) .Sub (.Constant (.int 1) kk p7) p8] [] p9) p10) (.int (atStep l t : Nat)) := by
  refine Ev.item (a := .list (intsPV l)) (b := .int (min t (l.length - 1) : Nat)) (hx _) ?_ (item_list_nat rfl (by rw [intsPV_len]; lia) (by rw [intsPV_at (by lia)]; rfl)) fun _ _ => rfl
  refine (Ev.callB (ds := [.int (t : Nat), .int ((l.length - 1 : Nat) : Int)]) (Ev.builtin F.min hh.1 hh.2.1 hh.2.2 hm (by decide +kernel)) (EvL.cons (hs _) (EvL.cons ?_ EvL.nil rfl) rfl) call_min2 rfl rfl).of_eq ?_
  · refine (Ev.bin (a := .int (l.length : Nat)) hk1 ?_ Ev.int bin_sub).of_eq (by congr 1; lia)
    exact (Ev.callB (ds := [.list (intsPV l)]) (Ev.builtin F.len hh.1 hh.2.1 hh.2.2 hl' (by decide +kernel)) (EvL.cons (hx _) EvL.nil rfl) (call_lenL (by rw [intsPV_len]; lia)) rfl rfl).of_eq (by rw [intsPV_len])
  · congr 1
    by_cases h : ((l.length - 1 : Nat) : Int) < (t : Int)
    · rw [if_pos h, Nat.min_eq_right (by lia)]
    · rw [if_neg h, Nat.min_eq_left (by lia)]
end
end Mine

namespace Mine
open PySem.Challenge

theorem map_int_inj : ∀ {a b : List Nat}, (a.map fun (n : Nat) => (n : Int)) = (b.map fun (n : Nat) => (n : Int)) → a = b
  | [], [], _ => rfl
  | [], _ :: _, h => by simp at h
  | _ :: _, [], h => by simp at h
  | x :: a, y :: b, h => by
    simp only [List.map_cons, List.cons.injEq] at h
    rw [map_int_inj h.2, show x = y by lia]
theorem sN_mix {c : List Nat} (h : c.Pairwise (· ≤ ·)) : sN (mixN c) = c := map_int_inj (by rw [← sN_eq, sort_mix h])

noncomputable abbrev stT (i : Nat) : Stmt := (forBody (bodyAt 31) 20).getD i (.Pass ⟨0, 0, 0, 0⟩)
noncomputable abbrev cxT (prog : Program) (w : World) (h₀ : Heap) (X : Addr → Prop) (q : Str) (f L : Addr) (cd : Value) (k : Nat) : Cx := { cxL prog w h₀ X q f L cd k with ow := none }
noncomputable def outerPV (c : List Nat) (n : Nat) : List PV := (List.range (n - 1)).map fun i => .flt (exclV (c.map fun (n : Nat) => (n : Int)) n (i + 1))
noncomputable def innerPV (c : List Nat) (n : Nat) : List PV := (List.range (n - 1)).map fun i => .flt (inclV (c.map fun (n : Nat) => (n : Int)) n (i + 1))
theorem range_get {n i : Nat} {g : Nat → PV} {d : PV} (h : ((List.range n).map g)[i]? = some d) : i < n ∧ d = g i := by
  rw [List.getElem?_map] at h
  obtain ⟨m, hm, rfl⟩ := Option.map_eq_some_iff.mp h
  have hi : i < n := by have := (List.getElem?_eq_some_iff.mp hm).1; rwa [List.length_range] at this
  rw [List.getElem?_range hi] at hm
  cases hm
  exact ⟨hi, rfl⟩

section
variable {prog : Program} {w' : World} {h₀ : Heap} {k : Nat} {X : Addr → Prop} {q : Str} {f L : Addr} {cd : Value} {ρ : List (Str × PV)}

theorem turn_0 (F : Below h₀) (hk : k ≤ 20) {sc : List Int} {t : Nat} (h : ρ.lookup (Str.ofString "folds") = some (.list (foldsPV (foldsL sc)))) (hs : ρ.lookup (Str.ofString "step") = some (.int (t : Nat))) : Ex1 (cxL prog w' h₀ X q f L cd (k + 1)) ρ (stT 0) (.next (("column", .list (intsPV (colN sc t))) :: ρ) none) := by
  have hk1 : k + 1 ≤ 40 := by lia
  have e24 : sizeLine = 16777216 := rfl
  have hmm := manyN_ge sc
  have hres : intsPV (colN sc t) = keepOnly (((foldsL sc).map fun l => PV.int (atStep l t : Nat)).map some) := by rw [← keep_map]; unfold intsPV colN; rw [List.map_map]; rfl
  rw [hres]
  refine Ex1.assign (Ev.comp (CompOk.mk1 (ρf := [("step", .int (t : Nat))]) (cl := [("step", L + 5)]) (ds := foldsPV (foldsL sc)) (EvIt.list (.name _ _) (Ev.local_ h rfl rfl rfl)) rfl (by decide +kernel) (by decide +kernel) rfl (fun p hp => by rw [List.mem_singleton.mp hp]; rfl) (fun p hp => by rw [List.mem_singleton.mp hp]; exact ⟨hs, rfl, rfl, rfl⟩) (by simp [foldsPV]) (by unfold foldsPV; rw [List.length_map, foldsL_len]; lia) (fun _ => rfl) ?_)) (StOk.cellC (n := L + 1) (i := 31) rfl rfl rfl rfl) rfl
  intro i d r hd hr
  obtain ⟨n, hn, rfl⟩ := folds_get hd
  have := rs_get hn hr
  subst this
  have hin := folds_in (List.mem_of_getElem? hn)
  intro X' C
  refine ⟨_, AsOk.name (StOk.loc rfl (plainScope_fn rfl)), IfsOk.nil, fun g hg => ?_⟩
  cases hg
  exact ev_step F hk1 ⟨rfl, rfl, rfl⟩ rfl rfl hin (fun _ => Ev.local_ rfl rfl rfl rfl) fun _ => Ev.cell rfl rfl rfl rfl

/-- column[1:] + column[:1] -/
theorem ev_mix (hk1 : k + 1 ≤ 40) {c : List Nat} (hl : c.length ≤ 63) (h : ρ.lookup (Str.ofString "column") = some (.list (intsPV c))) {p1 p2 p3 p4 p5 p6 p7 p8 p9 : Pos} {k1 k2 : Nat} : Ev (cxL prog w' h₀ X q f L cd (k + 1)) ρ (.BinOp (.Subscript (.Name (Str.ofString "column") p1) (.Slice (some (.Constant (.int 1) k1 p2)) none none p3) p4) .Add (.Subscript (.Name (Str.ofString "column") p5) (.Slice none (some (.Constant (.int 1) k2 p6)) none p7) p8) p9) (.list (intsPV (mixN c))) := by
  have e24 : sizeLine = 16777216 := rfl
  refine (Ev.bin (a := .list ((intsPV c).drop 1)) (b := .list ((intsPV c).take 1)) hk1 ?_ ?_ (bin_addL (by rw [List.length_drop, List.length_take, intsPV_len]; omega))).of_eq (by unfold mixN intsPV; rw [List.map_append, List.map_drop, List.map_take])
  · exact (Ev.sliceL (ds := intsPV c) (lo := some ((1 : Nat) : Int)) (hi := none) (Ev.cell h rfl rfl rfl) (EvP.some Ev.int) EvP.none (by rw [intsPV_len]; lia)).of_eq (by rw [cut_from])
  · exact (Ev.sliceL (ds := intsPV c) (lo := none) (hi := some ((1 : Nat) : Int)) (Ev.cell h rfl rfl rfl) EvP.none (EvP.some Ev.int) (by rw [intsPV_len]; omega)).of_eq (by rw [cut_upto])

/-- a list of cuts doubled -/
theorem ev_twice (hk1 : k + 1 ≤ 40) {n : Nat} (hn : n ≤ 100) {g : Nat → UInt64} {x : Str} (h : ρ.lookup x = some (.list ((List.range n).map fun i => .flt (g i)))) (hx : (scopeAt 31).names.lookup x = some .local) (hxd : (x == ("__debug__" : Str)) = false) {elt tgt : Expr} {p1 pos : Pos} {scope : Scope} {p2 p3 p4 p5 : Pos} {kk : Nat}
    (he : elt = .BinOp (.Constant (.int 2) kk p2) .Mult (.Name (Str.ofString "cut") p3) p4) (ht : tgt = .Name (Str.ofString "cut") p5) (hsc : scope = { kind := .function, names := [(Str.ofString ".0", .local), (Str.ofString "cut", .local)], isGenerator := false, isCoroutine := false }) :
    Ev (cxL prog w' h₀ X q f L cd (k + 1)) ρ (.ListComp elt [⟨tgt, .Name x p1, [], 0⟩] scope pos) (.list ((List.range n).map fun i => .flt (mulIF 2 (g i)))) := by
  have e24 : sizeLine = 16777216 := rfl
  subst he ht hsc
  rw [keep_map (g := fun i => PV.flt (mulIF 2 (g i)))]
  refine Ev.comp (CompOk.mk1 (ρf := []) (cl := []) (ds := (List.range n).map fun i => .flt (g i)) (EvIt.list (.name _ _) (Ev.local_ h rfl hx hxd)) rfl (by decide +kernel) (by decide +kernel) rfl (fun p hp => by simp at hp) (fun p hp => by simp at hp) (by simp) (by rw [List.length_map, List.length_range]; lia) (fun _ => rfl) ?_)
  intro i d r hd hr
  obtain ⟨hi, rfl⟩ := range_get hd
  have := rs_get (List.getElem?_range hi) hr
  subst this
  intro X' C
  refine ⟨_, AsOk.name (StOk.loc rfl (plainScope_fn rfl)), IfsOk.nil, fun g hg => ?_⟩
  cases hg
  exact Ev.bin hk1 Ev.int (Ev.local_ rfl rfl rfl rfl) (bin_mulIF (by decide +kernel))

theorem wide_at {c : List Nat} {i : Nat} (h : i < c.length + 2) : ((wideI c).map PV.int)[i]? = some (.int ((wideI c).getD i 0)) := by
  have hl : (wideI c).length = c.length + 2 := by unfold wideI; simp
  rw [List.getElem?_map, List.getD_eq_getElem?_getD, List.getElem?_eq_getElem (by lia)]; rfl
theorem div_ok {i fine m : Nat} (hf : fine = 1 ∨ fine = 2) (h : i + 1 < fine * m) : (i + 1) / fine < m ∧ (i + 1 + fine - 1) / fine ≤ m := by
  rcases hf with rfl | rfl <;> lia
theorem ceil_ok {i fine m : Nat} (hf : fine = 1 ∨ fine = 2) (h : i + 1 < fine * m) : (i + 1 + fine - 1) / fine < m + 1 := by
  have := (div_ok hf h).2; lia
/-- the cuts that are due, outside -/
theorem turn_11 (F : Below h₀) (hk : k ≤ 20) {c : List Nat} (hc : Col c) {fine : Nat} (hf : fine = 1 ∨ fine = 2) (h1 : ρ.lookup (Str.ofString "wide") = some (.list ((wideI c).map .int))) (h2 : ρ.lookup (Str.ofString "fine") = some (.int (fine : Nat))) (h3 : ρ.lookup (Str.ofString "many") = some (.int (c.length : Nat))) (h4 : ρ.lookup (Str.ofString "outer") = some (.list (outerPV c (fine * (c.length + 1))))) :
    Ex1 (cxL prog w' h₀ X q f L cd (k + 1)) ρ (stT 11) (.next ρ none) := by
  have hk1 : k + 1 ≤ 40 := by omega
  have e24 : sizeLine = 16777216 := rfl
  have hl := hc.len
  refine Ex1.if_ (b := false) (Ts.cmp (a := .list ((List.range (fine * (c.length + 1) - 1)).map fun i => .flt (mulIF 2 (exclV (c.map fun (n : Nat) => (n : Int)) (fine * (c.length + 1)) (i + 1))))) (b := .list ((List.range (fine * (c.length + 1) - 1)).map fun i => .int (outW c fine (i + 1)))) hk1 (ev_twice hk1 (by rcases hf with rfl | rfl <;> lia) h4 rfl (by decide +kernel) rfl rfl rfl) ?due (cmp_neList (n := 0) (by lia) (by simp) fun j a b ha hb => ?eq) rfl) (fun h => nomatch h) fun _ => Ex.nil
  case eq =>
    obtain ⟨hi, rfl⟩ := range_get ha
    obtain ⟨_, rfl⟩ := range_get hb
    obtain ⟨g1, g2, g3⟩ := outer_num hc hf (i := j + 1) (by lia) (by omega)
    refine EqV.fltInt.of ?_
    unfold exclV
    rw [List.length_map]
    exact flt_even (by rcases hf with rfl | rfl <;> lia) (by rcases hf with rfl | rfl <;> lia) g2 g3 g1
  case due =>
    have hn : fine * (c.length + 1) ≤ 12 := by rcases hf with rfl | rfl <;> lia
    have hn0 : 1 ≤ fine * (c.length + 1) := by rcases hf with rfl | rfl <;> lia
    rw [keep_map (g := fun i => PV.int (outW c fine (i + 1)))]
    refine Ev.comp (CompOk.mk1 (ρf := [("wide", .list ((wideI c).map .int)), ("fine", .int (fine : Nat))]) (cl := [("wide", L + 8), ("fine", L + 7)]) (ds := rangeD 1 (fine * (c.length + 1) - 1)) (EvIt.range2 (a := 1) (b := ((fine * (c.length + 1) : Nat) : Int)) (n := fine * (c.length + 1) - 1) (by (clear hn hl e24 hk1 h4 h3 h2 h1 hf hc hk F; omega)) (by lia) (by lia) (by (clear hn0 hl e24 hk1 h4 h3 h2 h1 hf hc hk F; omega)) (Ev.builtin F.range rfl rfl rfl rfl rfl) (EvL.cons Ev.int (EvL.cons ?n EvL.nil rfl) rfl) rfl rfl) rfl (by decide +kernel) (by decide +kernel) rfl (fun p hp => ?hcl) (fun p hp => ?hf) (by simp [rangeD]) (by unfold rangeD; rw [List.length_map, List.length_range]; (clear hn0 hl hk1 h4 h3 h2 h1 hf hc hk F; omega)) (fun _ => rfl) ?_)
    case hcl =>
      simp only [List.mem_cons, List.not_mem_nil, or_false] at hp
      rcases hp with rfl | rfl <;> rfl
    case hf =>
      simp only [List.mem_cons, List.not_mem_nil, or_false] at hp
      rcases hp with rfl | rfl
      · exact ⟨h1, rfl, rfl, rfl⟩
      · exact ⟨h2, rfl, rfl, rfl⟩
    case n =>
      refine (Ev.bin (a := .int (fine : Nat)) (b := .int ((c.length + 1 : Nat) : Int)) hk1 (Ev.cell h2 rfl rfl rfl) ?_ (bin_mul (mulOk (by (clear hn0 hn hl e24 hk1 h4 h3 h2 h1 hc hk F; omega))))).of_eq (by push_cast; rfl)
      exact (Ev.bin hk1 (Ev.cell h3 rfl rfl rfl) Ev.int bin_add).of_eq (by congr 1)
    intro i d r hd hr
    obtain ⟨hi, rfl⟩ := rangeD_get hd
    have := rs_get (List.getElem?_range hi) hr
    subst this
    have hw : (wideI c).length = c.length + 2 := by unfold wideI; simp
    have d1 := div_ok (i := i) (m := c.length + 1) hf (by (clear hw hr hd hn0 hn hl e24 hk1 h4 h3 h2 h1 hf hc hk F; omega))
    have d2 := ceil_ok (i := i) (m := c.length + 1) hf (by omega)
    intro X' C
    refine ⟨_, AsOk.name (StOk.loc rfl (plainScope_fn rfl)), IfsOk.nil, fun g hg => ?_⟩
    cases hg
    have hsp : ∀ p, Ev { cxL prog w' h₀ X q f L cd (k + 1) with X := X', M := fun _ => False, ow := none, env := compEnvC _ [("wide", L + 8), ("fine", L + 7)] C (cxL prog w' h₀ X q f L cd (k + 1)).env } ((Str.ofString "spot", PV.int (1 + (i : Int))) :: [("wide", .list ((wideI c).map .int)), ("fine", .int (fine : Nat))]) (.Name (Str.ofString "spot") p) (.int ((i + 1 : Nat) : Int)) := fun p => (Ev.local_ (c := { cxL prog w' h₀ X q f L cd (k + 1) with X := X', M := fun _ => False, ow := none, env := compEnvC { kind := .function, names := [(Str.ofString ".0", .local), (Str.ofString "spot", .local), (Str.ofString "fine", .free), (Str.ofString "wide", .free)], isGenerator := false, isCoroutine := false } [("wide", L + 8), ("fine", L + 7)] C (cxL prog w' h₀ X q f L cd (k + 1)).env }) rfl rfl rfl rfl).of_eq (by congr 1; lia)
    have hfd : fine ≠ 0 ∧ fine < 2 ^ 30 := by rcases hf with rfl | rfl <;> exact ⟨by decide, by decide⟩
    refine Ev.bin hk1 (Ev.item (a := .list ((wideI c).map .int)) (b := .int (((i + 1) / fine : Nat) : Int)) (Ev.cell rfl rfl rfl rfl) ?i1 (item_list_nat rfl (by rw [List.length_map]; lia) (wide_at (by lia))) fun _ _ => rfl) (Ev.item (a := .list ((wideI c).map .int)) (b := .int (((i + 1 + fine - 1) / fine : Nat) : Int)) (Ev.cell rfl rfl rfl rfl) ?i2 (item_list_nat rfl (by rw [List.length_map]; omega) (wide_at (by omega))) fun _ _ => rfl) bin_add
    case i1 => exact (Ev.bin (a := .int ((i + 1 : Nat) : Int)) hk1 (hsp _) (Ev.cell rfl rfl rfl rfl) (bin_floordiv (by (clear hfd hsp d2 d1 hw hr hd hi hn0 hn hl e24 hk1 h4 h3 h2 h1 hc hk F; lia)) (noPyS (by (clear hfd hsp d2 d1 hw hr hd hi hn0 hn hl e24 hk1 h4 h3 h2 h1 hc hk F; omega))))).of_eq (by rw [fdivN])
    case i2 =>
      refine (Ev.bin (a := .int ((i + 1 + fine - 1 : Nat) : Int)) hk1 ?_ (Ev.cell rfl rfl rfl rfl) (bin_floordiv (by omega) (noPyS (by omega)))).of_eq (by rw [fdivN])
      refine (Ev.bin (a := .int ((i + 1 + fine : Nat) : Int)) hk1 ?_ Ev.int bin_sub).of_eq (by congr 1; lia)
      exact (Ev.bin hk1 (hsp _) (Ev.cell rfl rfl rfl rfl) bin_add).of_eq (by congr 1)
end
end Mine

namespace Mine
open PySem.Challenge

section
variable {prog : Program} {w' : World} {h₀ : Heap} {k : Nat} {X : Addr → Prop} {q : Str} {f L : Addr} {cd : Value} {ρ : List (Str × PV)}

theorem turn_12 (F : Below h₀) (hk : k ≤ 20) {c : List Nat} (hc : Col c) {fine : Nat} (hf : fine = 1 ∨ fine = 2) (h1 : ρ.lookup (Str.ofString "column") = some (.list (intsPV c))) (h2 : ρ.lookup (Str.ofString "fine") = some (.int (fine : Nat))) (h3 : ρ.lookup (Str.ofString "many") = some (.int (c.length : Nat))) (h4 : ρ.lookup (Str.ofString "inner") = some (.list (innerPV c (fine * (c.length - 1))))) :
    Ex1 (cxL prog w' h₀ X q f L cd (k + 1)) ρ (stT 12) (.next ρ none) := by
  have hk1 : k + 1 ≤ 40 := by lia
  have e24 : sizeLine = 16777216 := rfl
  have hl := hc.len
  have hcc : (c.map fun (n : Nat) => (n : Int)).length = c.length := List.length_map ..
  have hn : fine * (c.length - 1) ≤ 12 := by rcases hf with rfl | rfl <;> lia
  have hn0 : 1 ≤ fine * (c.length - 1) := by rcases hf with rfl | rfl <;> lia
  have hnn : fine * (c.length - 1) ≠ 0 := by lia
  refine Ex1.if_ (b := false) (Ts.cmp (a := .list ((List.range (fine * (c.length - 1) - 1)).map fun i => .flt (mulIF 2 (inclV (c.map fun (n : Nat) => (n : Int)) (fine * (c.length - 1)) (i + 1))))) (b := .list ((List.range (fine * (c.length - 1) - 1)).map fun i => .int (inW c fine (i + 1)))) hk1 (ev_twice hk1 (by (clear hnn hn0 hcc hl e24 hk1 h4 h3 h2 h1 hf hc hk F; omega)) h4 rfl (by decide +kernel) rfl rfl rfl) ?due (cmp_neList (n := 0) (by lia) (by simp) fun j a b ha hb => ?eq) rfl) (fun h => nomatch h) fun _ => Ex.nil
  case eq =>
    obtain ⟨hi, rfl⟩ := range_get ha
    obtain ⟨_, rfl⟩ := range_get hb
    obtain ⟨g1, g2, g3⟩ := inner_num hc hf (i := j + 1) (by lia) (by (clear hb ha hi hnn hn0 hn hcc hl e24 hk1 h4 h3 h2 h1 hf hc hk F; omega))
    refine EqV.fltInt.of ?_
    unfold inclV
    rw [hcc]
    exact flt_even hnn hn g2 g3 g1
  case due =>
    rw [keep_map (g := fun i => PV.int (inW c fine (i + 1)))]
    refine Ev.comp (CompOk.mk1 (ρf := [("column", .list (intsPV c)), ("fine", .int (fine : Nat))]) (cl := [("fine", L + 7), ("column", L + 6)]) (ds := rangeD 1 (fine * (c.length - 1) - 1)) (EvIt.range2 (a := 1) (b := ((fine * (c.length - 1) : Nat) : Int)) (n := fine * (c.length - 1) - 1) (by (clear hnn hn hcc hl e24 hk1 h4 h3 h2 h1 hf hc hk F; omega)) (by lia) (by lia) (by (clear hnn hn0 hcc hl e24 hk1 h4 h3 h2 h1 hf hc hk F; omega)) (Ev.builtin F.range rfl rfl rfl rfl rfl) (EvL.cons Ev.int (EvL.cons ?n EvL.nil rfl) rfl) rfl rfl) rfl (by decide +kernel) (by decide +kernel) rfl (fun p hp => ?hcl) (fun p hp => ?hf) (by simp [rangeD]) (by unfold rangeD; rw [List.length_map, List.length_range]; (clear hnn hn0 hcc hl hk1 h4 h3 h2 h1 hf hc hk F; omega)) (fun _ => rfl) ?_)
    case hcl =>
      simp only [List.mem_cons, List.not_mem_nil, or_false] at hp
      rcases hp with rfl | rfl <;> rfl
    case hf =>
      simp only [List.mem_cons, List.not_mem_nil, or_false] at hp
      rcases hp with rfl | rfl
      · exact ⟨h1, rfl, rfl, rfl⟩
      · exact ⟨h2, rfl, rfl, rfl⟩
    case n =>
      refine (Ev.bin (a := .int (fine : Nat)) (b := .int ((c.length - 1 : Nat) : Int)) hk1 (Ev.cell h2 rfl rfl rfl) ?_ (bin_mul (mulOk (by lia)))).of_eq (by push_cast; rfl)
      exact (Ev.bin hk1 (Ev.cell h3 rfl rfl rfl) Ev.int bin_sub).of_eq (by congr 1; lia)
    intro i d r hd hr
    obtain ⟨hi, rfl⟩ := rangeD_get hd
    have := rs_get (List.getElem?_range hi) hr
    subst this
    have d1 := div_ok (i := i) (m := c.length - 1) hf (by omega)
    have d2 : (i + 1 + fine - 1) / fine < c.length := by (clear hr hd hi hnn hn0 hn hcc e24 hk1 h4 h3 h2 h1 hf hc hk F; omega)
    intro X' C
    refine ⟨_, AsOk.name (StOk.loc rfl (plainScope_fn rfl)), IfsOk.nil, fun g hg => ?_⟩
    cases hg
    have hfd : fine ≠ 0 ∧ fine < 2 ^ 30 := by rcases hf with rfl | rfl <;> exact ⟨by decide, by decide⟩
    refine Ev.bin hk1 (Ev.item (a := .list (intsPV c)) (b := .int (((i + 1) / fine : Nat) : Int)) (Ev.cell rfl rfl rfl rfl) ?i1 (item_list_nat rfl (by rw [intsPV_len]; lia) (intsPV_at (by (clear hfd d2 hr hd hi hnn hn0 hn hcc hl e24 hk1 h4 h3 h2 h1 hf hc hk F; omega)))) fun _ _ => rfl) (Ev.item (a := .list (intsPV c)) (b := .int (((i + 1 + fine - 1) / fine : Nat) : Int)) (Ev.cell rfl rfl rfl rfl) ?i2 (item_list_nat rfl (by rw [intsPV_len]; omega) (intsPV_at (by omega))) fun _ _ => rfl) bin_add
    case i1 => exact (Ev.bin (a := .int ((i + 1 : Nat) : Int)) hk1 ((Ev.local_ rfl rfl rfl rfl).of_eq (by congr 1; lia)) (Ev.cell rfl rfl rfl rfl) (bin_floordiv (by (clear hfd d2 d1 hr hd hi hnn hn0 hn hcc hl e24 hk1 h4 h3 h2 h1 hc hk F; lia)) (noPyS (by (clear hfd d2 d1 hr hd hi hnn hn0 hn hcc hl e24 hk1 h4 h3 h2 h1 hc hk F; omega))))).of_eq (by rw [fdivN])
    case i2 =>
      refine (Ev.bin (a := .int ((i + 1 + fine - 1 : Nat) : Int)) hk1 ?_ (Ev.cell rfl rfl rfl rfl) (bin_floordiv (by omega) (noPyS (by omega)))).of_eq (by rw [fdivN])
      refine (Ev.bin (a := .int ((i + 1 + fine : Nat) : Int)) hk1 ?_ Ev.int bin_sub).of_eq (by congr 1; lia)
      exact (Ev.bin (a := .int ((i + 1 : Nat) : Int)) hk1 ((Ev.local_ rfl rfl rfl rfl).of_eq (by congr 1; omega)) (Ev.cell rfl rfl rfl rfl) bin_add).of_eq (by congr 1)

theorem keep_none : ∀ l : List PV, keepOnly (l.map fun _ => none) = []
  | [] => rfl
  | a :: l => keep_none l
theorem turn_13 (F : Below h₀) (hk : k ≤ 20) {g1 g2 : Nat → UInt64} {n1 n2 : Nat} (l1 : n1 ≤ 100) (l2 : n2 ≤ 100) (h1 : ρ.lookup (Str.ofString "outer") = some (.list ((List.range n1).map fun i => .flt (g1 i)))) (h2 : ρ.lookup (Str.ofString "inner") = some (.list ((List.range n2).map fun i => .flt (g2 i)))) :
    Ex1 (cxL prog w' h₀ X q f L cd (k + 1)) ρ (stT 13) (.next ρ none) := by
  have hk1 : k + 1 ≤ 40 := by (clear h2 h1 l2 l1 F; omega)
  have e24 : sizeLine = 16777216 := rfl
  refine Ex1.if_ (b := false) ((Ts.cmp (a := .list []) hk1 ?comp (Ev.list (ds := []) EvL.nil (by decide)) cmp_neNil rfl).of rfl) (fun h => nomatch h) fun _ => Ex.nil
  case comp =>
    obtain ⟨l, hl⟩ : ∃ l, l = ((List.range n1).map fun i => PV.flt (g1 i)) ++ ((List.range n2).map fun i => PV.flt (g2 i)) := ⟨_, rfl⟩
    have hlen : l.length ≤ 200 := by rw [hl]; simp; lia
    rw [← keep_none l]
    refine Ev.comp (CompOk.mk1 (ρf := []) (cl := []) (ds := l) (EvIt.list (.name _ _) ((Ev.bin hk1 (Ev.local_ h1 rfl rfl rfl) (Ev.local_ h2 rfl rfl rfl) (bin_addL (by simp; lia))).of_eq (by rw [hl]))) rfl (by decide +kernel) (by decide +kernel) rfl (fun p hp => by simp at hp) (fun p hp => by simp at hp) (by simp) (by lia) (fun _ => rfl) ?_)
    intro i d r hd hr
    rw [List.getElem?_map, hd] at hr
    have hr := Option.some.inj hr
    subst hr
    have hflt : ∃ u, d = .flt u := by
      have := List.mem_of_getElem? hd
      rw [hl] at this
      rcases List.mem_append.mp this with h | h <;> (obtain ⟨j, _, rfl⟩ := List.mem_map.mp h; exact ⟨_, rfl⟩)
    obtain ⟨u, rfl⟩ := hflt
    intro X' C
    refine ⟨_, AsOk.name (StOk.loc rfl (plainScope_fn rfl)), IfsOk.one ((Ts.not (Ts.bool (x := true) (Ev.callB (ds := [.flt u, .val (.type "float")]) (Ev.builtin F.isinstance rfl rfl rfl rfl rfl) (EvL.cons (Ev.local_ rfl rfl rfl rfl) (EvL.cons (Ev.builtin F.float rfl rfl rfl rfl rfl) EvL.nil rfl) rfl) call_isiFF rfl rfl) fun _ _ => rfl)).of rfl), fun g hg => nomatch hg⟩

theorem turn_14 (hk : k ≤ 20) {c : List Nat} (hl : c.length ≤ 63) (h1 : ρ.lookup (Str.ofString "column") = some (.list (intsPV c))) (h2 : ρ.lookup (Str.ofString "mixed") = some (.list (intsPV (mixN c)))) : Ex1 (cxL prog w' h₀ X q f L cd (k + 1)) ρ (stT 14) (.next ρ none) := by
  have hk1 : k + 1 ≤ 40 := by (clear h2 h1 hl; omega)
  refine Ex1.if_ (b := false) (Ts.cmp (a := .list ((mixN c).map (fun (n : Nat) => (n : Int)) |>.map .int)) (b := .list ((mixN c).map (fun (n : Nat) => (n : Int)) |>.map .int)) hk1 ((Ev.local_ h2 rfl rfl rfl).of_eq (by rw [intsPV_I])) ((ev_mix hk1 hl h1).of_eq (by rw [intsPV_I])) cmp_neInts rfl) (fun h => nomatch h) fun _ => Ex.nil

theorem isI (F : Below h₀) (hk : k ≤ 20) {d : PV} {b : Bool} (hd : (∃ n, d = .int n ∧ b = true) ∨ (∃ u, d = .flt u ∧ b = false)) (h1 : ρ.lookup (Str.ofString "middle") = some d) {p1 p2 p3 p4 : Pos} : Ev (cxL prog w' h₀ X q f L cd (k + 1)) ρ (.Call (.Name (Str.ofString "isinstance") p1) [.Name (Str.ofString "middle") p2, .Name (Str.ofString "int") p3] [] p4) (.bool b) := by
  rcases hd with ⟨n, rfl, rfl⟩ | ⟨u, rfl, rfl⟩
  · exact Ev.callB (ds := [.int n, .val (.type "int")]) (Ev.builtin F.isinstance rfl rfl rfl rfl rfl) (EvL.cons (Ev.local_ h1 rfl rfl rfl) (EvL.cons (Ev.builtin F.int rfl rfl rfl rfl rfl) EvL.nil rfl) rfl) call_isiII rfl rfl
  · exact Ev.callB (ds := [.flt u, .val (.type "int")]) (Ev.builtin F.isinstance rfl rfl rfl rfl rfl) (EvL.cons (Ev.local_ h1 rfl rfl rfl) (EvL.cons (Ev.builtin F.int rfl rfl rfl rfl rfl) EvL.nil rfl) rfl) call_isiFI rfl rfl

theorem med_cases {c : List Nat} (hc : Col c) : (c.length % 2 = 1 ∧ medD ((mixN c).map fun (n : Nat) => (n : Int)) = .int (c.getD (c.length / 2) 0 : Nat)) ∨ (c.length % 2 = 0 ∧ medD ((mixN c).map fun (n : Nat) => (n : Int)) = .flt (divII ((c.getD (c.length / 2 - 1) 0 : Nat) + (c.getD (c.length / 2) 0 : Nat)) 2)) := by
  have hl : ((mixN c).map fun (n : Nat) => (n : Int)).length = c.length := by rw [List.length_map, mix_len]
  unfold medD
  rw [hl, sN_getD, sN_getD, sN_mix hc.rise]
  have : c.length % 2 = 1 ∨ c.length % 2 = 0 := by lia
  rcases this with h | h
  · exact .inl ⟨h, by rw [if_pos h]⟩
  · exact .inr ⟨h, by rw [if_neg (by lia)]⟩
theorem col_le {c : List Nat} (hc : Col c) (i : Nat) : c.getD i 0 ≤ 10 := by
  rw [List.getD_eq_getElem?_getD]
  cases h : c[i]? with
  | none => simp
  | some a => exact hc.le a (List.mem_of_getElem? h)
/-- twice the middle -/
theorem ev_twoMid (hk1 : k + 1 ≤ 40) {c : List Nat} (hc : Col c) (h1 : ρ.lookup (Str.ofString "middle") = some (medD ((mixN c).map fun (n : Nat) => (n : Int)))) (hu : ρ.lookup (Str.ofString "under") = some (.int (c.getD ((c.length - 1) / 2) 0 : Nat))) (ho : ρ.lookup (Str.ofString "over") = some (.int (c.getD (c.length / 2) 0 : Nat))) {p1 p2 p3 p4 p5 p6 p7 : Pos} {kk : Nat} :
    Ts (cxL prog w' h₀ X q f L cd (k + 1)) ρ (.Compare (.BinOp (.Constant (.int 2) kk p1) .Mult (.Name (Str.ofString "middle") p2) p3) [.NotEq] [.BinOp (.Name (Str.ofString "under") p4) .Add (.Name (Str.ofString "over") p5) p6] p7) false := by
  have hl := hc.len
  have c1 := col_le hc ((c.length - 1) / 2)
  have c2 := col_le hc (c.length / 2)
  have c3 := col_le hc (c.length / 2 - 1)
  rcases med_cases hc with ⟨hp, e⟩ | ⟨hp, e⟩
  · rw [e] at h1
    refine (Ts.cmp (a := .int (2 * (c.getD (c.length / 2) 0 : Nat))) hk1 (Ev.bin hk1 Ev.int (Ev.local_ h1 rfl rfl rfl) (bin_mul (mulOk (by decide)))) (Ev.bin hk1 (Ev.local_ hu rfl rfl rfl) (Ev.local_ ho rfl rfl rfl) bin_add) cmp_ne rfl).of ?_
    have : (c.length - 1) / 2 = c.length / 2 := by lia
    rw [this]; simp; lia
  · rw [e] at h1
    have hi : (c.length - 1) / 2 = c.length / 2 - 1 := by lia
    rw [hi] at hu
    refine (Ts.cmp (b := .int ((c.getD (c.length / 2 - 1) 0 : Nat) + (c.getD (c.length / 2) 0 : Nat))) hk1 (Ev.bin hk1 Ev.int (Ev.local_ h1 rfl rfl rfl) (bin_mulIF (by decide +kernel))) (Ev.bin hk1 (Ev.local_ hu rfl rfl rfl) (Ev.local_ ho rfl rfl rfl) bin_add) cmp_neFI rfl).of ?_
    have := flt_even (n := 2) (num := (c.getD (c.length / 2 - 1) 0 : Nat) + (c.getD (c.length / 2) 0 : Nat)) (W := (c.getD (c.length / 2 - 1) 0 : Nat) + (c.getD (c.length / 2) 0 : Nat)) (by decide) (by decide) (by lia) (by lia) (by lia)
    rw [bne, Bool.not_eq_false']
    exact this
end
end Mine

namespace Mine
open PySem.Challenge

/-- the state of the law ahead of its loop over the steps -/
noncomputable def st19 (sc : List Int) : List (Str × PV) :=
  [("counts", .list (intsPV (countsN sc))), ("high", .list (intsPV (highF sc))), ("low", .list (intsPV (lowF sc))), ("before", .tup [.list (intsPV (startsN sc)), .list (intsPV (widthsN sc))]), ("folds", .list (foldsPV (foldsL sc))),
   ("hands", .list (handsPV (handsZ sc))), ("widths", .list (intsPV (widthsN sc))), ("starts", .list (intsPV (startsN sc))), ("many", .int (manyN sc : Nat))]

section
variable {prog : Program} {w' : World} {h₀ : Heap} {k : Nat} {X : Addr → Prop} {q : Str} {f L : Addr} {cd : Value} {ρ : List (Str × PV)}

theorem fold_ok (sc : List Int) : (2 ≤ (lowF sc).length ∧ (lowF sc).length ≤ 14) ∧ (2 ≤ (highF sc).length ∧ (highF sc).length ≤ 14) := by
  have h1 := foldAt_len (octs sc) (lowS sc) (lowW sc)
  have h2 := foldAt_len (octs sc) (highS sc) (highW sc)
  rw [octs_len] at h1 h2
  exact ⟨⟨foldAt_two _ _ _, h1⟩, ⟨foldAt_two _ _ _, h2⟩⟩

theorem turn_9 (F : Fns h₀) (hk : k ≤ 20) {c : List Nat} (hc : Col c) {fine : Nat} (hf : fine = 1 ∨ fine = 2) (h1 : ρ.lookup (Str.ofString "mixed") = some (.list (intsPV (mixN c)))) (h2 : ρ.lookup (Str.ofString "fine") = some (.int (fine : Nat))) (h3 : ρ.lookup (Str.ofString "many") = some (.int (c.length : Nat))) :
    Ex1 (cxL prog w' h₀ X q f L cd (k + 1)) ρ (stT 9) (.next (("outer", .list (outerPV c (fine * (c.length + 1)))) :: ρ) none) := by
  have hk1 : k + 1 ≤ 40 := by lia
  have hl := hc.len
  obtain ⟨fm, fdm, da, hgm, HM, hkw⟩ := F.qua
  obtain ⟨om, hom, hdm⟩ := HM.obj
  have hn : 1 ≤ fine * (c.length + 1) ∧ fine * (c.length + 1) ≤ 12 := by rcases hf with rfl | rfl <;> lia
  have hml : ((mixN c).map fun (n : Nat) => (n : Int)).length = c.length := by rw [List.length_map, mix_len]
  refine Ex1.assign ((Ev.callW (ds := [.list ((mixN c).map (fun (n : Nat) => (n : Int)) |>.map .int)]) (kds := [("n", .int ((fine * (c.length + 1) : Nat) : Int))]) (Ev.globalR hgm (.val _) rfl rfl rfl rfl) hom hdm (EvL.cons ((Ev.local_ h1 rfl rfl rfl).of_eq (by rw [intsPV_I])) EvL.nil rfl) (EvK.cons ?n EvK.nil) (ok_quant_excl F.toBelow HM hkw (by show k + 1 ≤ 30; lia) (by lia) (by lia) hn.1 (by lia) fun j => ?b) rfl rfl rfl).of_eq (by rw [sort_mix hc.rise]; rfl)) (StOk.local_ rfl (plainScope_fn rfl)) rfl
  case n =>
    refine (Ev.bin (a := .int (fine : Nat)) (b := .int ((c.length + 1 : Nat) : Int)) hk1 (Ev.cell h2 rfl rfl rfl) ?_ (bin_mul (mulOk (by (clear hml hn hdm hom hkw HM hgm hl hk1 h3 h2 h1 hc hk F; omega))))).of_eq (by push_cast; rfl)
    exact (Ev.bin hk1 (Ev.cell h3 rfl rfl rfl) Ev.int bin_add).of_eq (by congr 1)
  case b =>
    rw [sN_getD, sN_mix hc.rise]
    have := col_le hc j; (clear hml hn hdm hom hkw HM hgm hl hk1 h3 h2 h1 hf hc hk F; omega)
theorem turn_10 (F : Fns h₀) (hk : k ≤ 20) {c : List Nat} (hc : Col c) {fine : Nat} (hf : fine = 1 ∨ fine = 2) (h1 : ρ.lookup (Str.ofString "mixed") = some (.list (intsPV (mixN c)))) (h2 : ρ.lookup (Str.ofString "fine") = some (.int (fine : Nat))) (h3 : ρ.lookup (Str.ofString "many") = some (.int (c.length : Nat))) :
    Ex1 (cxL prog w' h₀ X q f L cd (k + 1)) ρ (stT 10) (.next (("inner", .list (innerPV c (fine * (c.length - 1)))) :: ρ) none) := by
  have hk1 : k + 1 ≤ 40 := by omega
  have hl := hc.len
  obtain ⟨fm, fdm, da, hgm, HM, hkw⟩ := F.qua
  obtain ⟨om, hom, hdm⟩ := HM.obj
  have hn : 1 ≤ fine * (c.length - 1) ∧ fine * (c.length - 1) ≤ 12 := by rcases hf with rfl | rfl <;> omega
  have hml : ((mixN c).map fun (n : Nat) => (n : Int)).length = c.length := by rw [List.length_map, mix_len]
  refine Ex1.assign ((Ev.callW (ds := [.list ((mixN c).map (fun (n : Nat) => (n : Int)) |>.map .int)]) (kds := [("n", .int ((fine * (c.length - 1) : Nat) : Int)), ("method", .str (Str.ofString "inclusive"))]) (Ev.globalR hgm (.val _) rfl rfl rfl rfl) hom hdm (EvL.cons ((Ev.local_ h1 rfl rfl rfl).of_eq (by rw [intsPV_I])) EvL.nil rfl) (EvK.cons ?n (EvK.cons Ev.str EvK.nil)) (ok_quant_incl F.toBelow HM (by show k + 1 ≤ 30; omega) (by omega) (by omega) hn.1 (by lia) (fun j => ?b1) fun j => ?b) rfl rfl rfl).of_eq (by rw [sort_mix hc.rise]; rfl)) (StOk.local_ rfl (plainScope_fn rfl)) rfl
  case n =>
    refine (Ev.bin (a := .int (fine : Nat)) (b := .int ((c.length - 1 : Nat) : Int)) hk1 (Ev.cell h2 rfl rfl rfl) ?_ (bin_mul (mulOk (by omega)))).of_eq (by push_cast; rfl)
    exact (Ev.bin hk1 (Ev.cell h3 rfl rfl rfl) Ev.int bin_sub).of_eq (by congr 1; (clear hml hn hdm hom hkw HM hgm hk1 h3 h2 h1 hf hc hk F; lia))
  case b1 =>
    rw [List.getD_eq_getElem?_getD, List.getElem?_map]
    cases h : (mixN c)[j]? with
    | none => decide
    | some a =>
      have := hc.le a ((mix_perm c).mem_iff.mpr (List.mem_of_getElem? h))
      show Int.natAbs (a : Int) < _
      (clear h hml hn hdm hom hkw HM hgm hl hk1 h3 h2 h1 hf hc hk F; omega)
  case b =>
    rw [sN_getD, sN_mix hc.rise]
    have := col_le hc j; omega

theorem turn_6 (F : Below h₀) (hk : k ≤ 20) {c : List Nat} (hc : Col c) (h1 : ρ.lookup (Str.ofString "middle") = some (medD ((mixN c).map fun (n : Nat) => (n : Int)))) (h3 : ρ.lookup (Str.ofString "many") = some (.int (c.length : Nat))) :
    Ex1 (cxL prog w' h₀ X q f L cd (k + 1)) ρ (stT 6) (.next ρ none) := by
  have hk1 : k + 1 ≤ 40 := by omega
  have hm : ∀ p1 p2 kk p3, Ev (cxL prog w' h₀ X q f L cd (k + 1)) ρ (.BinOp (.Name (Str.ofString "many") p1) .Mod (.Constant (.int 2) kk p2) p3) (.int ((c.length % 2 : Nat) : Int)) := fun p1 p2 kk p3 => (Ev.bin (a := .int (c.length : Nat)) hk1 (Ev.cell h3 rfl rfl rfl) Ev.int (bin_mod (by decide))).of_eq (by rw [← fmodN]; rfl)
  refine Ex1.if_ (b := false) ((Ts.cmp (a := .bool (c.length % 2 == 1)) (b := .bool (((c.length % 2 : Nat) : Int) == 1)) hk1 (isI F (by omega) ?isi h1) (Ev.cmp hk1 (hm _ _ _ _) Ev.int cmp_eq rfl) cmp_neB rfl).of ?isb) (fun h => nomatch h) fun _ => Ex.nil
  case isi =>
    rcases med_cases hc with ⟨hp, e⟩ | ⟨hp, e⟩
    · exact .inl ⟨_, e, by rw [hp]; rfl⟩
    · exact .inr ⟨_, e, by rw [hp]; rfl⟩
  case isb =>
    have : c.length % 2 = 1 ∨ c.length % 2 = 0 := by (clear hm hk1 h3 h1 hc hk F; lia)
    rcases this with h | h <;> rw [h] <;> rfl

set_option maxHeartbeats 4000000 in
theorem law_turn (F : Fns h₀) (hk : k ≤ 15) {sc : List Int} {t : Nat} (hc : Col (colN sc t)) (hu : atStep (lowF sc) t = (colN sc t).getD (((colN sc t).length - 1) / 2) 0) (ho : atStep (highF sc) t = (colN sc t).getD ((colN sc t).length / 2) 0) :
    Goes (cxL prog w' h₀ X q f L cd (k + 1)) ((Str.ofString "step", .int (t : Nat)) :: st19 sc) (forBody (bodyAt 31) 20) (st19 sc) none := by
  have hk1 : k + 1 ≤ 40 := by lia
  have e24 : sizeLine = 16777216 := rfl
  obtain ⟨c, hcd⟩ : ∃ c, c = colN sc t := ⟨_, rfl⟩
  have hcl : c.length = manyN sc := by rw [hcd, colN_len]
  have hT0 := turn_0 (prog := prog) (w' := w') (X := X) (q := q) (f := f) (L := L) (cd := cd) (ρ := (Str.ofString "step", .int (t : Nat)) :: st19 sc) F.toBelow (k := k) (by lia) (sc := sc) (t := t) rfl rfl
  rw [← hcd] at hc hu ho hT0
  have hl := hc.len
  have hfo := fold_ok sc
  obtain ⟨fm, fdm, hgm, HM⟩ := F.med
  obtain ⟨om, hom, hdm⟩ := HM.obj
  have hml : ((mixN c).map fun (n : Nat) => (n : Int)).length = c.length := by rw [List.length_map, mix_len]
  have hmany : (st19 sc).lookup (Str.ofString "many") = some (.int (c.length : Nat)) := by rw [hcl]; rfl
  have hf12 : 1 + t % 2 = 1 ∨ 1 + t % 2 = 2 := by lia
  have hb : forBody (bodyAt 31) 20 = [stT 0, stT 1, stT 2, stT 3, stT 4, stT 5, stT 6, stT 7, stT 8, stT 9, stT 10, stT 11, stT 12, stT 13, stT 14] := rfl
  rw [hb]
  refine Goes.seq hT0 ?_
  refine Goes.seq (Ex1.assign (ev_mix hk1 (by lia) rfl) (StOk.local_ rfl (plainScope_fn rfl)) rfl) ?_
  refine Goes.seq (Ex1.assign (ev_step F.toBelow hk1 ⟨rfl, rfl, rfl⟩ rfl rfl hfo.1 (fun _ => Ev.local_ rfl rfl rfl rfl) fun _ => Ev.cell rfl rfl rfl rfl) (StOk.local_ rfl (plainScope_fn rfl)) rfl) ?_
  refine Goes.seq (Ex1.assign (ev_step F.toBelow hk1 ⟨rfl, rfl, rfl⟩ rfl rfl hfo.2 (fun _ => Ev.local_ rfl rfl rfl rfl) fun _ => Ev.cell rfl rfl rfl rfl) (StOk.local_ rfl (plainScope_fn rfl)) rfl) ?_
  rw [hu, ho]
  refine Goes.seq (Ex1.assign (d := medD ((mixN c).map fun (n : Nat) => (n : Int))) (Ev.callF (ds := [.list ((mixN c).map (fun (n : Nat) => (n : Int)) |>.map .int)]) (Ev.globalR hgm (.val _) rfl rfl rfl rfl) hom hdm (EvL.cons ((Ev.local_ rfl rfl rfl rfl).of_eq (by rw [intsPV_I])) EvL.nil rfl) (ok_median F.toBelow HM (by show k + 1 ≤ 30; lia) (by lia) (by lia) ?inf) rfl) (StOk.local_ rfl (plainScope_fn rfl)) rfl) ?_
  case inf =>
    refine divOk (by decide) ?_
    rw [hml, sN_getD, sN_getD, sN_mix hc.rise]
    have := col_le hc (c.length / 2)
    have := col_le hc (c.length / 2 - 1)
    refine Nat.lt_of_lt_of_le (show _ < 2 ^ 10 by (clear hb hf12 hmany hml hdm hom HM hgm hfo hl hT0 hcl hcd hc hu ho e24 hk1 hk F; omega)) (Nat.pow_le_pow_right (by decide) (by decide))
  have hmx : (mixN c).length = c.length := mix_len c
  refine Goes.seq (Ex1.if_ (b := false) (Ts.boolop (TsA.or_f ((Ts.cmp (a := .int (c.getD ((c.length - 1) / 2) 0 : Nat)) hk1 ((ev_med F ⟨rfl, rfl⟩ (by show k + 1 ≤ 30; omega) (l := mixN c) (by lia) (by lia) (.inl ⟨rfl, rfl⟩) (Ev.local_ rfl rfl rfl rfl) rfl).of_eq (by rw [sN_mix hc.rise, hmx])) (Ev.local_ rfl rfl rfl rfl) cmp_ne rfl).of (by simp)) (TsA.or_f ((Ts.cmp (a := .int (c.getD (c.length / 2) 0 : Nat)) hk1 ((ev_med F ⟨rfl, rfl⟩ (by show k + 1 ≤ 30; omega) (l := mixN c) (by omega) (by omega) (.inr ⟨rfl, rfl⟩) (Ev.local_ rfl rfl rfl rfl) rfl).of_eq (by rw [sN_mix hc.rise, hmx])) (Ev.local_ rfl rfl rfl rfl) cmp_ne rfl).of (by simp)) (TsA.or_f (ev_twoMid hk1 hc rfl rfl rfl) TsA.or_nil)))) (fun h => nomatch h) fun _ => Ex.nil) ?_
  refine Goes.seq (turn_6 F.toBelow (by omega) hc rfl hmany) ?_
  refine Goes.seq (Ex1.assign (d := .int ((1 + t % 2 : Nat) : Int)) ((Ev.bin (b := .int ((t % 2 : Nat) : Int)) hk1 Ev.int ?tmod bin_add).of_eq (by congr 1)) (StOk.cellC (n := L + 1) (i := 31) rfl rfl rfl rfl) rfl) ?_
  case tmod => exact (Ev.bin (a := .int (t : Nat)) hk1 (Ev.cell rfl rfl rfl rfl) Ev.int (bin_mod (by decide))).of_eq (by rw [← fmodN]; rfl)
  refine Goes.seq (Ex1.assign (d := .list ((wideI c).map .int)) ?wide (StOk.cellC (n := L + 1) (i := 31) rfl rfl rfl rfl) rfl) ?_
  case wide =>
    have hat : ∀ i, i < c.length → (intsPV c)[i]? = some (.int (c.getD i 0 : Nat)) := fun i h => intsPV_at h
    have hwl : (wideI c).map PV.int = ([PV.int (2 * (c.getD 0 0 : Nat) - (c.getD 1 0 : Nat))] ++ intsPV c) ++ [PV.int (2 * (c.getD (c.length - 1) 0 : Nat) - (c.getD (c.length - 2) 0 : Nat))] := by
      unfold wideI; rw [List.map_append, List.map_append, ← intsPV_I]; rfl
    rw [hwl]
    refine Ev.bin hk1 (Ev.bin hk1 (Ev.list (EvL.cons ?w1 EvL.nil rfl) (show 1 ≤ sizeLine by decide)) (Ev.cell rfl rfl rfl rfl) (bin_addL (by rw [intsPV_len]; simp only [List.length_singleton]; lia))) (Ev.list (EvL.cons ?w2 EvL.nil rfl) (show 1 ≤ sizeLine by decide)) (bin_addL (by rw [List.length_append, intsPV_len]; simp only [List.length_singleton]; lia))
    case w1 =>
      refine Ev.bin hk1 (Ev.bin (b := .int (c.getD 0 0 : Nat)) hk1 Ev.int ?_ (bin_mul (mulOk (by decide)))) (b := .int (c.getD 1 0 : Nat)) ?_ bin_sub
      · exact Ev.item (a := .list (intsPV c)) (b := .int 0) (Ev.cell rfl rfl rfl rfl) Ev.int (item_list_nat (j := 0) rfl (by rw [intsPV_len]; lia) (hat _ (by lia))) fun _ _ => rfl
      · exact Ev.item (a := .list (intsPV c)) (b := .int 1) (Ev.cell rfl rfl rfl rfl) Ev.int (item_list_nat (j := 1) rfl (by rw [intsPV_len]; omega) (hat _ (by lia))) fun _ _ => rfl
    case w2 =>
      refine Ev.bin hk1 (Ev.bin (b := .int (c.getD (c.length - 1) 0 : Nat)) hk1 Ev.int ?_ (bin_mul (mulOk (by decide)))) (b := .int (c.getD (c.length - 2) 0 : Nat)) ?_ bin_sub
      · exact Ev.item (a := .list (intsPV c)) (b := .int (-1)) (Ev.cell rfl rfl rfl rfl) (Ev.neg Ev.int) (item_list_neg (j := 1) rfl (by decide) (by rw [intsPV_len]; lia) (by rw [intsPV_len]; omega) (by rw [intsPV_len]; exact hat _ (by lia))) fun _ _ => rfl
      · exact Ev.item (a := .list (intsPV c)) (b := .int (-2)) (Ev.cell rfl rfl rfl rfl) (Ev.neg Ev.int) (item_list_neg (j := 2) rfl (by decide) (by rw [intsPV_len]; lia) (by rw [intsPV_len]; omega) (by rw [intsPV_len]; exact hat _ (by lia))) fun _ _ => rfl
  refine Goes.seq (turn_9 F (by omega) hc hf12 rfl rfl hmany) ?_
  refine Goes.seq (turn_10 F (by omega) hc hf12 rfl rfl hmany) ?_
  refine Goes.seq (turn_11 F.toBelow (by omega) hc hf12 rfl rfl hmany rfl) ?_
  refine Goes.seq (turn_12 F.toBelow (by omega) hc hf12 rfl rfl hmany rfl) ?_
  refine Goes.seq (turn_13 F.toBelow (by omega) (n1 := (1 + t % 2) * (c.length + 1) - 1) (n2 := (1 + t % 2) * (c.length - 1) - 1) (by rcases hf12 with e | e <;> rw [e] <;> lia) (by rcases hf12 with e | e <;> rw [e] <;> lia) rfl rfl) ?_
  refine Goes.next (Ex.one (turn_14 (by omega) (c := c) (by lia) rfl rfl)) ?_
  exact ((((((((((Sub.refl _).fresh rfl).fresh rfl).fresh rfl).fresh rfl).fresh rfl).fresh rfl).fresh rfl).fresh rfl).fresh rfl).fresh rfl
end
end Mine

namespace Mine

/-- one row on -/
noncomputable def stp (ps : List (Nat × Bool)) (bl : Bool) (w i : Nat) : Nat := if left ps i + more bl ≤ w then ps.length else nxt ps w i
/-- so many rows on -/
noncomputable def walk (ps : List (Nat × Bool)) (bl : Bool) (w : Nat) : Nat → Nat → Nat
  | 0, i => i
  | t + 1, i => walk ps bl w t (stp ps bl w i)
section
variable {ps : List (Nat × Bool)} {bl : Bool} {w : Nat}
theorem stp_le (i : Nat) : stp ps bl w i ≤ ps.length := by
  unfold stp; split
  · exact Nat.le_refl _
  · exact nxt_le _ _ _
theorem stp_end (hw : 4 ≤ w) : stp ps bl w ps.length = ps.length := by
  unfold stp
  rw [if_pos (by rw [left_all]; have := more_le bl; lia)]
theorem walk_end (hw : 4 ≤ w) : ∀ t, walk ps bl w t ps.length = ps.length
  | 0 => rfl
  | t + 1 => by unfold walk; rw [stp_end hw]; exact walk_end hw t
theorem left_anti {i j : Nat} (h : i ≤ j) (hj : j ≤ ps.length) : left ps j ≤ left ps i := by
  unfold left
  have := posP_mono (ps := ps) h
  (clear hj h; omega)
theorem stp_mono {w' i i' : Nat} (hi : i ≤ i') (hi' : i' ≤ ps.length) (hw : w ≤ w') : stp ps bl w i ≤ stp ps bl w' i' := by
  have hl := left_anti (ps := ps) hi hi'
  unfold stp
  by_cases h' : left ps i' + more bl ≤ w'
  · rw [if_pos h']
    split
    · exact Nat.le_refl _
    · exact nxt_le _ _ _
  · rw [if_neg h', if_neg (by lia)]
    have h1 : posP ps (nxt ps w i) ≤ posP ps i + w - 1 := nxtB_pos ps (posP ps i + w - 1) ps.length
    have := posP_mono (ps := ps) hi
    exact nxtB_max (nxtB_le _ _ _) (by (clear h' hl hi' hi; omega))
theorem walk_mono {w' : Nat} (hw : w ≤ w') : ∀ (t i i' : Nat), i ≤ i' → i' ≤ ps.length → walk ps bl w t i ≤ walk ps bl w' t i'
  | 0, i, i', h, _ => h
  | t + 1, i, i', h, h' => walk_mono hw t _ _ (stp_mono h h' hw) (stp_le _)
theorem walk_le : ∀ (t i : Nat), i ≤ ps.length → walk ps bl w t i ≤ ps.length
  | 0, i, h => h
  | t + 1, i, h => walk_le t _ (stp_le _)
/-- a fold is a walk -/
theorem atStep_walk (hw : 4 ≤ w) : ∀ (n i t : Nat), i ≤ ps.length → ps.length - i < n → atStep (i :: endsE ps bl w n i) t = walk ps bl w t i
  | 0, i, t, hi, h => by lia
  | n + 1, i, t, hi, h => by
    unfold endsE
    by_cases hf : left ps i + more bl ≤ w
    · rw [if_pos hf]
      cases t with
      | zero => rfl
      | succ t =>
        unfold walk
        have : stp ps bl w i = ps.length := if_pos hf
        rw [this, walk_end hw]
        unfold atStep
        have : min (t + 1) ([i, ps.length].length - 1) = 1 := by simp
        rw [this]; rfl
    · rw [if_neg hf]
      have hlt := nofit_lt hw hi hf
      have hg := nxt_gt hw hlt
      cases t with
      | zero => rfl
      | succ t =>
        unfold walk
        have : stp ps bl w i = nxt ps w i := if_neg hf
        rw [this, ← atStep_walk hw n (nxt ps w i) t (nxt_le _ _ _) (by (clear this hf hi hw; omega))]
        unfold atStep
        have e : min (t + 1) ((i :: nxt ps w i :: endsE ps bl w n (nxt ps w i)).length - 1) = min t ((nxt ps w i :: endsE ps bl w n (nxt ps w i)).length - 1) + 1 := by
          simp only [List.length_cons]; lia
        rw [e]; rfl
theorem ends_anti {w' : Nat} (hw : 4 ≤ w) (hww : w ≤ w') : ∀ (n n' i i' : Nat), i ≤ i' → i' ≤ ps.length → ps.length - i < n → ps.length - i' < n' → (endsE ps bl w' n' i').length ≤ (endsE ps bl w n i).length
  | 0, _, i, i', _, _, h, _ => by lia
  | _ + 1, 0, i, i', _, _, _, h => by lia
  | n + 1, n' + 1, i, i', hi, hi', h, h' => by
    have hl := left_anti (ps := ps) hi hi'
    unfold endsE
    by_cases hf' : left ps i' + more bl ≤ w'
    · rw [if_pos hf']
      split <;> simp
    · have hf : ¬ left ps i + more bl ≤ w := by lia
      rw [if_neg hf', if_neg hf, List.length_cons, List.length_cons]
      have hg := nxt_gt hw (nofit_lt hw (by lia) hf)
      have hg' := nxt_gt (show 4 ≤ w' by lia) (nofit_lt (show 4 ≤ w' by omega) hi' hf')
      have hst := stp_mono (ps := ps) (bl := bl) hi hi' hww
      unfold stp at hst
      rw [if_neg hf, if_neg hf'] at hst
      have := ends_anti hw hww n n' (nxt ps w i) (nxt ps w' i') hst (nxt_le _ _ _) (by have := nxt_le ps w i; lia) (by have := nxt_le ps w' i'; lia)
      lia
end

theorem foldAt_walk {x : List Nat} {s w t : Nat} (hs : s ≤ x.length) (hw : 4 ≤ w) : atStep (foldAt x s w) t = walk (x.map pieceOf) (blk x) w t s :=
  atStep_walk hw _ _ _ (by rw [List.length_map]; exact hs) (by rw [List.length_map]; (clear hw hs; omega))
theorem foldAt_le {x : List Nat} {s w t s' w' : Nat} (hs : s ≤ s') (hs' : s' ≤ x.length) (hw : 4 ≤ w) (hww : w ≤ w') : atStep (foldAt x s w) t ≤ atStep (foldAt x s' w') t := by
  rw [foldAt_walk (by lia) hw, foldAt_walk hs' (by lia)]
  exact walk_mono hww t _ _ hs (by rw [List.length_map]; exact hs')
theorem foldAt_top {x : List Nat} {s w t : Nat} (hs : s ≤ x.length) (hw : 4 ≤ w) : atStep (foldAt x s w) t ≤ x.length := by
  rw [foldAt_walk hs hw]
  have := walk_le (ps := x.map pieceOf) (bl := blk x) (w := w) t s (by rw [List.length_map]; exact hs)
  rwa [List.length_map] at this
theorem count_anti {x : List Nat} {s w s' w' : Nat} (hs : s ≤ s') (hs' : s' ≤ x.length) (hw : 4 ≤ w) (hww : w ≤ w') : (foldAt x s' w').length ≤ (foldAt x s w).length := by
  unfold foldAt endsAt
  rw [List.length_cons, List.length_cons]
  have := ends_anti (ps := x.map pieceOf) (bl := blk x) hw hww (x.length + 3) (x.length + 3) s s' hs (by rw [List.length_map]; exact hs') (by rw [List.length_map]; (clear hww hw hs' hs; omega)) (by rw [List.length_map]; (clear hww hw hs' hs; omega))
  lia

theorem sN_rise (l : List Nat) : (sN l).Pairwise (· ≤ ·) := by
  have h := sortI_rises (l.map fun (n : Nat) => (n : Int))
  rw [sN_eq] at h
  exact (List.pairwise_map.mp h).imp fun h => by lia
/-- the hands rise in both -/
theorem hands_rise (sc : List Int) : (handsZ sc).Pairwise fun a b => a.1 ≤ b.1 ∧ a.2 ≤ b.2 := by
  have key : ∀ a b : List Nat, a.Pairwise (· ≤ ·) → b.Pairwise (· ≤ ·) → (a.zip b).Pairwise fun p q => p.1 ≤ q.1 ∧ p.2 ≤ q.2 := by
    intro a
    induction a with
    | nil => intro b _ _; simp
    | cons x a ih =>
      intro b ha hb
      cases b with
      | nil => simp
      | cons y b =>
        obtain ⟨a1, a2⟩ := List.pairwise_cons.mp ha
        obtain ⟨b1, b2⟩ := List.pairwise_cons.mp hb
        refine List.pairwise_cons.mpr ⟨fun p hp => ?_, ih b a2 b2⟩
        have := List.of_mem_zip (a := p.1) (b := p.2) hp
        exact ⟨a1 _ this.1, b1 _ this.2⟩
  exact key _ _ (sN_rise _) (sN_rise _)
theorem col_ok (sc : List Int) (t : Nat) : Col (colN sc t) := by
  have hm := manyN_ge sc
  refine ⟨by rw [colN_len]; exact hm, fun a ha => ?_, ?_⟩
  · unfold colN foldsL at ha
    rw [List.map_map] at ha
    obtain ⟨h, hh, rfl⟩ := List.mem_map.mp ha
    have hok := handsZ_ok sc h hh
    have := foldAt_top (x := octs sc) (s := h.1) (w := h.2) (t := t) (by rw [octs_len]; exact hok.1) hok.2.1
    rwa [octs_len] at this
  · unfold colN foldsL
    rw [List.map_map]
    refine List.pairwise_map.mpr (List.Pairwise.imp_of_mem (fun {a b} ha hb h => ?_) (hands_rise sc))
    have h1 := handsZ_ok sc a ha
    have h2 := handsZ_ok sc b hb
    exact foldAt_le h.1 (by rw [octs_len]; exact h2.1) h1.2.1 h.2
theorem hand_at (sc : List Int) {i : Nat} (h : i < manyN sc) : (handsZ sc)[i]? = some ((sN (startsN sc)).getD i 0, (sN (widthsN sc)).getD i 0) := by
  unfold handsZ
  rw [List.getElem?_zip_eq_some]
  exact ⟨getD_some (by rw [sN_len, startsN_len]; exact h), getD_some (by rw [sN_len, widthsN_len]; exact h)⟩
theorem fold_at (sc : List Int) {i : Nat} (h : i < manyN sc) : (foldsL sc)[i]? = some (foldAt (octs sc) ((sN (startsN sc)).getD i 0) ((sN (widthsN sc)).getD i 0)) := by
  unfold foldsL
  rw [List.getElem?_map, hand_at sc h]; rfl
theorem col_at (sc : List Int) (t : Nat) {i : Nat} (h : i < manyN sc) : (colN sc t).getD i 0 = atStep (foldAt (octs sc) ((sN (startsN sc)).getD i 0) ((sN (widthsN sc)).getD i 0)) t := by
  unfold colN
  rw [List.getD_eq_getElem?_getD, List.getElem?_map, fold_at sc h]; rfl
theorem col_low (sc : List Int) (t : Nat) : atStep (lowF sc) t = (colN sc t).getD (((colN sc t).length - 1) / 2) 0 := by
  have hm := manyN_ge sc
  rw [colN_len, col_at sc t (by lia)]; rfl
theorem col_high (sc : List Int) (t : Nat) : atStep (highF sc) t = (colN sc t).getD ((colN sc t).length / 2) 0 := by
  have hm := manyN_ge sc
  rw [colN_len, col_at sc t (by lia)]; rfl

theorem sN_of {l c : List Nat} (hp : c.Perm l) (hs : c.Pairwise (· ≤ ·)) : sN l = c := map_int_inj (by
  rw [← sN_eq]
  exact sortI_eq (hp.map _) (List.pairwise_map.mpr (hs.imp fun h => by lia)))
theorem countsN_len (sc : List Int) : (countsN sc).length = manyN sc := by unfold countsN; rw [List.length_map, foldsL_len]
theorem count_at (sc : List Int) {i : Nat} (h : i < manyN sc) : (countsN sc).getD i 0 = (foldAt (octs sc) ((sN (startsN sc)).getD i 0) ((sN (widthsN sc)).getD i 0)).length - 1 := by
  unfold countsN
  rw [List.getD_eq_getElem?_getD, List.getElem?_map, fold_at sc h]; rfl
theorem counts_fall (sc : List Int) : (countsN sc).Pairwise (fun a b => b ≤ a) := by
  unfold countsN foldsL
  rw [List.map_map]
  refine List.pairwise_map.mpr (List.Pairwise.imp_of_mem (fun {a b} ha hb h => ?_) (hands_rise sc))
  have h1 := handsZ_ok sc a ha
  have h2 := handsZ_ok sc b hb
  have := count_anti (x := octs sc) h.1 (by rw [octs_len]; exact h2.1) h1.2.1 h.2
  show (foldAt _ _ _).length - 1 ≤ (foldAt _ _ _).length - 1
  omega
theorem sN_counts (sc : List Int) : sN (countsN sc) = (countsN sc).reverse := sN_of (List.reverse_perm _) (List.pairwise_reverse.mpr (counts_fall sc))
theorem rev_getD (l : List Nat) (i : Nat) (h : i < l.length) : l.reverse.getD i 0 = l.getD (l.length - 1 - i) 0 := by
  rw [List.getD_eq_getElem?_getD, List.getD_eq_getElem?_getD, List.getElem?_reverse h]
theorem counts_low (sc : List Int) : (sN (countsN sc)).getD ((manyN sc - 1) / 2) 0 = (highF sc).length - 1 := by
  have hm := manyN_ge sc
  have hl := countsN_len sc
  rw [sN_counts, rev_getD _ _ (by lia), hl, show manyN sc - 1 - (manyN sc - 1) / 2 = manyN sc / 2 by lia, count_at sc (by (clear hl; omega))]; rfl
theorem counts_high (sc : List Int) : (sN (countsN sc)).getD (manyN sc / 2) 0 = (lowF sc).length - 1 := by
  have hm := manyN_ge sc
  have hl := countsN_len sc
  rw [sN_counts, rev_getD _ _ (by lia), hl, show manyN sc - 1 - manyN sc / 2 = (manyN sc - 1) / 2 by lia, count_at sc (by (clear hl; omega))]; rfl

-- the bag
noncomputable def maxN (l : List Nat) : Nat := l.foldr max 0
theorem maxN_ge : ∀ {l : List Nat} {a : Nat}, a ∈ l → a ≤ maxN l
  | b :: l, a, h => by
    show a ≤ max b (maxN l)
    rcases List.mem_cons.mp h with rfl | h
    · exact Nat.le_max_left _ _
    · exact Nat.le_trans (maxN_ge h) (Nat.le_max_right _ _)
theorem maxN_mem : ∀ {l : List Nat}, l ≠ [] → maxN l ∈ l
  | [a], _ => by show max a 0 ∈ _; simp
  | a :: b :: l, _ => by
    have ih := maxN_mem (l := b :: l) (by simp)
    show max a (maxN (b :: l)) ∈ _
    rcases Nat.le_total a (maxN (b :: l)) with h | h
    · rw [Nat.max_eq_right h]; exact List.mem_cons_of_mem _ ih
    · rw [Nat.max_eq_left h]; exact List.mem_cons_self ..
noncomputable def pairsN (sc : List Int) : List (Nat × Nat) := (handsZ sc).zipWith (fun h c => (h.2, c)) (countsN sc)
noncomputable def minsN (l : List (Nat × Nat)) : List Nat := l.map fun p => min p.1 p.2
noncomputable def maxsN (l : List (Nat × Nat)) : List Nat := l.map fun p => max p.1 p.2
theorem minmax_perm : ∀ l : List (Nat × Nat), (minsN l ++ maxsN l).Perm (l.map (·.2) ++ l.map (·.1))
  | [] => .nil
  | (a, b) :: l => by
    have ih := minmax_perm l
    show (min a b :: (minsN l ++ max a b :: maxsN l)).Perm (b :: (l.map (·.2) ++ a :: l.map (·.1)))
    refine ((List.perm_middle.cons _).trans ?_).trans (List.perm_middle.symm.cons _)
    rcases Nat.le_total a b with h | h
    · rw [Nat.min_eq_left h, Nat.max_eq_right h]
      exact (List.Perm.swap _ _ _).trans ((ih.cons _).cons _)
    · rw [Nat.min_eq_right h, Nat.max_eq_left h]
      exact (ih.cons _).cons _
theorem mins_le {l : List (Nat × Nat)} (h : l.Pairwise fun p q => p.1 ≤ q.1 ∧ q.2 ≤ p.2) : ∀ a ∈ minsN l, ∀ b ∈ maxsN l, a ≤ b := by
  intro a ha b hb
  obtain ⟨p, hp, rfl⟩ := List.mem_map.mp ha
  obtain ⟨q, hq, rfl⟩ := List.mem_map.mp hb
  have key : p = q ∨ (p.1 ≤ q.1 ∧ q.2 ≤ p.2) ∨ (q.1 ≤ p.1 ∧ p.2 ≤ q.2) := by
    clear ha hb
    induction l with
    | nil => simp at hp
    | cons x l ih =>
      obtain ⟨h1, h2⟩ := List.pairwise_cons.mp h
      rcases List.mem_cons.mp hp with e1 | hp' <;> rcases List.mem_cons.mp hq with e2 | hq'
      · left; rw [e1, e2]
      · right; left; rw [e1]; exact h1 q hq'
      · right; right; rw [e2]; exact h1 p hp'
      · exact ih h2 hp' hq'
  rcases key with rfl | h | h <;> lia
theorem sN_perm (l : List Nat) : (sN l).Perm l := by
  have h := (sortI_perm (l.map fun (n : Nat) => (n : Int))).map Int.toNat
  have e : (Int.toNat ∘ fun (n : Nat) => (n : Int)) = id := by funext n; rfl
  rw [List.map_map, e, List.map_id] at h
  exact h
theorem bag_mid {l : List (Nat × Nat)} {bag : List Nat} (hl : l ≠ []) (h : l.Pairwise fun p q => p.1 ≤ q.1 ∧ q.2 ≤ p.2) (hb : bag.Perm (l.map (·.2) ++ l.map (·.1))) :
    (sN bag).getD ((bag.length - 1) / 2) 0 = maxN (minsN l) ∧ (∀ m, m ∈ maxsN l → (∀ a ∈ maxsN l, m ≤ a) → (sN bag).getD (bag.length / 2) 0 = m) := by
  have hs1 := sN_rise (minsN l)
  have hs2 := sN_rise (maxsN l)
  have p1 := sN_perm (minsN l)
  have p2 := sN_perm (maxsN l)
  have hle := mins_le h
  have hsort : sN bag = sN (minsN l) ++ sN (maxsN l) := sN_of (((p1.append p2).trans (minmax_perm l)).trans hb.symm) (List.pairwise_append.mpr ⟨hs1, hs2, fun a ha b hb => hle a (p1.mem_iff.mp ha) b (p2.mem_iff.mp hb)⟩)
  have hlen : bag.length = l.length + l.length := by rw [hb.length_eq, List.length_append, List.length_map, List.length_map]
  have hl1 : (sN (minsN l)).length = l.length := by rw [sN_len]; exact List.length_map ..
  have hl2 : (sN (maxsN l)).length = l.length := by rw [sN_len]; exact List.length_map ..
  have hpos : 0 < l.length := List.length_pos_iff.mpr hl
  constructor
  · rw [hsort, List.getD_eq_getElem?_getD, List.getElem?_append_left (by lia), ← List.getD_eq_getElem?_getD]
    have hmn : minsN l ≠ [] := by unfold minsN; simp [hl]
    refine Nat.le_antisymm (maxN_ge (p1.mem_iff.mp (getD_mem (by omega)))) ?_
    have hm := p1.mem_iff.mpr (maxN_mem hmn)
    obtain ⟨j, hj, hje⟩ := List.getElem_of_mem hm
    rw [← hje, List.getD_eq_getElem?_getD, List.getElem?_eq_getElem (by lia)]
    show _ ≤ (sN (minsN l))[(bag.length - 1) / 2]
    rcases Nat.lt_or_ge j ((bag.length - 1) / 2) with h' | h'
    · exact List.pairwise_iff_getElem.mp hs1 j _ hj (by omega) h'
    · have : j = (bag.length - 1) / 2 := by lia
      subst this; exact Nat.le_refl _
  · intro m hm hmin
    rw [hsort, List.getD_eq_getElem?_getD, List.getElem?_append_right (by lia), ← List.getD_eq_getElem?_getD, hl1, show bag.length / 2 - l.length = 0 by lia]
    refine Nat.le_antisymm ?_ (hmin _ (p2.mem_iff.mp (getD_mem (by lia))))
    obtain ⟨j, hj, hje⟩ := List.getElem_of_mem (p2.mem_iff.mpr hm)
    rw [← hje, List.getD_eq_getElem?_getD, List.getElem?_eq_getElem (by lia)]
    show (sN (maxsN l))[0] ≤ _
    rcases Nat.eq_zero_or_pos j with h' | h'
    · subst h'; exact Nat.le_refl _
    · exact List.pairwise_iff_getElem.mp hs2 0 j (by omega) hj h'
end Mine

namespace Mine
open PySem.Challenge

noncomputable def bagN (sc : List Int) : List Nat := countsN sc ++ widthsN sc
theorem pairsN_len (sc : List Int) : (pairsN sc).length = manyN sc := by unfold pairsN; rw [List.length_zipWith, handsZ_len, countsN_len]; lia
theorem pairs_counts (sc : List Int) : (pairsN sc).map (·.2) = countsN sc := by
  have key : ∀ (a : List (Nat × Nat)) (b : List Nat), a.length = b.length → (a.zipWith (fun h c => (h.2, c)) b).map (·.2) = b := by
    intro a
    induction a with
    | nil => intro b h; cases b with | nil => rfl | cons => simp at h
    | cons x a ih =>
      intro b h
      cases b with
      | nil => simp at h
      | cons y b => rw [List.zipWith_cons_cons, List.map_cons, ih b (by simpa using h)]
  exact key _ _ (by rw [handsZ_len, countsN_len])
theorem pairs_widths (sc : List Int) : (pairsN sc).map (·.1) = sN (widthsN sc) := by
  have key : ∀ (a : List Nat) (w : List Nat) (b : List Nat), a.length = w.length → w.length = b.length → ((a.zip w).zipWith (fun h c => (h.2, c)) b).map (·.1) = w := by
    intro a
    induction a with
    | nil => intro w b h; cases w with | nil => intro _; rfl | cons => simp at h
    | cons x a ih =>
      intro w b h h2
      cases w with
      | nil => simp at h
      | cons z w =>
        cases b with
        | nil => simp at h2
        | cons y b => rw [List.zip_cons_cons, List.zipWith_cons_cons, List.map_cons, ih w b (by simpa using h) (by simpa using h2)]
  exact key _ _ _ (by rw [sN_len, sN_len, startsN_len, widthsN_len]) (by rw [sN_len, widthsN_len, countsN_len])
theorem pairs_rise (sc : List Int) : (pairsN sc).Pairwise fun p q => p.1 ≤ q.1 ∧ q.2 ≤ p.2 := by
  have key : ∀ (a : List (Nat × Nat)) (b : List Nat), a.Pairwise (fun p q => p.1 ≤ q.1 ∧ p.2 ≤ q.2) → b.Pairwise (fun x y => y ≤ x) → (a.zipWith (fun h c => (h.2, c)) b).Pairwise fun p q => p.1 ≤ q.1 ∧ q.2 ≤ p.2 := by
    intro a
    induction a with
    | nil => intro b _ _; simp
    | cons x a ih =>
      intro b ha hb
      cases b with
      | nil => simp
      | cons y b =>
        obtain ⟨a1, a2⟩ := List.pairwise_cons.mp ha
        obtain ⟨b1, b2⟩ := List.pairwise_cons.mp hb
        rw [List.zipWith_cons_cons]
        refine List.pairwise_cons.mpr ⟨fun p hp => ?_, ih b a2 b2⟩
        have hp' : p ∈ (a.zip b).map fun z => (z.1.2, z.2) := by rw [List.map_zip_eq_zipWith]; exact hp
        obtain ⟨z, hz, rfl⟩ := List.mem_map.mp hp'
        have := List.of_mem_zip (a := z.1) (b := z.2) hz
        exact ⟨(a1 _ this.1).2, b1 _ this.2⟩
  exact key _ _ (hands_rise sc) (counts_fall sc)
theorem bag_facts (sc : List Int) : (sN (bagN sc)).getD (((bagN sc).length - 1) / 2) 0 = maxN (minsN (pairsN sc)) ∧ (∀ m, m ∈ maxsN (pairsN sc) → (∀ a ∈ maxsN (pairsN sc), m ≤ a) → (sN (bagN sc)).getD ((bagN sc).length / 2) 0 = m) := by
  have hm := manyN_ge sc
  refine bag_mid (l := pairsN sc) (by intro z; have := pairsN_len sc; rw [z] at this; simp at this; lia) (pairs_rise sc) ?_
  rw [pairs_counts, pairs_widths]
  exact (List.Perm.refl _).append (sN_perm _).symm
theorem bagN_len (sc : List Int) : (bagN sc).length = 2 * manyN sc := by unfold bagN; rw [List.length_append, countsN_len, widthsN_len]; lia
theorem min_ex : ∀ l : List Nat, l ≠ [] → ∃ m ∈ l, ∀ a ∈ l, m ≤ a
  | [a], _ => ⟨a, by simp, fun b hb => by rw [List.mem_singleton.mp hb]; exact Nat.le_refl _⟩
  | a :: b :: l, _ => by
    obtain ⟨m, hm, h⟩ := min_ex (b :: l) (by simp)
    rcases Nat.le_total a m with h' | h'
    · exact ⟨a, by simp, fun c hc => by
        rcases List.mem_cons.mp hc with rfl | hc
        · exact Nat.le_refl _
        · exact Nat.le_trans h' (h c hc)⟩
    · exact ⟨m, List.mem_cons_of_mem _ hm, fun c hc => by
        rcases List.mem_cons.mp hc with rfl | hc
        · exact h'
        · exact h c hc⟩

section
variable {prog : Program} {w' : World} {h₀ : Heap} {k : Nat} {X : Addr → Prop} {q : Str} {f L : Addr} {cd : Value} {ρ : List (Str × PV)}

theorem int_mem {l : List Nat} {m : Nat} (h : m ∈ l) : (m : Int) ∈ l.map fun (n : Nat) => (n : Int) := List.mem_map.mpr ⟨m, h, rfl⟩
theorem law_20 (F : Fns h₀) (hk : k ≤ 15) {sc : List Int} : Ex1 (cxL prog w' h₀ X q f L cd (k + 1)) (st19 sc) (stL 20) (.next (st19 sc) none) := by
  have hk1 : k + 1 ≤ 40 := by lia
  have hm := manyN_ge sc
  have hl := countsN_len sc
  have hc0 : countsN sc ≠ [] := by intro z; rw [z] at hl; simp at hl; lia
  have hcb : maxN (countsN sc) ≤ 14 := by
    have := maxN_mem hc0
    unfold countsN at this
    obtain ⟨l, h1, h2⟩ := List.mem_map.mp this
    have := (folds_in h1).2
    unfold countsN
    omega
  refine Ex1.for_ (ds := rangeD 0 (maxN (countsN sc) + 1)) (EvIt.range1 (i := ((maxN (countsN sc) + 1 : Nat) : Int)) rfl (by lia) (Ev.builtin F.range rfl rfl rfl rfl rfl) (EvL.cons ?n EvL.nil rfl) rfl rfl) (fun _ => rfl) (fun _ => st19 sc) (fun _ => none) (Sub.refl _) rfl ?turn
  case n =>
    refine (Ev.bin (a := .int (maxN (countsN sc) : Nat)) hk1 ?_ Ev.int bin_add).of_eq (by congr 1)
    refine Ev.callB (ds := [.list ((countsN sc).map (fun (n : Nat) => (n : Int)) |>.map .int)]) (Ev.builtin F.max rfl rfl rfl rfl rfl) (EvL.cons ((Ev.local_ rfl rfl rfl rfl).of_eq (by rw [intsPV_I])) EvL.nil rfl) (call_max (int_mem (maxN_mem hc0)) fun a ha => ?_) rfl rfl
    obtain ⟨n, hn, rfl⟩ := List.mem_map.mp ha
    have := maxN_ge hn
    lia
  case turn =>
    intro i d hd X'
    obtain ⟨hi, rfl⟩ := rangeD_get hd
    rw [Int.zero_add]
    exact ⟨_, AsOk.name (StOk.cellC (n := L + 1) (i := 31) rfl rfl rfl rfl), law_turn F hk (col_ok sc i) (col_low sc i) (col_high sc i)⟩

theorem law_21 (F : Fns h₀) (hk : k ≤ 15) {sc : List Int} (h1 : ρ.lookup (Str.ofString "counts") = some (.list (intsPV (countsN sc)))) (h2 : ρ.lookup (Str.ofString "high") = some (.list (intsPV (highF sc)))) (h3 : ρ.lookup (Str.ofString "low") = some (.list (intsPV (lowF sc)))) : Ex1 (cxL prog w' h₀ X q f L cd (k + 1)) ρ (stL 21) (.next ρ none) := by
  have hk1 : k + 1 ≤ 40 := by omega
  have hm := manyN_ge sc
  have hl := countsN_len sc
  have hfo := fold_ok sc
  have lenEv : ∀ (x : Str) (l : List Nat), l.length ≤ 100 → 1 ≤ l.length → ρ.lookup x = some (.list (intsPV l)) → (scopeAt 31).names.lookup x = some .local → (x == ("__debug__" : Str)) = false → ∀ p1 p2 p3 p4 p5 kk, Ev (cxL prog w' h₀ X q f L cd (k + 1)) ρ (.BinOp (.Call (.Name (Str.ofString "len") p1) [.Name x p2] [] p3) .Sub (.Constant (.int 1) kk p4) p5) (.int ((l.length - 1 : Nat) : Int)) := fun x l hll hl1 hx hxl hxd p1 p2 p3 p4 p5 kk => by
    refine (Ev.bin (a := .int (l.length : Nat)) hk1 ?_ Ev.int bin_sub).of_eq (by congr 1; lia)
    exact (Ev.callB (ds := [.list (intsPV l)]) (Ev.builtin F.len rfl rfl rfl rfl rfl) (EvL.cons (Ev.local_ (c := cxL prog w' h₀ X q f L cd (k + 1)) hx rfl hxl hxd) EvL.nil rfl) (call_lenL (by rw [intsPV_len]; lia)) rfl rfl).of_eq (by rw [intsPV_len])
  refine Ex1.if_ (b := false) (Ts.boolop (TsA.or_f ((Ts.cmp (a := .int (((highF sc).length - 1 : Nat) : Int)) hk1 ((ev_med F ⟨rfl, rfl⟩ (by show k + 1 ≤ 30; lia) (l := countsN sc) (by lia) (by lia) (.inl ⟨rfl, rfl⟩) (Ev.local_ h1 rfl rfl rfl) rfl).of_eq (by rw [hl, counts_low])) (lenEv _ _ (by lia) (by lia) h2 rfl (by decide +kernel) _ _ _ _ _ _) cmp_ne rfl).of (by simp)) (TsA.or_f ((Ts.cmp (a := .int (((lowF sc).length - 1 : Nat) : Int)) hk1 ((ev_med F ⟨rfl, rfl⟩ (by show k + 1 ≤ 30; omega) (l := countsN sc) (by omega) (by omega) (.inr ⟨rfl, rfl⟩) (Ev.local_ h1 rfl rfl rfl) rfl).of_eq (by rw [hl, counts_high])) (lenEv _ _ (by lia) (by lia) h3 rfl (by decide +kernel) _ _ _ _ _ _) cmp_ne rfl).of (by simp)) TsA.or_nil))) (fun h => nomatch h) fun _ => Ex.nil

theorem law_22 (F : Below h₀) (hk : k ≤ 20) {sc : List Int} (h1 : ρ.lookup (Str.ofString "hands") = some (.list (handsPV (handsZ sc)))) (h2 : ρ.lookup (Str.ofString "counts") = some (.list (intsPV (countsN sc)))) : Ex1 (cxL prog w' h₀ X q f L cd (k + 1)) ρ (stL 22) (.next (("pairs", .list (handsPV (pairsN sc))) :: ρ) none) := by
  have hk1 : k + 1 ≤ 40 := by lia
  have e24 : sizeLine = 16777216 := rfl
  have hm := manyN_ge sc
  have hl := countsN_len sc
  have hl2 := handsZ_len sc
  have hres : handsPV (pairsN sc) = keepOnly (((pairsN sc).map fun p => PV.tup [.int (p.1 : Nat), .int (p.2 : Nat)]).map some) := by rw [← keep_map]; rfl
  rw [hres]
  refine Ex1.assignC rfl (CompOk.mk1 (ρf := []) (cl := []) (ds := zipD (handsPV (handsZ sc)) (intsPV (countsN sc))) (EvIt.zip (Ev.builtin F.zip rfl rfl rfl rfl rfl) (EvL.cons (Ev.local_ h1 rfl rfl rfl) (EvL.cons (Ev.local_ h2 rfl rfl rfl) EvL.nil rfl) rfl) rfl rfl) rfl (by decide +kernel) (by decide +kernel) rfl (fun p hp => by simp at hp) (fun p hp => by simp at hp) (by unfold zipD handsPV; rw [List.length_map, List.length_map, List.length_zipWith, List.length_map, intsPV_len, pairsN_len]; lia) (by unfold zipD handsPV; rw [List.length_zipWith, List.length_map, intsPV_len]; lia) (fun _ => rfl) ?_) (StOk.local_ rfl (plainScope_fn rfl))
  intro i d r hd hr
  obtain ⟨a, b, ha, hb, rfl⟩ := zipD_get hd
  obtain ⟨n, hn, rfl⟩ := hands_get ha
  obtain ⟨m, hmm, rfl⟩ := intsPV_get hb
  have hp : (pairsN sc)[i]? = some (n.2, m) := by unfold pairsN; rw [List.getElem?_zipWith, hn, hmm]
  have := rs_get hp hr
  subst this
  intro X' C
  refine ⟨_, AsOk.two (c := { cxL prog w' h₀ X q f L cd (k + 1) with X := X', M := fun _ => False, ow := none, env := compEnvC _ _ C _ }) (fun b z => .inl (.inl z)) (StOk.loc rfl (plainScope_fn rfl)) (StOk.loc rfl (plainScope_fn rfl)), IfsOk.nil, fun g hg => ?_⟩
  cases hg
  refine Ev.tuple (EvL.cons ?_ (EvL.cons (Ev.local_ rfl rfl rfl rfl) EvL.nil rfl) rfl) (show 2 ≤ sizeLine by decide)
  exact Ev.item (a := .tup [.int (n.1 : Nat), .int (n.2 : Nat)]) (b := .int 1) (Ev.local_ rfl rfl rfl rfl) Ev.int (item_tup_nat (j := 1) rfl (show 2 < 2 ^ 63 by decide) rfl) fun _ _ => rfl

theorem law_23 (hk : k ≤ 20) {sc : List Int} (h1 : ρ.lookup (Str.ofString "counts") = some (.list (intsPV (countsN sc)))) (h2 : ρ.lookup (Str.ofString "widths") = some (.list (intsPV (widthsN sc)))) : Ex1 (cxL prog w' h₀ X q f L cd (k + 1)) ρ (stL 23) (.next (("bag", .list (intsPV (bagN sc))) :: ρ) none) := by
  have hk1 : k + 1 ≤ 40 := by omega
  have e24 : sizeLine = 16777216 := rfl
  have hm := manyN_ge sc
  refine Ex1.assign ((Ev.bin hk1 (Ev.local_ h1 rfl rfl rfl) (Ev.local_ h2 rfl rfl rfl) (bin_addL (by rw [intsPV_len, intsPV_len, countsN_len, widthsN_len]; lia))).of_eq (by unfold bagN intsPV; rw [List.map_append])) (StOk.local_ rfl (plainScope_fn rfl)) rfl

theorem minI (x y : Nat) : (if (y : Int) < (x : Int) then (y : Int) else (x : Int)) = ((min x y : Nat) : Int) := by split <;> lia
theorem maxI (x y : Nat) : (if (y : Int) > (x : Int) then (y : Int) else (x : Int)) = ((max x y : Nat) : Int) := by split <;> lia
theorem law_24 (F : Fns h₀) (hk : k ≤ 15) {sc : List Int} (h1 : ρ.lookup (Str.ofString "bag") = some (.list (intsPV (bagN sc)))) (h2 : ρ.lookup (Str.ofString "pairs") = some (.list (handsPV (pairsN sc)))) : Ex1 (cxL prog w' h₀ X q f L cd (k + 1)) ρ (stL 24) (.next ρ none) := by
  have hk1 : k + 1 ≤ 40 := by omega
  have e24 : sizeLine = 16777216 := rfl
  have hm := manyN_ge sc
  have hl := bagN_len sc
  have hpl := pairsN_len sc
  obtain ⟨b1, b2⟩ := bag_facts sc
  have hmn : minsN (pairsN sc) ≠ [] := by intro z; have := congrArg List.length z; unfold minsN at this; rw [List.length_map, hpl] at this; simp at this; lia
  have hmx : maxsN (pairsN sc) ≠ [] := by intro z; have := congrArg List.length z; unfold maxsN at this; rw [List.length_map, hpl] at this; simp at this; omega
  obtain ⟨m, hm1, hm2⟩ := min_ex _ hmx
  have b3 := b2 m hm1 hm2
  refine Ex1.if_ (b := false) (Ts.boolop (TsA.or_f ((Ts.cmp (a := .int (maxN (minsN (pairsN sc)) : Nat)) (b := .int (maxN (minsN (pairsN sc)) : Nat)) hk1 ((ev_med F ⟨rfl, rfl⟩ (by show k + 1 ≤ 30; lia) (l := bagN sc) (by lia) (by lia) (.inl ⟨rfl, rfl⟩) (Ev.local_ h1 rfl rfl rfl) rfl).of_eq (by rw [b1])) ?mx cmp_ne rfl).of (by simp)) (TsA.or_f ((Ts.cmp (a := .int (m : Nat)) (b := .int (m : Nat)) hk1 ((ev_med F ⟨rfl, rfl⟩ (by show k + 1 ≤ 30; omega) (l := bagN sc) (by omega) (by omega) (.inr ⟨rfl, rfl⟩) (Ev.local_ h1 rfl rfl rfl) rfl).of_eq (by rw [b3])) ?mn cmp_ne rfl).of (by simp)) TsA.or_nil))) (fun h => nomatch h) fun _ => Ex.nil
  case mx =>
    refine Ev.callB (ds := [.list ((minsN (pairsN sc)).map (fun (n : Nat) => (n : Int)) |>.map .int)]) (Ev.builtin F.max rfl rfl rfl rfl rfl) (EvL.cons ?_ EvL.nil rfl) (call_max (int_mem (maxN_mem hmn)) fun a ha => ?_) rfl rfl
    · have hres : ((minsN (pairsN sc)).map (fun (n : Nat) => (n : Int)) |>.map PV.int) = keepOnly (((pairsN sc).map fun p => PV.int (min p.1 p.2 : Nat)).map some) := by rw [← keep_map]; unfold minsN; rw [List.map_map, List.map_map]; rfl
      rw [hres]
      refine Ev.comp (CompOk.mk1 (ρf := []) (cl := []) (ds := handsPV (pairsN sc)) (EvIt.list (.name _ _) (Ev.local_ h2 rfl rfl rfl)) rfl (by decide +kernel) (by decide +kernel) rfl (fun p hp => by simp at hp) (fun p hp => by simp at hp) (by simp [handsPV]) (by unfold handsPV; rw [List.length_map]; lia) (fun _ => rfl) ?_)
      intro i d r hd hr
      obtain ⟨n, hn, rfl⟩ := hands_get hd
      have := rs_get hn hr
      subst this
      intro X' C
      refine ⟨_, AsOk.name (StOk.loc rfl (plainScope_fn rfl)), IfsOk.nil, fun g hg => ?_⟩
      cases hg
      exact (Ev.callB (ds := [.tup [.int (n.1 : Nat), .int (n.2 : Nat)]]) (Ev.builtin F.min rfl rfl rfl rfl rfl) (EvL.cons (Ev.local_ rfl rfl rfl rfl) EvL.nil rfl) call_minT rfl rfl).of_eq (by rw [minI])
    · obtain ⟨n, hn, rfl⟩ := List.mem_map.mp ha
      have := maxN_ge hn
      lia
  case mn =>
    refine Ev.callB (ds := [.list ((maxsN (pairsN sc)).map (fun (n : Nat) => (n : Int)) |>.map .int)]) (Ev.builtin F.min rfl rfl rfl rfl rfl) (EvL.cons ?_ EvL.nil rfl) (call_min (int_mem hm1) fun a ha => ?_) rfl rfl
    · have hres : ((maxsN (pairsN sc)).map (fun (n : Nat) => (n : Int)) |>.map PV.int) = keepOnly (((pairsN sc).map fun p => PV.int (max p.1 p.2 : Nat)).map some) := by rw [← keep_map]; unfold maxsN; rw [List.map_map, List.map_map]; rfl
      rw [hres]
      refine Ev.comp (CompOk.mk1 (ρf := []) (cl := []) (ds := handsPV (pairsN sc)) (EvIt.list (.name _ _) (Ev.local_ h2 rfl rfl rfl)) rfl (by decide +kernel) (by decide +kernel) rfl (fun p hp => by simp at hp) (fun p hp => by simp at hp) (by simp [handsPV]) (by unfold handsPV; rw [List.length_map]; omega) (fun _ => rfl) ?_)
      intro i d r hd hr
      obtain ⟨n, hn, rfl⟩ := hands_get hd
      have := rs_get hn hr
      subst this
      intro X' C
      refine ⟨_, AsOk.name (StOk.loc rfl (plainScope_fn rfl)), IfsOk.nil, fun g hg => ?_⟩
      cases hg
      exact (Ev.callB (ds := [.tup [.int (n.1 : Nat), .int (n.2 : Nat)]]) (Ev.builtin F.max rfl rfl rfl rfl rfl) (EvL.cons (Ev.local_ rfl rfl rfl rfl) EvL.nil rfl) call_maxT rfl rfl).of_eq (by rw [maxI])
    · obtain ⟨n, hn, rfl⟩ := List.mem_map.mp ha
      have := hm2 n hn
      lia

theorem law_25 (F : Fns h₀) (hk : k ≤ 15) {sc : List Int} (h1 : ρ.lookup (Str.ofString "starts") = some (.list (intsPV (startsN sc)))) (h2 : ρ.lookup (Str.ofString "widths") = some (.list (intsPV (widthsN sc)))) (h3 : ρ.lookup (Str.ofString "many") = some (.int (manyN sc : Nat))) : Ex1 (cxL prog w' h₀ X q f L cd (k + 1)) ρ (stL 25) (.next ρ none) := by
  have hk1 : k + 1 ≤ 40 := by omega
  have e24 : sizeLine = 16777216 := rfl
  have hm := manyN_ge sc
  have hwl := widthsN_len sc
  have hsl := startsN_len sc
  obtain ⟨fm, fdm, da, hgm, HM, hkw⟩ := F.qua
  obtain ⟨om, hom, hdm⟩ := HM.obj
  obtain ⟨w0, hw0⟩ : ∃ w0, (widthsN sc).take 1 = [w0] := by
    match h : widthsN sc, hwl with
    | [], hwl => simp at hwl; lia
    | a :: l, _ => exact ⟨a, rfl⟩
  have hsl1 : ∀ p1 p2 p3 p4 kk, Ev (cxL prog w' h₀ X q f L cd (k + 1)) ρ (.Subscript (.Name (Str.ofString "widths") p1) (.Slice none (some (.Constant (.int 1) kk p2)) none p3) p4) (.list [.int (w0 : Nat)]) := fun p1 p2 p3 p4 kk =>
    (Ev.sliceL (ds := intsPV (widthsN sc)) (lo := none) (hi := some ((1 : Nat) : Int)) (Ev.local_ h2 rfl rfl rfl) EvP.none (EvP.some Ev.int) (by rw [intsPV_len]; lia)).of_eq (by rw [cut_upto]; unfold intsPV; rw [← List.map_take, hw0]; rfl)
  have hbs : ∀ j, ((sortI ((startsN sc).map fun (n : Nat) => (n : Int))).getD j 0).natAbs < 2 ^ 20 := fun j => by
    rw [sN_getD]
    by_cases hj : j < (sN (startsN sc)).length
    · have := startsN_le sc _ (sN_mem (getD_mem hj)); (clear hj hsl1 hw0 hdm hom hkw HM hgm hsl hwl hm e24 hk1 h3 h2 h1 hk F; omega)
    · rw [List.getD_eq_getElem?_getD, List.getElem?_eq_none (by lia)]; decide
  refine Ex1.if_ (b := false) (Ts.boolop (TsA.or_f ((Ts.cmp (a := .list []) hk1 ?q1 (Ev.list (ds := []) EvL.nil (by decide)) cmp_neNil rfl).of rfl) (TsA.or_f (Ts.cmp (a := .list ((List.replicate (manyN sc - 1) (w0 : Int)).map .int)) (b := .list ((List.replicate (manyN sc - 1) (w0 : Int)).map .int)) hk1 ?q2 ?rep cmp_neInts rfl) TsA.or_nil))) (fun h => nomatch h) fun _ => Ex.nil
  case q1 =>
    have := ok_quant_excl (prog := prog) (w := w') F.toBelow HM hkw (k := k + 1) (by omega) (ns := (startsN sc).map fun (n : Nat) => (n : Int)) (n := 1) (by rw [List.length_map]; lia) (by rw [List.length_map]; lia) (by decide) (by decide) hbs
    exact Ev.callW (ds := [.list ((startsN sc).map (fun (n : Nat) => (n : Int)) |>.map .int)]) (kds := [("n", .int ((1 : Nat) : Int))]) (Ev.globalR hgm (.val _) rfl rfl rfl rfl) hom hdm (EvL.cons ((Ev.local_ h1 rfl rfl rfl).of_eq (by rw [intsPV_I])) EvL.nil rfl) (EvK.cons Ev.int EvK.nil) this rfl rfl rfl
  case q2 =>
    exact Ev.callW (ds := [.list [.int (w0 : Nat)]]) (kds := [("n", .int (manyN sc : Nat))]) (Ev.globalR hgm (.val _) rfl rfl rfl rfl) hom hdm (EvL.cons (hsl1 _ _ _ _ _) EvL.nil rfl) (EvK.cons (Ev.cell h3 rfl rfl rfl) EvK.nil) (ok_quant_one F.toBelow HM hkw (by show k + 1 ≤ 30; omega) (by lia) (by lia)) rfl rfl rfl
  case rep =>
    refine (Ev.bin (b := .int ((manyN sc - 1 : Nat) : Int)) hk1 (hsl1 _ _ _ _ _) ?_ (bin_mulL (ds := [.int (w0 : Nat)]) (by lia) (by (clear hbs hsl1 hw0 hdm hom hkw HM hgm hsl hwl e24 hk1 h3 h2 h1 hk F; omega)) (by simp; lia))).of_eq ?_
    · exact (Ev.bin hk1 (Ev.cell h3 rfl rfl rfl) Ev.int bin_sub).of_eq (by congr 1; (clear hbs hsl1 hw0 hdm hom hkw HM hgm hsl hwl e24 hk1 h3 h2 h1 hk F; lia))
    · congr 1
      rw [Int.toNat_natCast]
      generalize manyN sc - 1 = m
      induction m with
      | zero => rfl
      | succ m ih => rw [List.replicate_succ, List.replicate_succ, List.flatten_cons, List.map_cons, ih]; rfl

theorem EqV.ints (l : List Nat) : EqV 1 (.list (intsPV l)) (.list (intsPV l)) true := EqV.list rfl fun j a b ha hb => by
  rw [ha] at hb; cases hb
  obtain ⟨n, _, rfl⟩ := intsPV_get ha
  exact EqV.int.of (by simp)
theorem law_26 (hk : k ≤ 20) {a b : List Nat} (h1 : ρ.lookup (Str.ofString "starts") = some (.list (intsPV a))) (h2 : ρ.lookup (Str.ofString "widths") = some (.list (intsPV b))) (h3 : ρ.lookup (Str.ofString "before") = some (.tup [.list (intsPV a), .list (intsPV b)])) : Ex1 (cxL prog w' h₀ X q f L cd (k + 1)) ρ (stL 26) (.next ρ none) := by
  have hk1 : k + 1 ≤ 40 := by omega
  refine Ex1.if_ (b := false) (Ts.cmp (a := .tup [.list (intsPV a), .list (intsPV b)]) hk1 (Ev.tuple (EvL.cons (Ev.local_ h1 rfl rfl rfl) (EvL.cons (Ev.local_ h2 rfl rfl rfl) EvL.nil rfl) rfl) (show 2 ≤ sizeLine by decide)) (Ev.local_ h3 rfl rfl rfl) (cmp_neTup (n := 1) (by decide) rfl fun j x y hx hy => ?_) rfl) (fun h => nomatch h) fun _ => Ex.nil
  rw [hx] at hy; cases hy
  match j, hx with
  | 0, hx => cases hx; exact EqV.ints a
  | 1, hx => cases hx; exact EqV.ints b
end
end Mine

namespace Mine

noncomputable abbrev veM : List Value := [.type "ValueError", .type "Exception", .type "BaseException", .type "object"]
/-- the class StatisticsError of the file, in a heap -/
noncomputable def ErrCls (h : Heap) (C : Addr) : Prop := ∃ nm q N bs hdct sn sub ab col dd k0 k1 k2 k3 k5 mN,
  h.get? C = some (excClassObj nm q C N bs veM hdct sn sub ab col dd k0 k1 k2 k3 k5 "ValueError.__new__") ∧ h.Ns N mN ∧ (∀ n ∈ quietNames, mN n = none) ∧ mN "__str__" = none
theorem ErrCls.keeps {h h' : Heap} {C : Addr} (x : ErrCls h C) (e : Ext h h') : ErrCls h' C := by
  obtain ⟨nm, q, N, bs, hdct, sn, sub, ab, col, dd, k0, k1, k2, k3, k5, mN, h1, h2, h3, h4⟩ := x
  exact ⟨nm, q, N, bs, hdct, sn, sub, ab, col, dd, k0, k1, k2, k3, k5, mN, e _ _ h1, h2.keeps e, h3, h4⟩

theorem ErrCls.own {h : Heap} {C : Addr} (x : ErrCls h C) (y : Str) : OwnClsQ y C veM "ValueError.__new__" (fun _ => some (.ref C)) h := by
  obtain ⟨nm, q, N, bs, hdct, sn, sub, ab, col, dd, k0, k1, k2, k3, k5, mN, h1, h2, h3, h4⟩ := x
  exact ⟨rfl, veM, N, nm, q, bs, hdct, sn, sub, ab, col, dd, k0, k1, k2, k3, k5, mN, h1, h2, h3, .base⟩
theorem ve_str : typeLookup (.type "ValueError") "__str__" = pure (some (.builtin "BaseException.__str__")) := by rw [typeLookup_type, builtinLookup_eq_fast]; kernel_rfl
theorem bexc_str_plain : Code.quiet (.builtin "BaseException.__str__" ⟨[], []⟩) = true := by decide +kernel

section
variable {prog : Program} {w : World} {A : Around} {E : Value → Shared → Prop} {s : Shared}
theorem check_bexc_str {M : Model} {C e : Addr} {oe : Obj} {Q : Unit → Shared → Prop} (hC : ErrCls s.heap C) (he : s.heap.get? e = some oe) (hc : oe.cls = .ref C) (hq : Q () s) : wpAny M A (checkBuiltinCall "BaseException.__str__" ⟨[.ref e], []⟩) Q E s := by
  obtain ⟨nm, q, N, bs, hdct, sn, sub, ab, col, dd, k0, k1, k2, k3, k5, mN, h1, h2, h3, h4⟩ := hC
  obtain ⟨hh, g, d, tk, os⟩ := s
  have hk : builtinKind "BaseException.__str__" = some .slot := by decide +kernel
  have hsplit : splitId "BaseException.__str__" = some ("BaseException", "__str__") := by decide +kernel
  have hcB : (Value.ref C :: veM).contains (.type "BaseException") = true := by rw [List.contains_cons]; rfl
  simp only [checkBuiltinCall, hk, hsplit]
  refine wpAny_bind ?_
  unfold isInstance
  repeat (first | (with_reducible refine wpAny_loadPart_at he ?_; rw [hc]) | (with_reducible refine wpAny_isSubtype_exc h1 ?_; rw [hcB]) | wp_step)
  exact hq
theorem bexcArgs_own {M : Model} {e t0 : Addr} {oe : Obj} {vs : Array Value} {items : List Value} {Q : Value × List Value → Shared → Prop} (he : s.heap.get? e = some oe) (hd : oe.data = .fields vs) (h0 : vs[0]? = some (.ref t0)) (ht : s.heap.TupAt t0 items) (hq : Q (.ref t0, items) s) :
    wpAny M A (PySem.Builtin.BaseException.bexcArgs (.ref e)) Q E s := by
  obtain ⟨ot, k, hto, _, htd⟩ := ht
  unfold PySem.Builtin.BaseException.bexcArgs
  refine wpAny_bind (wpAny_field he hd h0 (wpAny_bind (wpAny_seqItems hto htd ?_)))
  have : items.toArray.toList = items := by simp
  show wpAny M A (pure (Value.ref t0, items.toArray.toList)) Q E s
  rw [this]; exact wpAny_pure hq
theorem call_bexcStr_own {C e t0 : Addr} {oe : Obj} {vs : Array Value} {m : Str} {tk : Tok} {Q : Value → Shared → Prop} (hC : ErrCls s.heap C) (he : s.heap.get? e = some oe) (hc : oe.cls = .ref C) (hd : oe.data = .fields vs) (h0 : vs[0]? = some (.ref t0)) (ht : s.heap.TupAt t0 [.str m tk]) (hq : Q (.str m tk) s) :
    wpAny (model prog w) A (call (.builtin "BaseException.__str__") [.ref e]) Q E s := by
  refine wpAny_call (codeAny_call_builtin (by decide +kernel) PySem.F.entry_bexc_str (check_bexc_str hC he hc ?_))
  unfold Builtin.«BaseException.__str__»
  repeat (first | with_reducible refine bexcArgs_own he hd h0 ht ?_ | wp_step)
  exact hq
theorem strOf_own {C e t0 : Addr} {oe : Obj} {vs : Array Value} {m : Str} {tk : Tok} {Q : Value → Shared → Prop} (hu : A.units < cLine) (hC : ErrCls s.heap C) (he : s.heap.get? e = some oe) (hc : oe.cls = .ref C) (hd : oe.data = .fields vs) (h0 : vs[0]? = some (.ref t0)) (ht : s.heap.TupAt t0 [.str m tk]) (hq : Q (.str m tk) s) :
    wpAny (model prog w) A (PySem.Builtin.Str.strOf (.ref e)) Q E s := by
  have hsp : ∀ {Q' : Option Value → Shared → Prop}, Q' (some (.str m tk)) s → wpAny (model prog w) A (callSpecial? (.ref e) "__str__") Q' E s := by
    intro Q' hq'
    have hC' := hC
    obtain ⟨nm, q, N, bs, hdct, sn, sub, ab, col, dd, k0, k1, k2, k3, k5, mN, h1, h2, h3, h4⟩ := hC'
    simp only [callSpecial?, specialOf]
    have hto : ∀ {R : Value → Shared → Prop}, R (.ref C) s → wpAny (model prog w) A (typeOf (.ref e)) R E s := by
      intro R hR
      obtain ⟨hh, g, d, tk', os⟩ := s
      unfold typeOf
      repeat (first | (with_reducible refine wpAny_loadPart_at he ?_; rw [hc]) | wp_step)
      exact hR
    refine wpAny_bind (wpAny_bind (hto ?_))
    have hq2 : wpAny (model prog w) A (typeLookup (.ref C) "__str__") (fun r s' => r = some (.builtin "BaseException.__str__") ∧ s' = s) E s := by
      obtain ⟨hh, g, d, tk', os⟩ := s
      refine wpAny_typeLookup_exc h1 h2 PySem.F.excBase_ValueError.mroIs ve_str ?_
      rw [h4]; exact ⟨rfl, rfl⟩
    refine wpAny_mono hq2 (fun r s' g => ?_) fun _ _ x => x
    obtain ⟨rfl, rfl⟩ := g
    have hb : bindSpecial (.builtin "BaseException.__str__") (.ref e) = pure (.builtin "BaseException.__str__", [.ref e]) := by
      have hop : withoutEnding? "BaseException.__str__" "#opaque" = none := by decide +kernel
      have hdat : withoutEnding? "BaseException.__str__" "#data" = none := by decide +kernel
      have hk : builtinKind "BaseException.__str__" = some .slot := by decide +kernel
      simp only [bindSpecial, typeOf, builtinType, hop, hdat, hk]; rfl
    dsimp only
    rw [hb]
    exact wpAny_holding (wpAny_bind (wpAny_pure (wpAny_bind (call_bexcStr_own hC he hc hd h0 ht (wpAny_pure hq')))))
  unfold PySem.Builtin.Str.strOf
  repeat (first | with_reducible refine wpAny_cRoomFor hu ?_ | with_reducible refine hsp ?_ | wp_step)
  exact hq
/-- str of an exception of the file's own class -/
theorem str_own {C e t0 : Addr} {oe : Obj} {vs : Array Value} {m : Str} {tk : Tok} {Q : Value → Shared → Prop} (hu : A.units + 2 < cLine) (hC : ErrCls s.heap C) (he : s.heap.get? e = some oe) (hc : oe.cls = .ref C) (hd : oe.data = .fields vs) (h0 : vs[0]? = some (.ref t0)) (ht : s.heap.TupAt t0 [.str m tk]) (hq : Q (.str m tk) s) :
    wpAny (model prog w) A (call (.type "str") [.ref e]) Q E s :=
  callType_new PySem.F.called_str (by decide) (PySem.F.typeCall_str_1 _) (PySem.F.newCall_str_1 _) (fun obj => PySem.F.args_object_init_2 obj _) PySem.F.entry_str_new
    (meets_str_new (S := fun A R s => (A.units + 1 < cLine ∧ ErrCls s.heap C ∧ s.heap.get? e = some oe ∧ s.heap.TupAt t0 [.str m tk]) ∧ R (.ok (.ret (.str m tk))) s) fun _ _ A' _ s' hq => strOf_own (by have := hq.1.1; show A'.units + 1 < cLine; exact this) hq.1.2.1 hq.1.2.2.1 hc hd h0 hq.1.2.2.2 hq.2) ⟨⟨by show A.units + 1 + 1 < cLine; omega, hC, he, ht⟩, rfl, hq⟩
end
end Mine

namespace Mine
open PySem.Challenge

/-- what stands where an exception of the file's own class flies -/
noncomputable def RzE (s : Shared) (base : Heap) (l : List Env) (C : Addr) (msg : Str) (E : Value → Shared → Prop) : Prop :=
  ∀ h' tk e t u, Heap.FlyingW base l e (.ref C) (.ref t) h' → h'.TupAt t [.str msg u] → base.get? t = none → s.heap.UpToSlots h' → E (.ref e) { s with heap := h', toks := tk }
theorem RzE.later {s s' : Shared} {base : Heap} {l : List Env} {C : Addr} {msg : Str} {E : Value → Shared → Prop} (x : RzE s base l C msg E) (k : Keeps s s') : RzE s' base l C msg E := fun h' tk e t u a b c d => by
  obtain ⟨h1, t1, rfl, ex⟩ := k
  exact x h' tk e t u a b c ((Heap.UpToSlots.of_keeps ex).trans d)
/-- a call that raises -/
noncomputable def CallRz (prog : Program) (w : World) (h₀ : Heap) (k : Nat) (f : Value) (ds : List PV) (kds : List (Str × PV)) (C : Addr) (msg : Str) : Prop :=
  ∀ (X : Addr → Prop) (A : Around) (s : Shared) (Q : Value → Shared → Prop) (E : Value → Shared → Prop) (vs us : List Value) (l : List Env) (base : Heap), Rm k A → A.frames = some l → Base h₀ X s.heap → RepL X s.heap vs ds → RepL X s.heap us (kds.map (·.2)) →
    base.StaysIn s.heap → s.heap.FunFrames base l → RzE s base l C msg E → wpAny (model prog w) A (call f vs ((kds.map (·.1)).zip us)) Q E s
/-- statements that raise -/
noncomputable def ExRz (c : Cx) (ρ : List (Str × PV)) (ss : List Stmt) (C : Addr) (msg : Str) : Prop :=
  ∀ (A : Around) (s : Shared) (Q : Flow → Shared → Prop) (E : Value → Shared → Prop), Rm c.k A → c.F ρ s.heap →
    (∀ s₁ h' e u ρ', KB (OwnC c) s s₁ → c.F ρ' s₁.heap → Heap.MadeExcOf s₁.heap h' e (.ref C) [.str msg u] → E (.ref e) { s₁ with heap := h' }) → wpAny (model c.prog c.w) A (execs ss c.env) Q E s

section
variable {c : Cx} {ρ ρ' : List (Str × PV)} {C : Addr} {msg : Str} {st : Stmt} {ss : List Stmt}
theorem ExRz.cons (h : Ex1 c ρ st (.next ρ' c.ow)) (hs : ExRz c ρ' ss C msg) : ExRz c ρ (st :: ss) C msg := fun A s Q E r F hE => by
  refine wpAny_execs_cons (wpAny_mono (h A s E r F) (fun f s₁ q => ?_) fun _ _ x => x)
  obtain ⟨k, q⟩ := q
  cases f with
  | next => exact hs A s₁ _ E r q fun s₂ h' e u ρ'' k2 F2 m => hE s₂ h' e u ρ'' (k.trans k2) F2 m
  | _ => exact q.elim
theorem ExRz.ifT {t : Expr} {b1 b2 : List Stmt} {pos : Pos} (h : Ts c ρ t true) (h1 : ExRz c ρ b1 C msg) : ExRz c ρ (.If t b1 b2 pos :: ss) C msg := fun A s Q E r F hE => by
  refine wpAny_execs_cons (wpAny_If (h.wp r F fun s₁ k F₁ => ?_))
  rw [if_pos rfl]
  exact h1 A s₁ _ E r F₁ fun s₂ h' e u ρ'' k2 F2 m => hE s₂ h' e u ρ'' ((KB.of k).trans k2) F2 m
theorem ExRz.raise_ {x : Str} {np cpos pos p : Pos} {kk : Nat} (hx : Glb c.h₀ x (.ref C)) (hC : ErrCls c.h₀ C) (hg : c.env.globals = mainGlobals) (hk : c.env.scope.kind = .function) (hl : c.env.kindOf x = some .globalImplicit) (hd : (x == ("__debug__" : Str)) = false) :
    ExRz c ρ (.Raise (some (.Call (.Name x np) [.Constant (.str msg) kk p] [] cpos)) none pos :: ss) C msg := fun A s Q E r F hE => by
  obtain ⟨nm, q, N, bs, hdct, sn, sub, ab, col, dd, k0, k1, k2, k3, k5, mN, h1, h2, h3, h4⟩ := hC
  refine wpAny_execs_cons (wpAny_Raise_call_sub (C := C) (nm := nm) (q := q) (N := N) (bs := bs) (hdct := hdct) (sn := sn) (sub := sub) (ab := ab) (col := col) (dd := dd) (k0 := k0) (k1 := k1) (k2 := k2) (k3 := k3) (k5 := k5) PySem.F.excBase_ValueError r.1 rfl (h3 _ (.head _)) ?_)
  refine (Ev.globalR (d := .val (.ref C)) hx (.val _) hg hk hl hd : Ev c ρ (.Name x np) (.val (.ref C))).wp r F fun v s₁ k₁ F₁ rv => ?_
  cases rv
  refine ⟨rfl, ?_⟩
  have he : starEach [Expr.Constant (.str msg) kk p] c.env = [(false, eval (.Constant (.str msg) kk p) c.env)] := rfl
  rw [he]
  refine evalArgs_plain (Calls.spliced_cons ((Ev.str (c := c) (ρ := ρ) (x := msg) (k := kk) (pos := p)).wp r F₁ fun v s₂ k₂ F₂ rv => Calls.spliced_nil ?_))
  refine Rep.strE rv fun u => ?_; exact ⟨rfl, (show 1 ≤ sizeLine by decide), F₂.ext _ _ h1, h2.keeps F₂.ext, fun h' e m => hE s₂ h' e u ρ (KB.of (keeps_trans k₁ k₂)) F₂ m⟩
end

theorem frames_own {h base : Heap} {env : Env} {l : List Env} {m : Str → Option Value} (hk : env.scope.kind = .function) (hf : env.frame = some env.locals) (hb : base.get? env.locals = none) (hn : h.Ns env.locals m) (hl : h.FunFrames base l) : h.FunFrames base (env :: l) := by
  obtain ⟨o, es, n, e, d, _⟩ := hn
  exact ⟨by rw [hk]; decide, ⟨env.locals, o, hf, hb, e, fun vs q => by rw [d] at q; cases q⟩, hl⟩

theorem CallRz.fn {prog : Program} {w : World} {h₀ : Heap} {k i : Nat} {f : Addr} {fd : FuncData} {dflt kw : Value} {ds : List PV} {kds : List (Str × PV)} {ρ : List (Str × PV)} {C : Addr} {msg : Str} (hk : k ≤ 40) (H : FnAt h₀ i f fd dflt kw) (hco : (scopeAt i).isCoroutine = false) (hgen : (scopeAt i).isGenerator = false) (hkind : (scopeAt i).kind = .function)
    (hb : ∀ fd' : FuncData, fd'.params = argsAt i → fd'.defaults = dflt → fd'.kwdefaults = kw → BindOkW prog w h₀ fd' ds kds ρ)
    (hcell : ∀ x ∈ (scopeAt i).names, x.2 ≠ .cell) (hloc : ∀ x ∈ ρ, (scopeAt i).names.lookup x.1 = some .local)
    (h : ∀ X q L cd, ExRz (cxAt prog w h₀ X i q f L cd (k + 1)) ρ.reverse (bodyAt i) C msg) : CallRz prog w h₀ k (.ref f) ds kds C msg := fun X A s Q E vs us l base r hA B rl ru hst hfr hE => by
  obtain ⟨o, ho, hd⟩ := H.obj
  refine wpAny_call (codeAny_call_function (by have := r.2.1; show A.depth < 1000; lia) (B.ext _ _ ho) hd (by rw [H.scope]; exact hco) (by rw [H.scope]; exact hgen) H.body (by obtain ⟨c, o', vs', t, e, g, rest⟩ := H.code; exact ⟨c, o', vs', t, e, B.ext _ _ g, rest⟩) ?_)
  refine hb fd H.params H.dflt H.kw X _ s _ _ vs us B rl ru fun binds rb => ?_
  refine wpAny_newFunctionEnv (by rw [H.scope]; exact hcell) (fun x hx => ?_) (fun h₁ hns hsb => ?_) (by rw [H.scope]; exact hkind)
  · obtain ⟨d', hd'⟩ := rb.mem x hx; rw [H.scope]; exact hloc _ hd'
  · have hcl : fd.closure = [] := H.clo
    obtain ⟨ex, F⟩ := frep_new (env := envFd fd f s.heap.objs.size) B rb rfl hns hsb hcl (by intro x hx; show fd.scope.names.lookup x.1 = _; rw [H.scope]; exact hloc x hx)
    have e : envFd fd f s.heap.objs.size = envAt i (fd.qualname ++ ".<locals>.") f s.heap.objs.size fd.code := by
      show ({ scope := fd.scope, locals := s.heap.objs.size, globals := fd.globals, cells := fd.closure, qual := fd.qualname ++ ".<locals>.", func := some f, code := fd.code, frame := some s.heap.objs.size, builtins := fd.builtins } : Env) = _
      rw [H.scope, H.globals, H.clo, H.builtins]
    refine ⟨H.lim.keeps fun b o e => F.ext b o e, ?_⟩
    refine codeAny_func (env := envFd fd f s.heap.objs.size) ?_
    rw [e] at F ⊢
    refine h X _ s.heap.objs.size fd.code (A.deeper _) { s with heap := h₁, toks := s.toks + binds.length } _ _ (r.deeper _) F fun s₁ h' e' u ρ' kb F₁ hm => ?_
    obtain ⟨h2, tk2, rfl, kb⟩ := kb
    have hbn : base.get? s.heap.objs.size = none := hst.fresh
    have keep : Ext s.heap h2 := fun b o e => kb b o (fun q => by
      rcases q with (q | ⟨x, q⟩) | q
      · rw [show b = s.heap.objs.size from q] at e; exact absurd (Heap.lt_size e) (Nat.lt_irrefl _)
      · simp at q
      · exact q) (ex _ _ e)
    obtain ⟨m2, hm2, _⟩ := F₁.ns
    refine wpAny_leaves_madeW (base := base) (outer := l) (Around.frames_deeper hA) rfl (fun b o e => keep _ _ (hst b o e)) (frames_own hkind rfl hbn hm2 (hfr.of_keeps fun b o e _ => ⟨o, keep _ _ e, rfl⟩)) hm fun h3 t x1 x2 x3 x4 => ?_
    exact hE h3 tk2 e' t u x1 x2 x3 ((Heap.UpToSlots.of_keeps fun b o e => hm.keeps _ _ (keep b o e)).trans x4)
end Mine

namespace Mine
open PySem.Challenge

structure EFns (h₀ : Heap) (C : Addr) : Prop extends LFns h₀ where
  err : Glb h₀ "StatisticsError" (.ref C)
  cls : ErrCls h₀ C

section
variable {prog : Program} {w : World} {h₀ : Heap} {k : Nat} {f : Addr} {fd : FuncData} {C : Addr} {kwd : Addr}
theorem bind1W {fd : FuncData} {a : PV} {x : Str} (h : ∀ v, bindArgs fd ⟨[v], []⟩ = pure [(x, v)]) : BindOkW prog w h₀ fd [a] [] [(x, a)] := fun X A s E Q vs us B rl ru hq => by
  refine RepL.consE rl fun _ _ r1 rl => ?_; refine RepL.nilE rl ?_
  refine RepL.nilE ru ?_
  show wpAny _ _ (bindArgs fd ⟨_, []⟩) _ _ _
  rw [h]
  exact wpAny_pure (hq _ (.cons r1 .nil))
theorem rz_median (F : EFns h₀ C) (H : FnAt h₀ 23 f fd .none .none) (hk : k ≤ 30) : CallRz prog w h₀ k (.ref f) [.list []] [] C "no median for empty data" := by
  have hk1 : k + 1 ≤ 40 := by lia
  refine CallRz.fn (ρ := [("data", .list [])]) (by lia) H rfl rfl rfl (fun fd' h1 h2 h3 => bind1W fun v => ?_) ?_ ?_ fun X q L cd => ?_
  · unfold bindArgs; rw [h1, h2]; rfl
  · decide +kernel
  · intro x hx; rcases List.mem_singleton.mp hx with rfl; rfl
  · refine ExRz.cons (Ex1.assign (d := .list []) (Ev.callB (ds := [.list []]) (Ev.builtin F.sorted rfl rfl rfl rfl rfl) (EvL.cons (Ev.local_ rfl rfl rfl rfl) EvL.nil rfl) (call_sorted (ns := []) (by decide)) rfl rfl) (StOk.local_ rfl (plainScope_fn rfl)) rfl) ?_
    refine ExRz.cons (Ex1.assign (d := .int 0) (Ev.callB (ds := [.list []]) (Ev.builtin F.len rfl rfl rfl rfl rfl) (EvL.cons (Ev.local_ rfl rfl rfl rfl) EvL.nil rfl) (call_lenL (ds := []) (by decide)) rfl rfl) (StOk.local_ rfl (plainScope_fn rfl)) rfl) ?_
    exact ExRz.ifT ((Ts.cmp hk1 (Ev.local_ rfl rfl rfl rfl) Ev.int cmp_eq rfl).of rfl) (ExRz.raise_ F.err F.cls rfl rfl rfl rfl)
theorem rz_median_low (F : EFns h₀ C) (H : FnAt h₀ 24 f fd .none .none) (hk : k ≤ 30) : CallRz prog w h₀ k (.ref f) [.list []] [] C "no median for empty data" := by
  have hk1 : k + 1 ≤ 40 := by omega
  refine CallRz.fn (ρ := [("data", .list [])]) (by omega) H rfl rfl rfl (fun fd' h1 h2 h3 => bind1W fun v => ?_) ?_ ?_ fun X q L cd => ?_
  · unfold bindArgs; rw [h1, h2]; rfl
  · decide +kernel
  · intro x hx; rcases List.mem_singleton.mp hx with rfl; rfl
  · refine ExRz.cons (Ex1.assign (d := .list []) (Ev.callB (ds := [.list []]) (Ev.builtin F.sorted rfl rfl rfl rfl rfl) (EvL.cons (Ev.local_ rfl rfl rfl rfl) EvL.nil rfl) (call_sorted (ns := []) (by decide)) rfl rfl) (StOk.local_ rfl (plainScope_fn rfl)) rfl) ?_
    refine ExRz.cons (Ex1.assign (d := .int 0) (Ev.callB (ds := [.list []]) (Ev.builtin F.len rfl rfl rfl rfl rfl) (EvL.cons (Ev.local_ rfl rfl rfl rfl) EvL.nil rfl) (call_lenL (ds := []) (by decide)) rfl rfl) (StOk.local_ rfl (plainScope_fn rfl)) rfl) ?_
    exact ExRz.ifT ((Ts.cmp hk1 (Ev.local_ rfl rfl rfl rfl) Ev.int cmp_eq rfl).of rfl) (ExRz.raise_ F.err F.cls rfl rfl rfl rfl)
theorem rz_median_high (F : EFns h₀ C) (H : FnAt h₀ 25 f fd .none .none) (hk : k ≤ 30) : CallRz prog w h₀ k (.ref f) [.list []] [] C "no median for empty data" := by
  have hk1 : k + 1 ≤ 40 := by omega
  refine CallRz.fn (ρ := [("data", .list [])]) (by omega) H rfl rfl rfl (fun fd' h1 h2 h3 => bind1W fun v => ?_) ?_ ?_ fun X q L cd => ?_
  · unfold bindArgs; rw [h1, h2]; rfl
  · decide +kernel
  · intro x hx; rcases List.mem_singleton.mp hx with rfl; rfl
  · refine ExRz.cons (Ex1.assign (d := .list []) (Ev.callB (ds := [.list []]) (Ev.builtin F.sorted rfl rfl rfl rfl rfl) (EvL.cons (Ev.local_ rfl rfl rfl rfl) EvL.nil rfl) (call_sorted (ns := []) (by decide)) rfl rfl) (StOk.local_ rfl (plainScope_fn rfl)) rfl) ?_
    refine ExRz.cons (Ex1.assign (d := .int 0) (Ev.callB (ds := [.list []]) (Ev.builtin F.len rfl rfl rfl rfl rfl) (EvL.cons (Ev.local_ rfl rfl rfl rfl) EvL.nil rfl) (call_lenL (ds := []) (by decide)) rfl rfl) (StOk.local_ rfl (plainScope_fn rfl)) rfl) ?_
    exact ExRz.ifT ((Ts.cmp hk1 (Ev.local_ rfl rfl rfl rfl) Ev.int cmp_eq rfl).of rfl) (ExRz.raise_ F.err F.cls rfl rfl rfl rfl)
theorem rz_quant0 (F : EFns h₀ C) (H : FnAt h₀ 26 f fd .none (.ref kwd)) (hkw : ∃ m t, h₀.Ns kwd m ∧ m "method" = some (.str (Str.ofString "exclusive") t)) (hk : k ≤ 30) : CallRz prog w h₀ k (.ref f) [.list []] [("n", .int 0)] C "n must be at least 1" := by
  obtain ⟨mk, tk, hmk, hme⟩ := hkw
  have hk1 : k + 1 ≤ 40 := by omega
  refine CallRz.fn (ρ := [("data", .list []), ("n", .int 0), ("method", .str (Str.ofString "exclusive"))]) (by omega) H rfl rfl rfl (fun fd' p1 p2 p3 => fun X A s E Q vs us B rl ru hq => ?_) ?_ ?_ fun X q L cd => ?_
  · refine RepL.consE rl fun _ _ r1 rl => ?_; refine RepL.nilE rl ?_; refine RepL.consE ru fun _ _ u1 ru => ?_; refine RepL.nilE ru ?_; exact bindQ1 (x := .none) p1 p2 p3 (hmk.keeps B.ext) hme (hq _ (.cons r1 (.cons u1 (.cons (.str _ _) .nil))))
  · decide +kernel
  · intro x hx; simp at hx; rcases hx with rfl | rfl | rfl <;> rfl
  · exact ExRz.ifT ((Ts.cmp hk1 (Ev.local_ rfl rfl rfl rfl) Ev.int cmp_lt rfl).of rfl) (ExRz.raise_ F.err F.cls rfl rfl rfl rfl)
theorem rz_quantN (F : EFns h₀ C) (H : FnAt h₀ 26 f fd .none (.ref kwd)) (hkw : ∃ m t, h₀.Ns kwd m ∧ m "method" = some (.str (Str.ofString "exclusive") t)) (hk : k ≤ 30) {n : Nat} (hn : 1 ≤ n) : CallRz prog w h₀ k (.ref f) [.list []] [("n", .int n)] C "must have at least one data point" := by
  obtain ⟨mk, tk, hmk, hme⟩ := hkw
  have hk1 : k + 1 ≤ 40 := by (clear hme hmk hn H F; omega)
  refine CallRz.fn (ρ := [("data", .list []), ("n", .int n), ("method", .str (Str.ofString "exclusive"))]) (by (clear hk1 hme hmk hn H F; omega)) H rfl rfl rfl (fun fd' p1 p2 p3 => fun X A s E Q vs us B rl ru hq => ?_) ?_ ?_ fun X q L cd => ?_
  · refine RepL.consE rl fun _ _ r1 rl => ?_; refine RepL.nilE rl ?_; refine RepL.consE ru fun _ _ u1 ru => ?_; refine RepL.nilE ru ?_; exact bindQ1 (x := .none) p1 p2 p3 (hmk.keeps B.ext) hme (hq _ (.cons r1 (.cons u1 (.cons (.str _ _) .nil))))
  · decide +kernel
  · intro x hx; simp at hx; rcases hx with rfl | rfl | rfl <;> rfl
  · refine ExRz.cons (Ex1.if_ (b := false) ((Ts.cmp hk1 (Ev.local_ rfl rfl rfl rfl) Ev.int cmp_lt rfl).of (decide_eq_false (by lia))) (fun h => nomatch h) fun _ => Ex.nil) ?_
    refine ExRz.cons (Ex1.assign (d := .list []) (Ev.callB (ds := [.list []]) (Ev.builtin F.sorted rfl rfl rfl rfl rfl) (EvL.cons (Ev.local_ rfl rfl rfl rfl) EvL.nil rfl) (call_sorted (ns := []) (by decide)) rfl rfl) (StOk.local_ rfl (plainScope_fn rfl)) rfl) ?_
    refine ExRz.cons (Ex1.assign (d := .int 0) (Ev.callB (ds := [.list []]) (Ev.builtin F.len rfl rfl rfl rfl rfl) (EvL.cons (Ev.local_ rfl rfl rfl rfl) EvL.nil rfl) (call_lenL (ds := []) (by decide)) rfl rfl) (StOk.local_ rfl (plainScope_fn rfl)) rfl) ?_
    refine ExRz.ifT ((Ts.cmp hk1 (Ev.local_ rfl rfl rfl rfl) Ev.int cmp_lt rfl).of rfl) ?_
    refine ExRz.cons (Ex1.if_ (b := false) ((Ts.cmp hk1 (Ev.local_ rfl rfl rfl rfl) Ev.int cmp_eq rfl).of rfl) (fun h => nomatch h) fun _ => Ex.nil) ?_
    exact ExRz.raise_ F.err F.cls rfl rfl rfl rfl
end
end Mine

namespace Mine
open PySem.Challenge

noncomputable def EvRz (c : Cx) (ρ : List (Str × PV)) (e : Expr) (C : Addr) (msg : Str) : Prop :=
  ∀ (A : Around) (s : Shared) (Q : Value → Shared → Prop) (E : Value → Shared → Prop) (l : List Env) (base : Heap), Rm c.k A → A.frames = some l → c.F ρ s.heap → base.StaysIn s.heap → s.heap.FunFrames base l → RzE s base l C msg E → wpAny (model c.prog c.w) A (eval e c.env) Q E s

theorem stays_keeps {base h h' : Heap} (x : base.StaysIn h) (e : Ext h h') : base.StaysIn h' := fun b o q => e _ _ (x b o q)
theorem frames_keeps {base h h' : Heap} {l : List Env} (x : h.FunFrames base l) (e : Ext h h') : h'.FunFrames base l := x.of_keeps fun b o q _ => ⟨o, e _ _ q, rfl⟩
section
variable {c : Cx} {ρ ρ' : List (Str × PV)} {C : Addr} {msg : Str} {e : Expr}
theorem EvRz.callF {x : Str} {p pos : Pos} {args : List Expr} {f : Addr} {o : Obj} {fd : FuncData} {ds : List PV} (hf : Ev c ρ (.Name x p) (.val (.ref f))) (ho : c.h₀.get? f = some o) (hd : o.data = .func fd) (ha : EvL c ρ (e :: args) ds) (hc : CallRz c.prog c.w c.h₀ c.k (.ref f) ds [] C msg)
    (he : starEach (e :: args) c.env = (false, eval e c.env) :: starEach args c.env) : EvRz c ρ (.Call (.Name x p) (e :: args) [] pos) C msg := fun A s Q E l base r hA F hst hfr hE =>
  wpAny_Call_NameR (hf.wp r F fun f s₁ k₁ F₁ rf => by
    cases rf
    refine callWith_def hd (wpAny_mono (ha pos A s₁ E r F₁) (fun vs s₂ q => ⟨(F₁.keeps (keeps_ext q.1)).ext _ _ ho, ?_⟩) fun _ _ x => x) he
    have k := keeps_trans k₁ q.1
    exact hc c.X A s₂ Q E vs [] l base r hA (F₁.base.keeps (keeps_ext q.1)) q.2 .nil (stays_keeps hst (keeps_ext k)) (frames_keeps hfr (keeps_ext k)) (hE.later k))
theorem EvRz.callW {x : Str} {p pos : Pos} {args : List Expr} {kws : List Keyword} {f : Addr} {o : Obj} {fd : FuncData} {ds : List PV} {kds : List (Str × PV)} (hf : Ev c ρ (.Name x p) (.val (.ref f))) (ho : c.h₀.get? f = some o) (hd : o.data = .func fd) (ha : EvL c ρ (e :: args) ds) (hkw : EvK c ρ kws kds) (hc : CallRz c.prog c.w c.h₀ c.k (.ref f) ds kds C msg)
    (he : starEach (e :: args) c.env = (false, eval e c.env) :: starEach args c.env) (hall : (backToKw pos (keywordEach kws c.env)).all (·.1.isSome) = true) (hn : (backToKw pos (keywordEach kws c.env)).filterMap (·.1) = kds.map (·.1)) : EvRz c ρ (.Call (.Name x p) (e :: args) kws pos) C msg := fun A s Q E l base r hA F hst hfr hE =>
  wpAny_Call_Name_kw (hf.wp r F fun f s₁ k₁ F₁ rf => by
    cases rf
    refine callWith_def_kw hd (evalArgs_kw2 hall (wpAny_mono (ha pos A s₁ E r F₁) (fun vs s₂ q => ?_) fun _ _ x => x) he)
    have F₂ := F₁.keeps (keeps_ext q.1)
    refine wpAny_mono (hkw pos A s₂ E r F₂) (fun us s₃ q₃ => ⟨(F₂.keeps (keeps_ext q₃.1)).ext _ _ ho, ?_⟩) fun _ _ x => x
    rw [hn]
    have k := keeps_trans k₁ (keeps_trans q.1 q₃.1)
    exact hc c.X A s₃ Q E vs us l base r hA (F₂.base.keeps (keeps_ext q₃.1)) (q.2.ext (keeps_ext q₃.1)) q₃.2 (stays_keeps hst (keeps_ext k)) (frames_keeps hfr (keeps_ext k)) (hE.later k))
end

/-- the frame of a lambda -/
noncomputable abbrev envLm (scope : Scope) (L : Addr) (cl : List (Str × Addr)) (q : Str) (f : Addr) (cd : Value) : Env := { scope := scope, locals := L, globals := mainGlobals, cells := cl, qual := q, func := some f, code := cd, frame := some L, builtins := builtinsNs }

/-- the call of a lambda without parameters whose body raises -/
theorem lam_rz {prog : Program} {w : World} {h₀ : Heap} {X : Addr → Prop} {k : Nat} {C : Addr} {msg : Str} {A : Around} {s : Shared} {Q E : Value → Shared → Prop} {l : List Env} {base : Heap} {f : Addr} {o : Obj} {name qual : Str} {body : Expr} {scope : Scope} {cl : List (Str × Addr)} {pm cdv ctv : Value} {ρ : List (Str × PV)}
    (hk : k ≤ 40) (r : Rm k A) (hA : A.frames = some l) (B : Base h₀ X s.heap) (hlim : h₀.NoLimit) (ho : s.heap.get? f = some o) (hd : o.data = .func (kla_fn name qual ⟨[], [], none, [], [], none, []⟩ body scope cl pm cdv ctv)) (hcd : s.heap.CodeRec cdv qual)
    (hco : scope.isCoroutine = false) (hgen : scope.isGenerator = false) (hkind : scope.kind = .function) (hcell : ∀ x ∈ scope.names, x.2 ≠ .cell)
    (hown : ∀ x c, cl.lookup x = some c → h₀.get? c = none ∧ ∃ v, s.heap.IsCell c v)
    (hρ : ∀ x d, ρ.lookup x = some d → scope.names.lookup x = some .free ∧ ∃ c v, cl.lookup x = some c ∧ s.heap.IsCell c (some v) ∧ Rep X s.heap v d)
    (hst : base.StaysIn s.heap) (hfr : s.heap.FunFrames base l) (hE : RzE s base l C msg E)
    (h : ∀ L, EvRz ⟨prog, w, h₀, X, fun _ => False, none, envLm scope L cl (qual ++ ".<locals>.") f cdv, k + 1⟩ ρ body C msg) : wpAny (model prog w) A (call (.ref f) []) Q E s := by
  refine wpAny_call (kla_callFunE (by have := r.2.1; show A.depth < 1000; lia) ho hd hco hgen rfl hcd ?_)
  have hbind : bindArgs (kla_fn name qual ⟨[], [], none, [], [], none, []⟩ body scope cl pm cdv ctv) ⟨[], []⟩ = pure [] := rfl
  rw [hbind]
  refine wpAny_pure (wpAny_newFunctionEnv hcell (by intro x hx; simp at hx) (fun h₁ hns hsb => ?_) hkind)
  have ex : Ext s.heap h₁ := fun b o' e => hsb.extBut b o' (Nat.ne_of_lt (Heap.lt_size e)) (Heap.get?_push_of_some _ e)
  have F : FRep h₀ X (fun _ => False) none (envLm scope s.heap.objs.size cl (qual ++ ".<locals>.") f cdv) ρ h₁ := by
    refine ⟨fun b o' e => ex _ _ (B.ext b o' e), fun a x => let ⟨o', e⟩ := B.xb a x; ⟨o', ex _ _ e⟩, B.xn, fun b q => ?_, fun x cc q => let ⟨v, i⟩ := (hown x cc q).2; ⟨v, Heap.IsCell.ext i ex⟩, fun _ q => q.elim, (fun _ _ q => nomatch q), _, hns, fun x d q => ?_⟩
    · rcases q with q | ⟨x, q⟩
      · cases e : h₀.get? b with
        | none => rfl
        | some o' => have := Heap.lt_size (B.ext b o' e); rw [show b = s.heap.objs.size from q] at this; exact absurd this (Nat.lt_irrefl _)
      · exact (hown x b q).1
    · obtain ⟨hn, c, v, h1, h2, h3⟩ := hρ x d q
      exact ⟨v, .inr ⟨.inr hn, c, h1, Heap.IsCell.ext h2 ex⟩, h3.ext ex⟩
  refine ⟨hlim.keeps fun b o' e => F.ext b o' e, ?_⟩
  show codeAny _ _ (.expr body (envLm scope s.heap.objs.size cl (qual ++ ".<locals>.") f cdv)) _ _
  refine kla_codeExpr ?_
  have hbn : base.get? s.heap.objs.size = none := hst.fresh
  refine h s.heap.objs.size (A.deeper _) { s with heap := h₁, toks := s.toks + ([] : List (Str × Value)).length } _ _ (envLm scope s.heap.objs.size cl (qual ++ ".<locals>.") f cdv :: l) base (r.deeper _) (Around.frames_deeper hA) F (stays_keeps hst ex) (frames_own hkind rfl hbn hns (frames_keeps hfr ex)) ?_
  intro h2 tk e t u x1 x2 x3 x4
  refine wpAny_leaves_onW (Around.frames_deeper hA) rfl x1 fun h3 y1 y2 => ?_
  exact hE h3 tk e t u y1 (x2.of_slots y2) x3 (((Heap.UpToSlots.of_keeps ex).trans x4).trans y2)
end Mine

namespace Mine
open PySem.Challenge

theorem ve_base : veM.contains (.type "BaseException") = true := rfl
/-- _law_told of a wish that raises -/
theorem ok_told {prog : Program} {w : World} {h₀ : Heap} {X : Addr → Prop} {k : Nat} {C ft : Addr} {fdt : FuncData} {msg : Str} {A : Around} {s : Shared} {Q E : Value → Shared → Prop} {l : List Env} {base : Heap} {f : Addr} {o : Obj} {fd : FuncData}
    (F0 : EFns h₀ C) (H : FnAt h₀ 30 ft fdt .none .none) (hk : k ≤ 10) (r : Rm k A) (hA : A.frames = some l) (B : Base h₀ X s.heap) (ho : s.heap.get? f = some o) (hd : o.data = .func fd) (hm : msg.length ≤ 100)
    (hst : base.StaysIn s.heap) (hfr : s.heap.FunFrames base l) (hbh : Ext h₀ base)
    (hlam : ∀ (A' : Around) (s' : Shared) (Q' E' : Value → Shared → Prop) (l' : List Env) (base' : Heap), Rm (k + 1) A' → A'.frames = some l' → Base h₀ X s'.heap → Ext s.heap s'.heap → base'.StaysIn s'.heap → s'.heap.FunFrames base' l' → RzE s' base' l' C msg E' → wpAny (model prog w) A' (call (.ref f) []) Q' E' s')
    (hQ : ∀ h' tk u, base.StaysIn h' → s.heap.UpToSlots h' → Q (.str (Str.ofString "refused: " ++ msg) u) { s with heap := h', toks := tk }) : wpAny (model prog w) A (call (.ref ft) [.ref f]) Q E s := by
  obtain ⟨ot, hot, hdt⟩ := H.obj
  refine wpAny_call (codeAny_call_function (by have := r.2.1; show A.depth < 1000; lia) (B.ext _ _ hot) hdt (by rw [H.scope]; rfl) (by rw [H.scope]; rfl) H.body (by obtain ⟨c, o', vs', t, e, g, rest⟩ := H.code; exact ⟨c, o', vs', t, e, B.ext _ _ g, rest⟩) ?_)
  have hbind : bindArgs fdt ⟨[.ref f], []⟩ = pure [(Str.ofString "wish", .ref f)] := by unfold bindArgs; rw [H.params, H.dflt]; rfl
  rw [hbind]
  refine wpAny_pure (wpAny_newFunctionEnv (by rw [H.scope]; decide +kernel) (by intro x hx; rw [List.mem_singleton.mp hx, H.scope]; rfl) (fun h₁ hns hsb => ?_) (by rw [H.scope]; rfl))
  have hcl : fdt.closure = [] := H.clo
  obtain ⟨ex, F⟩ := frep_new (env := envFd fdt ft s.heap.objs.size) (ρ := [(Str.ofString "wish", .val (.ref f))]) B (.cons (.val _) .nil) rfl hns hsb hcl (by intro x hx; rw [List.mem_singleton.mp hx]; show fdt.scope.names.lookup _ = _; rw [H.scope]; rfl)
  have e : envFd fdt ft s.heap.objs.size = envAt 30 (fdt.qualname ++ ".<locals>.") ft s.heap.objs.size fdt.code := by
    show ({ scope := fdt.scope, locals := s.heap.objs.size, globals := fdt.globals, cells := fdt.closure, qual := fdt.qualname ++ ".<locals>.", func := some ft, code := fdt.code, frame := some s.heap.objs.size, builtins := fdt.builtins } : Env) = _
    rw [H.scope, H.globals, H.clo, H.builtins]
  refine ⟨H.lim.keeps fun b o e => F.ext b o e, ?_⟩
  refine codeAny_func (env := envFd fdt ft s.heap.objs.size) ?_
  rw [e] at F ⊢
  generalize hq1 : fdt.qualname ++ ".<locals>." = q1 at F ⊢
  generalize fdt.code = cd1 at F ⊢
  generalize hL1 : s.heap.objs.size = L1 at F ⊢
  have hbL : base.get? L1 = none := hL1 ▸ hst.fresh
  refine wpAny_execs_cons (wpAny_Try_except (wpAny_execs_cons (wpAny_Return_some (wpAny_Call_NameR ?_))))
  have hw : Ev (cxAt prog w h₀ X 30 q1 ft L1 cd1 (k + 1)) [(Str.ofString "wish", .val (.ref f))] (.Name (Str.ofString "wish") ⟨169, 15, 169, 19⟩) (.val (.ref f)) := Ev.local_ rfl rfl rfl rfl
  refine hw.wp (r.deeper _) F fun v s₁ k₁ F₁ rv => ?_
  cases rv
  obtain ⟨hk1, tk1, rfl, ek1⟩ := k₁
  have k1 : Ext s.heap hk1 := fun b o e => ek1 _ _ (ex b o e)
  refine callWith_function (o := o) (fd := fd) (evalArgs_nil3 ⟨⟨k1 _ _ ho, hd⟩, ?_⟩)
  obtain ⟨m1, hm1, hmv⟩ := F₁.ns
  refine hlam (A.deeper _) _ _ _ (_ :: l) base (r.deeper _) (Around.frames_deeper hA) F₁.base k1 (stays_keeps hst k1) (frames_own rfl rfl hbL hm1 (frames_keeps hfr k1)) ?_
  intro h2 tk ee t u x1 x2 x3 x4
  refine wpAny_looks_onW (Around.frames_deeper hA) rfl x1 fun h4 hheld sm4 => ?_
  refine wpAny_landsW hheld fun h5 hfl5 sm5 => ?_
  have s5 : hk1.UpToSlots h5 := (x4.trans sm4).trans sm5
  have ext5 : Ext h₀ h5 := fun b o e => hfl5.1 _ _ (hbh _ _ e)
  have ns5 := s5.ns hm1
  refine handleBy_own_as (C := C) (x := "StatisticsError") (newId := "ValueError.__new__") (mg := fun _ => some (.ref C)) ve_base ?_
  obtain ⟨mg, hmg, hme⟩ := F0.err
  refine Name_function_global rfl rfl (loadGlobal_global (hmg.keeps ext5) hme ⟨rfl, (F0.cls.keeps ext5).own _, hfl5.there, ?_⟩) (by decide +kernel)
  refine lands_againW hfl5 fun h6 hfl6 sm6 => ?_
  have ns6 := sm6.ns ns5
  have ext6 : Ext h₀ h6 := fun b o e => hfl6.1 _ _ (hbh _ _ e)
  refine wpAny_storeName_local rfl ns6 (fun h7 hn7 hs7 => ?_) rfl
  obtain ⟨oe, vs, he6, hc6, hd6, h06⟩ := hfl6.first
  have hLe : ee ≠ L1 := by
    rintro rfl
    obtain ⟨o', es, ep, e', d', _⟩ := ns6
    rw [he6] at e'; cases e'; rw [hd6] at d'; cases d'
  have tup6 := (((x2.of_slots sm4).of_slots sm5).of_slots sm6)
  obtain ⟨ot, nt, hot6, hotc, hotd⟩ := tup6
  have hLt : t ≠ L1 := by
    rintro rfl
    obtain ⟨o', es, ep, e', d', _⟩ := ns6
    rw [hot6] at e'; cases e'; rw [hotd] at d'; cases d'
  have at7 : ∀ {b o}, b ≠ L1 → h6.get? b = some o → h7.get? b = some o := fun hb e => hs7.extBut _ _ hb e
  have base7 : base.StaysIn h7 := fun b o e => at7 (fun q => by rw [q, hbL] at e; cases e) (hfl6.1 _ _ e)
  have ext7 : Ext h₀ h7 := fun b o e => base7 _ _ (hbh _ _ e)
  have up7 : s.heap.UpToSlots h7 := fun b o e hn => by
    obtain ⟨sl, hsl⟩ := ((Heap.UpToSlots.of_keeps k1).trans (s5.trans sm6)) b o e hn
    refine ⟨sl, at7 (fun q => ?_) hsl⟩
    rw [q, ← hL1] at e
    exact absurd (Heap.lt_size e) (Nat.lt_irrefl _)
  have hu : ((A.deeper (envAt 30 q1 ft L1 cd1)).mark (some (.ref ee))).units + 2 < cLine := by
    have := r.2.2
    show A.units + 3 + 2 < 9900
    lia
  refine wpAny_execs_cons (wpAny_Return_some (wpAny_BinOp (wpAny_Constant_str ?_)))
  obtain ⟨mgs, mbs, hgs, hes, hbs, hqs⟩ := F0.str
  refine wpAny_Call_NameR (Name_function_global rfl rfl (loadGlobal_builtin (hgs.keeps ext7) hes (hbs.keeps ext7) hqs ?_) (by decide +kernel))
  refine PySem.callWith_type rfl ?_
  refine evalArgs_plain (Calls.spliced_cons ?_)
  refine wpAny_Name ?_ (by decide +kernel)
  refine wpAny_loadName_local (v := .ref ee) rfl rfl hn7 (if_pos rfl) ?_
  refine Calls.spliced_nil ?_
  refine str_own hu (F0.cls.keeps ext7) (at7 hLe he6) hc6 hd6 h06 ⟨ot, nt, at7 hLt hot6, hotc, hotd⟩ ?_
  refine add_str (fun t' tk' => ?_) (by show (Str.ofString "refused: ").length + msg.length ≤ sizeLine; have e24 : sizeLine = 16777216 := rfl; have h9 : (Str.ofString "refused: ").length = 9 := (by decide +kernel); lia)
  refine wpAny_nameGoes rfl hn7 rfl fun h8 m8 hn8 hs8 => ?_
  have at8 : ∀ {b o}, b ≠ L1 → h7.get? b = some o → h8.get? b = some o := fun hb e => hs8.extBut _ _ hb e
  exact hQ h8 _ t' (fun b o e => at8 (fun q => by rw [q, hbL] at e; cases e) (base7 _ _ e)) fun b o e hn => by
    obtain ⟨sl, hsl⟩ := up7 b o e hn
    refine ⟨sl, at8 (fun q => ?_) hsl⟩
    rw [q, ← hL1] at e
    exact absurd (Heap.lt_size e) (Nat.lt_irrefl _)
end Mine

namespace Mine
open PySem.Challenge

theorem among_app {p : Pos} {m : List Value} : ∀ {l : List Value}, TriplesOk l → codeAmong p (l ++ m) = (codeAmong p l).or (codeAmong p m)
  | [], _ => rfl
  | .int a _ :: .int b _ :: c :: r, h => by
    have ih := among_app (p := p) (m := m) (l := r) h
    show (if (a == p.line && b == p.col) = true then some c else codeAmong p (r ++ m)) = (if (a == p.line && b == p.col) = true then some c else codeAmong p r).or _
    split
    · rfl
    · exact ih
theorem triples_app {m : List Value} (hm : TriplesOk m) : ∀ {l : List Value}, TriplesOk l → TriplesOk (l ++ m)
  | [], _ => hm
  | .int a _ :: .int b _ :: c :: r, h => triples_app hm (l := r) h

theorem FRep.exceptP {h₀ h h' : Heap} {X M : Addr → Prop} {env : Env} {ρ : List (Str × PV)} {P : Addr} {o : Obj} {fs : Array Value} (F : FRep h₀ X M none env ρ h) (hX : X P) (hP : h.get? P = some o) (hd : o.data = .fields fs) (k : ∀ b o, b ≠ P → h.get? b = some o → h'.get? b = some o) (hP' : ∃ o, h'.get? P = some o) : FRep h₀ X M none env ρ h' := by
  have sq : SeqExt X h h' := fun b o items n hx dd e => k b o (fun q => hx (q ▸ hX)) e
  have ho : ∀ b, Own env b → b ≠ P := fun b q z => own_change F hP (.inr ⟨hd, rfl⟩) (z ▸ q)
  refine ⟨fun b o e => k b o (fun q => by rw [q, F.xn P hX] at e; cases e) (F.ext b o e), fun a x => ?_, F.xn, F.own, fun x cc q => ?_, F.mx, (fun _ _ q => nomatch q), ?_⟩
  · by_cases q : a = P
    · exact q ▸ hP'
    · obtain ⟨o, e⟩ := F.xb a x; exact ⟨o, k a o q e⟩
  · obtain ⟨v, o, e, d⟩ := F.cl x cc q
    exact ⟨v, o, k cc o (ho cc (.inr ⟨x, q⟩)) e, d⟩
  · obtain ⟨m, hm, hv⟩ := F.ns
    refine ⟨m, hm.at' fun o e => k _ o (ho _ (.inl rfl)) e, fun x d q => ?_⟩
    obtain ⟨v, sl, r⟩ := hv x d q
    refine ⟨v, ?_, r.mono sq fun _ _ z => z⟩
    rcases sl with sl | ⟨kk, cc, k2, o, e, d⟩
    · exact .inl sl
    · exact .inr ⟨kk, cc, k2, o, k cc o (ho cc (.inr ⟨x, k2⟩)) e, d⟩
theorem FRep.slots {h₀ h h' : Heap} {X M : Addr → Prop} {env : Env} {ρ : List (Str × PV)} (F : FRep h₀ X M none env ρ h) (hx : ¬ X env.locals) (k : ∀ b o, b ≠ env.locals → h.get? b = some o → h'.get? b = some o) (u : h.UpToSlots h') : FRep h₀ X M none env ρ h' := by
  obtain ⟨m, hm, hv⟩ := F.ns
  have sq : SeqExt X h h' := fun b o items n _ dd e => k b o (ns_not_nd hm e dd) e
  refine ⟨fun b o e => k b o (fun q => by rw [q, F.own _ (.inl rfl)] at e; cases e) (F.ext b o e), fun a x => ?_, F.xn, F.own, fun x cc q => ?_, F.mx, (fun _ _ q => nomatch q), m, u.ns hm, fun x d q => ?_⟩
  · obtain ⟨o, e⟩ := F.xb a x; exact ⟨o, k a o (fun q => hx (q ▸ x)) e⟩
  · obtain ⟨v, o, e, d⟩ := F.cl x cc q
    exact ⟨v, o, k cc o (ns_not_cell hm ⟨o, e, d⟩) e, d⟩
  · obtain ⟨v, sl, r⟩ := hv x d q
    refine ⟨v, ?_, r.mono sq fun _ _ z => z⟩
    rcases sl with sl | ⟨kk, cc, k2, o, e, d⟩
    · exact .inl sl
    · exact .inr ⟨kk, cc, k2, o, k cc o (ns_not_cell hm ⟨o, e, d⟩) e, d⟩

/-- where the law stands as it calls _law_told -/
structure LawAt (c : Cx) (C ft cc P : Addr) : Prop where
  fns : EFns c.h₀ C
  told : Glb c.h₀ "_law_told" (.ref ft) ∧ ∃ fdt, FnAt c.h₀ 30 ft fdt .none .none
  k : c.k ≤ 8
  x : c.X P
  xl : ¬ c.X c.env.locals
  m : ∀ b, c.M b ↔ b = P
  ow : c.ow = none
  kind : c.env.scope.kind = .function
  glb : c.env.globals = mainGlobals
  frame : c.env.frame = some c.env.locals
  name : c.env.kindOf "_law_told" = some .globalImplicit
  code : c.env.code = .ref cc
  hd : CodeHd c.h₀ cc P
  bi : ∃ mg, c.h₀.Ns mainGlobals mg ∧ c.h₀.BuiltinsAt mg P
  hP : c.h₀.get? P = none
  lim : c.h₀.NoLimit
noncomputable abbrev noArgs : Arguments := ⟨[], [], none, [], [], none, []⟩
theorem told_lam {c : Cx} {ρ ρl : List (Str × PV)} {C ft cc P : Addr} (W : LawAt c C ft cc P) {body : Expr} {scope : Scope} {lpos p1 p2 : Pos} {cl : List (Str × Addr)} {msg : Str} {ps : Array Value} {A : Around} {s : Shared} {E : Value → Shared → Prop}
    (r : Rm c.k A) (hA : A.frames = some [c.env]) (F : c.F ρ s.heap) (hps : s.heap.get? P = some (tabObj ps)) (ht : TriplesOk ps.toList)
    (hcode : codeAmong lpos ps.toList = none ∨ ∃ c', codeAmong lpos ps.toList = some (.ref c') ∧ s.heap.CodeRec (.ref c') (c.env.qual ++ "<lambda>") ∧ c' ≠ P)
    (hcl : closureFor scope c.env = pure cl) (hm : msg.length ≤ 100) (hco : scope.isCoroutine = false) (hgen : scope.isGenerator = false) (hkind : scope.kind = .function) (hcell : ∀ x ∈ scope.names, x.2 ≠ .cell)
    (hcells : ∀ x a, cl.lookup x = some a → c.env.cells.lookup x = some a)
    (hρ : ∀ x d, ρl.lookup x = some d → scope.names.lookup x = some .free ∧ ρ.lookup x = some d ∧ c.env.kindOf x = some .cell ∧ cl.lookup x = c.env.cells.lookup x)
    (h : ∀ L q f cd, EvRz ⟨c.prog, c.w, c.h₀, c.X, fun _ => False, none, envLm scope L cl q f cd, c.k + 2⟩ ρl body C msg) :
    wpAny (model c.prog c.w) A (eval (.Call (.Name (Str.ofString "_law_told") p1) [.Lambda noArgs body scope lpos] [] p2) c.env) (fun v s' => KB (OwnC c) s s' ∧ c.F ρ s'.heap ∧ (∃ u, v = .str (Str.ofString "refused: " ++ msg) u) ∧
      ∃ ps', s'.heap.get? P = some (tabObj ps') ∧ TriplesOk ps'.toList ∧ (∃ c', codeAmong lpos ps'.toList = some (.ref c') ∧ s'.heap.CodeRec (.ref c') (c.env.qual ++ "<lambda>") ∧ (codeAmong lpos ps.toList = some (.ref c') ∨ s.heap.get? c' = none)) ∧
        ∀ p : Pos, (p.line == lpos.line && p.col == lpos.col) = false → codeAmong p ps'.toList = codeAmong p ps.toList) E s := by
  obtain ⟨⟨hgt, fdt, HT⟩, hkk⟩ := And.intro W.told W.k
  obtain ⟨ot, hot, hdt⟩ := HT.obj
  obtain ⟨prog, w, h₀, X, M, ow, env, kk⟩ := c
  have hMe : M = fun b => b = P := funext fun b => propext (W.m b)
  have hoe : ow = none := W.ow
  subst hMe hoe
  have hXP : X P := W.x
  have hk8 : kk ≤ 8 := W.k
  refine wpAny_Call_NameR ((Ev.globalR (d := .val (.ref ft)) hgt (.val _) W.glb W.kind W.name (by decide +kernel) : Ev ⟨prog, w, h₀, X, fun b => b = P, none, env, kk⟩ ρ (.Name _ p1) _).wp r F fun v s₁ k₁ F₁ rv => ?_)
  cases rv
  have hps1 := keeps_ext k₁ _ _ hps
  obtain ⟨mg, hmg, hbi⟩ := W.bi
  have hmg1 := hmg.keeps F₁.ext
  have hbi1 : s₁.heap.BuiltinsAt mg P := let ⟨bm, o, a1, a2, a3, a4, a5, a6⟩ := hbi; ⟨bm, o, a1, a2, a3, a4, F₁.ext _ _ a5, a6⟩
  have hC1 : CodeHd s₁.heap cc P := W.hd.keeps F₁.ext
  have hgP : mainGlobals ≠ P := fun q => by
    obtain ⟨o, es, ep, e, _⟩ := hmg
    have := W.hP; rw [← q, e] at this; cases this
  have hLP : env.locals ≠ P := fun q => own_change F hps (.inr ⟨rfl, rfl⟩) (.inl q.symm)
  -- behind the making of the lambda
  have go : ∀ (c' ctv : Value) (h2 : Heap) (tk : Tok) (ps' : Array Value) (ca : Addr), c' = .ref ca → ca ≠ P → (∀ b o, b ≠ P → s₁.heap.get? b = some o → h2.get? b = some o) → h2.get? P = some (tabObj ps') → TriplesOk ps'.toList →
      codeAmong lpos ps'.toList = some (.ref ca) → h2.CodeRec (.ref ca) (env.qual ++ "<lambda>") → (codeAmong lpos ps.toList = some (.ref ca) ∨ s.heap.get? ca = none) → (∀ p : Pos, (p.line == lpos.line && p.col == lpos.col) = false → codeAmong p ps'.toList = codeAmong p ps.toList) →
      wpAny (model prog w) A (call (.ref ft) [.ref h2.objs.size]) (fun v s' => KB (OwnC ⟨prog, w, h₀, X, fun b => b = P, none, env, kk⟩) s s' ∧ FRep h₀ X (fun b => b = P) none env ρ s'.heap ∧ (∃ u, v = .str (Str.ofString "refused: " ++ msg) u) ∧
      ∃ ps', s'.heap.get? P = some (tabObj ps') ∧ TriplesOk ps'.toList ∧ (∃ c', codeAmong lpos ps'.toList = some (.ref c') ∧ s'.heap.CodeRec (.ref c') (env.qual ++ "<lambda>") ∧ (codeAmong lpos ps.toList = some (.ref c') ∨ s.heap.get? c' = none)) ∧
        ∀ p : Pos, (p.line == lpos.line && p.col == lpos.col) = false → codeAmong p ps'.toList = codeAmong p ps.toList) E
        { s₁ with heap := h2.push { cls := .type "function", data := .func (kla_fn "<lambda>" (env.qual ++ "<lambda>") noArgs body scope cl ((mg "__name__").getD .none) c' ctv) }, toks := tk } := by
    rintro c' ctv h2 tk ps' ca rfl hca ch hP2 ht2 hcm hrec hwhence hoth
    have ch3 : ∀ b o, b ≠ P → s₁.heap.get? b = some o → (h2.push { cls := .type "function", data := .func (kla_fn "<lambda>" (env.qual ++ "<lambda>") noArgs body scope cl ((mg "__name__").getD .none) (.ref ca) ctv) }).get? b = some o := fun b o n e => Heap.get?_push_of_some _ (ch b o n e)
    obtain ⟨h3, hh3⟩ : ∃ h3, h3 = h2.push { cls := .type "function", data := .func (kla_fn "<lambda>" (env.qual ++ "<lambda>") noArgs body scope cl ((mg "__name__").getD .none) (.ref ca) ctv) } := ⟨_, rfl⟩
    rw [← hh3] at ch3 ⊢
    have hP3 : h3.get? P = some (tabObj ps') := by rw [hh3]; exact Heap.get?_push_of_some _ hP2
    have hf3 : h3.get? h2.objs.size = some { cls := .type "function", data := .func (kla_fn "<lambda>" (env.qual ++ "<lambda>") noArgs body scope cl ((mg "__name__").getD .none) (.ref ca) ctv) } := by rw [hh3]; exact Heap.get?_push_size _ rfl
    have hrec3 : h3.CodeRec (.ref ca) (env.qual ++ "<lambda>") := hrec.keeps fun b o e => by rw [hh3]; exact Heap.get?_push_of_some _ e
    have F3 : FRep h₀ X (fun b => b = P) none env ρ h3 := F₁.exceptP hXP hps1 rfl ch3 ⟨_, hP3⟩
    obtain ⟨m3, hm3, hv3⟩ := F3.ns
    have hL0 : h₀.get? env.locals = none := F3.own _ (.inl rfl)
    have bst : (hideAll h3 [env.locals]).StaysIn h3 := fun b o q => of_hideAll _ q
    have bfr : h3.FunFrames (hideAll h3 [env.locals]) [env] := frames_own W.kind W.frame (hideAll_none _ (by simp)) hm3 trivial
    have bext : Ext h₀ (hideAll h3 [env.locals]) := fun b o e => hideAll_get _ (F3.ext b o e) fun q => by
      rw [List.mem_singleton.mp q, hL0] at e; cases e
    refine ok_told (X := X) W.fns HT (by lia) r hA F3.base hf3 rfl hm bst bfr bext (fun A' s' Q' E' l' base' r' hA' B' e3 st' fr' hE' => ?_) fun h4 tk4 u4 st4 up4 => ?_
    · refine lam_rz (k := kk + 1) (ρ := ρl) (by lia) r' hA' B' W.lim (e3 _ _ hf3) rfl (hrec3.keeps e3) hco hgen hkind hcell (fun x a q => ?_) (fun x d q => ?_) st' fr' hE' fun L => ?_
      · have q' := hcells x a q
        obtain ⟨v, i⟩ := F3.cl x a q'
        exact ⟨F3.own _ (.inr ⟨x, q'⟩), v, Heap.IsCell.ext i e3⟩
      · obtain ⟨a1, a2, a3, a4⟩ := hρ x d q
        obtain ⟨v, sl, rp⟩ := hv3 x d a2
        refine ⟨a1, ?_⟩
        rcases sl with ⟨z, _⟩ | ⟨_, a, ha, hi⟩
        · rw [a3] at z; cases z
        · exact ⟨a, v, a4.trans ha, Heap.IsCell.ext hi e3, rp.ext e3⟩
      · exact h L _ _ _
    · have ch4 : ∀ b o, b ≠ env.locals → h3.get? b = some o → h4.get? b = some o := fun b o n e => st4 b o (hideAll_get _ e fun q => n (List.mem_singleton.mp q))
      refine ⟨?_, F3.slots W.xl ch4 up4, ⟨u4, rfl⟩, ps', ch4 _ _ hLP.symm hP3, ht2, ⟨ca, hcm, ?_, hwhence⟩, hoth⟩
      · obtain ⟨hk, tk1, rfl, ek⟩ := k₁
        exact ⟨h4, tk4, rfl, fun b o n e => ch4 b o (fun q => n (.inl (.inl q))) (ch3 b o (fun q => n (.inr q)) (ek b o e))⟩
      · obtain ⟨c2, o2, vs2, t2, e1, e2, e3, e4⟩ := hrec3
        refine ⟨c2, o2, vs2, t2, e1, ch4 _ _ (fun q => ?_) e2, e3, e4⟩
        obtain ⟨o', es, ep, e', d', _⟩ := hm3
        rw [q, e'] at e2; cases e2; rw [e3] at d'; cases d'
  have he : starEach [Expr.Lambda noArgs body scope lpos] env = [(false, eval (.Lambda noArgs body scope lpos) env)] := rfl
  refine callWith_def hdt ?_ he
  have hb : backTo p2 (starEach [Expr.Lambda noArgs body scope lpos] env) = [(false, eval (.Lambda noArgs body scope lpos) env)] := rfl
  rw [hb]
  refine Calls.spliced_cons (kla_eval rfl ?_)
  rcases hcode with hn | ⟨c', hc1, hc2, hc3⟩
  · refine kla_makeFunction hcl W.glb hmg1 W.code hC1 hps1 ht hn hgP hbi1 fun c' ctv h2 tk hx hge hlt hrec htb => ?_
    refine Calls.spliced_nil ⟨Heap.get?_push_of_some _ (hx _ _ (fun q => ?_) (F₁.ext _ _ hot)), ?_⟩
    · rw [q, W.hP] at hot; cases hot
    · have hfr : s.heap.get? c' = none := by
        cases q : s.heap.get? c' with
        | none => rfl
        | some o => exact absurd (Heap.lt_size (keeps_ext k₁ _ _ q)) (Nat.not_lt.mpr hge)
      refine go (.ref c') ctv h2 tk _ c' rfl (fun q => ?_) (fun b o n e => hx b o n e) htb ?_ ?_ hrec (.inr hfr) fun p hp => ?_
      · rw [q] at hge; exact absurd (Heap.lt_size hps1) (Nat.not_lt.mpr hge)
      · rw [Array.toList_append]; exact triples_app (show TriplesOk [rawInt lpos.line, rawInt lpos.col, Value.ref c'] from trivial) ht
      · rw [Array.toList_append, among_app ht, hn]; simp [codeAmong, rawInt]
      · rw [Array.toList_append, among_app ht]
        have : codeAmong p (#[rawInt lpos.line, rawInt lpos.col, Value.ref c'] : Array Value).toList = none := by
          show (if (((lpos.line : Int) == (p.line : Int)) && ((lpos.col : Int) == (p.col : Int))) = true then some (Value.ref c') else none) = none
          rw [if_neg]
          intro z
          simp only [Bool.and_eq_true, beq_iff_eq] at z
          have : (p.line == lpos.line && p.col == lpos.col) = true := by
            simp only [Bool.and_eq_true, beq_iff_eq]; lia
          rw [hp] at this; cases this
        rw [this]; simp
  · refine kla_makeFunctionHit hcl W.glb hmg1 W.code hC1 hps1 ht hc1 hbi1 fun ctv h2 tk hk2 hsz => ?_
    refine Calls.spliced_nil ⟨Heap.get?_push_of_some _ (hk2 _ _ (F₁.ext _ _ hot)), ?_⟩
    exact go (.ref c') ctv h2 tk ps c' rfl hc3 (fun b o _ e => hk2 b o e) (hk2 _ _ hps1) ht hc1 ((hc2.keeps (keeps_ext k₁)).keeps hk2) (.inl hc1) fun _ _ => rfl
end Mine

namespace Mine
open PySem.Challenge

/-- the table of law's lambdas: the lambda of the loop may be there, the two others not -/
noncomputable def TabJ (P : Addr) (env : Env) (X : Addr → Prop) (pA pB pC : Pos) (h : Heap) : Prop :=
  ∃ ps, h.get? P = some (tabObj ps) ∧ TriplesOk ps.toList ∧ codeAmong pB ps.toList = none ∧ codeAmong pC ps.toList = none ∧
    (codeAmong pA ps.toList = none ∨ ∃ c', codeAmong pA ps.toList = some (.ref c') ∧ h.CodeRec (.ref c') (env.qual ++ "<lambda>") ∧ ¬ X c' ∧ ¬ Own env c')
theorem codeRec_at {h h' : Heap} {a : Addr} {q : Str} (r : h.CodeRec (.ref a) q) (k : ∀ o, h.get? a = some o → h'.get? a = some o) : h'.CodeRec (.ref a) q := by
  obtain ⟨c2, o2, vs2, t2, e1, e2, e3, e4⟩ := r
  cases e1
  exact ⟨a, o2, vs2, t2, rfl, k _ e2, e3, e4⟩
theorem TabJ.at_ {P : Addr} {env : Env} {X : Addr → Prop} {pA pB pC : Pos} {h h' : Heap} {wr : List Addr} (J : TabJ P env X pA pB pC h) (hP : P ∉ wr) (hPo : ¬ Own env P) (hwr : ∀ b ∈ wr, X b) (k : ∀ b o, ¬ Own env b → b ∉ wr → h.get? b = some o → h'.get? b = some o) : TabJ P env X pA pB pC h' := by
  obtain ⟨ps, a1, a2, a3, a4, a5⟩ := J
  refine ⟨ps, k _ _ hPo hP a1, a2, a3, a4, ?_⟩
  rcases a5 with a5 | ⟨c', b1, b2, b3, b4⟩
  · exact .inl a5
  · exact .inr ⟨c', b1, codeRec_at b2 fun o e => k _ _ b4 (fun q => b3 (hwr _ q)) e, b3, b4⟩
theorem TabJ.ext {P : Addr} {env : Env} {X : Addr → Prop} {pA pB pC : Pos} {h h' : Heap} (J : TabJ P env X pA pB pC h) (k : Ext h h') : TabJ P env X pA pB pC h' := by
  obtain ⟨ps, a1, a2, a3, a4, a5⟩ := J
  refine ⟨ps, k _ _ a1, a2, a3, a4, ?_⟩
  rcases a5 with a5 | ⟨c', b1, b2, b3, b4⟩
  · exact .inl a5
  · exact .inr ⟨c', b1, b2.keeps k, b3, b4⟩

noncomputable abbrev KBo (env : Env) (P : Addr) (s s' : Shared) : Prop := KB (fun b => Own env b ∨ b = P) s s'

section
variable {prog : Program} {w : World} {h₀ : Heap} {X : Addr → Prop} {P : Addr} {env : Env} {k : Nat} {ρ : List (Str × PV)} {pA pB pC : Pos}
theorem for_told {x : Str} {p : Pos} {iter : Expr} {body : List Stmt} {pos : Pos} {ds : List PV} {A : Around} {s : Shared} {E : Value → Shared → Prop} (r : Rm k A)
    (F : FRep h₀ X (fun b => b = P) none env ρ s.heap) (J : TabJ P env X pA pB pC s.heap) (hXP : X P) (hxl : ¬ X env.locals)
    (hit : EvIt ⟨prog, w, h₀, X, fun b => b = P, none, env, k⟩ ρ (.Name x p) iter ds) (fold : ∀ x, foldedSetIterable iter env x = pure x)
    (hx : ∀ X', StOk (Own env) ⟨prog, w, h₀, X', fun b => b = P, none, env, k⟩ x)
    (turn : ∀ d ∈ ds, ∀ (X' : Addr → Prop) (s' : Shared) (E' : Value → Shared → Prop), X' P → ¬ X' env.locals → FRep h₀ X' (fun b => b = P) none env ((x, d) :: ρ) s'.heap → TabJ P env X' pA pB pC s'.heap →
      wpAny (model prog w) A (execs body env) (fun f s'' => KBo env P s' s'' ∧ f = .next ∧ FRep h₀ X' (fun b => b = P) none env ρ s''.heap ∧ TabJ P env X' pA pB pC s''.heap) E' s') :
    wpAny (model prog w) A (exec (.For (.Name x p) iter body [] pos) env) (fun f s' => KBo env P s s' ∧ f = .next ∧ FRep h₀ X (fun b => b = P) none env ρ s'.heap ∧ TabJ P env X pA pB pC s'.heap) E s := by
  refine wpAny_For (wpAny_mono (hit A s E r F) (fun x s₁ g => wpAny_mono g (fun it s₂ g => ?_) fun _ _ x => x) fun _ _ x => x) fold
  obtain ⟨k₂, I, wr, fp, rfl, hfp, hwr, hIt⟩ := g
  have ex₂ : Ext s.heap s₂.heap := keeps_ext k₂
  have hwr0 : ∀ b ∈ wr, s.heap.get? b = none := fun b hb => (hwr b hb).1
  have hwrn : ∀ b ∈ wr, h₀.get? b = none := fun b hb => by
    cases e : h₀.get? b with
    | none => rfl
    | some o => have := F.ext b o e; rw [hwr0 b hb] at this; cases this
  obtain ⟨X', hX'⟩ : ∃ X' : Addr → Prop, X' = fun b => X b ∨ b ∈ wr := ⟨_, rfl⟩
  obtain ⟨St, W, hst₂⟩ := hIt X' (fun b _ x => by rw [hX'] at x; exact x) (fun b hb => by rw [hX']; exact .inr hb)
  have hX1 : ∀ b, (s.heap.get? b).isSome = true → X' b → X b := fun b hb x => by
    rw [hX'] at x
    rcases x with x | x
    · exact x
    · rw [hwr0 b x] at hb; cases hb
  have hX2 : ∀ b, X b → X' b := fun b x => by rw [hX']; exact .inl x
  have hXn : ∀ b, X' b → h₀.get? b = none := fun b x => by
    rw [hX'] at x
    exact x.elim (F.xn b) (hwrn b)
  have hXe : ∀ b, X' b → ∃ o, s₂.heap.get? b = some o := fun b x => by
    rw [hX'] at x
    rcases x with x | x
    · obtain ⟨o, e⟩ := F.xb b x; exact ⟨o, ex₂ _ _ e⟩
    · exact (hwr b x).2.2
  have ho : ∀ b, Own env b ∨ b = P → b ∉ wr := fun b q hb => by
    obtain ⟨o, e⟩ := F.live q; rw [hwr0 b hb] at e; cases e
  have hPo : ¬ Own env P := by obtain ⟨ps, a1, _⟩ := J; exact own_change F a1 (.inr ⟨rfl, rfl⟩)
  have hPw : P ∉ wr := ho P (.inr rfl)
  have hxl' : ¬ X' env.locals := fun x => by
    rw [hX'] at x
    exact x.elim hxl (ho _ (.inl (.inl rfl)))
  have F₂ : FRep h₀ X' (fun b => b = P) none env ρ s₂.heap := FRep.open_ F hX1 hX2 hXe hXn ex₂
  have J₂ : TabJ P env X' pA pB pC s₂.heap := by
    obtain ⟨ps, a1, a2, a3, a4, a5⟩ := J
    refine ⟨ps, ex₂ _ _ a1, a2, a3, a4, ?_⟩
    rcases a5 with a5 | ⟨c', b1, b2, b3, b4⟩
    · exact .inl a5
    · refine .inr ⟨c', b1, b2.keeps ex₂, fun x => b3 (hX1 _ ?_ x), b4⟩
      obtain ⟨c2, o2, vs2, t2, e1, e2, e3, e4⟩ := b2
      cases e1; rw [e2]; rfl
  have hfo : ∀ i h, St i h → ∀ ρ', FRep h₀ X' (fun b => b = P) none env ρ' h → ∀ b ∈ fp, ¬ (Own env b ∨ b = P) := fun i h st ρ' F' b hb q => by
    obtain ⟨o, e, n1, n2⟩ := W.kind i h st b hb
    rcases q with (q | ⟨x, q⟩) | q
    · obtain ⟨m, ⟨o', es, ep, e', d', _⟩, _⟩ := F'.ns
      rw [← q, e] at e'; cases e'; exact n1 _ _ d'
    · obtain ⟨v, o', e', d'⟩ := F'.cl x b q
      rw [e] at e'; cases e'; exact n2 _ d'
    · exact ho b (.inr q) (W.fpX b hb (hX2 b (F.mx b q)))
  refine codeAny_forLoop_any (fun k s' => ∃ h' tk i, s' = { s with heap := h', toks := tk } ∧ i ≤ ds.length ∧ k = ds.length - i ∧ St i h' ∧ (∀ b o, ¬ (Own env b ∨ b = P) → s.heap.get? b = some o → h'.get? b = some o) ∧ FRep h₀ X' (fun b => b = P) none env ρ h' ∧ TabJ P env X' pA pB pC h') ?_ ds.length ?_
  · rintro k s' ⟨h', tk, i, rfl, hi, rfl, st, kb, F', J'⟩
    by_cases hlt : i < ds.length
    · obtain ⟨d, hd⟩ : ∃ d, ds[i]? = some d := ⟨_, List.getElem?_eq_getElem hlt⟩
      refine W.next A i d _ _ _ r.1 F'.xb st hd fun v h₁ tk₁ ch₁ go => go _ _ fun h₃ ch₃ st₃ rv => ?_
      have ch : Chg wr h' h₃ := fun b o n e => ch₃ b o n (ch₁ b o n e)
      have F₃ : FRep h₀ X' (fun b => b = P) none env ρ h₃ := F'.chg ch ho W.wrX hwrn fun b hb => let ⟨o, e, _⟩ := W.kind _ _ st₃ b (W.sub b hb); ⟨o, e⟩
      have J₃ : TabJ P env X' pA pB pC h₃ := J'.at_ hPw hPo W.wrX fun b o _ n e => ch b o n e
      refine wpAny_mono (AsOk.name (d := d) (hx X') A { s with heap := h₃, toks := tk₁ } _ v r F₃ rv) (fun _ s₄ g => ?_) fun _ _ x => x
      obtain ⟨⟨h₄, tk₄, rfl, kb₄⟩, F₄⟩ := g
      have kb₄' : ∀ b o, ¬ (Own env b ∨ b = P) → h₃.get? b = some o → h₄.get? b = some o := fun b o n e => kb₄ b o (fun q => n (.inl q)) e
      have st₄ : St (i + 1) h₄ := W.frame _ _ _ st₃ (frep_seq F₃ kb₄') fun b hb o e => kb₄' b o (hfo _ _ st₃ _ F₃ b hb) e
      have J₄ : TabJ P env X' pA pB pC h₄ := J₃.at_ hPw hPo W.wrX fun b o n _ e => kb₄ b o n e
      refine wpAny_mono (turn d (List.mem_of_getElem? hd) X' { s with heap := h₄, toks := tk₄ } _ (hX2 _ hXP) hxl' F₄ J₄) (fun f s₅ g => ?_) fun _ _ x => x
      obtain ⟨⟨h₅, tk₅, rfl, kb₅⟩, rfl, F₅, J₅⟩ := g
      have st₅ : St (i + 1) h₅ := W.frame _ _ _ st₄ (frep_seq F₄ kb₅) fun b hb o e => kb₅ b o (hfo _ _ st₄ _ F₄ b hb) e
      exact ⟨ds.length - (i + 1), by omega, h₅, tk₅, i + 1, rfl, hlt, rfl, st₅, fun b o n e => kb₅ b o n (kb₄' b o n (ch b o (fun q => by rw [hwr0 b q] at e; cases e) (kb b o n e))), F₅, J₅⟩
    · obtain rfl : i = ds.length := by lia
      refine W.done A _ _ _ r.1 st fun h₁ tk₁ ch₁ => ?_
      refine wpAny_execs_nil ⟨⟨h₁, tk₁, rfl, fun b o n e => ch₁ b o (fun q => by rw [hwr0 b q] at e; cases e) (kb b o n e)⟩, rfl, ?_, ?_⟩
      · exact F'.chgClose ch₁ ho W.wrX hwrn hX2 (fun b x hb => by obtain ⟨o, e⟩ := F.xb b x; rw [hwr0 b hb] at e; cases e) F.mx
      · obtain ⟨ps, a1, a2, a3, a4, a5⟩ := J'.at_ (h' := h₁) hPw hPo W.wrX fun b o _ n e => ch₁ b o n e
        refine ⟨ps, a1, a2, a3, a4, ?_⟩
        rcases a5 with a5 | ⟨c', b1, b2, b3, b4⟩
        · exact .inl a5
        · exact .inr ⟨c', b1, b2, fun x => b3 (hX2 _ x), b4⟩
  · obtain ⟨h2, t2, rfl, e2⟩ := k₂
    exact ⟨h2, t2, 0, rfl, Nat.zero_le _, rfl, hst₂, fun b o _ e => e2 b o e, F₂, J₂⟩
end
end Mine

namespace Mine
open PySem.Challenge

/-- behind a call of _law_told with a lambda -/
noncomputable def ToldP (c : Cx) (ρ : List (Str × PV)) (P : Addr) (lpos : Pos) (ps : Array Value) (s s' : Shared) : Prop :=
  KB (OwnC c) s s' ∧ c.F ρ s'.heap ∧ ∃ ps', s'.heap.get? P = some (tabObj ps') ∧ TriplesOk ps'.toList ∧ (∃ c', codeAmong lpos ps'.toList = some (.ref c') ∧ s'.heap.CodeRec (.ref c') (c.env.qual ++ "<lambda>") ∧ (codeAmong lpos ps.toList = some (.ref c') ∨ s.heap.get? c' = none)) ∧
    ∀ p : Pos, (p.line == lpos.line && p.col == lpos.col) = false → codeAmong p ps'.toList = codeAmong p ps.toList
theorem ToldP.keeps {c : Cx} {ρ : List (Str × PV)} {P : Addr} {lpos : Pos} {ps : Array Value} {s s' s'' : Shared} (T : ToldP c ρ P lpos ps s s') (k : Keeps s' s'') : ToldP c ρ P lpos ps s s'' := by
  obtain ⟨a1, a2, ps', a3, a4, ⟨c', b1, b2, b3⟩, a5⟩ := T
  exact ⟨a1.trans (KB.of k), a2.keeps (keeps_ext k), ps', keeps_ext k _ _ a3, a4, ⟨c', b1, b2.keeps (keeps_ext k), b3⟩, a5⟩

section
variable {c : Cx} {ρ ρl : List (Str × PV)} {C ft cc P : Addr} {body : Expr} {scope : Scope} {lpos p1 p2 p3 p4 p5 : Pos} {kk : Nat} {cl : List (Str × Addr)} {msg txt : Str} {ps : Array Value} {A : Around} {s : Shared} {E : Value → Shared → Prop}
theorem told_if {b1 : List Stmt} (W : LawAt c C ft cc P) (r : Rm c.k A) (hA : A.frames = some [c.env]) (F : c.F ρ s.heap) (hps : s.heap.get? P = some (tabObj ps)) (ht : TriplesOk ps.toList)
    (hcode : codeAmong lpos ps.toList = none ∨ ∃ c', codeAmong lpos ps.toList = some (.ref c') ∧ s.heap.CodeRec (.ref c') (c.env.qual ++ "<lambda>") ∧ c' ≠ P)
    (hcl : closureFor scope c.env = pure cl) (hm : msg.length ≤ 100) (hco : scope.isCoroutine = false) (hgen : scope.isGenerator = false) (hkind : scope.kind = .function) (hcell : ∀ x ∈ scope.names, x.2 ≠ .cell)
    (hcells : ∀ x a, cl.lookup x = some a → c.env.cells.lookup x = some a)
    (hρ : ∀ x d, ρl.lookup x = some d → scope.names.lookup x = some .free ∧ ρ.lookup x = some d ∧ c.env.kindOf x = some .cell ∧ cl.lookup x = c.env.cells.lookup x)
    (h : ∀ L q f cd, EvRz ⟨c.prog, c.w, c.h₀, c.X, fun _ => False, none, envLm scope L cl q f cd, c.k + 2⟩ ρl body C msg) (htxt : (Str.ofString "refused: " ++ msg != txt) = false) :
    wpAny (model c.prog c.w) A (exec (.If (.Compare (.Call (.Name (Str.ofString "_law_told") p1) [.Lambda noArgs body scope lpos] [] p2) [.NotEq] [.Constant (.str txt) kk p3] p4) b1 [] p5) c.env) (fun f s' => f = .next ∧ ToldP c ρ P lpos ps s s') E s := by
  refine wpAny_If (wpAny_isTrue_Compare1 (wpAny_mono (told_lam W r hA F hps ht hcode hcl hm hco hgen hkind hcell hcells hρ h) (fun v s₁ q => ?_) fun _ _ x => x))
  obtain ⟨q1, q2, ⟨u, rfl⟩, q3⟩ := q
  refine wpAny_Constant_str (ne_str ?_)
  rw [htxt]
  refine wpAny_truthy_bool ?_
  rw [if_neg Bool.false_ne_true]
  exact wpAny_execs_nil ⟨rfl, ToldP.keeps (s' := s₁) ⟨q1, q2, q3⟩ (keeps_toks s₁ _)⟩
theorem told_ret (W : LawAt c C ft cc P) (r : Rm c.k A) (hA : A.frames = some [c.env]) (F : c.F ρ s.heap) (hps : s.heap.get? P = some (tabObj ps)) (ht : TriplesOk ps.toList)
    (hcode : codeAmong lpos ps.toList = none ∨ ∃ c', codeAmong lpos ps.toList = some (.ref c') ∧ s.heap.CodeRec (.ref c') (c.env.qual ++ "<lambda>") ∧ c' ≠ P)
    (hcl : closureFor scope c.env = pure cl) (hm : msg.length ≤ 100) (hco : scope.isCoroutine = false) (hgen : scope.isGenerator = false) (hkind : scope.kind = .function) (hcell : ∀ x ∈ scope.names, x.2 ≠ .cell)
    (hcells : ∀ x a, cl.lookup x = some a → c.env.cells.lookup x = some a)
    (hρ : ∀ x d, ρl.lookup x = some d → scope.names.lookup x = some .free ∧ ρ.lookup x = some d ∧ c.env.kindOf x = some .cell ∧ cl.lookup x = c.env.cells.lookup x)
    (h : ∀ L q f cd, EvRz ⟨c.prog, c.w, c.h₀, c.X, fun _ => False, none, envLm scope L cl q f cd, c.k + 2⟩ ρl body C msg) (htxt : (Str.ofString "refused: " ++ msg == txt) = true) :
    wpAny (model c.prog c.w) A (exec (.Return (some (.Compare (.Call (.Name (Str.ofString "_law_told") p1) [.Lambda noArgs body scope lpos] [] p2) [.Eq] [.Constant (.str txt) kk p3] p4)) p5) c.env) (fun f s' => f = .ret (.bool true) ∧ ToldP c ρ P lpos ps s s') E s := by
  refine wpAny_Return_some (wpAny_Compare1 (wpAny_mono (told_lam W r hA F hps ht hcode hcl hm hco hgen hkind hcell hcells hρ h) (fun v s₁ q => ?_) fun _ _ x => x))
  obtain ⟨q1, q2, ⟨u, rfl⟩, q3⟩ := q
  refine wpAny_Constant_str (eq_str ?_)
  rw [htxt]
  exact ⟨rfl, ToldP.keeps (s' := s₁) ⟨q1, q2, q3⟩ (keeps_toks s₁ _)⟩
end
theorem KB.own {c : Cx} {P : Addr} {s s' : Shared} (hM : ∀ b, c.M b ↔ b = P) (k : KB (OwnC c) s s') : KBo c.env P s s' := k.mono fun b q => q.imp id (hM b).mp

noncomputable abbrev pL1 : Pos := ⟨228, 21, 228, 37⟩
noncomputable abbrev pL2 : Pos := ⟨230, 17, 230, 43⟩
noncomputable abbrev pL3 : Pos := ⟨232, 21, 232, 50⟩
noncomputable def PickOk (prog : Program) (w : World) (h₀ : Heap) (C f : Addr) : Prop := ∃ o fd, h₀.get? f = some o ∧ o.data = .func fd ∧ ∀ k ≤ 30, CallRz prog w h₀ k (.ref f) [.list []] [] C "no median for empty data"

section
variable {prog : Program} {w : World} {h₀ : Heap} {X : Addr → Prop} {q : Str} {f L : Addr} {cd : Value} {k : Nat} {C ft cc P : Addr} {ρ : List (Str × PV)}
noncomputable abbrev cxP (prog : Program) (w : World) (h₀ : Heap) (X : Addr → Prop) (P : Addr) (q : Str) (f L : Addr) (cd : Value) (k : Nat) : Cx := ⟨prog, w, h₀, X, fun b => b = P, none, envAtC 31 q f L cd, k⟩
theorem LawAt.wide {X' : Addr → Prop} (W : LawAt (cxP prog w h₀ X P q f L cd k) C ft cc P) (h1 : X' P) (h2 : ¬ X' L) : LawAt (cxP prog w h₀ X' P q f L cd k) C ft cc P :=
  ⟨W.fns, W.told, W.k, h1, h2, W.m, W.ow, W.kind, W.glb, W.frame, W.name, W.code, W.hd, W.bi, W.hP, W.lim⟩
theorem pick_stOk (hL : True) (X' : Addr → Prop) : StOk (Own (envAtC 31 q f L cd)) (cxP prog w h₀ X' P q f L cd k) (Str.ofString "pick") := fun ρ d A s E v F rv => by
  have hl : (envAtC 31 q f L cd).cells.lookup (Str.ofString "pick") = some (L + 10) := rfl
  generalize L + 10 = ca at hl
  obtain ⟨v₀, hi⟩ := F.cl (Str.ofString "pick") ca hl
  refine wpAny_storeName_cell rfl rfl hl hi (fun h' hn hs => ?_)
  refine ⟨KB.heap fun b o n e => (hs.2 b fun q => n (.inr ⟨_, q ▸ hl⟩)).trans e, FRep.storeC F rv rfl hl hi (fun y c' h1 h2 h3 => ?_) hn hs⟩
  subst h3
  exact h2 (name_of_addr (cellsFrom_mem (scopeAt 31).names (L + 1) [] (by intro y hy; simp at hy) List.Pairwise.nil) (mem_of_lookup h1) (mem_of_lookup hl))

theorem law_27 (W : LawAt (cxP prog w h₀ X P q f L cd k) C ft cc P) {A : Around} {s : Shared} {E : Value → Shared → Prop} (r : Rm k A) (hA : A.frames = some [envAtC 31 q f L cd]) (hρ : ρ.lookup (Str.ofString "pick") = none)
    (F : FRep h₀ X (fun b => b = P) none (envAtC 31 q f L cd) ρ s.heap) (J : TabJ P (envAtC 31 q f L cd) X pL1 pL2 pL3 s.heap) :
    wpAny (model prog w) A (exec (stL 27) (envAtC 31 q f L cd)) (fun fl s' => KBo (envAtC 31 q f L cd) P s s' ∧ fl = .next ∧ FRep h₀ X (fun b => b = P) none (envAtC 31 q f L cd) ρ s'.heap ∧ TabJ P (envAtC 31 q f L cd) X pL1 pL2 pL3 s'.heap) E s := by
  obtain ⟨f1, d1, g1, H1⟩ := W.fns.med
  obtain ⟨f2, d2, g2, H2⟩ := W.fns.mel
  obtain ⟨f3, d3, g3, H3⟩ := W.fns.meh
  have kk8 : k ≤ 8 := W.k
  refine for_told (k := k) (ds := [.val (.ref f1), .val (.ref f2), .val (.ref f3)]) r F J W.x W.xl (EvIt.tupN ?_) (fun x => rfl) (fun X' => pick_stOk trivial X') ?_
  · refine Ev.tuple (EvL.cons (Ev.globalR g1 (.val _) rfl rfl rfl rfl) (EvL.cons (Ev.globalR g2 (.val _) rfl rfl rfl rfl) (EvL.cons (Ev.globalR g3 (.val _) rfl rfl rfl rfl) EvL.nil rfl) rfl) rfl) (show 3 ≤ sizeLine by decide)
  · intro d hd X' s' E' hXP hxl F' J'
    obtain ⟨fp, rfl, o, fd, hfo, hfd, hrz⟩ : ∃ fp, d = .val (.ref fp) ∧ PickOk prog w h₀ C fp := by
      rcases List.mem_cons.mp hd with rfl | hd
      · obtain ⟨o, h1, h2⟩ := H1.obj; exact ⟨f1, rfl, o, d1, h1, h2, fun k hk => rz_median W.fns H1 hk⟩
      rcases List.mem_cons.mp hd with rfl | hd
      · obtain ⟨o, h1, h2⟩ := H2.obj; exact ⟨f2, rfl, o, d2, h1, h2, fun k hk => rz_median_low W.fns H2 hk⟩
      obtain rfl := List.mem_singleton.mp hd
      obtain ⟨o, h1, h2⟩ := H3.obj; exact ⟨f3, rfl, o, d3, h1, h2, fun k hk => rz_median_high W.fns H3 hk⟩
    have W' := W.wide hXP hxl
    obtain ⟨ps, a1, a2, a3, a4, a5⟩ := J'
    refine wpAny_execs_cons (wpAny_mono (told_if (c := cxP prog w h₀ X' P q f L cd k) (ρl := [(Str.ofString "pick", .val (.ref fp))]) (msg := "no median for empty data") (cl := [(Str.ofString "pick", L + 10)]) W' r hA F' a1 a2 ?_ rfl (by decide +kernel) rfl rfl rfl (by decide +kernel) ?_ ?_ (fun L' q' f' cd' => ?_) (by decide +kernel)) (fun fl s'' T => ?_) fun _ _ x => x)
    · rcases a5 with a5 | ⟨c', b1, b2, b3, b4⟩
      · exact .inl a5
      · exact .inr ⟨c', b1, b2, fun q => b3 (q ▸ hXP)⟩
    · intro x a hx
      rw [List.lookup_cons] at hx
      split at hx
      · rename_i h; rw [beq_iff_eq] at h; subst h; cases hx; rfl
      · cases hx
    · intro x d hx
      rw [List.lookup_cons] at hx
      split at hx
      · rename_i h; rw [beq_iff_eq] at h; subst h; cases hx; exact ⟨rfl, rfl, rfl, rfl⟩
      · cases hx
    · exact EvRz.callF (Ev.free rfl rfl rfl (by decide +kernel) (by decide +kernel)) hfo hfd (EvL.cons (Ev.list EvL.nil (by decide)) EvL.nil rfl) (hrz _ (by show k + 2 ≤ 30; lia)) rfl
    · obtain ⟨rfl, t1, t2, ps', t3, t4, ⟨c', t5, t6, t7⟩, t8⟩ := T
      refine wpAny_execs_nil ⟨KB.own (fun _ => Iff.rfl) t1, rfl, t2.sub ?_, ps', t3, t4, (t8 pL2 rfl).trans a3, (t8 pL3 rfl).trans a4, .inr ⟨c', t5, t6, ?_⟩⟩
      · intro x d hx
        rw [List.lookup_cons]
        split
        · rename_i h; rw [beq_iff_eq] at h; rw [h, hρ] at hx; cases hx
        · exact hx
      · rcases t7 with t7 | t7
        · rcases a5 with a5 | ⟨c'', b1, b2, b3, b4⟩
          · rw [a5] at t7; cases t7
          · rw [b1] at t7; cases t7; exact ⟨b3, b4⟩
        · refine ⟨fun x => ?_, fun x => ?_⟩
          · obtain ⟨o, e⟩ := F'.xb _ x; rw [t7] at e; cases e
          · obtain ⟨o, e⟩ := F'.live (.inl x); rw [t7] at e; cases e
end
end Mine

namespace Mine
open PySem.Challenge

section
variable {prog : Program} {w : World} {h₀ : Heap} {X : Addr → Prop} {q : Str} {f L : Addr} {cd : Value} {k : Nat} {C ft cc P : Addr} {ρ : List (Str × PV)}
theorem law_28 (W : LawAt (cxP prog w h₀ X P q f L cd k) C ft cc P) {A : Around} {s : Shared} {E : Value → Shared → Prop} {ps : Array Value} (r : Rm k A) (hA : A.frames = some [envAtC 31 q f L cd])
    (F : FRep h₀ X (fun b => b = P) none (envAtC 31 q f L cd) ρ s.heap) (hps : s.heap.get? P = some (tabObj ps)) (ht : TriplesOk ps.toList) (hn : codeAmong pL2 ps.toList = none) :
    wpAny (model prog w) A (exec (stL 28) (envAtC 31 q f L cd)) (fun fl s' => fl = .next ∧ ToldP (cxP prog w h₀ X P q f L cd k) ρ P pL2 ps s s') E s := by
  have kk8 : k ≤ 8 := W.k
  obtain ⟨fm, fdm, da, hgm, HM, hkw⟩ := W.fns.qua
  obtain ⟨om, hom, hdm⟩ := HM.obj
  refine told_if (c := cxP prog w h₀ X P q f L cd k) (ρl := []) (msg := "n must be at least 1") (cl := []) W r hA F hps ht (.inl hn) rfl (by decide +kernel) rfl rfl rfl (by decide +kernel) (fun x a h => nomatch h) (fun x a h => nomatch h) (fun L' q' f' cd' => ?_) (by decide +kernel)
  exact EvRz.callW (kds := [("n", .int 0)]) (Ev.globalR hgm (.val _) rfl rfl rfl rfl) hom hdm (EvL.cons (Ev.list EvL.nil (by decide)) EvL.nil rfl) (EvK.cons Ev.int EvK.nil) (rz_quant0 W.fns HM hkw (by show k + 2 ≤ 30; lia)) rfl rfl rfl
theorem law_29 (W : LawAt (cxP prog w h₀ X P q f L cd k) C ft cc P) {A : Around} {s : Shared} {E : Value → Shared → Prop} {ps : Array Value} {n : Nat} (hn1 : 1 ≤ n) (hρ : ρ.lookup (Str.ofString "many") = some (.int n)) (r : Rm k A) (hA : A.frames = some [envAtC 31 q f L cd])
    (F : FRep h₀ X (fun b => b = P) none (envAtC 31 q f L cd) ρ s.heap) (hps : s.heap.get? P = some (tabObj ps)) (ht : TriplesOk ps.toList) (hn : codeAmong pL3 ps.toList = none) :
    wpAny (model prog w) A (exec (stL 29) (envAtC 31 q f L cd)) (fun fl s' => fl = .ret (.bool true) ∧ ToldP (cxP prog w h₀ X P q f L cd k) ρ P pL3 ps s s') E s := by
  have kk8 : k ≤ 8 := W.k
  obtain ⟨fm, fdm, da, hgm, HM, hkw⟩ := W.fns.qua
  obtain ⟨om, hom, hdm⟩ := HM.obj
  refine told_ret (c := cxP prog w h₀ X P q f L cd k) (ρl := [(Str.ofString "many", .int n)]) (msg := "must have at least one data point") (cl := [(Str.ofString "many", L + 9)]) W r hA F hps ht (.inl hn) rfl (by decide +kernel) rfl rfl rfl (by decide +kernel) ?_ ?_ (fun L' q' f' cd' => ?_) (by decide +kernel)
  · intro x a hx
    rw [List.lookup_cons] at hx
    split at hx
    · rename_i h; rw [beq_iff_eq] at h; subst h; cases hx; rfl
    · cases hx
  · intro x d hx
    rw [List.lookup_cons] at hx
    split at hx
    · rename_i h; rw [beq_iff_eq] at h; subst h; cases hx; exact ⟨rfl, hρ, rfl, rfl⟩
    · cases hx
  · exact EvRz.callW (kds := [("n", .int n)]) (Ev.globalR hgm (.val _) rfl rfl rfl rfl) hom hdm (EvL.cons (Ev.list EvL.nil (by decide)) EvL.nil rfl) (EvK.cons (Ev.free rfl rfl rfl (by decide +kernel) (by decide +kernel)) EvK.nil) (rz_quantN W.fns HM hkw (by show k + 2 ≤ 30; lia) hn1) rfl rfl rfl

theorem law_end (W : LawAt (cxP prog w h₀ X P q f L cd k) C ft cc P) {A : Around} {s : Shared} {E : Value → Shared → Prop} {n : Nat} (hn1 : 1 ≤ n) (hρ : ρ.lookup (Str.ofString "many") = some (.int n)) (hρ' : ρ.lookup (Str.ofString "pick") = none) (r : Rm k A) (hA : A.frames = some [envAtC 31 q f L cd])
    (F : FRep h₀ X (fun b => b = P) none (envAtC 31 q f L cd) ρ s.heap) (hps : s.heap.get? P = some (tabObj #[])) :
    wpAny (model prog w) A (execs [stL 27, stL 28, stL 29] (envAtC 31 q f L cd)) (fun fl s' => fl = .ret (.bool true) ∧ KBo (envAtC 31 q f L cd) P s s' ∧ ∃ ps', s'.heap.get? P = some (tabObj ps')) E s := by
  refine wpAny_execs_cons (wpAny_mono (law_27 W r hA hρ' F ⟨#[], hps, trivial, rfl, rfl, .inl rfl⟩) (fun fl s₁ q => ?_) fun _ _ x => x)
  obtain ⟨k1, rfl, F1, ps1, a1, a2, a3, a4, _⟩ := q
  refine wpAny_execs_cons (wpAny_mono (law_28 W r hA F1 a1 a2 a3) (fun fl s₂ q => ?_) fun _ _ x => x)
  obtain ⟨rfl, t1, t2, ps', t3, t4, _, t8⟩ := q
  refine wpAny_execs_cons (wpAny_mono (law_29 W hn1 hρ r hA t2 t3 t4 ((t8 pL3 rfl).trans a4)) (fun fl s₃ q => ?_) fun _ _ x => x)
  obtain ⟨rfl, u1, u2, ps'', u3, u4, _⟩ := q
  exact ⟨rfl, (k1.trans (KB.own (fun _ => Iff.rfl) t1)).trans (KB.own (fun _ => Iff.rfl) u1), ps'', u3⟩
end
end Mine

namespace Mine
open PySem.Challenge

theorem Ex.sub {c : Cx} {ρ ρ' : List (Str × PV)} {ss : List Stmt} {o : Out} (h : Ex c ρ' ss o) (s : Sub ρ' ρ) : Ex c ρ ss o := fun A st E r F => h A st E r (F.sub s)
theorem Sub.of {ρ' ρ : List (Str × PV)} (h : ∀ p ∈ ρ', ρ.lookup p.1 = some p.2) : Sub ρ' ρ := fun x d q => h _ (mem_of_lookup q)

section
variable {prog : Program} {w' : World} {h₀ : Heap} {k : Nat} {X : Addr → Prop} {q : Str} {f L : Addr} {cd : Value}

noncomputable def ρA (sc : List Int) : List (Str × PV) :=
  [("eol", .str (S (eolL sc))), ("blank", .str (S (blankL (octs sc)))), ("codes", .list (strsPV (codesL (octs sc)))), ("text", .str (S (octs sc))), ("cells", .list (intsPV (cellsN sc)))]
theorem octs_lt (sc : List Int) : ∀ c ∈ octs sc, c < 256 := fun c h => (octs_ok sc c h).1
theorem octs_ne (sc : List Int) : octs sc ≠ [] := fun e => by have := octs_len sc; rw [e] at this; cases this
theorem oct1s_lt (sc : List Int) : ∀ c ∈ ((cellsN sc).take 10).map oct1, c < 256 := fun c h => by
  obtain ⟨d, _, rfl⟩ := List.mem_map.mp h; exact oct1_lt d
theorem law_headA (F : LFns h₀) (hk : k ≤ 15) {sc : List Int} (hsc : sc.length ≤ 63) {ss : List Stmt} {o : Out} (h : Ex (cxL prog w' h₀ X q f L cd (k + 1)) (ρA sc) ss o) :
    Ex (cxL prog w' h₀ X q f L cd (k + 1)) [("script", .list (sc.map .int))] (stL 0 :: stL 1 :: stL 2 :: stL 3 :: stL 4 :: stL 5 :: stL 6 :: stL 7 :: stL 8 :: stL 9 :: ss) o := by
  have hl : (octs sc).length ≤ 100 := by rw [octs_len]; decide
  refine Ex.seq (law_0 F.toBelow (by lia) hsc rfl) ?_
  refine Ex.seq (law_1 F.toBelow (by omega) hsc rfl) ?_
  refine Ex.seq (law_2 F.toBelow (by omega) rfl) ?_
  refine Ex.seq (law_3 F.toBelow (by omega) rfl) ?_
  refine Ex.seq (law_4 F.toBelow (by omega) (octs_lt sc) hl rfl) ?_
  refine Ex.seq law_5 ?_
  refine Ex.seq (law_6 F.toBelow (by omega) (octs_lt sc) hl rfl rfl) ?_
  refine Ex.seq (law_7 F.toBelow (by omega) (octs_lt sc) hl rfl rfl) ?_
  refine Ex.seq (law_8 F.toBelow (by omega) (octs_ne sc) hl rfl rfl) ?_
  refine Ex.seq (law_9 F.toBelow (by omega) rfl) ?_
  refine h.sub (Sub.of fun p hp => ?_)
  unfold ρA at hp
  simp only [List.mem_cons, List.not_mem_nil, or_false] at hp
  rcases hp with rfl | rfl | rfl | rfl | rfl <;> rfl
theorem law_headB (F : LFns h₀) (hk : k ≤ 15) {sc : List Int} {ss : List Stmt} {o : Out} (h : Ex (cxL prog w' h₀ X q f L cd (k + 1)) (st19 sc) ss o) :
    Ex (cxL prog w' h₀ X q f L cd (k + 1)) (ρA sc) (stL 10 :: stL 11 :: stL 12 :: stL 13 :: stL 14 :: stL 15 :: stL 16 :: stL 17 :: stL 18 :: stL 19 :: ss) o := by
  have h1 := startsN_len sc
  have h2 := widthsN_len sc
  have h3 : manyN sc ≤ 5 := by unfold manyN; lia
  refine Ex.seq (law_10 F.toBelow (by omega) rfl) ?_
  refine Ex.seq (law_11 F.toBelow (by omega) rfl rfl) ?_
  refine Ex.seq (law_12 F.toBelow (by omega) rfl rfl) ?_
  refine Ex.seq (law_13 F.toBelow (by omega) rfl rfl) ?_
  refine Ex.seq (law_14 F hk rfl rfl rfl) ?_
  refine Ex.seq (law_15 F hk rfl rfl rfl rfl rfl rfl rfl rfl) ?_
  refine Ex.seq (law_16 F.toBelow (by omega) (by lia) (by lia) rfl rfl) ?_
  refine Ex.seq (law_17 F hk rfl rfl rfl rfl) ?_
  refine Ex.seq (law_18 F hk rfl rfl rfl rfl) ?_
  refine Ex.seq (law_19 F.toBelow (by omega) rfl) ?_
  refine h.sub (Sub.of fun p hp => ?_)
  unfold st19 at hp
  simp only [List.mem_cons, List.not_mem_nil, or_false] at hp
  rcases hp with rfl | rfl | rfl | rfl | rfl | rfl | rfl | rfl | rfl <;> rfl
theorem law_headC (F : LFns h₀) (hk : k ≤ 15) {sc : List Int} : Ex (cxL prog w' h₀ X q f L cd (k + 1)) (st19 sc) [stL 20, stL 21, stL 22, stL 23, stL 24, stL 25, stL 26] (.next (("bag", .list (intsPV (bagN sc))) :: ("pairs", .list (handsPV (pairsN sc))) :: st19 sc) none) := by
  refine Ex.seq (law_20 F.toFns hk) ?_
  refine Ex.seq (law_21 F.toFns hk rfl rfl rfl) ?_
  refine Ex.seq (law_22 F.toBelow (by lia) rfl rfl) ?_
  refine Ex.seq (law_23 (by omega) rfl rfl) ?_
  refine Ex.seq (law_24 F.toFns hk rfl rfl) ?_
  refine Ex.seq (law_25 F.toFns hk rfl rfl rfl) ?_
  exact Ex.seq (law_26 (by omega) rfl rfl rfl) Ex.nil
theorem law_head (F : LFns h₀) (hk : k ≤ 15) {sc : List Int} (hsc : sc.length ≤ 63) : Ex (cxL prog w' h₀ X q f L cd (k + 1)) [("script", .list (sc.map .int))]
    [stL 0, stL 1, stL 2, stL 3, stL 4, stL 5, stL 6, stL 7, stL 8, stL 9, stL 10, stL 11, stL 12, stL 13, stL 14, stL 15, stL 16, stL 17, stL 18, stL 19, stL 20, stL 21, stL 22, stL 23, stL 24, stL 25, stL 26]
    (.next (("bag", .list (intsPV (bagN sc))) :: ("pairs", .list (handsPV (pairsN sc))) :: st19 sc) none) := law_headA F hk hsc (law_headB F hk (law_headC F hk))
theorem law_body : bodyAt 31 = [stL 0, stL 1, stL 2, stL 3, stL 4, stL 5, stL 6, stL 7, stL 8, stL 9, stL 10, stL 11, stL 12, stL 13, stL 14, stL 15, stL 16, stL 17, stL 18, stL 19, stL 20, stL 21, stL 22, stL 23, stL 24, stL 25, stL 26] ++ [stL 27, stL 28, stL 29] := rfl
end
end Mine

namespace Mine
open PySem.Challenge

theorem execs_append (ss2 : List Stmt) (env : Env) : ∀ ss : List Stmt, execs (ss ++ ss2) env = (execs ss env >>= fun f => match f with | .next => execs ss2 env | f => pure f)
  | [] => rfl
  | st :: rest => by
    show execs (st :: (rest ++ ss2)) env = _
    rw [execs_cons, execs_cons, bind_assoc]
    congr 1
    funext f
    cases f with
    | next => exact execs_append ss2 env rest
    | _ => rfl
theorem execs_app {M : Model} {A : Around} {ss ss2 : List Stmt} {env : Env} {Q : Flow → Shared → Prop} {E : Value → Shared → Prop} {s : Shared}
    (h : wpAny M A (execs ss env) (fun f s' => match f with | .next => wpAny M A (execs ss2 env) Q E s' | f => Q f s') E s) : wpAny M A (execs (ss ++ ss2) env) Q E s := by
  rw [execs_append]
  refine wpAny_bind (wpAny_mono h (fun f s' q => ?_) fun _ _ x => x)
  cases f with
  | next => exact q
  | _ => exact wpAny_pure q
theorem FRep.setM {h₀ h : Heap} {X M M' : Addr → Prop} {env : Env} {ρ : List (Str × PV)} (F : FRep h₀ X M none env ρ h) (hm : ∀ b, M' b → X b) : FRep h₀ X M' none env ρ h :=
  ⟨F.ext, F.xb, F.xn, F.own, F.cl, hm, (fun _ _ q => nomatch q), F.ns⟩

/-- what the law needs of the heap below -/
structure LawHd (h₀ : Heap) (C fl ft cc P : Addr) : Prop where
  E : EFns h₀ C
  law : ∃ fd, FnAt h₀ 31 fl fd .none .none ∧ fd.code = .ref cc
  told : Glb h₀ "_law_told" (.ref ft) ∧ ∃ fdt, FnAt h₀ 30 ft fdt .none .none
  code : CodeHd h₀ cc P
  bi : ∃ mg, h₀.Ns mainGlobals mg ∧ h₀.BuiltinsAt mg P
  hP : h₀.get? P = none
  lim : h₀.NoLimit

theorem law_call {prog : Program} {w : World} {h₀ : Heap} {C fl ft cc P : Addr} (H : LawHd h₀ C fl ft cc P) {A : Around} {s : Shared} {E : Value → Shared → Prop} {v : Value} {sc : List Int} (hA : A.frames = some []) (r : Rm 0 A) (ex : Ext h₀ s.heap)
    (htab : s.heap.get? P = some (tabObj #[])) (hsc : sc.length ≤ 63) (rv : Rep (fun b => b = P) s.heap v (.list (sc.map .int))) :
    wpAny (model prog w) A (call (.ref fl) [v]) (fun u s' => u = .bool true ∧ ∃ h' tk ps', s' = { s with heap := h', toks := tk } ∧ (∀ b o, b ≠ P → s.heap.get? b = some o → h'.get? b = some o) ∧ h'.get? P = some (tabObj ps')) E s := by
  obtain ⟨fd, HF, hcc⟩ := H.law
  obtain ⟨o, ho, hd⟩ := HF.obj
  have B : Base h₀ (fun b => b = P) s.heap := ⟨ex, fun a x => ⟨_, x ▸ htab⟩, fun a x => x ▸ H.hP⟩
  have hbind : bindArgs fd ⟨[v], []⟩ = pure [(Str.ofString "script", v)] := by unfold bindArgs; rw [HF.params, HF.dflt]; rfl
  refine wpAny_call (codeAny_call_cells (by have := r.2.1; show A.depth < 1000; lia) (ex _ _ ho) hd (H.lim.keeps ex) (HF.code.keeps ex) HF.body hbind HF.clo
    (fun x hx => ?_) (fun s₂ I => ?_) (by rw [HF.scope]; rfl) (by rw [HF.scope]; rfl) (by rw [HF.scope]; rfl))
  · rw [List.mem_singleton.mp hx, HF.scope]; exact .inl rfl
  · have e : callEnvC fd s.heap.objs.size fl = envAtC 31 (fd.qualname ++ ".<locals>.") fl s.heap.objs.size (.ref cc) := by
      show ({ scope := fd.scope, locals := s.heap.objs.size, globals := fd.globals, cells := cellsFrom (s.heap.objs.size + 1) fd.scope.names [], qual := fd.qualname ++ ".<locals>.", func := some fl, code := fd.code, frame := some s.heap.objs.size, builtins := fd.builtins } : Env) = _
      rw [HF.scope, HF.globals, HF.builtins, hcc]
    rw [e] at I ⊢
    have F := frep_newC (env := envAtC 31 (fd.qualname ++ ".<locals>.") fl s.heap.objs.size (.ref cc)) (ρ := [(Str.ofString "script", .list (sc.map .int))]) B (.cons rv .nil) I (fun x hx => by rw [List.mem_singleton.mp hx]; exact .inl rfl)
    obtain ⟨h2, tk2, rfl, k2⟩ := I.done
    have hab : ∀ b, Own (envAtC 31 (fd.qualname ++ ".<locals>.") fl s.heap.objs.size (.ref cc)) b → s.heap.get? b = none := fun b q => by
      have hge : s.heap.objs.size ≤ b := by
        rcases q with q | ⟨x, q⟩
        · rw [q]; exact Nat.le_refl _
        · have : s.heap.objs.size < b := I.above x b (mem_of_lookup q)
          exact Nat.le_of_lt this
      cases e : s.heap.get? b with
      | none => rfl
      | some o => exact absurd (Heap.lt_size e) (Nat.not_lt.mpr hge)
    generalize hL : s.heap.objs.size = L at F hab ⊢
    generalize fd.qualname ++ ".<locals>." = q at F hab ⊢
    have hA' : (A.deeper (envAtC 31 q fl L (.ref cc))).frames = some [envAtC 31 q fl L (.ref cc)] := Around.frames_deeper hA
    rw [law_body]
    refine execs_app (wpAny_mono (law_head (prog := prog) (w' := w) (X := fun b => b = P) (q := q) (f := fl) (L := L) (cd := .ref cc) (k := 0) H.E.toLFns (by decide) hsc (A.deeper _) _ _ (r.deeper _) F) (fun f s₃ g => ?_) fun _ _ x => x)
    obtain ⟨⟨h3, tk3, rfl, k3⟩, g⟩ := g
    cases f with
    | next =>
      have F3 : FRep h₀ (fun b => b = P) (fun _ => False) none (envAtC 31 q fl L (.ref cc)) _ h3 := g
      have htab2 := k2 _ _ htab
      have hPo : ¬ Own (envAtC 31 q fl L (.ref cc)) P := own_change F htab2 (.inr ⟨rfl, rfl⟩)
      have htab3 : h3.get? P = some (tabObj #[]) := k3 _ _ (fun z => z.elim hPo id) htab2
      have W : LawAt (cxP prog w h₀ (fun b => b = P) P q fl L (.ref cc) 1) C ft cc P :=
        ⟨H.E, H.told, (show 1 ≤ 8 by decide), rfl, fun z => hPo (.inl (show P = L from (show L = P from z).symm)), fun _ => Iff.rfl, rfl, rfl, rfl, rfl, rfl, rfl, H.code, H.bi, H.hP, H.lim⟩
      have hm : 1 ≤ manyN sc := by unfold manyN; lia
      refine wpAny_mono (law_end W (ρ := (Str.ofString "bag", .list (intsPV (bagN sc))) :: (Str.ofString "pairs", .list (handsPV (pairsN sc))) :: st19 sc) hm rfl rfl (r.deeper _) hA' (F3.setM fun _ z => z) htab3) (fun f s₄ u => ?_) fun _ _ x => x
      obtain ⟨rfl, ⟨h4, tk4, rfl, k4⟩, ps', ht4⟩ := u
      refine ⟨rfl, h4, tk4, ps', rfl, fun b o n e => ?_, ht4⟩
      have hb : ¬ Own (envAtC 31 q fl L (.ref cc)) b := fun z => by rw [hab b z] at e; cases e
      exact k4 _ _ (fun z => z.elim hb n) (k3 _ _ (fun z => z.elim hb id) (k2 _ _ e))
    | _ => exact g.elim
end Mine

namespace Mine

/-- a state: the heap as a tree, its size, the next token -/
structure ES where
  T : BT
  n : Nat
  k : Nat
/-- what the run of the top leaves alone -/
structure Rest where
  life : Life
  gens : Array GenState
  drawn : Drawn
  os : OsState
noncomputable def ES.abs (s : ES) (x : Rest) : Shared := ⟨absHeap s.T s.n x.life, x.gens, x.drawn, s.k, x.os⟩

/-- one step on the state -/
noncomputable def onLoad {β : Type} (s : ES) (a : Addr) (f : Obj → Option β) : Option β := match Nat.blt a s.n with
  | true => match s.T.get a with
    | some o => match alive o with
      | some o' => f o'
      | none => none
    | none => none
  | false => none
noncomputable def onSet {β : Type} (s : ES) (a : Addr) (f : Obj → Obj) (g : ES → Option β) : Option β := match Nat.blt a s.n with
  | true => match s.T.get a with
    | some o => match alive o with
      | some _ => g ⟨s.T.set a f, s.n, s.k⟩
      | none => none
    | none => none
  | false => none
noncomputable def onPeek {β : Type} (s : ES) (a : Addr) (f : Option Obj → Option β) : Option β := match Nat.blt a s.n with
  | true => match s.T.get a with
    | some o => f (alive o)
    | none => none
  | false => f none
noncomputable def onIns {β : Type} (s : ES) (o : Obj) (g : ES → Option β) : Option β := match ((s.T.ins s.n o).get s.n).isSome with
  | true => g ⟨s.T.ins s.n o, s.n + 1, s.k⟩
  | false => none
noncomputable def onStop {β : Type} (b : Bool) (u v : Option β) : Option β := match b with
  | true => u
  | false => v
noncomputable def onCall {β : Type} (r : Option (Result × ES)) (g : Result → ES → Option β) : Option β := match r with
  | some (r, s') => g r s'
  | none => none

/-- a tree run to its end, calls by C -/
noncomputable def evS {α : Type} (S : Setting) (C : Ctx → Pos → ES → Option (Result × ES)) (Γ : Ctx) : Sem α → Pos → ES → Option (Except Value α × Pos × ES)
  | .pure a, p, s => some (.ok a, p, s)
  | .raise e, p, s => some (.error e, p, s)
  | .rule _ k, p, s => evS S C Γ (k ()) p s
  | .at p' k, _, s => evS S C Γ (k ()) p' s
  | .load a _ k, p, s => onLoad s a fun o => evS S C Γ (k o) p s
  | .update a _ f k, p, s => onSet s a f fun s' => evS S C Γ (k ()) p s'
  | .loadIfAlive a k, p, s => onPeek s a fun o => evS S C Γ (k o) p s
  | .point _ k, p, s => evS S C Γ (k ()) p s
  | .alloc o k, p, s => onIns s o fun s' => evS S C Γ (k s.n) p s'
  | .fresh k, p, s => evS S C Γ (k s.k) p ⟨s.T, s.n, s.k + 1⟩
  | .ask k, p, s => evS S C Γ (k S) p s
  | .call c h _ _ k, p, s => onCall (C (Γ.enter c h p) p s) fun r s' => evS S C Γ (k r) p s'
  | .handled own k, p, s => evS S C Γ (k (if own then Γ.own else Γ.handled)) p s
  | .stack k, p, s => evS S C Γ (k ((Γ.code, p) :: Γ.below)) p s
  | .thread k, p, s => evS S C Γ (k 0) p s
  | _, _, _ => none

noncomputable def evC (den : Code → Sem PySem.Fin) (S : Setting) : Nat → Ctx → Pos → ES → Option (Result × ES)
  | 0, _, _, _ => none
  | n + 1, Γ, p, s => match evS S (evC den S n) Γ (den Γ.code) p s with
    | some (.ok (.done f), _, s') => some (.ok f, s')
    | some (.ok (.again c), p', s') => match c.quiet with
      | true => evC den S n (Γ.goto c) p' s'
      | false => none
    | some (.error e, _, s') => some (.error e, s')
    | none => none

/-- a tree run until it calls a code where `stop` says so -/
noncomputable def evCut {α : Type} (stop : Code → Bool) (S : Setting) (C : Ctx → Pos → ES → Option (Result × ES)) (Γ : Ctx) : Sem α → Pos → ES → Option ((Code × Option Value × (Result → Sem α)) × Pos × ES)
  | .rule _ k, p, s => evCut stop S C Γ (k ()) p s
  | .at p' k, _, s => evCut stop S C Γ (k ()) p' s
  | .load a _ k, p, s => onLoad s a fun o => evCut stop S C Γ (k o) p s
  | .update a _ f k, p, s => onSet s a f fun s' => evCut stop S C Γ (k ()) p s'
  | .loadIfAlive a k, p, s => onPeek s a fun o => evCut stop S C Γ (k o) p s
  | .point _ k, p, s => evCut stop S C Γ (k ()) p s
  | .alloc o k, p, s => onIns s o fun s' => evCut stop S C Γ (k s.n) p s'
  | .fresh k, p, s => evCut stop S C Γ (k s.k) p ⟨s.T, s.n, s.k + 1⟩
  | .ask k, p, s => evCut stop S C Γ (k S) p s
  | .call c h _ _ k, p, s => onStop (stop c) (some ((c, h, k), p, s)) (onCall (C (Γ.enter c h p) p s) fun r s' => evCut stop S C Γ (k r) p s')
  | .handled own k, p, s => evCut stop S C Γ (k (if own then Γ.own else Γ.handled)) p s
  | .stack k, p, s => evCut stop S C Γ (k ((Γ.code, p) :: Γ.below)) p s
  | .thread k, p, s => evCut stop S C Γ (k 0) p s
  | _, _, _ => none

section
variable {M : Model} {S : Setting} {C : Ctx → Pos → ES → Option (Result × ES)} {x : Rest}
noncomputable def CSound (M : Model) (x : Rest) (C : Ctx → Pos → ES → Option (Result × ES)) : Prop := ∀ Γ p s r s', C Γ p s = some (r, s') → Returns M Γ p (s.abs x) r (s'.abs x)

theorem abs_size (s : ES) (x : Rest) : (s.abs x).heap.objs.size = s.n := absHeap_size _ _ _
theorem onLoad_some {β : Type} {s : ES} {a : Addr} {f : Obj → Option β} {r : β} (x : Rest) (h : onLoad s a f = some r) : ∃ o, (s.abs x).heap.get? a = some o ∧ f o = some r := by
  unfold onLoad at h
  cases e : Nat.blt a s.n with
  | false => rw [e] at h; cases h
  | true =>
    cases g : s.T.get a with
    | none => rw [e, g] at h; cases h
    | some o =>
      rw [e, g] at h
      dsimp only at h
      cases al : alive o with
      | none => rw [al] at h; cases h
      | some o' => rw [al] at h; exact ⟨o', (abs_get (Nat.le_of_ble_eq_true e) g).trans al, h⟩
theorem onSet_some {β : Type} {s : ES} {a : Addr} {f : Obj → Obj} {g : ES → Option β} {r : β} (x : Rest) (h : onSet s a f g = some r) :
    ((s.abs x).heap.get? a).isSome = true ∧ ∃ s', s'.abs x = { s.abs x with heap := (s.abs x).heap.update a f } ∧ g s' = some r := by
  unfold onSet at h
  cases e : Nat.blt a s.n with
  | false => rw [e] at h; cases h
  | true =>
    cases q : s.T.get a with
    | none => rw [e, q] at h; cases h
    | some o =>
      rw [e, q] at h
      dsimp only at h
      cases al : alive o with
      | none => rw [al] at h; cases h
      | some o' =>
        rw [al] at h
        refine ⟨by show ((absHeap s.T s.n x.life).get? a).isSome = true; rw [abs_get (Nat.le_of_ble_eq_true e) q, al]; rfl, _, ?_, h⟩
        show (⟨absHeap _ _ _, _, _, _, _⟩ : Shared) = _
        rw [absHeap_set q]
        rfl
theorem onPeek_some {β : Type} {s : ES} {a : Addr} {f : Option Obj → Option β} {r : β} (x : Rest) (h : onPeek s a f = some r) : f ((s.abs x).heap.get? a) = some r := by
  unfold onPeek at h
  show f ((absHeap s.T s.n x.life).get? a) = _
  cases e : Nat.blt a s.n with
  | false =>
    rw [e] at h
    rw [abs_get_none fun q => by rw [show Nat.blt a s.n = true from Nat.ble_eq_true_of_le q] at e; cases e]
    exact h
  | true =>
    cases g : s.T.get a with
    | none => rw [e, g] at h; cases h
    | some o => rw [e, g] at h; rw [abs_get (Nat.le_of_ble_eq_true e) g]; exact h
theorem onIns_some {β : Type} {s : ES} {o : Obj} {g : ES → Option β} {r : β} (x : Rest) (h : onIns s o g = some r) : ∃ s', s'.abs x = { s.abs x with heap := (s.abs x).heap.push o } ∧ g s' = some r := by
  unfold onIns at h
  cases e : ((s.T.ins s.n o).get s.n).isSome with
  | false => rw [e] at h; cases h
  | true =>
    rw [e] at h
    refine ⟨_, ?_, h⟩
    show (⟨absHeap _ _ _, _, _, _, _⟩ : Shared) = _
    rw [absHeap_ins e]
    rfl
theorem onCall_some {β : Type} {y : Option (Result × ES)} {g : Result → ES → Option β} {r : β} (h : onCall y g = some r) : ∃ r₁ s₁, y = some (r₁, s₁) ∧ g r₁ s₁ = some r := by
  rcases y with _ | ⟨r₁, s₁⟩
  · cases h
  · exact ⟨r₁, s₁, rfl, h⟩

theorem evS_sound (hS : S = ⟨M.prog, M.w.params⟩) (hC : CSound M x C) {α : Type} (Γ : Ctx) (t : Sem α) : ∀ (p : Pos) (s : ES) (r : Except Value α) (p' : Pos) (s' : ES), evS S C Γ t p s = some (r, p', s') →
    ∀ (Q : α → Pos → Shared → Prop) (E : Value → Pos → Shared → Prop), (match r with | .ok a => Q a p' (s'.abs x) | .error e => E e p' (s'.abs x)) → Sem.wp M Γ t Q E p (s.abs x) := by
  intro p s r p' s' h Q E q
  induction t generalizing p s with
  | pure a => cases h; exact q
  | raise e => cases h; exact q
  | rule _ k ih => exact ih () p s h
  | «at» p₀ k ih => exact ih () p₀ s h
  | point _ k ih => exact ih () p s h
  | thread k ih => exact ih 0 p s h
  | stack k ih => exact ih _ p s h
  | handled own k ih => exact ih _ p s h
  | ask k ih => subst hS; exact ih _ p s h
  | fresh k ih => exact ih _ p _ h
  | alloc o k ih =>
    obtain ⟨s₁, e, g⟩ := onIns_some x h
    have := ih s.n p s₁ g
    rw [e] at this
    show Sem.wp M Γ (k (s.abs x).heap.objs.size) Q E p _
    rw [abs_size]
    exact this
  | load a z k ih =>
    obtain ⟨o, e, g⟩ := onLoad_some x h
    exact ⟨o, e, ih o p s g⟩
  | update a z f k ih =>
    obtain ⟨e, s₁, e', g⟩ := onSet_some x h
    have := ih () p s₁ g
    rw [e'] at this
    exact ⟨e, this⟩
  | loadIfAlive a k ih => exact ih _ p s (onPeek_some x h)
  | call c h₀ z l k ih =>
    obtain ⟨r₁, s₁, e, g⟩ := onCall_some h
    exact ⟨r₁, s₁.abs x, hC _ _ _ _ _ e, ih r₁ p s₁ g⟩
  | _ => cases h

theorem evC_sound {den : Code → Sem PySem.Fin} (hd : M.den = den) (hS : S = ⟨M.prog, M.w.params⟩) : ∀ n, CSound M x (evC den S n)
  | 0, Γ, p, s, r, s', h => by simp only [evC] at h; cases h
  | n + 1, Γ, p, s, r, s', h => by
    have fin : ∀ (Γ : Ctx) (p : Pos) (s : ES), Sem.wp M Γ (M.den Γ.code) (Sem.finPost M Γ fun r₁ σ => r₁ = r ∧ σ = s'.abs x) (fun e _ σ => Except.error e = r ∧ σ = s'.abs x) p (s.abs x) → Returns M Γ p (s.abs x) r (s'.abs x) := fun Γ p s w => by
      obtain ⟨r₁, σ, h1, rfl, rfl⟩ := (wpCode_iff_wp M Γ (fun r₁ σ => r₁ = r ∧ σ = s'.abs x) p (s.abs x)).mpr w
      exact h1
    refine fin Γ p s ?_
    rw [evC, ← hd] at h
    cases e : evS S (evC M.den S n) Γ (M.den Γ.code) p s with
    | none => rw [e] at h; cases h
    | some y =>
      obtain ⟨y1, p₁, s₁⟩ := y
      rw [e] at h
      refine evS_sound hS (evC_sound (den := M.den) rfl hS n) Γ _ p s _ p₁ s₁ e _ _ ?_
      cases y1 with
      | error v => cases h; exact ⟨rfl, rfl⟩
      | ok f =>
        cases f with
        | done f => cases h; exact ⟨rfl, rfl⟩
        | again c =>
          cases hq : c.quiet with
          | false => simp only [hq] at h; cases h
          | true =>
            simp only [hq] at h
            exact ⟨hq, r, s'.abs x, evC_sound (den := M.den) rfl hS n _ _ _ _ _ h, rfl, rfl⟩

theorem evCut_sound (hS : S = ⟨M.prog, M.w.params⟩) (hC : CSound M x C) {stop : Code → Bool} {α : Type} (Γ : Ctx) (t : Sem α) : ∀ (p : Pos) (s : ES) (c : Code) (h₁ : Option Value) (k₁ : Result → Sem α) (p' : Pos) (s' : ES), evCut stop S C Γ t p s = some ((c, h₁, k₁), p', s') →
    ∀ (Q : α → Pos → Shared → Prop) (E : Value → Pos → Shared → Prop), wpCode M (Γ.enter c h₁ p') (fun r σ => Sem.wp M Γ (k₁ r) Q E p' σ) p' (s'.abs x) → Sem.wp M Γ t Q E p (s.abs x) := by
  intro p s c h₁ k₁ p' s' h Q E q
  induction t generalizing p s with
  | rule _ k ih => exact ih () p s h
  | «at» p₀ k ih => exact ih () p₀ s h
  | point _ k ih => exact ih () p s h
  | thread k ih => exact ih 0 p s h
  | stack k ih => exact ih _ p s h
  | handled own k ih => exact ih _ p s h
  | ask k ih => subst hS; exact ih _ p s h
  | fresh k ih => exact ih _ p _ h
  | alloc o k ih =>
    obtain ⟨s₁, e, g⟩ := onIns_some x h
    have := ih s.n p s₁ g
    rw [e] at this
    show Sem.wp M Γ (k (s.abs x).heap.objs.size) Q E p _
    rw [abs_size]
    exact this
  | load a z k ih =>
    obtain ⟨o, e, g⟩ := onLoad_some x h
    exact ⟨o, e, ih o p s g⟩
  | update a z f k ih =>
    obtain ⟨e, s₁, e', g⟩ := onSet_some x h
    have := ih () p s₁ g
    rw [e'] at this
    exact ⟨e, this⟩
  | loadIfAlive a k ih => exact ih _ p s (onPeek_some x h)
  | call c₀ h₀ z l k ih =>
    have h2 : onStop (stop c₀) (some ((c₀, h₀, k), p, s)) (onCall (C (Γ.enter c₀ h₀ p) p s) fun r s' => evCut stop S C Γ (k r) p s') = some ((c, h₁, k₁), p', s') := h
    cases e0 : stop c₀ with
    | true => rw [e0] at h2; cases h2; exact q
    | false =>
      rw [e0] at h2
      obtain ⟨r₁, s₁, e, g⟩ := onCall_some h2
      exact ⟨r₁, s₁.abs x, hC _ _ _ _ _ e, ih r₁ p s₁ g⟩
  | _ => cases h
end
end Mine

namespace Mine
open PySem.Challenge

noncomputable def denQ : Code → Sem PySem.Fin := PySem.W.Fast.tw11892475500146522536 PySem.W.Fast.tw14364793385576792824
theorem denQ_eq : denote table = denQ := by
  rw [table_eq_tree, PySem.W.Fast.te11892475500146522536, PySem.W.Fast.te14364793385576792824]; rfl
noncomputable abbrev setOf (w : World) : Setting := ⟨pw_rs0187_01, w.params⟩
noncomputable abbrev runC (w : World) : Ctx → Pos → ES → Option (Result × ES) := evC denQ (setOf w) 100
noncomputable def isBody (c : Code) : Bool := match c with | .body .. => true | _ => false
noncomputable def isComp (c : Code) : Bool := match c with | .compStart .. => true | _ => false

noncomputable def bootT (P : Params) : BT := ((List.range 11).foldl (fun t i => t.ins i (((boot_heap P).objs[i]?).getD default)) BT.nil)
noncomputable def sBoot (P : Params) : ES := ⟨bootT P, 11, 181⟩
noncomputable def Γ0 : Ctx := Ctx.of (.builtin "claim.caller" {}) []
noncomputable def topCur : Sem PySem.Fin := (topStub pw_rs0187_01).cur
noncomputable def envM : Env := { scope := pw_rs0187_01.main.scope, locals := mainNs, globals := mainNs, cells := [], code := .ref 13, frame := some 14 }
noncomputable def bodyM : Code := .body (behindTheImports pw_rs0187_01) envM
noncomputable def Γ1 : Ctx := Γ0.enter bodyM none default

noncomputable def sMod : Str := ⟨#[60, 109, 111, 100, 117, 108, 101, 62]⟩
noncomputable def sFile : Str := ⟨#[47, 99, 108, 97, 105, 109, 47, 99, 117, 116, 46, 112, 121]⟩
noncomputable def sMain : Str := ⟨#[95, 95, 109, 97, 105, 110, 95, 95]⟩
noncomputable def o11 : Obj := ⟨.type "tuple", none, .seq #[] 0, #[]⟩
noncomputable def o12 : Obj := ⟨.none, none, .fields #[], #[]⟩
noncomputable def o13 : Obj := ⟨.type "code", none, .fields #[.str sMod 182, .str sMod 183, .str sFile 184, .int 1 0, .int 0 0, .int 0 0, .int 0 0, .int 0 0, .ref 11, .bool false, .int 181 0, .ref 12, .none, .none, .none, .none, .int 185 0, .int 1 0, .str sFile 186], #[]⟩
noncomputable def o14 : Obj := ⟨.type "frame", none, .plain, #[some (.ref 13), some (.ref 3), some (.ref 3), none, some (.str sMain 164), none, some (.ref 0)]⟩
noncomputable def s14 (P : Params) : ES := ⟨(((bootT P).ins 11 o11).ins 12 o12 |>.ins 13 o13).ins 14 o14, 15, 187⟩

noncomputable def hashOf (P : Params) (x : Str) : Int := reduceHash (P.strHash x.cps)
noncomputable def sCRLF : Str := ⟨#[67, 82, 76, 70]⟩
noncomputable def sNL : Str := ⟨#[78, 76]⟩
noncomputable def addNames (P : Params) (o : Obj) : Obj := match o with
  | ⟨c, d, .dict es n, sl⟩ => ⟨c, d, .dict ((es.push ⟨hashOf P sCRLF, .str sCRLF 188, .str ⟨#[13, 10]⟩ 187⟩).push ⟨hashOf P sNL, .str sNL 190, .str ⟨#[10]⟩ 189⟩) (n + 2), sl⟩
  | o => o
noncomputable def o15 : Obj := ⟨.type "range", none, .fields #[.int 0 192, .int 256 191, .int 1 193], #[]⟩
noncomputable def figC (d : Nat) : Nat := if d < 10 then 48 + d else 55 + d
noncomputable def strAt (i : Nat) : Value := .str ⟨#[61, figC (i / 16), figC (i % 16)]⟩ (197 + 4 * i)
noncomputable def oIt (j : Nat) : Obj := ⟨.type "range_iterator", none, .fields #[.int j 0, .int (256 - j : Nat) 0, .int 1 0], #[]⟩
noncomputable def oLst (j : Nat) : Obj := ⟨.type "list", none, .seq ⟨(List.range j).map strAt⟩ j, #[]⟩
noncomputable def oLoc (P : Params) (j : Nat) : Obj := match j with
  | 0 => ⟨.type "dict", none, .dict #[] 0, #[]⟩
  | j + 1 => ⟨.type "dict", none, .dict #[⟨hashOf P ⟨#[99]⟩, .str ⟨#[99]⟩ 195, .int j (194 + 4 * j)⟩] 1, #[]⟩
noncomputable def preT (P : Params) : BT := (((((bootT P).ins 11 o11).ins 12 o12 |>.ins 13 o13).ins 14 o14).set 3 (addNames P)).ins 15 o15
noncomputable def sK (P : Params) (j : Nat) : ES := ⟨(((preT P).ins 16 (oIt j)).ins 17 (oLst j)).ins 18 (oLoc P j), 19, 194 + 4 * j⟩

noncomputable def compE : PySem.Expr := match stAt 2 with | .Assign _ v _ => v | _ => .Constant .none 0 ⟨0, 0, 0, 0⟩
noncomputable def compS : Scope := match compE with | .ListComp _ _ s _ => s | _ => pw_rs0187_01.main.scope
noncomputable def envK : Env := { scope := compS, locals := 18, globals := mainNs, cells := [], qual := Str.empty, func := none, code := .ref 13, frame := some 14, builtins := 0 }
noncomputable def pB : Pos := ⟨3, 36, 3, 46⟩
noncomputable def pT : Pos := ⟨3, 15, 3, 26⟩
noncomputable def codeS : Code := .compStart compE 0 (.ref 16) (.ref 17) envK
noncomputable def codeK : Code := .compLoop compE 0 (.ref 16) (.ref 17) envK
noncomputable def Γ2 : Ctx := Γ1.enter codeS none pB

noncomputable def cutA (w : World) := evCut isBody (setOf w) (runC w) Γ0 topCur default (sBoot w.params)
noncomputable def cutB (w : World) := evCut isComp (setOf w) (runC w) Γ1 (denQ bodyM) default (s14 w.params)
noncomputable def contA (w : World) : Result → Sem PySem.Fin := match cutA w with | some ((_, _, k), _, _) => k | none => fun _ => .unsupported ""
noncomputable def contB (w : World) : Result → Sem PySem.Fin := match cutB w with | some ((_, _, k), _, _) => k | none => fun _ => .unsupported ""
noncomputable def evTurns (den : Code → Sem PySem.Fin) (S : Setting) (C : Ctx → Pos → ES → Option (Result × ES)) : Nat → Ctx → Pos → ES → Option (Ctx × Pos × ES)
  | 0, Γ, p, s => some (Γ, p, s)
  | n + 1, Γ, p, s => match evS S C Γ (den Γ.code) p s with
    | some (.ok (.again c), p', s') => match c.quiet with
      | true => evTurns den S C n (Γ.goto c) p' s'
      | false => none
    | _ => none
theorem evTurns_sound {M : Model} {S : Setting} {C : Ctx → Pos → ES → Option (Result × ES)} {x : Rest} {den : Code → Sem PySem.Fin} (hd : M.den = den) (hS : S = ⟨M.prog, M.w.params⟩) (hC : CSound M x C) {r : Result} {σ : Shared} :
    ∀ (n : Nat) (Γ : Ctx) (p : Pos) (s : ES) (Γ' : Ctx) (p' : Pos) (s' : ES), evTurns den S C n Γ p s = some (Γ', p', s') → Returns M Γ' p' (s'.abs x) r σ → Returns M Γ p (s.abs x) r σ
  | 0, Γ, p, s, Γ', p', s', h, hr => by simp only [evTurns] at h; cases h; exact hr
  | n + 1, Γ, p, s, Γ', p', s', h, hr => by
    rw [evTurns, ← hd] at h
    cases e : evS S C Γ (M.den Γ.code) p s with
    | none => rw [e] at h; cases h
    | some y =>
      obtain ⟨y1, p₁, s₁⟩ := y
      rw [e] at h
      cases y1 with
      | error v => cases h
      | ok f =>
        cases f with
        | done f => cases h
        | again c =>
          cases hq : c.quiet with
          | false => simp only [hq] at h; cases h
          | true =>
            simp only [hq] at h
            have ih := evTurns_sound (den := M.den) rfl hS hC n _ _ _ _ _ _ h hr
            obtain ⟨r₁, σ₁, h1, rfl, rfl⟩ := (wpCode_iff_wp M Γ (fun r₁ σ₁ => r₁ = r ∧ σ₁ = σ) p (s.abs x)).mpr (evS_sound hS hC Γ _ p s _ p₁ s₁ e _ _ ⟨hq, r, σ, ih, rfl, rfl⟩)
            exact h1
end Mine

namespace Mine
open PySem.Challenge

theorem cutA_eq (w : World) : cutA w = some ((bodyM, none, contA w), default, s14 w.params) := by kernel_rfl!
theorem cutB_eq : ∀ w : World, cutB w = some ((codeS, none, contB w), pB, sK w.params 0) :=
  byRow2 (P := fun w => cutB w = some ((codeS, none, contB w), pB, sK w.params 0)) "special-get-raises" (fun w => by with_reducible (show _ = _); kernel_rfl!) (fun w => by with_reducible (show _ = _); kernel_rfl!)
noncomputable def StartP (w : World) : Prop := evTurns denQ (setOf w) (runC w) 1 Γ2 pB (sK w.params 0) = some (Γ2.goto codeK, pB, sK w.params 0)
theorem start_ff (w : World) : StartP ((w.withFollow "comprehension-iter-twice" false).withFollow "special-get-raises" false) := by unfold StartP; kernel_rfl!
theorem start_ft (w : World) : StartP ((w.withFollow "comprehension-iter-twice" false).withFollow "special-get-raises" true) := by unfold StartP; kernel_rfl!
theorem start_t (w : World) : StartP (w.withFollow "comprehension-iter-twice" true) := by unfold StartP; kernel_rfl!
theorem start_eq : ∀ w : World, StartP w := byRow2 (P := StartP) "comprehension-iter-twice" (fun w => by
  have h := World.withFollow_self (w.withFollow "comprehension-iter-twice" false) "special-get-raises"
  have f := start_ff w
  have t := start_ft w
  cases hb : (w.withFollow "comprehension-iter-twice" false).params.followText "special-get-raises"
  · rw [hb] at h; rw [h] at f; exact f
  · rw [hb] at h; rw [h] at t; exact t) start_t
theorem turns_0 : ∀ w : World, evTurns denQ (setOf w) (runC w) 32 (Γ2.goto codeK) pB (sK w.params 0) = some (Γ2.goto codeK, pT, sK w.params 32) :=
  byRow2 (P := fun w => evTurns denQ (setOf w) (runC w) 32 (Γ2.goto codeK) pB (sK w.params 0) = some (Γ2.goto codeK, pT, sK w.params 32)) "special-get-raises" (fun w => by with_reducible (show _ = _); kernel_rfl!) (fun w => by with_reducible (show _ = _); kernel_rfl!)

theorem turns_1 : ∀ w : World, evTurns denQ (setOf w) (runC w) 32 (Γ2.goto codeK) pT (sK w.params 32) = some (Γ2.goto codeK, pT, sK w.params 64) :=
  byRow2 (P := fun w => evTurns denQ (setOf w) (runC w) 32 (Γ2.goto codeK) pT (sK w.params 32) = some (Γ2.goto codeK, pT, sK w.params 64)) "special-get-raises" (fun w => by with_reducible (show _ = _); kernel_rfl!) (fun w => by with_reducible (show _ = _); kernel_rfl!)

theorem turns_2 : ∀ w : World, evTurns denQ (setOf w) (runC w) 32 (Γ2.goto codeK) pT (sK w.params 64) = some (Γ2.goto codeK, pT, sK w.params 96) :=
  byRow2 (P := fun w => evTurns denQ (setOf w) (runC w) 32 (Γ2.goto codeK) pT (sK w.params 64) = some (Γ2.goto codeK, pT, sK w.params 96)) "special-get-raises" (fun w => by with_reducible (show _ = _); kernel_rfl!) (fun w => by with_reducible (show _ = _); kernel_rfl!)

theorem turns_3 : ∀ w : World, evTurns denQ (setOf w) (runC w) 32 (Γ2.goto codeK) pT (sK w.params 96) = some (Γ2.goto codeK, pT, sK w.params 128) :=
  byRow2 (P := fun w => evTurns denQ (setOf w) (runC w) 32 (Γ2.goto codeK) pT (sK w.params 96) = some (Γ2.goto codeK, pT, sK w.params 128)) "special-get-raises" (fun w => by with_reducible (show _ = _); kernel_rfl!) (fun w => by with_reducible (show _ = _); kernel_rfl!)

theorem turns_4 : ∀ w : World, evTurns denQ (setOf w) (runC w) 32 (Γ2.goto codeK) pT (sK w.params 128) = some (Γ2.goto codeK, pT, sK w.params 160) :=
  byRow2 (P := fun w => evTurns denQ (setOf w) (runC w) 32 (Γ2.goto codeK) pT (sK w.params 128) = some (Γ2.goto codeK, pT, sK w.params 160)) "special-get-raises" (fun w => by with_reducible (show _ = _); kernel_rfl!) (fun w => by with_reducible (show _ = _); kernel_rfl!)

theorem turns_5 : ∀ w : World, evTurns denQ (setOf w) (runC w) 32 (Γ2.goto codeK) pT (sK w.params 160) = some (Γ2.goto codeK, pT, sK w.params 192) :=
  byRow2 (P := fun w => evTurns denQ (setOf w) (runC w) 32 (Γ2.goto codeK) pT (sK w.params 160) = some (Γ2.goto codeK, pT, sK w.params 192)) "special-get-raises" (fun w => by with_reducible (show _ = _); kernel_rfl!) (fun w => by with_reducible (show _ = _); kernel_rfl!)

theorem turns_6 : ∀ w : World, evTurns denQ (setOf w) (runC w) 32 (Γ2.goto codeK) pT (sK w.params 192) = some (Γ2.goto codeK, pT, sK w.params 224) :=
  byRow2 (P := fun w => evTurns denQ (setOf w) (runC w) 32 (Γ2.goto codeK) pT (sK w.params 192) = some (Γ2.goto codeK, pT, sK w.params 224)) "special-get-raises" (fun w => by with_reducible (show _ = _); kernel_rfl!) (fun w => by with_reducible (show _ = _); kernel_rfl!)

theorem turns_7 : ∀ w : World, evTurns denQ (setOf w) (runC w) 32 (Γ2.goto codeK) pT (sK w.params 224) = some (Γ2.goto codeK, pT, sK w.params 256) :=
  byRow2 (P := fun w => evTurns denQ (setOf w) (runC w) 32 (Γ2.goto codeK) pT (sK w.params 224) = some (Γ2.goto codeK, pT, sK w.params 256)) "special-get-raises" (fun w => by with_reducible (show _ = _); kernel_rfl!) (fun w => by with_reducible (show _ = _); kernel_rfl!)

noncomputable def o19 : Obj := ⟨.type "tuple", none, .seq #[] 0, #[]⟩
noncomputable def o20 : Obj := ⟨.type "StopIteration", none, .fields #[.ref 19, .none, .none, .none, .bool false, .none], #[]⟩
noncomputable def sEnd (P : Params) : ES := ⟨((sK P 256).T.ins 19 o19).ins 20 o20, 21, 1218⟩
theorem stop_eq : ∀ w : World, (evS (setOf w) (runC w) (Γ2.goto codeK) (denQ codeK) pT (sK w.params 256)).map (fun r => (r.1, r.2.2)) = some (.ok (.done .next), sEnd w.params) :=
  byRow2 (P := fun w => (evS (setOf w) (runC w) (Γ2.goto codeK) (denQ codeK) pT (sK w.params 256)).map (fun r => (r.1, r.2.2)) = some (.ok (.done .next), sEnd w.params)) "special-get-raises" (fun w => by with_reducible (show _ = _); kernel_rfl!) (fun w => by with_reducible (show _ = _); kernel_rfl!)
end Mine

namespace Mine
open PySem.Challenge

noncomputable def isFor (c : Code) : Bool := match c with | .forLoop .. => true | _ => false
noncomputable def o21 : Obj := ⟨.type "slice", none, .fields #[.none, .none, .none], #[]⟩
noncomputable def o18 : Obj := ⟨.type "dict", none, .dict #[] 2, #[]⟩
noncomputable def oStop (a : Addr) : Obj := ⟨.type "StopIteration", none, .fields #[.ref a, .none, .none, .none, .bool false, .none], #[]⟩
noncomputable def oCells (f : Nat → Value) : Obj := ⟨.type "list", none, .seq ⟨(List.range 256).map f⟩ 0, #[]⟩
noncomputable def oBIt (v : Value) (j : Nat) : Obj := ⟨.type "bytes_iterator", none, .fields #[v, .int j 0], #[]⟩
noncomputable def ent (P : Params) (x : Str) (tk : Tok) (v : Value) : DictEntry := ⟨hashOf P x, .str x tk, v⟩
noncomputable def nameTo (es : List DictEntry) (v : Value) : List DictEntry := match es with
  | e :: r => ⟨e.hash, e.key, v⟩ :: r
  | [] => []
noncomputable def addMore (P : Params) (more : List DictEntry) (o : Obj) : Obj := match o with
  | ⟨c, d, .dict es n, sl⟩ => ⟨c, d, .dict ⟨nameTo es.toList (.str ⟨#[99, 112, 121, 51, 49, 51, 46, 101, 109, 97, 105, 108, 46, 113, 117, 111, 112, 114, 105, 109, 105, 109, 101]⟩ 1234) ++ [ent P ⟨#[95, 81, 85, 79, 80, 82, 73, 95, 77, 65, 80]⟩ 1218 (.ref 17), ent P ⟨#[95, 81, 85, 79, 80, 82, 73, 95, 72, 69, 65, 68, 69, 82, 95, 77, 65, 80]⟩ 1219 (.ref 22), ent P ⟨#[95, 81, 85, 79, 80, 82, 73, 95, 66, 79, 68, 89, 95, 77, 65, 80]⟩ 1220 (.ref 24), ent P ⟨#[97, 115, 99, 105, 105, 95, 108, 111, 119, 101, 114, 99, 97, 115, 101]⟩ 1222 (.str ⟨#[97, 98, 99, 100, 101, 102, 103, 104, 105, 106, 107, 108, 109, 110, 111, 112, 113, 114, 115, 116, 117, 118, 119, 120, 121, 122]⟩ 1221), ent P ⟨#[97, 115, 99, 105, 105, 95, 117, 112, 112, 101, 114, 99, 97, 115, 101]⟩ 1224 (.str ⟨#[65, 66, 67, 68, 69, 70, 71, 72, 73, 74, 75, 76, 77, 78, 79, 80, 81, 82, 83, 84, 85, 86, 87, 88, 89, 90]⟩ 1223), ent P ⟨#[97, 115, 99, 105, 105, 95, 108, 101, 116, 116, 101, 114, 115]⟩ 1226 (.str ⟨#[97, 98, 99, 100, 101, 102, 103, 104, 105, 106, 107, 108, 109, 110, 111, 112, 113, 114, 115, 116, 117, 118, 119, 120, 121, 122, 65, 66, 67, 68, 69, 70, 71, 72, 73, 74, 75, 76, 77, 78, 79, 80, 81, 82, 83, 84, 85, 86, 87, 88, 89, 90]⟩ 1225), ent P ⟨#[100, 105, 103, 105, 116, 115]⟩ 1228 (.str ⟨#[48, 49, 50, 51, 52, 53, 54, 55, 56, 57]⟩ 1227), ent P ⟨#[104, 101, 120, 100, 105, 103, 105, 116, 115]⟩ 1233 (.str ⟨#[48, 49, 50, 51, 52, 53, 54, 55, 56, 57, 97, 98, 99, 100, 101, 102, 65, 66, 67, 68, 69, 70]⟩ 1232)] ++ more⟩ (n + 8 + more.length), sl⟩
  | o => o
noncomputable def cAt (P : Params) (v : Nat) (tk : Tok) : List DictEntry := [ent P ⟨#[99]⟩ 1244 (.int v tk)]
noncomputable def inR (a b i : Nat) : Bool := Nat.ble a i && Nat.ble i b
noncomputable def codesA : List Nat := [45, 33, 42, 43, 47] ++ (List.range 26).map (97 + ·) ++ (List.range 26).map (65 + ·) ++ (List.range 10).map (48 + ·)
noncomputable def posA (i : Nat) : Nat := cond (inR 97 122 i) (i - 92) (cond (inR 65 90 i) (i - 34) (cond (inR 48 57 i) (i + 9) (cond (Nat.beq i 45) 0 (cond (Nat.beq i 33) 1 (cond (Nat.beq i 42) 2 (cond (Nat.beq i 43) 3 (cond (Nat.beq i 47) 4 1000)))))))
noncomputable def cellA (j i : Nat) : Value := cond (Nat.blt (posA i) j) (.str ⟨#[i]⟩ (1245 + 3 * posA i)) (strAt i)
noncomputable def cellA' (i : Nat) : Value := cond (Nat.beq i 32) (.str ⟨#[95]⟩ 1444) (cellA 67 i)
noncomputable def codesB : List Nat := (List.range 29).map (32 + ·) ++ (List.range 65).map (62 + ·) ++ [9]
noncomputable def posB (i : Nat) : Nat := cond (inR 32 60 i) (i - 32) (cond (inR 62 126 i) (i - 33) (cond (Nat.beq i 9) 94 1000))
noncomputable def cellB (j i : Nat) : Value := cond (Nat.blt (posB i) j) (.str ⟨#[i]⟩ (1450 + 3 * posB i)) (strAt i)
noncomputable def moreA (P : Params) (j : Nat) : List DictEntry := match j with
  | 0 => []
  | j + 1 => cAt P (codesA.getD j 0) (1243 + 3 * j)
noncomputable def moreB (P : Params) (j : Nat) : List DictEntry := match j with
  | 0 => moreA P 67
  | j + 1 => cAt P (codesB.getD j 0) (1448 + 3 * j)
noncomputable def bytesV (l : List Nat) (tk : Tok) : Value := .bytes ⟨l.map UInt8.ofNat⟩ tk
noncomputable def TA (P : Params) (j : Nat) (v : Value) : BT := (((((((sEnd P).T.set 3 (addMore P (moreA P j))).set 18 fun _ => o18).ins 21 o21).ins 22 (oCells (cellA j))).ins 23 o21).ins 24 (oCells strAt)).ins 25 (oBIt v j)
noncomputable def fA (P : Params) (j : Nat) : ES := ⟨TA P j (bytesV codesA 1242), 26, 1243 + 3 * j⟩
noncomputable def eA (P : Params) : ES := ⟨((TA P 67 .none).ins 26 o19).ins 27 (oStop 26), 28, 1444⟩
noncomputable def TB (P : Params) (j : Nat) (v : Value) : BT := ((((((((((sEnd P).T.set 3 (addMore P (moreB P j))).set 18 fun _ => o18).ins 21 o21).ins 22 (oCells cellA')).ins 23 o21).ins 24 (oCells (cellB j))).ins 25 (oBIt .none 67)).ins 26 o19).ins 27 (oStop 26)).ins 28 (oBIt v j)
noncomputable def fB (P : Params) (j : Nat) : ES := ⟨TB P j (bytesV codesB 1447), 29, 1448 + 3 * j⟩
noncomputable def eB (P : Params) : ES := ⟨((TB P 95 .none).ins 29 o19).ins 30 (oStop 29), 31, 1733⟩

noncomputable def codeF (i : Nat) (a : Addr) : Code := match stAt i with
  | .For t _ b o _ => .forLoop t (.ref a) b o envM
  | _ => bodyM
noncomputable def codeE : Code := .block [] envM
noncomputable def pC : Pos := ⟨12, 9, 12, 74⟩
noncomputable def pC1 : Pos := ⟨13, 4, 13, 25⟩
noncomputable def pC2 : Pos := ⟨12, 4, 12, 5⟩
noncomputable def pD : Pos := ⟨15, 9, 15, 110⟩
noncomputable def pD1 : Pos := ⟨16, 4, 16, 23⟩
noncomputable def pD2 : Pos := ⟨15, 4, 15, 5⟩
noncomputable def Γ3 : Ctx := Γ1.enter (codeF 11 25) none pC
noncomputable def Γ4 : Ctx := Γ1.enter (codeF 13 28) none pD
noncomputable def cutC (w : World) := evCut isFor (setOf w) (runC w) Γ1 (contB w (.ok .next)) pB (sEnd w.params)
noncomputable def contC (w : World) : Result → Sem PySem.Fin := match cutC w with | some ((_, _, k), _, _) => k | none => fun _ => .unsupported ""
noncomputable def cutD (w : World) := evCut isFor (setOf w) (runC w) Γ1 (contC w (.ok .next)) pC (eA w.params)
noncomputable def contD (w : World) : Result → Sem PySem.Fin := match cutD w with | some ((_, _, k), _, _) => k | none => fun _ => .unsupported ""

theorem cutC_eq : ∀ w : World, cutC w = some ((codeF 11 25, none, contC w), pC, fA w.params 0) :=
  byRow2 (P := fun w => cutC w = some ((codeF 11 25, none, contC w), pC, fA w.params 0)) "special-get-raises" (fun w => by with_reducible (show _ = _); kernel_rfl!) (fun w => by with_reducible (show _ = _); kernel_rfl!)
theorem turnsA_0 : ∀ w : World, evTurns denQ (setOf w) (runC w) 23 Γ3 pC (fA w.params 0) = some (Γ3, pC1, fA w.params 23) :=
  byRow2 (P := fun w => evTurns denQ (setOf w) (runC w) 23 Γ3 pC (fA w.params 0) = some (Γ3, pC1, fA w.params 23)) "special-get-raises" (fun w => by with_reducible (show _ = _); kernel_rfl!) (fun w => by with_reducible (show _ = _); kernel_rfl!)
theorem turnsA_1 : ∀ w : World, evTurns denQ (setOf w) (runC w) 22 Γ3 pC1 (fA w.params 23) = some (Γ3, pC1, fA w.params 45) :=
  byRow2 (P := fun w => evTurns denQ (setOf w) (runC w) 22 Γ3 pC1 (fA w.params 23) = some (Γ3, pC1, fA w.params 45)) "special-get-raises" (fun w => by with_reducible (show _ = _); kernel_rfl!) (fun w => by with_reducible (show _ = _); kernel_rfl!)
theorem turnsA_2 : ∀ w : World, evTurns denQ (setOf w) (runC w) 22 Γ3 pC1 (fA w.params 45) = some (Γ3, pC1, fA w.params 67) :=
  byRow2 (P := fun w => evTurns denQ (setOf w) (runC w) 22 Γ3 pC1 (fA w.params 45) = some (Γ3, pC1, fA w.params 67)) "special-get-raises" (fun w => by with_reducible (show _ = _); kernel_rfl!) (fun w => by with_reducible (show _ = _); kernel_rfl!)
theorem stopA : ∀ w : World, evTurns denQ (setOf w) (runC w) 1 Γ3 pC1 (fA w.params 67) = some (Γ3.goto codeE, pC2, eA w.params) :=
  byRow2 (P := fun w => evTurns denQ (setOf w) (runC w) 1 Γ3 pC1 (fA w.params 67) = some (Γ3.goto codeE, pC2, eA w.params)) "special-get-raises" (fun w => by with_reducible (show _ = _); kernel_rfl!) (fun w => by with_reducible (show _ = _); kernel_rfl!)
theorem endA : ∀ w : World, (evS (setOf w) (runC w) (Γ3.goto codeE) (denQ codeE) pC2 (eA w.params)).map (fun r => (r.1, r.2.2)) = some (.ok (.done .next), eA w.params) :=
  byRow2 (P := fun w => (evS (setOf w) (runC w) (Γ3.goto codeE) (denQ codeE) pC2 (eA w.params)).map (fun r => (r.1, r.2.2)) = some (.ok (.done .next), eA w.params)) "special-get-raises" (fun w => by with_reducible (show _ = _); kernel_rfl!) (fun w => by with_reducible (show _ = _); kernel_rfl!)
theorem cutD_eq : ∀ w : World, cutD w = some ((codeF 13 28, none, contD w), pD, fB w.params 0) :=
  byRow2 (P := fun w => cutD w = some ((codeF 13 28, none, contD w), pD, fB w.params 0)) "special-get-raises" (fun w => by with_reducible (show _ = _); kernel_rfl!) (fun w => by with_reducible (show _ = _); kernel_rfl!)
theorem turnsB_0 : ∀ w : World, evTurns denQ (setOf w) (runC w) 24 Γ4 pD (fB w.params 0) = some (Γ4, pD1, fB w.params 24) :=
  byRow2 (P := fun w => evTurns denQ (setOf w) (runC w) 24 Γ4 pD (fB w.params 0) = some (Γ4, pD1, fB w.params 24)) "special-get-raises" (fun w => by with_reducible (show _ = _); kernel_rfl!) (fun w => by with_reducible (show _ = _); kernel_rfl!)
theorem turnsB_1 : ∀ w : World, evTurns denQ (setOf w) (runC w) 24 Γ4 pD1 (fB w.params 24) = some (Γ4, pD1, fB w.params 48) :=
  byRow2 (P := fun w => evTurns denQ (setOf w) (runC w) 24 Γ4 pD1 (fB w.params 24) = some (Γ4, pD1, fB w.params 48)) "special-get-raises" (fun w => by with_reducible (show _ = _); kernel_rfl!) (fun w => by with_reducible (show _ = _); kernel_rfl!)
theorem turnsB_2 : ∀ w : World, evTurns denQ (setOf w) (runC w) 24 Γ4 pD1 (fB w.params 48) = some (Γ4, pD1, fB w.params 72) :=
  byRow2 (P := fun w => evTurns denQ (setOf w) (runC w) 24 Γ4 pD1 (fB w.params 48) = some (Γ4, pD1, fB w.params 72)) "special-get-raises" (fun w => by with_reducible (show _ = _); kernel_rfl!) (fun w => by with_reducible (show _ = _); kernel_rfl!)
theorem turnsB_3 : ∀ w : World, evTurns denQ (setOf w) (runC w) 23 Γ4 pD1 (fB w.params 72) = some (Γ4, pD1, fB w.params 95) :=
  byRow2 (P := fun w => evTurns denQ (setOf w) (runC w) 23 Γ4 pD1 (fB w.params 72) = some (Γ4, pD1, fB w.params 95)) "special-get-raises" (fun w => by with_reducible (show _ = _); kernel_rfl!) (fun w => by with_reducible (show _ = _); kernel_rfl!)
theorem stopB : ∀ w : World, evTurns denQ (setOf w) (runC w) 1 Γ4 pD1 (fB w.params 95) = some (Γ4.goto codeE, pD2, eB w.params) :=
  byRow2 (P := fun w => evTurns denQ (setOf w) (runC w) 1 Γ4 pD1 (fB w.params 95) = some (Γ4.goto codeE, pD2, eB w.params)) "special-get-raises" (fun w => by with_reducible (show _ = _); kernel_rfl!) (fun w => by with_reducible (show _ = _); kernel_rfl!)
theorem endB : ∀ w : World, (evS (setOf w) (runC w) (Γ4.goto codeE) (denQ codeE) pD2 (eB w.params)).map (fun r => (r.1, r.2.2)) = some (.ok (.done .next), eB w.params) :=
  byRow2 (P := fun w => (evS (setOf w) (runC w) (Γ4.goto codeE) (denQ codeE) pD2 (eB w.params)).map (fun r => (r.1, r.2.2)) = some (.ok (.done .next), eB w.params)) "special-get-raises" (fun w => by with_reducible (show _ = _); kernel_rfl!) (fun w => by with_reducible (show _ = _); kernel_rfl!)
end Mine

namespace Mine
open PySem.Challenge

noncomputable def strOf (v : Value) : Option Str := match v with | .str x _ => some x | _ => none
noncomputable abbrev FnV := FuncBody × Scope × Arguments × Addr × Addr × List (Str × Addr) × Value × Str × Str × Value × Value × Option Str
noncomputable def codeName (h : Heap) (v : Value) : Option Str := match v with
  | .ref c => match h.get? c with | some ⟨_, _, .fields vs, _⟩ => vs[1]?.bind strOf | _ => none
  | _ => none
noncomputable def fnView (h : Heap) (f : Addr) : Option FnV := match h.get? f with
  | some ⟨_, _, .func fd, _⟩ => some (fd.body, fd.scope, fd.params, fd.globals, fd.builtins, fd.closure, fd.code, fd.name, fd.qualname, fd.defaults, fd.kwdefaults, codeName h fd.code)
  | _ => none
noncomputable def fnGood (i : Nat) (nm : Str) (c : Addr) (dflt kw : Value) : Option FnV := some (.stmts (bodyAt i), scopeAt i, argsAt i, mainGlobals, builtinsNs, [], .ref c, nm, nm, dflt, kw, some nm)
noncomputable def seqView (h : Heap) (a : Addr) : Option (Value × List (Option Str)) := match h.get? a with
  | some ⟨c, _, .seq xs _, _⟩ => some (c, xs.toList.map strOf)
  | _ => none
noncomputable def sixth (l : List (Option Value)) : Option (Option Value) := match l with
  | [_, _, _, _, k4, _] => some k4
  | _ => none
noncomputable def clsView (h : Heap) (a : Addr) : Option (Value × List Value × Addr × Bool × Option Value) := match h.get? a with
  | some ⟨c, _, .cls cd, sl⟩ => (sixth sl.toList).map fun k4 => (c, cd.mro, cd.ns, cd.hasDel, k4)
  | _ => none
noncomputable def isStrB (v : Value) : Bool := match v with | .str _ _ => true | _ => false
noncomputable def isIntB (v : Value) : Bool := match v with | .int _ _ => true | _ => false
noncomputable def isBoolB (v : Value) : Bool := match v with | .bool _ => true | _ => false
noncomputable def codeView (h : Heap) (a : Addr) : Option (Value × Option Value × Bool × Bool × Bool × Bool) := match h.get? a with
  | some ⟨c, _, .fields vs, _⟩ => some (c, vs[11]?, isStrB (vs.getD 18 .none), isIntB (vs.getD 7 .none), isBoolB (vs.getD 9 .none), isIntB (vs.getD 10 .none))
  | _ => none

noncomputable def glbNames : List Str := ["unquote", "quote", "body_encode", "decode", "StatisticsError", "median", "median_low", "median_high", "quantiles", "_law_ends", "_law_due", "_law_told", "law", "_QUOPRI_MAP", "_QUOPRI_BODY_ENCODE_MAP", "__builtins__"]
noncomputable def bltNames : List Str := ["chr", "ord", "int", "len", "sorted", "sum", "max", "min", "divmod", "isinstance", "range", "zip", "enumerate", "list", "str", "float"]
structure VW where
  sz : Nat
  oks : Bool
  glb : List (Option Value)
  gstr : List (Option Str)
  blt : List (Option Value × Option Value)
  fns : List (Option FnV)
  seqs : List (Option (Value × List (Option Str)))
  kwd : Option Str
  cls : Option (Value × List Value × Addr × Bool × Option Value)
  quiet : Bool
  code : Option (Value × Option Value × Bool × Bool × Bool × Bool)
  tab : Option Obj
  old : List (Option Obj)
  lim : Option Value
noncomputable abbrev heapOf (P : Params) (s : ES) : Heap := absHeap s.T s.n (boot_heap P).life
noncomputable def oldAt : List Addr := [0, 1, 4, 5, 7, 8, 9, 10]
noncomputable def viewOf (P : Params) (s : ES) : VW where
  sz := s.n
  oks := (heapOf P s).isNs mainGlobals && (heapOf P s).isNs builtinsNs && (heapOf P s).isNs cStatics && (heapOf P s).isNs 100 && (heapOf P s).isNs 74 &&
    staticsOk (importedModules pw_rs0187_01.main.body) (boot_heap P) (heapOf P s) && namesBound pw_rs0187_01 (heapOf P s) && laidKept (boot_heap P) (heapOf P s) && (heapOf P s).accountedOkI (importedModules pw_rs0187_01.main.body) && (heapOf P s).bmainOk
  glb := glbNames.map (heapOf P s |>.nsMap mainGlobals)
  gstr := [((heapOf P s).nsMap mainGlobals "CRLF").bind strOf, ((heapOf P s).nsMap mainGlobals "hexdigits").bind strOf]
  blt := bltNames.map fun x => ((heapOf P s).nsMap mainGlobals x, (heapOf P s).nsMap builtinsNs x)
  fns := [37, 44, 57, 65, 85, 92, 99, 107, 114, 119, 126, 131].map (fnView (heapOf P s))
  seqs := [17, 46, 50, 58].map (seqView (heapOf P s))
  kwd := ((heapOf P s).nsMap 100 "method").bind strOf
  cls := clsView (heapOf P s) 75
  quiet := (("__str__" : Str) :: quietNames).all fun n => ((heapOf P s).nsMap 74 n).isNone
  code := codeView (heapOf P s) 130
  tab := (heapOf P s).get? 128
  old := oldAt.map fun a => (heapOf P s).get? a
  lim := (heapOf P s).nsMap cStatics "sys.recursionlimit"
noncomputable def viewGood (P : Params) : VW where
  sz := 132
  oks := true
  glb := [37, 44, 57, 65, 75, 85, 92, 99, 107, 114, 119, 126, 131, 17, 46, 4].map fun a => some (.ref a)
  gstr := [some (S [13, 10]), some (S [48, 49, 50, 51, 52, 53, 54, 55, 56, 57, 97, 98, 99, 100, 101, 102, 65, 66, 67, 68, 69, 70])]
  blt := [.builtin "chr", .builtin "ord", .type "int", .builtin "len", .builtin "sorted", .builtin "sum", .builtin "max", .builtin "min", .builtin "divmod", .builtin "isinstance", .type "range", .type "zip", .type "enumerate", .type "list", .type "str", .type "float"].map fun v => (none, some v)
  fns := [fnGood 14 "unquote" 36 .none .none, fnGood 15 "quote" 43 .none .none, fnGood 19 "body_encode" 56 (.ref 50) .none, fnGood 20 "decode" 64 (.ref 58) .none, fnGood 23 "median" 84 .none .none, fnGood 24 "median_low" 91 .none .none, fnGood 25 "median_high" 98 .none .none,
    fnGood 26 "quantiles" 106 .none (.ref 100), fnGood 28 "_law_ends" 113 .none .none, fnGood 29 "_law_due" 118 .none .none, fnGood 30 "_law_told" 125 .none .none, fnGood 31 "law" 130 .none .none]
  seqs := [some (.type "list", (List.range 256).map fun i => some (S (quoteL i))), some (.type "list", (List.range 256).map fun i => some (S (codeB i))), some (.type "tuple", [none, some (S [10])]), some (.type "tuple", [some (S [10])])]
  kwd := some (Str.ofString "exclusive")
  cls := some (.type "type", [.ref 75, .type "ValueError", .type "Exception", .type "BaseException", .type "object"], 74, false, some (.builtin "ValueError.__new__"))
  quiet := true
  code := some (.type "code", some (.ref 128), true, true, true, true)
  tab := some ⟨.none, none, .fields #[], #[]⟩
  old := oldAt.map fun a => (boot_heap P).get? a
  lim := none
noncomputable def runB (w : World) := evS (setOf w) (runC w) Γ1 (contD w (.ok .next)) pD (eB w.params)
noncomputable abbrev V1 := Nat × Bool
noncomputable abbrev V2 := List (Option Value) × List (Option Str) × List (Option Value × Option Value)
noncomputable abbrev V3 := List (Option FnV) × List (Option (Value × List (Option Str))) × Option Str × Option (Value × List Value × Addr × Bool × Option Value) × Bool × Option (Value × Option Value × Bool × Bool × Bool × Bool) × Option Obj × List (Option Obj) × Option Value
noncomputable def see1 (P : Params) (s : ES) : V1 := match viewOf P s with
  | ⟨a, b, _, _, _, _, _, _, _, _, _, _, _, _⟩ => (a, b)
noncomputable def see2 (P : Params) (s : ES) : V2 := match viewOf P s with
  | ⟨_, _, c, d, e, _, _, _, _, _, _, _, _, _⟩ => (c, d, e)
noncomputable def see3 (P : Params) (s : ES) : V3 := match viewOf P s with
  | ⟨_, _, _, _, _, f, g, h, i, j, k, l, m, n⟩ => (f, g, h, i, j, k, l, m, n)
noncomputable def due1 : V1 := (132, true)
noncomputable def due2 (P : Params) : V2 := match viewGood P with
  | ⟨_, _, c, d, e, _, _, _, _, _, _, _, _, _⟩ => (c, d, e)
noncomputable def due3 (P : Params) : V3 := match viewGood P with
  | ⟨_, _, _, _, _, f, g, h, i, j, k, l, m, n⟩ => (f, g, h, i, j, k, l, m, n)
noncomputable def Run1 (w : World) : Prop := (runB w).map (fun r => (r.1, see1 w.params r.2.2)) = some (.ok (.done .next), due1)
noncomputable def Run2 (w : World) : Prop := (runB w).map (fun r => (r.1, see2 w.params r.2.2)) = some (.ok (.done .next), due2 w.params)
noncomputable def Run3 (w : World) : Prop := (runB w).map (fun r => (r.1, see3 w.params r.2.2)) = some (.ok (.done .next), due3 w.params)
theorem see_all {P : Params} {s : ES} (h1 : see1 P s = due1) (h2 : see2 P s = due2 P) (h3 : see3 P s = due3 P) : viewOf P s = viewGood P := by
  have e2 : viewGood P = viewGood P := rfl
  have d1 : ((viewGood P).sz, (viewGood P).oks) = due1 := rfl
  rw [← d1] at h1
  unfold see1 at h1
  unfold see2 due2 at h2
  unfold see3 due3 at h3
  revert h1 h2 h3
  generalize viewOf P s = v
  generalize viewGood P = u
  obtain ⟨a1, a2, a3, a4, a5, a6, a7, a8, a9, a10, a11, a12, a13, a14⟩ := v
  intro h1 h2 h3
  cases h1; cases h2; cases h3
  rfl
theorem run1_f (w : World) : Run1 (w.withFollow "special-get-raises" false) := by unfold Run1; kernel_rfl!
theorem run1_t (w : World) : Run1 (w.withFollow "special-get-raises" true) := by unfold Run1; kernel_rfl!
theorem run1_eq : ∀ w : World, Run1 w := byRow2 "special-get-raises" run1_f run1_t
theorem run2_f (w : World) : Run2 (w.withFollow "special-get-raises" false) := by unfold Run2; kernel_rfl!
theorem run2_t (w : World) : Run2 (w.withFollow "special-get-raises" true) := by unfold Run2; kernel_rfl!
theorem run2_eq : ∀ w : World, Run2 w := byRow2 "special-get-raises" run2_f run2_t
theorem run3_f (w : World) : Run3 (w.withFollow "special-get-raises" false) := by unfold Run3; kernel_rfl!
theorem run3_t (w : World) : Run3 (w.withFollow "special-get-raises" true) := by unfold Run3; kernel_rfl!
theorem run3_eq : ∀ w : World, Run3 w := byRow2 "special-get-raises" run3_f run3_t
theorem run_at {β : Type} {w : World} {f : ES → β} {b : β} {r1 : Except Value PySem.Fin} (h : (runB w).map (fun r => (r.1, f r.2.2)) = some (r1, b)) {r} (e : runB w = some r) : r.1 = r1 ∧ f r.2.2 = b := by
  rw [e] at h
  exact Prod.mk.inj (Option.some.inj h)
theorem run_eq (w : World) : ∃ p2 s, runB w = some (.ok (.done .next), p2, s) ∧ viewOf w.params s = viewGood w.params := by
  have h := run1_eq w
  unfold Run1 at h
  obtain ⟨⟨r1, p2, s⟩, e, _⟩ := Option.map_eq_some_iff.mp h
  obtain ⟨h0, h1⟩ := run_at (f := see1 w.params) (run1_eq w) e
  obtain rfl : r1 = _ := h0
  exact ⟨p2, s, e, see_all h1 (run_at (f := see2 w.params) (run2_eq w) e).2 (run_at (f := see3 w.params) (run3_eq w) e).2⟩
end Mine

namespace Mine
open PySem.Challenge

noncomputable abbrev modelQ (w : World) : Model := model pw_rs0187_01 w
theorem den_model (w : World) : (modelQ w).den = denQ := denQ_eq
theorem runC_sound (w : World) (x : Rest) : CSound (modelQ w) x (runC w) := evC_sound (den_model w) rfl 100
theorem contA_eq (w : World) (s : ES) : (evS (setOf w) (runC w) Γ0 (contA w (.ok .next)) default s).map (fun r => (r.1, r.2.2)) = some (.ok (.done (.ret .none)), s) := by kernel_rfl!

theorem ends_returns {w : World} {x : Rest} {Γ : Ctx} {p : Pos} {s s' : ES} (h : (evS (setOf w) (runC w) Γ (denQ Γ.code) p s).map (fun r => (r.1, r.2.2)) = some (.ok (.done .next), s')) : Returns (modelQ w) Γ p (s.abs x) (.ok .next) (s'.abs x) := by
  obtain ⟨⟨r1, p2, s2⟩, hr, he⟩ := Option.map_eq_some_iff.mp h
  obtain ⟨h1, h2⟩ := Prod.mk.inj he
  obtain rfl : r1 = _ := h1
  obtain rfl : s2 = _ := h2
  obtain ⟨r₁, σ₁, h1, rfl, rfl⟩ := (wpCode_iff_wp (modelQ w) Γ (fun r₁ σ₁ => r₁ = .ok .next ∧ σ₁ = s2.abs x) p (s.abs x)).mpr (by
    rw [show (modelQ w).den Γ.code = denQ Γ.code from congrFun (den_model w) _]
    exact evS_sound rfl (runC_sound w x) Γ _ _ _ _ _ _ hr _ _ ⟨rfl, rfl⟩)
  exact h1
theorem turns_returns {w : World} {x : Rest} {n : Nat} {Γ Γ' : Ctx} {p p' : Pos} {s s' : ES} {r : Result} {σ : Shared} (h : evTurns denQ (setOf w) (runC w) n Γ p s = some (Γ', p', s')) (q : Returns (modelQ w) Γ' p' (s'.abs x) r σ) : Returns (modelQ w) Γ p (s.abs x) r σ :=
  evTurns_sound (den_model w) rfl (runC_sound w x) n Γ p s Γ' p' s' h q
theorem comp_returns (w : World) (x : Rest) : Returns (modelQ w) Γ2 pB ((sK w.params 0).abs x) (.ok .next) ((sEnd w.params).abs x) :=
  turns_returns (start_eq w) (turns_returns (turns_0 w) (turns_returns (turns_1 w) (turns_returns (turns_2 w) (turns_returns (turns_3 w) (turns_returns (turns_4 w) (turns_returns (turns_5 w) (turns_returns (turns_6 w) (turns_returns (turns_7 w) (ends_returns (stop_eq w))))))))))
theorem loopA_returns (w : World) (x : Rest) : Returns (modelQ w) Γ3 pC ((fA w.params 0).abs x) (.ok .next) ((eA w.params).abs x) :=
  turns_returns (turnsA_0 w) (turns_returns (turnsA_1 w) (turns_returns (turnsA_2 w) (turns_returns (stopA w) (ends_returns (endA w)))))
theorem loopB_returns (w : World) (x : Rest) : Returns (modelQ w) Γ4 pD ((fB w.params 0).abs x) (.ok .next) ((eB w.params).abs x) :=
  turns_returns (turnsB_0 w) (turns_returns (turnsB_1 w) (turns_returns (turnsB_2 w) (turns_returns (turnsB_3 w) (turns_returns (stopB w) (ends_returns (endB w))))))

theorem done_wp {M : Model} {S : Setting} {C : Ctx → Pos → ES → Option (Result × ES)} {x : Rest} (hS : S = ⟨M.prog, M.w.params⟩) (hC : CSound M x C) {Γ : Ctx} {t : Sem PySem.Fin} {p p' : Pos} {s s' : ES} {f : Flow} (h : evS S C Γ t p s = some (.ok (.done f), p', s')) (R : Result → Shared → Prop) (E : Value → Pos → Shared → Prop)
    (hR : R (.ok f) (s'.abs x)) : Sem.wp M Γ t (Sem.finPost M Γ R) E p (s.abs x) := evS_sound hS hC Γ t p s _ p' s' h _ _ hR
theorem code_wp {M : Model} {Γ Γ' : Ctx} {α : Type} {k : Result → Sem α} {Q : α → Pos → Shared → Prop} {E : Value → Pos → Shared → Prop} {p q : Pos} {s s' : Shared} {r : Result} (h : Returns M Γ' p s r s') (hw : Sem.wp M Γ (k r) Q E q s') : wpCode M Γ' (fun r σ => Sem.wp M Γ (k r) Q E q σ) p s := ⟨r, s', h, hw⟩
theorem enter_wp {M : Model} {Γ : Ctx} {R : Result → Shared → Prop} {p : Pos} {s : Shared} {t : Sem PySem.Fin} (hd : M.den Γ.code = t) (h : Sem.wp M Γ t (Sem.finPost M Γ R) (fun e _ σ => R (.error e) σ) p s) : wpCode M Γ R p s := (wpCode_iff_wp M Γ R p s).mpr (hd ▸ h)
/-- a tree that runs to a call, over the call, and on -/
theorem over_call {M : Model} {S : Setting} {C : Ctx → Pos → ES → Option (Result × ES)} {x : Rest} (hS : S = ⟨M.prog, M.w.params⟩) (hC : CSound M x C) {stop : Code → Bool} {Γ Γ' : Ctx} {t : Sem PySem.Fin} {c : Code} {k : Result → Sem PySem.Fin} {p q : Pos} {s s' s'' : ES} {Q : PySem.Fin → Pos → Shared → Prop} {E : Value → Pos → Shared → Prop}
    (h : evCut stop S C Γ t p s = some ((c, none, k), q, s')) (e : Γ' = Γ.enter c none q) (hret : Returns M Γ' q (s'.abs x) (.ok .next) (s''.abs x)) (hw : Sem.wp M Γ (k (.ok .next)) Q E q (s''.abs x)) : Sem.wp M Γ t Q E p (s.abs x) := by
  subst e
  exact evCut_sound hS hC Γ t p s c none k q s' h Q E ⟨.ok .next, s''.abs x, hret, hw⟩
theorem top_abs {M : Model} {S : Setting} {C : Ctx → Pos → ES → Option (Result × ES)} {x : Rest} (hS : S = ⟨M.prog, M.w.params⟩) (hC : CSound M x C) {stA : Code → Bool} {G0 G1 : Ctx} {tA tB : Sem PySem.Fin} {cA : Code} {kA : Result → Sem PySem.Fin} {q0 q1 p2 a2 : Pos} {s0 s1 s4 : ES} {f : Flow} {Q : PySem.Fin → Pos → Shared → Prop} {E : Value → Pos → Shared → Prop}
    (hA : evCut stA S C G0 tA q0 s0 = some ((cA, none, kA), q1, s1)) (e1 : G1 = G0.enter cA none q1) (hd : M.den G1.code = tB)
    (hB : ∀ (Q : PySem.Fin → Pos → Shared → Prop) (E : Value → Pos → Shared → Prop), Q (.done .next) p2 (s4.abs x) → Sem.wp M G1 tB Q E q1 (s1.abs x))
    (ha : evS S C G0 (kA (.ok .next)) q1 s4 = some (.ok (.done f), a2, s4)) (hR : Q (.done f) a2 (s4.abs x)) :
    Sem.wp M G0 tA Q E q0 (s0.abs x) := by
  subst e1
  have hR2 : Sem.wp M G0 (kA (.ok .next)) Q E q1 (s4.abs x) := evS_sound hS hC G0 _ q1 s4 _ a2 s4 ha _ _ hR
  refine evCut_sound hS hC G0 tA q0 s0 cA none kA q1 s1 hA _ _ ?_
  rw [wpCode_iff_wp, hd]
  exact hB _ _ hR2
theorem body_abs {M : Model} {S : Setting} {C : Ctx → Pos → ES → Option (Result × ES)} {x : Rest} (hS : S = ⟨M.prog, M.w.params⟩) (hC : CSound M x C) {stB stC stD : Code → Bool} {Γ G2 G3 G4 : Ctx} {t : Sem PySem.Fin} {cB cC cD : Code} {kB kC kD : Result → Sem PySem.Fin} {q qB qC qD p2 : Pos} {s sB tB sC tC sD tD s4 : ES}
    (hB : evCut stB S C Γ t q s = some ((cB, none, kB), qB, sB)) (e2 : G2 = Γ.enter cB none qB) (rB : Returns M G2 qB (sB.abs x) (.ok .next) (tB.abs x))
    (hc : evCut stC S C Γ (kB (.ok .next)) qB tB = some ((cC, none, kC), qC, sC)) (e3 : G3 = Γ.enter cC none qC) (rC : Returns M G3 qC (sC.abs x) (.ok .next) (tC.abs x))
    (hd : evCut stD S C Γ (kC (.ok .next)) qC tC = some ((cD, none, kD), qD, sD)) (e4 : G4 = Γ.enter cD none qD) (rD : Returns M G4 qD (sD.abs x) (.ok .next) (tD.abs x))
    (hr : evS S C Γ (kD (.ok .next)) qD tD = some (.ok (.done .next), p2, s4)) (Q : PySem.Fin → Pos → Shared → Prop) (E : Value → Pos → Shared → Prop) (hQ : Q (.done .next) p2 (s4.abs x)) : Sem.wp M Γ t Q E q (s.abs x) :=
  over_call hS hC hB e2 rB (over_call hS hC hc e3 rC (over_call hS hC hd e4 rD (evS_sound hS hC _ _ _ _ _ _ _ hr _ _ hQ)))
theorem top_abs2 {M : Model} {S : Setting} {C : Ctx → Pos → ES → Option (Result × ES)} {x : Rest} (hS : S = ⟨M.prog, M.w.params⟩) (hC : CSound M x C) {stA stB stC stD : Code → Bool} {G0 G1 G2 G3 G4 : Ctx} {tA tB : Sem PySem.Fin} {cA cB cC cD : Code} {kA kB kC kD : Result → Sem PySem.Fin} {q0 q1 qB qC qD p2 a2 : Pos} {s0 s1 sB uB sC uC sD uD s4 : ES} {f : Flow} {Q : PySem.Fin → Pos → Shared → Prop} {E : Value → Pos → Shared → Prop}
    (hA : evCut stA S C G0 tA q0 s0 = some ((cA, none, kA), q1, s1)) (e1 : G1 = G0.enter cA none q1) (hdn : M.den G1.code = tB)
    (hB : evCut stB S C G1 tB q1 s1 = some ((cB, none, kB), qB, sB)) (e2 : G2 = G1.enter cB none qB) (rB : Returns M G2 qB (sB.abs x) (.ok .next) (uB.abs x))
    (hc : evCut stC S C G1 (kB (.ok .next)) qB uB = some ((cC, none, kC), qC, sC)) (e3 : G3 = G1.enter cC none qC) (rC : Returns M G3 qC (sC.abs x) (.ok .next) (uC.abs x))
    (hd : evCut stD S C G1 (kC (.ok .next)) qC uC = some ((cD, none, kD), qD, sD)) (e4 : G4 = G1.enter cD none qD) (rD : Returns M G4 qD (sD.abs x) (.ok .next) (uD.abs x))
    (hr : evS S C G1 (kD (.ok .next)) qD uD = some (.ok (.done .next), p2, s4))
    (ha : evS S C G0 (kA (.ok .next)) q1 s4 = some (.ok (.done f), a2, s4)) (hR : Q (.done f) a2 (s4.abs x)) : Sem.wp M G0 tA Q E q0 (s0.abs x) :=
  top_abs hS hC hA e1 hdn (body_abs hS hC hB e2 rB hc e3 rC hd e4 rD hr) ha hR
theorem top_wp (w : World) (x : Rest) : ∃ s : ES, viewOf w.params s = viewGood w.params ∧ ∃ a2 : Pos, ∀ (Q : PySem.Fin → Pos → Shared → Prop) (E : Value → Pos → Shared → Prop), Q (.done (.ret .none)) a2 (s.abs x) →
    Sem.wp (modelQ w) Γ0 topCur Q E default ((sBoot w.params).abs x) := by
  obtain ⟨p2, s, hr, hv⟩ := run_eq w
  obtain ⟨⟨a1, a2, a3⟩, ha, hae⟩ := Option.map_eq_some_iff.mp (contA_eq w s)
  obtain ⟨g1, g2⟩ := Prod.mk.inj hae
  obtain rfl : a1 = _ := g1
  obtain rfl : a3 = s := g2
  refine ⟨_, hv, a2, fun Q E hR => ?_⟩
  have hA := cutA_eq w
  unfold cutA at hA
  have hB := cutB_eq w
  unfold cutB at hB
  have hc := cutC_eq w
  unfold cutC at hc
  have hd := cutD_eq w
  unfold cutD at hd
  unfold runB at hr
  exact top_abs2 (M := modelQ w) (S := setOf w) (C := runC w) (x := x) (G0 := Γ0) (G1 := Γ1) (G2 := Γ2) (G3 := Γ3) (G4 := Γ4) rfl (runC_sound w x) hA rfl (congrFun (den_model w) bodyM) hB rfl (comp_returns w x) hc rfl (loopA_returns w x) hd rfl (loopB_returns w x) hr ha hR

theorem top_sched (w : World) (x : Rest) (hg : x.gens = #[]) (hz : ((sBoot w.params).abs x).asleep) : ∃ s : ES, viewOf w.params s = viewGood w.params ∧ ∃ n t, schedN (denote table) pw_rs0187_01 w n (.single ((sBoot w.params).abs x) (topStub pw_rs0187_01)) = .running (.single (s.abs x) t) ∧ through t = true := by
  obtain ⟨s, hv, a2, hw⟩ := top_wp w x
  refine ⟨s, hv, ?_⟩
  have hl : leftWithCleanup (s.abs x).gens = false := by
    show leftWithCleanup x.gens = false
    rw [hg]; decide +kernel
  obtain ⟨n, r, s', hn, ⟨hr, rfl⟩⟩ := (wp_iff_halts (M := modelQ w) (c := .builtin "claim.caller" {}) topCur (fun r σ => r = .ok (.ret .none) ∧ σ = s.abs x) default ((sBoot w.params).abs x)).mp (hw _ _ ⟨⟨rfl, rfl⟩, hl⟩)
  subst hr
  obtain ⟨s'', hn', hf, hc⟩ := runNI_real (modelQ w).den (modelQ w).prog (modelQ w).w hn (outcomeOf_ends _)
  have hne : ∀ k s₂, runN (modelQ w).den (modelQ w).prog (modelQ w).w k ((sBoot w.params).abs x) ⟨topCur, .builtin "claim.caller" {}, default, []⟩ ≠ .halted (.unsupported "lifetime:generator-with-cleanup-left-suspended") s₂ := by
    intro k s₂ hk
    have a := runN_mono _ _ _ n k _ _ _ _ hn'
    have b := runN_mono _ _ _ k n _ _ _ s₂ hk
    rw [Nat.add_comm, b] at a
    injection a with a1 _
    change Outcome.unsupported _ = Outcome.done _ at a1
    cases a1
  obtain ⟨k, s₁, σ, p', leaf, h1, hf1, hl1⟩ := wp_reaches (hw (fun a _ σ' => a = .done (.ret .none) ∧ σ' = s.abs x) (fun _ _ _ => False) ⟨rfl, rfl⟩)
  obtain ⟨a, rfl, rfl, rfl⟩ : ∃ a, leaf = .pure a ∧ a = .done (.ret .none) ∧ s₁ = s.abs x := by
    rcases hl1 with q | ⟨_, _, q⟩
    · exact q
    · exact q.elim
  obtain rfl := Shared.eq_of_forget_eq hf1 (show (s.abs x).gens = #[] from hg)
  exact ⟨k, _, (schedN_eq_runN _ _ _ _ _ hz ⟨hc, hne⟩ k).trans (congrArg Run.lift h1), rfl⟩
end Mine

namespace Mine
open PySem.Challenge

theorem boot_abs (P : Params) : absHeap (bootT P) 11 (boot_heap P).life = boot_heap P := by kernel_rfl!
theorem boot_run (w : World) : (importEnds treeTable (opening pw_rs0187_01) w 600 (start (opening pw_rs0187_01)).1 (start (opening pw_rs0187_01)).2).map (fun s => (s.heap, s.gens, s.drawn, s.toks)) = some (boot_heap w.params, #[], boot_drawn, boot_toks) := by kernel_rfl!
theorem fence_eq (s : Shared) : fenceModules? pw_rs0187_01 s = some s := by rfl
theorem boot_blt (P : Params) : (boot_heap P).bltView = bltViewBooted := by kernel_rfl!
theorem boot_ann (P : Params) : (boot_heap P).nsMap mainGlobals "__annotations__" = some (.ref 6) := by kernel_rfl!
theorem boot_ns (P : Params) : (boot_heap P).isNs mainGlobals = true := by kernel_rfl!
theorem boot_size (P : Params) : (boot_heap P).objs.size = 11 := by kernel_rfl!
noncomputable abbrev restOf (w : World) (os : OsState) : Rest := ⟨(boot_heap w.params).life, #[], boot_drawn, os⟩
theorem boot_shared (w : World) (os : OsState) : (sBoot w.params).abs (restOf w os) = ⟨boot_heap w.params, #[], boot_drawn, 181, os⟩ := by
  show Shared.mk (absHeap (bootT w.params) 11 (boot_heap w.params).life) #[] boot_drawn 181 os = _
  rw [boot_abs]
theorem boot_life (P : Params) : (boot_heap P).life = (start pw_rs0187_01).1.heap.life := by kernel_rfl!

theorem mem_old (b : Nat) (h : b < 11) (n1 : b ≠ 3) (n2 : b ≠ 2) (n3 : b ≠ 6) : b ∈ oldAt := by
  unfold oldAt
  simp only [List.mem_cons, List.not_mem_nil, or_false]
  lia
theorem of_blt {h h' : Heap} (e : h'.get? builtinsNs = h.get? builtinsNs) : h'.bltView = h.bltView := by
  unfold Heap.bltView Heap.nsPairs
  rw [e]

theorem old_get {P : Params} {s : ES} (hv : viewOf P s = viewGood P) : ∀ a ∈ oldAt, (heapOf P s).get? a = (boot_heap P).get? a := by
  have h : (oldAt.map fun a => (heapOf P s).get? a) = oldAt.map fun a => (boot_heap P).get? a := congrArg VW.old hv
  exact List.map_inj_left.mp h

theorem topRan (w : World) (os : OsState) (hz : ((sBoot w.params).abs (restOf w os)).asleep) : ∃ s : ES, viewOf w.params s = viewGood w.params ∧ TopRan pw_rs0187_01 w ((sBoot w.params).abs (restOf w os)) (s.abs (restOf w os)) := by
  obtain ⟨s, hv, hrun⟩ := top_sched w (restOf w os) rfl hz
  refine ⟨s, hv, ?_⟩
  have hoks : (viewOf w.params s).oks = true := by rw [hv]; rfl
  simp only [viewOf, Bool.and_eq_true] at hoks
  obtain ⟨⟨⟨⟨⟨⟨⟨⟨⟨k1, k2⟩, k3⟩, k4⟩, k5⟩, k6⟩, k7⟩, k8⟩, k9⟩, k10⟩ := hoks
  have ho := old_get hv
  have eh : (s.abs (restOf w os)).heap = heapOf w.params s := rfl
  have e0 : ((sBoot w.params).abs (restOf w os)).heap = boot_heap w.params := by rw [boot_shared]
  refine ⟨hrun, rfl, Shared.rest_eq rfl, fun b o hb hn => ?_, ?_, ?_, ?_, ?_, ?_, ?_, ?_, ?_⟩
  · rw [e0] at hb hn
    rw [eh]
    have hlt := Heap.lt_size hb
    rw [boot_size] at hlt
    have n1 : b ≠ 3 := fun q => hn (.inl q)
    have n2 : b ≠ 2 := fun q => hn (.inr (.inl q))
    have n3 : b ≠ 6 := fun q => hn (.inr (.inr (by rw [q]; exact (Pin.globalOf_eq (boot_ns _) _).trans (boot_ann _))))
    rw [ho b (mem_old b hlt n1 n2 n3)]
    exact hb
  · rw [eh]; exact Heap.accountedI_of_ok k9
  · rw [eh, e0]; exact statics_of_ok k6
  · rw [eh]; exact Pin.keysAreStrs_of k1
  · rw [eh]; exact fun x hx => (Pin.builtinOf_eq k2 x).trans (Heap.of_bltView k2 ((of_blt (ho 0 (by decide))).trans (boot_blt _)) x hx)
  · rw [eh]
    obtain ⟨bm, ob, a, _, c, d, f, _⟩ := Heap.bmainOk_spec k10
    exact ⟨bm, ob, (Pin.globalOf_eq k1 _).trans a, c, d, f⟩
  · intro g hg; exact absurd hg (by simp [ES.abs])
  · rw [eh]; exact names_of_bound k7
  · rw [eh, e0]; exact laid_of_kept k8
end Mine

namespace Mine
open PySem.Challenge

theorem strOf_some {v : Value} {x : Str} (h : strOf v = some x) : ∃ t, v = .str x t := by
  cases v <;> simp [strOf] at h
  exact ⟨_, by rw [h]⟩
theorem bind_strOf {o : Option Value} {x : Str} (h : o.bind strOf = some x) : ∃ t, o = some (.str x t) := by
  cases o with
  | none => cases h
  | some v => obtain ⟨t, rfl⟩ := strOf_some h; exact ⟨t, rfl⟩
theorem codeName_some {h h₀ : Heap} {c : Addr} {x : Str} (hk : ∀ o, h.get? c = some o → h₀.get? c = some o) (e : codeName h (.ref c) = some x) : h₀.CodeRec (.ref c) x := by
  unfold codeName at e
  simp only at e
  split at e
  · rename_i cl d vs sl hg
    obtain ⟨t, ht⟩ := bind_strOf e
    exact ⟨c, _, vs, t, rfl, hk _ hg, rfl, ht⟩
  · cases e
theorem fn_of {h h₀ : Heap} {f i : Nat} {nm : Str} {c : Addr} {dflt kw : Value} (hv : fnView h f = fnGood i nm c dflt kw) (hf : ∀ o, h.get? f = some o → h₀.get? f = some o) (hc : ∀ o, h.get? c = some o → h₀.get? c = some o) (hl : h₀.NoLimit) :
    ∃ fd, FnAt h₀ i f fd dflt kw ∧ fd.code = .ref c ∧ fd.name = nm ∧ fd.qualname = nm := by
  unfold fnView at hv
  split at hv
  · rename_i cl d fd sl hg
    simp only [fnGood, Option.some.injEq, Prod.mk.injEq] at hv
    obtain ⟨e1, e2, e3, e4, e5, e6, e7, e8, e9, e10, e11, e12⟩ := hv
    rw [e7] at e12
    exact ⟨fd, ⟨⟨_, hf _ hg, rfl⟩, e1, e2, e3, e4, e5, e6, by rw [e7, e9]; exact codeName_some hc e12, hl, e10, e11⟩, e7, e8, e9⟩
  · cases hv
theorem strs_rep {X : Addr → Prop} {h : Heap} : ∀ {vs : List Value} {xs : List Str}, vs.map strOf = xs.map some → RepL X h vs (xs.map PV.str)
  | [], [], _ => .nil
  | [], _ :: _, e => by simp at e
  | _ :: _, [], e => by simp at e
  | v :: vs, x :: xs, e => by
    simp only [List.map_cons, List.cons.injEq] at e
    obtain ⟨t, rfl⟩ := strOf_some e.1
    exact .cons (.str x t) (strs_rep e.2)
theorem seq_list {h h₀ : Heap} {a : Addr} {xs : List Str} (hv : seqView h a = some (.type "list", xs.map some)) (hk : ∀ o, h.get? a = some o → h₀.get? a = some o) : Rep (fun _ => False) h₀ (.ref a) (.list (xs.map PV.str)) := by
  unfold seqView at hv
  split at hv
  · rename_i c d ys n sl hg
    simp only [Option.some.injEq, Prod.mk.injEq] at hv
    exact .list (vs := ys.toList) ⟨_, hk _ hg, hv.1, n, by simp⟩ (fun z => z) (strs_rep hv.2)
  · cases hv
theorem seq_two {h h₀ : Heap} {a : Addr} {x y : Option Str} {c : Value} (hv : seqView h a = some (c, [x, y])) (hk : ∀ o, h.get? a = some o → h₀.get? a = some o) : ∃ o n y1 y2, h₀.get? a = some o ∧ o.data = .seq #[y1, y2] n := by
  unfold seqView at hv
  split at hv
  · rename_i c d ys n sl hg
    simp only [Option.some.injEq, Prod.mk.injEq] at hv
    obtain ⟨l⟩ := ys
    match l, hv.2 with
    | [], h => simp at h
    | [_], h => simp at h
    | [y1, y2], _ => exact ⟨_, n, y1, y2, hk _ hg, rfl⟩
    | _ :: _ :: _ :: _, h => simp at h
  · cases hv
theorem seq_one {h h₀ : Heap} {a : Addr} {x : Str} {c : Value} (hv : seqView h a = some (c, [some x])) (hk : ∀ o, h.get? a = some o → h₀.get? a = some o) : ∃ o n t, h₀.get? a = some o ∧ o.data = .seq #[.str x t] n := by
  unfold seqView at hv
  split at hv
  · rename_i c d ys n sl hg
    simp only [Option.some.injEq, Prod.mk.injEq] at hv
    obtain ⟨l⟩ := ys
    match l, hv.2 with
    | [], h => simp at h
    | [y1], h =>
      simp only [List.map_cons, List.map_nil, List.cons.injEq, and_true] at h
      obtain ⟨t, rfl⟩ := strOf_some h
      exact ⟨_, n, t, hk _ hg, rfl⟩
    | _ :: _ :: _, h => simp at h
  · cases hv
theorem isStr_some {v : Value} (h : isStrB v = true) : ∃ x t, v = .str x t := by cases v <;> simp [isStrB] at h; exact ⟨_, _, rfl⟩
theorem isInt_some {v : Value} (h : isIntB v = true) : ∃ x t, v = .int x t := by cases v <;> simp [isIntB] at h; exact ⟨_, _, rfl⟩
theorem isBool_some {v : Value} (h : isBoolB v = true) : ∃ x, v = .bool x := by cases v <;> simp [isBoolB] at h; exact ⟨_, rfl⟩
theorem code_of {h h₀ : Heap} {c P : Addr} (hv : codeView h c = some (.type "code", some (.ref P), true, true, true, true)) (hk : ∀ o, h.get? c = some o → h₀.get? c = some o) (hne : c ≠ P) : CodeHd h₀ c P := by
  unfold codeView at hv
  split at hv
  · rename_i cl d vs sl hg
    simp only [Option.some.injEq, Prod.mk.injEq] at hv
    obtain ⟨e1, e2, e3, e4, e5, e6⟩ := hv
    obtain ⟨file, tf, e3⟩ := isStr_some e3
    obtain ⟨fl, tg, e4⟩ := isInt_some e4
    obtain ⟨inF, e5⟩ := isBool_some e5
    obtain ⟨tx, tt, e6⟩ := isInt_some e6
    refine ⟨_, vs, file, tf, fl, tg, inF, tx, tt, hk _ hg, e1, rfl, e2, ?_, e3, e4, e5, e6, hne⟩
    rw [Array.getD_eq_getD_getElem?, e2]; rfl
  · cases hv
theorem sixth_some {l : List (Option Value)} {k4 : Option Value} (h : sixth l = some k4) : ∃ k0 k1 k2 k3 k5, l = [k0, k1, k2, k3, k4, k5] := by
  rcases l with _ | ⟨k0, _ | ⟨k1, _ | ⟨k2, _ | ⟨k3, _ | ⟨k4, _ | ⟨k5, _ | ⟨k6, l⟩⟩⟩⟩⟩⟩⟩
  iterate 6 (cases h)
  · cases h; exact ⟨_, _, _, _, _, rfl⟩
  · cases h
theorem cls_of {h h₀ : Heap} {C N : Addr} {mN : Str → Option Value} (hv : clsView h C = some (.type "type", .ref C :: veM, N, false, some (.builtin "ValueError.__new__"))) (hk : ∀ o, h.get? C = some o → h₀.get? C = some o) (hN : h₀.Ns N mN) (hq : ∀ n ∈ quietNames, mN n = none) (hs : mN "__str__" = none) : ErrCls h₀ C := by
  unfold clsView at hv
  split at hv
  · rename_i c d cd sl hg
    obtain ⟨k4, hk4, e⟩ := Option.map_eq_some_iff.mp hv
    obtain ⟨k0, k1, k2, k3, k5, hl⟩ := sixth_some hk4
    obtain ⟨sl⟩ := sl
    obtain rfl : sl = _ := hl
    simp only [Prod.mk.injEq] at e
    obtain ⟨e1, e2, e3, e4, e5⟩ := e
    obtain ⟨nm, bs, mro, ns, qn, hd, sn, sub, ab, col, del⟩ := cd
    simp only at e2 e3 e4
    subst e1 e2 e3 e4 e5
    exact ⟨nm, qn, ns, bs, hd, sn, sub, ab, col, d, k0, k1, k2, k3, k5, mN, hk _ hg, hN, hq, hs⟩
  · cases hv
end Mine

namespace Mine
open PySem.Challenge

structure HeadOk (h h₀ : Heap) : Prop where
  ext : Ext h₀ h
  E : EFns h₀ 75
  law : Glb h₀ "law" (.ref 131) ∧ ∃ fd, FnAt h₀ 31 131 fd .none .none ∧ fd.code = .ref 130 ∧ fd.name = "law" ∧ fd.qualname = "law"
  told : Glb h₀ "_law_told" (.ref 126) ∧ ∃ fdt, FnAt h₀ 30 126 fdt .none .none
  code : CodeHd h₀ 130 128
  bi : ∃ mg, h₀.Ns mainGlobals mg ∧ h₀.BuiltinsAt mg 128
  hP : h₀.get? 128 = none
  tab : h.get? 128 = some (tabObj #[])
  lim : h₀.NoLimit

theorem view_at {P : Params} {s : ES} (hv : viewOf P s = viewGood P) {β : Type} (f : VW → β) : f (viewOf P s) = f (viewGood P) := congrArg f hv
theorem fn_ex {h h₀ : Heap} {f i : Nat} {nm : Str} {c : Addr} {dflt kw : Value} (hv : fnView h f = fnGood i nm c dflt kw) (hf : ∀ o, h.get? f = some o → h₀.get? f = some o) (hc : ∀ o, h.get? c = some o → h₀.get? c = some o) (hl : h₀.NoLimit) (hG : Glb h₀ nm (.ref f)) :
    ∃ f fd, Glb h₀ nm (.ref f) ∧ FnAt h₀ i f fd dflt kw := by
  obtain ⟨fd, F, _⟩ := fn_of hv hf hc hl
  exact ⟨f, fd, hG, F⟩
section
variable {P : Params} {s : ES} (hv : viewOf P s = viewGood P)
theorem head_kp (h : Heap) : ∀ a : Nat, a ≠ 128 → ∀ o, h.get? a = some o → (hideAll h [128]).get? a = some o := fun a n o e => hideAll_get _ e (by simpa using n)
theorem head_ns {h : Heap} (a : Nat) (n : a ≠ 128) (e : h.isNs a = true) : (hideAll h [128]).Ns a (h.nsMap a) := (Heap.Ns.of_isNs e).at' (head_kp h a n)
include hv
theorem head_oks : ((heapOf P s).isNs mainGlobals = true ∧ (heapOf P s).isNs builtinsNs = true ∧ (heapOf P s).isNs cStatics = true ∧ (heapOf P s).isNs 100 = true ∧ (heapOf P s).isNs 74 = true) ∧ (heapOf P s).bmainOk = true := by
  have hoks : (viewOf P s).oks = true := by rw [hv]; rfl
  simp only [viewOf, Bool.and_eq_true] at hoks
  exact ⟨⟨hoks.1.1.1.1.1.1.1.1.1, hoks.1.1.1.1.1.1.1.1.2, hoks.1.1.1.1.1.1.1.2, hoks.1.1.1.1.1.1.2, hoks.1.1.1.1.1.2⟩, hoks.2⟩
theorem head_lim : (hideAll (heapOf P s) [128]).NoLimit := ⟨_, head_ns cStatics (by decide) (head_oks hv).1.2.2.1, view_at hv VW.lim⟩
theorem head_G {x : Str} {v : Value} (e : (heapOf P s).nsMap mainGlobals x = some v) : Glb (hideAll (heapOf P s) [128]) x v := ⟨_, head_ns mainGlobals (by decide) (head_oks hv).1.1, e⟩
theorem head_B {x : Str} {v : Value} (e : ((heapOf P s).nsMap mainGlobals x, (heapOf P s).nsMap builtinsNs x) = (none, some v)) : Blt (hideAll (heapOf P s) [128]) x v :=
  ⟨_, _, head_ns mainGlobals (by decide) (head_oks hv).1.1, (Prod.mk.inj e).1, head_ns builtinsNs (by decide) (head_oks hv).1.2.1, (Prod.mk.inj e).2⟩
theorem head_fn (n f i : Nat) (nm : Str) (c : Addr) (dflt kw : Value) (hf : f ≠ 128) (hc : c ≠ 128) (e : fnView (heapOf P s) f = fnGood i nm c dflt kw) (g : (heapOf P s).nsMap mainGlobals nm = some (.ref f)) :
    ∃ f fd, Glb (hideAll (heapOf P s) [128]) nm (.ref f) ∧ FnAt (hideAll (heapOf P s) [128]) i f fd dflt kw := fn_ex e (head_kp _ f hf) (head_kp _ c hc) (head_lim hv) (head_G hv g)
theorem head_below : Below (hideAll (heapOf P s) [128]) := by
  have B := @head_B P s hv
  have G := @head_G P s hv
  have e1 : (List.range 256).map (fun i => some (S (quoteL i))) = ((List.range 256).map fun i => S (quoteL i)).map some := by rw [List.map_map]; rfl
  have e2 : (List.range 256).map (fun i => some (S (codeB i))) = ((List.range 256).map fun i => S (codeB i)).map some := by rw [List.map_map]; rfl
  have s1 : seqView (heapOf P s) 17 = some (.type "list", (List.range 256).map fun i => some (S (quoteL i))) := view_at hv fun v => v.seqs.getD 0 none
  have s2 : seqView (heapOf P s) 46 = some (.type "list", (List.range 256).map fun i => some (S (codeB i))) := view_at hv fun v => v.seqs.getD 1 none
  rw [e1] at s1
  rw [e2] at s2
  have R1 := seq_list s1 (head_kp _ 17 (by decide))
  have R2 := seq_list s2 (head_kp _ 46 (by decide))
  have m1 : ((List.range 256).map fun i => S (quoteL i)).map PV.str = ((List.range 256).map quoteL).map fun l => PV.str (S l) := by rw [List.map_map, List.map_map]; rfl
  have m2 : ((List.range 256).map fun i => S (codeB i)).map PV.str = ((List.range 256).map codeB).map fun l => PV.str (S l) := by rw [List.map_map, List.map_map]; rfl
  rw [m1] at R1
  rw [m2] at R2
  obtain ⟨t1, w1⟩ := bind_strOf (view_at hv fun v => v.gstr.getD 0 none : ((heapOf P s).nsMap mainGlobals "CRLF").bind strOf = some (S [13, 10]))
  obtain ⟨t2, w2⟩ := bind_strOf (view_at hv fun v => v.gstr.getD 1 none : ((heapOf P s).nsMap mainGlobals "hexdigits").bind strOf = some (S [48, 49, 50, 51, 52, 53, 54, 55, 56, 57, 97, 98, 99, 100, 101, 102, 65, 66, 67, 68, 69, 70]))
  exact ⟨⟨B (view_at hv fun v => v.blt.getD 0 (none, none)), B (view_at hv fun v => v.blt.getD 1 (none, none)), B (view_at hv fun v => v.blt.getD 2 (none, none))⟩,
    B (view_at hv fun v => v.blt.getD 3 (none, none)), B (view_at hv fun v => v.blt.getD 4 (none, none)), B (view_at hv fun v => v.blt.getD 5 (none, none)), B (view_at hv fun v => v.blt.getD 6 (none, none)), B (view_at hv fun v => v.blt.getD 7 (none, none)), B (view_at hv fun v => v.blt.getD 8 (none, none)), B (view_at hv fun v => v.blt.getD 9 (none, none)),
    B (view_at hv fun v => v.blt.getD 10 (none, none)), B (view_at hv fun v => v.blt.getD 11 (none, none)), B (view_at hv fun v => v.blt.getD 12 (none, none)), B (view_at hv fun v => v.blt.getD 13 (none, none)), B (view_at hv fun v => v.blt.getD 14 (none, none)), B (view_at hv fun v => v.blt.getD 15 (none, none)),
    ⟨17, G (view_at hv fun v => v.glb.getD 13 none), R1⟩, ⟨46, G (view_at hv fun v => v.glb.getD 14 none), R2⟩, ⟨t1, G w1⟩, ⟨t2, G w2⟩⟩
theorem head_efns : EFns (hideAll (heapOf P s) [128]) 75 := by
  have F := @head_fn P s hv
  have kp := head_kp (heapOf P s)
  obtain ⟨f3, d3, G3, F3⟩ := F 2 57 19 "body_encode" 56 (.ref 50) .none (by decide) (by decide) (view_at hv fun v => v.fns.getD 2 none) (view_at hv fun v => v.glb.getD 2 none)
  obtain ⟨f4, d4, G4, F4⟩ := F 3 65 20 "decode" 64 (.ref 58) .none (by decide) (by decide) (view_at hv fun v => v.fns.getD 3 none) (view_at hv fun v => v.glb.getD 3 none)
  obtain ⟨f8, d8, G8, F8⟩ := F 7 107 26 "quantiles" 106 .none (.ref 100) (by decide) (by decide) (view_at hv fun v => v.fns.getD 7 none) (view_at hv fun v => v.glb.getD 8 none)
  obtain ⟨t3, w3⟩ := bind_strOf (view_at hv VW.kwd : ((heapOf P s).nsMap 100 "method").bind strOf = some (Str.ofString "exclusive"))
  have hqu : (("__str__" : Str) :: quietNames).all (fun n => ((heapOf P s).nsMap 74 n).isNone) = true := view_at hv VW.quiet
  rw [List.all_cons, Bool.and_eq_true, Option.isNone_iff_eq_none] at hqu
  exact ⟨⟨⟨head_below hv, F 0 37 14 "unquote" 36 .none .none (by decide) (by decide) (view_at hv fun v => v.fns.getD 0 none) (view_at hv fun v => v.glb.getD 0 none),
      F 1 44 15 "quote" 43 .none .none (by decide) (by decide) (view_at hv fun v => v.fns.getD 1 none) (view_at hv fun v => v.glb.getD 1 none),
      ⟨f3, d3, 50, G3, F3, seq_two (view_at hv fun v => v.seqs.getD 2 none : seqView (heapOf P s) 50 = some (.type "tuple", [none, some (S [10])])) (kp 50 (by decide))⟩,
      ⟨f4, d4, 58, G4, F4, seq_one (view_at hv fun v => v.seqs.getD 3 none : seqView (heapOf P s) 58 = some (.type "tuple", [some (S [10])])) (kp 58 (by decide))⟩,
      F 4 85 23 "median" 84 .none .none (by decide) (by decide) (view_at hv fun v => v.fns.getD 4 none) (view_at hv fun v => v.glb.getD 5 none),
      F 5 92 24 "median_low" 91 .none .none (by decide) (by decide) (view_at hv fun v => v.fns.getD 5 none) (view_at hv fun v => v.glb.getD 6 none),
      F 6 99 25 "median_high" 98 .none .none (by decide) (by decide) (view_at hv fun v => v.fns.getD 6 none) (view_at hv fun v => v.glb.getD 7 none),
      ⟨f8, d8, 100, G8, F8, _, t3, head_ns 100 (by decide) (head_oks hv).1.2.2.2.1, w3⟩⟩,
      F 8 114 28 "_law_ends" 113 .none .none (by decide) (by decide) (view_at hv fun v => v.fns.getD 8 none) (view_at hv fun v => v.glb.getD 9 none),
      F 9 119 29 "_law_due" 118 .none .none (by decide) (by decide) (view_at hv fun v => v.fns.getD 9 none) (view_at hv fun v => v.glb.getD 10 none)⟩,
    head_G hv (view_at hv fun v => v.glb.getD 4 none),
    cls_of (view_at hv VW.cls) (kp 75 (by decide)) (head_ns 74 (by decide) (head_oks hv).1.2.2.2.2) (fun n hn => Option.isNone_iff_eq_none.mp (List.all_eq_true.mp hqu.2 n hn)) hqu.1⟩
theorem head_ok : HeadOk (heapOf P s) (hideAll (heapOf P s) [128]) := by
  have kp := head_kp (heapOf P s)
  have hG := @head_G P s hv
  obtain ⟨d11, F11, _⟩ := fn_of (view_at hv fun v => v.fns.getD 10 none : fnView (heapOf P s) 126 = fnGood 30 "_law_told" 125 .none .none) (kp 126 (by decide)) (kp 125 (by decide)) (head_lim hv)
  obtain ⟨d12, F12⟩ := fn_of (view_at hv fun v => v.fns.getD 11 none : fnView (heapOf P s) 131 = fnGood 31 "law" 130 .none .none) (kp 131 (by decide)) (kp 130 (by decide)) (head_lim hv)
  have g16 : (heapOf P s).nsMap mainGlobals "__builtins__" = some (.ref 4) := view_at hv fun v => v.glb.getD 15 none
  obtain ⟨bm, ob, b1, b2, b3, b4, b5, b6⟩ := Heap.bmainOk_spec (head_oks hv).2
  obtain rfl : bm = 4 := by rw [g16] at b1; cases b1; rfl
  exact ⟨fun b o e => of_hideAll [128] e, head_efns hv, ⟨hG (view_at hv fun v => v.glb.getD 12 none), d12, F12⟩, ⟨hG (view_at hv fun v => v.glb.getD 11 none), d11, F11⟩,
    code_of (view_at hv VW.code) (kp 130 (by decide)) (by decide), ⟨_, head_ns mainGlobals (by decide) (head_oks hv).1.1, 4, ob, g16, by decide, by decide, by decide, kp 4 (by decide) _ b3, b4, b5, b6⟩,
    hideAll_none _ (by simp), view_at hv VW.tab, head_lim hv⟩
end
end Mine

namespace Mine
open PySem.Challenge

theorem ints_of {R : WRecords} {xs : List WData} (h : WShape.hasItems R xs .int = true) : ∃ ns : List Int, xs = ns.map WData.int := by
  induction xs with
  | nil => exact ⟨[], rfl⟩
  | cons x xs ih =>
    have h' : (WShape.has R x .int && WShape.hasItems R xs .int) = true := h
    obtain ⟨h1, h2⟩ := Bool.and_eq_true_iff.mp h'
    obtain ⟨n, rfl⟩ := hasW_int h1
    obtain ⟨ns, rfl⟩ := ih h2
    exact ⟨n :: ns, rfl⟩
theorem pre_big {R : WRecords} {A : WCtx} {a b : WTm} {x y : WData} (ha : a.value R A = some x) (hb : b.value R A = some y) (hl : PySem.W.less? x y = some true) : (WTm.and (.not (.lt a b)) (.lit (.bool true))).holds R A = false := by
  have e : (WTm.lt a b).value R A = some (.bool true) := by
    rw [WTm.value, ha, hb]
    dsimp only
    rw [hl]
    rfl
  have e2 : (WTm.not (.lt a b)).value R A = some (.bool false) := by
    rw [WTm.value, e]; rfl
  have e3 : (WTm.and (.not (.lt a b)) (.lit (.bool true))).value R A = some (.bool false) := by
    rw [WTm.value, e2]
  unfold WTm.holds
  rw [e3]
theorem args_of {args : List WData} (h : rw_rs0187_01.row.toRowW.claim.pre args = true) : ∃ ns : List Int, args = [.list (ns.map WData.int)] ∧ ns.length ≤ 63 := by
  obtain ⟨h1, h2⟩ := pre_splitW h
  obtain ⟨d, r, rfl, hd, hr⟩ := hasAllW_cons (e := .list .int) (es := []) h1
  obtain ⟨xs, rfl, hx⟩ := hasW_list hd
  obtain ⟨ns, rfl⟩ := ints_of hx
  obtain rfl := hasAllW_nil hr
  refine ⟨ns, rfl, Decidable.byContradiction fun hl => ?_⟩
  have e : (WTm.and (.not (.lt (.lit (.int 63)) (.len (.arg 0)))) (.lit (.bool true))).holds rw_rs0187_01.row.toRowW.records { args := [.list (ns.map WData.int)] } = true := h2
  rw [pre_big (x := .int 63) (y := .int ((ns.map WData.int).length : Int)) rfl rfl (congrArg some (decide_eq_true (by rw [List.length_map]; omega)))] at e
  cases e
end Mine

namespace Mine
open PySem.Challenge

noncomputable abbrev rwQ : OpenRow := rw_rs0187_01.row
theorem reads_ints {R : WRecords} {cl : Str → Option Addr} {h : Heap} {X : Addr → Prop} {ns : List Int} : ∀ {vs : List Value} {as : List Addr}, ReadsAllW R cl h vs (ns.map WData.int) as → RepL X h vs (ns.map PV.int) := by
  induction ns with
  | nil => intro vs as r; cases r; exact .nil
  | cons n ns ih =>
    intro vs as r
    cases r with
    | cons r1 r2 =>
      obtain ⟨t, rfl, _⟩ := readsW_int_inv r1
      exact .cons (.int n t) (ih r2)
theorem law_theDef : pw_rs0187_01.theDef "law" = some (argsAt 31, bodyAt 31, scopeAt 31) := by kernel_rfl!

theorem post_ok (args : List WData) : rwQ.toRowW.claim.post args (.bool true) args = true := by kernel_rfl!
theorem law_good {w : World} {h₀ : Heap} {s₀ s₁ : Shared} (H : HeadOk s₀.heap h₀) {vs : List Value} {as : List Addr} {ns : List Int} (hn : ns.length ≤ 63) (L : Laid [] w s₀ s₁ [.list (ns.map WData.int)] vs as) :
    wpAny (model pw_rs0187_01 w) callerA (call (.ref 131) vs) (fun v s' => GoodWG rwQ.toRowW.claim (classAt s₀.heap) (ExcName.means s₀.heap) [.list (ns.map WData.int)] s₁ (.ok (.ret v)) s')
      (fun e s' => GoodWG rwQ.toRowW.claim (classAt s₀.heap) (ExcName.means s₀.heap) [.list (ns.map WData.int)] s₁ (.error e) s') s₁ := by
  have htab : s₁.heap.get? 128 = some (tabObj #[]) := L.keeps _ _ H.tab
  have ex : Ext h₀ s₁.heap := fun b o e => L.keeps _ _ (H.ext b o e)
  obtain ⟨v, rfl, rv⟩ : ∃ v, vs = [v] ∧ Rep (fun b => b = 128) s₁.heap v (.list (ns.map .int)) := by
    have hr := L.reads
    cases hr with
    | cons r1 r2 =>
      cases r2
      cases r1 with
      | list e c d r =>
        refine ⟨_, rfl, .list (vs := _) ⟨_, e, c, _, by rw [d]⟩ (fun q => ?_) (reads_ints r)⟩
        rw [q, htab] at e; cases e; cases c
  obtain ⟨fd, HF, hc, _⟩ := H.law.2
  have LH : LawHd h₀ 75 131 126 130 128 := ⟨H.E, ⟨fd, HF, hc⟩, H.told, H.code, H.bi, H.hP, H.lim⟩
  refine wpAny_mono (law_call LH rfl ⟨rfl, by decide, by decide⟩ ex htab hn rv) (fun u s' q => ?_) fun _ _ x => x
  obtain ⟨rfl, h', tk, ps', rfl, k, ht⟩ := q
  refine ⟨.inl ⟨.bool true, .bool true, [], rfl, fun cls => rfl, (.bool true), post_ok _, fun _ => ⟨List.nodup_nil, fun a ha => nomatch ha⟩⟩, ⟨fun b o e => ?_, fun b o e => ?_⟩, rfl, .of_eq L.gens⟩
  · by_cases hb : b = 128
    · subst hb
      rw [htab] at e; cases e
      obtain ⟨o', vs', _, _, _, _, _, _, _, e1, e2, e3, e4, _⟩ := H.code
      exact .inr (.inl ⟨⟨130, o', vs', ex _ _ e1, e2, e3, e4⟩, rfl, #[], ps', rfl, by rw [ht]; simp⟩)
    · exact .inl (k b o hb e)
  · by_cases hb : b = 128
    · subst hb; exact ⟨_, ht⟩
    · exact ⟨o, k b o hb e⟩
end Mine

namespace Mine
open PySem.Challenge

theorem the_defs {h h₀ : Heap} (H : HeadOk h h₀) (hg : h.isNs mainGlobals = true) : isTheDefsW pw_rs0187_01 h "law" := by
  obtain ⟨⟨mg, hm, he⟩, fd, HF, hc, e1, e2⟩ := H.law
  obtain ⟨o, ho, hd⟩ := HF.obj
  have hG : globalOf h "law" = some (.ref 131) := by
    rw [Pin.globalOf_eq hg]
    obtain ⟨o1, es1, n1, a1, a2, a3, a4⟩ := Heap.Ns.of_isNs hg
    obtain ⟨o2, es2, n2, b1, b2, b3, b4⟩ := hm
    have := H.ext _ _ b1
    rw [a1] at this; cases this
    rw [a2] at b2; cases b2
    rw [← a4, b4, he]
  exact ⟨131, o, fd, argsAt 31, bodyAt 31, scopeAt 31, hG, H.ext _ _ ho, hd, law_theDef, e1, e2, HF.params, HF.body, HF.scope, HF.globals, HF.clo, HF.builtins, .inl ⟨rfl, HF.dflt⟩, [], rfl, .inl ⟨rfl, HF.kw⟩⟩

theorem row_holds (said : rwQ.wellSaid = true) : rwQ.Holds := by
  have hw : rwQ.toRowW.promised := ⟨[.list []], by decide +kernel, by decide +kernel⟩
  have k5 : frees rwQ.toRowW = true := by decide +kernel
  obtain ⟨hsame, hu, ha, hap, hm⟩ := frees_parts k5
  have hi := ident_freeW hu ha hap
  refine ⟨said, hw, ⟨⟨rfl, rfl, rfl, rfl, rfl, by decide +kernel⟩, by decide +kernel, rfl⟩, hw.witness, fun w => ?_⟩
  have hb := boot_run w
  rw [← table_eq_tree] at hb
  obtain ⟨s, hs, he⟩ := Option.map_eq_some_iff.mp hb
  have A := AfterImport.of_importEnds hs
  refine ⟨⟨s, A⟩, fun s' hs' => ?_⟩
  obtain rfl : s' = s := AfterImport.unique hs' A
  have z : s'.asleep := A.life
  obtain ⟨hp, gn, dr, tk, os⟩ := s'
  simp only [Prod.mk.injEq] at he
  obtain ⟨rfl, rfl, rfl, rfl⟩ := he
  have e0 : ((sBoot w.params).abs (restOf w os)) = (⟨boot_heap w.params, #[], boot_drawn, boot_toks, os⟩ : Shared) := boot_shared w os
  obtain ⟨se, hv, T⟩ := topRan w os (by rw [e0]; exact z)
  have H := head_ok hv
  have hg : (heapOf w.params se).isNs mainGlobals = true := by
    have hoks : (viewOf w.params se).oks = true := by rw [hv]; rfl
    simp only [viewOf, Bool.and_eq_true] at hoks
    exact hoks.1.1.1.1.1.1.1.1.1
  rw [e0] at T
  have hz : (se.abs (restOf w os)).asleep := Shared.asleep_of_life (T.2.1) z
  refine ⟨_, fence_eq _, rfl, se.abs (restOf w os), T, fun n hn => ?_, (fun x hx => nomatch hx), (fun x hx => nomatch hx), ?_⟩
  · obtain rfl : n = "law" := List.mem_singleton.mp hn
    exact the_defs H hg
  · refine ClaimW.callFrom_of_specG (c := rwQ.toRowW.claim) hz rfl fun args hpre hlay ord hord => ?_
    obtain ⟨⟨vs, s₁⟩, hlaid⟩ := Option.isSome_iff_exists.mp (layAllW_isSome (P := w.params) (ord := ord) (fun c hc => absurd hc (by show ¬ ((WRecords.fields? [] c).isSome = true); simp [WRecords.fields?])) args rwQ.args (se.abs (restOf w os)) (pre_splitW hpre).1)
    have keeps := layAllW_keeps _ _ _ hlaid
    have hal := layAllW_rest _ _ _ hlaid
    obtain ⟨as, hrd, hin, hold⟩ := reads_layAllW hord _ _ _ hlaid hlay s₁.heap (fun _ _ e => e)
    obtain ⟨ns, rfl, hn⟩ := args_of hpre
    have L : Laid [] w (se.abs (restOf w os)) s₁ [.list (ns.map WData.int)] vs as := ⟨⟨ord, hord, hlaid⟩, hrd, hin, hold, keeps, hal.1, hal.2.2.1⟩
    have G := law_good (w := w) (s₀ := se.abs (restOf w os)) H hn L
    have hf : s₁.heap.Ns mainNs ((heapOf w.params se).nsMap mainGlobals) := (Heap.Ns.of_isNs hg).keeps keeps
    have hfl : (heapOf w.params se).nsMap mainGlobals "law" = some (.ref 131) := by
      obtain ⟨⟨mg, hm, he⟩, _⟩ := H.law
      obtain ⟨o1, es1, n1, a1, a2, a3, a4⟩ := Heap.Ns.of_isNs hg
      obtain ⟨o2, es2, n2, b1, b2, b3, b4⟩ := hm
      have := H.ext _ _ b1
      rw [a1] at this; cases this
      rw [a2] at b2; cases b2
      rw [← a4, b4, he]
    refine ⟨vs, s₁, hlaid, wpAny_bind (wpAny_nsGet hf ?_)⟩
    rw [show (heapOf w.params se).nsMap mainGlobals rwQ.name = some (.ref 131) from hfl]
    show wpAny (model pw_rs0187_01 w) callerA (call (Value.ref 131) vs >>= fun v => ret v) _ _ s₁
    refine wpAny_bind (wpAny_mono G (fun v s' g => wpAny_pure ⟨_, rfl, ?_⟩) fun e s' g => ?_)
    · have q := g.laid (c := rwQ.toRowW.claim) hsame rfl hi L
      exact ⟨q.1, q.2.1, q.2.2, fun y => nomatch y⟩
    · have q := g.laid (c := rwQ.toRowW.claim) hsame rfl hi L
      exact ⟨q.1, q.2.1, q.2.2, fun y => nomatch y⟩
end Mine


theorem Mine.said_looks : looksOpen PySem.Challenge.rw_rs0187_01.row.prog = true := by
  unfold looksOpen
  refine look_both (look_both (look_both (look_both (look_both ?_ ?_) ?_) ?_) ?_) ?_
  · decide +kernel
  · decide +kernel
  · decide +kernel
  · decide +kernel
  · decide +kernel
  · decide +kernel
theorem Mine.said_part : PySem.Challenge.rw_rs0187_01.row.partSaid = true := by
  unfold OpenRow.partSaid
  refine look_both (look_both (look_both (look_both (look_both (look_both (look_both (look_both (look_both (look_both (look_both (look_both (look_both said_looks ?_) ?_) ?_) ?_) ?_) ?_) ?_) ?_) ?_) ?_) ?_) ?_) ?_
  all_goals decide +kernel
theorem Mine.said_row : PySem.Challenge.rw_rs0187_01.row.wellSaid = true := look_both (look_both Mine.said_part (by decide +kernel)) (by decide +kernel)
theorem Mine.said_well : PySem.Challenge.rw_rs0187_01.wellSaid = true := by
  unfold OpenLaw.wellSaid
  refine look_both (look_both (look_both (look_both (look_both (look_both (look_both (look_both (look_both (look_both (look_both (look_both (look_both (look_both (look_both (look_both (look_both (look_both said_row ?_) ?_) ?_) ?_) ?_) ?_) ?_) ?_) ?_) ?_) ?_) ?_) ?_) ?_) ?_) ?_) ?_) ?_
  all_goals decide +kernel


set_option maxHeartbeats 4000000 in
theorem PySem.Challenge.cw_rs0187_01_holds : PySem.Challenge.rw_rs0187_01.Holds := by
  exact holds_law Mine.said_well fun said => Mine.row_holds said
