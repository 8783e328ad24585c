import PyProof.Rows.All
import Wide.All
import OpenK.AllK
import Wide.FinOn
import PyProof.FactsAll.int
import PyProof.FactsAll.str
import PyProof.FactsAll.NoneType
import PyProof.FactsAll.subtypes
import KE.KIsBytes
import KE.KBytesAny
import PyProof.EqKinds
import PyProof.InstNe
import KE.KLam
import KE.KBytesWalk
import PyProof.ListRange
import KE.BytesMake
import KE.KxBytes
import Lean
import PySem.Challenge.RW_dn0281_02
open PySem PySem.W PyProof.Rows
set_option Elab.async false
set_option linter.unusedVariables false
set_option maxRecDepth 100000

/-! Fw1 -/
namespace Mine

/-! ## heaps that only grow -/
def Sub (R h : Heap) : Prop := ∀ b o, R.get? b = some o → h.get? b = some o
theorem Sub.refl (h : Heap) : Sub h h := fun _ _ e => e
theorem Sub.trans {a b c : Heap} (x : Sub a b) (y : Sub b c) : Sub a c := fun p o e => y p o (x p o e)
theorem Sub.push {a b : Heap} (x : Sub a b) (o : Obj) : Sub a (b.push o) := fun p q e => Heap.get?_push_of_some o (x p q e)

theorem keeps_sub {s s' : Shared} (k : Keeps s s') : Sub s.heap s'.heap := by
  obtain ⟨h, tk, rfl, e⟩ := k; exact e
theorem keeps_refl (s : Shared) : Keeps s s := ⟨s.heap, s.toks, rfl, fun _ _ e => e⟩
theorem keeps_trans {s s' s'' : Shared} (k : Keeps s s') (k' : Keeps s' s'') : Keeps s s'' := by
  obtain ⟨h, tk, rfl, e⟩ := k
  obtain ⟨h', tk', rfl, e'⟩ := k'
  exact ⟨h', tk', rfl, fun b o q => e' b o (e b o q)⟩
theorem keeps_mk {s : Shared} {h : Heap} {tk : Nat} (x : Sub s.heap h) : Keeps s { s with heap := h, toks := tk } := ⟨h, tk, rfl, x⟩
theorem keeps_tok {s : Shared} {tk : Nat} : Keeps s { s with toks := tk } := ⟨s.heap, tk, rfl, fun _ _ e => e⟩

/-! ## the part of a heap that a reading code may speak of: what it was given, and what it made -/
def only (h : Heap) (p : Addr → Bool) : Heap := ⟨h.objs.mapIdx fun i o => if p i then o else { cls := .none, data := .freed }, h.life⟩
theorem only_get (h : Heap) (p : Addr → Bool) (b : Addr) : (only h p).get? b = if p b then h.get? b else none := by
  unfold only Heap.get?
  simp only [Array.getElem?_mapIdx]
  cases e : h.objs[b]? with
  | none => simp
  | some o =>
    simp only [Option.map_some]
    cases hp : p b with
    | true => simp
    | false => simp
def fr (R : Heap) (s s' : Shared) : Heap := only s'.heap fun b => (R.get? b).isSome || (s.heap.get? b).isNone
theorem fr_get {R : Heap} {s s' : Shared} {b : Addr} {o : Obj} : (fr R s s').get? b = some o ↔ s'.heap.get? b = some o ∧ ((R.get? b).isSome = true ∨ s.heap.get? b = none) := by
  unfold fr
  rw [only_get]
  by_cases h : ((R.get? b).isSome || (s.heap.get? b).isNone) = true
  · rw [if_pos h]
    have h' : (R.get? b).isSome = true ∨ s.heap.get? b = none := by simpa using h
    exact ⟨fun e => ⟨e, h'⟩, fun e => e.1⟩
  · rw [if_neg h]
    have h' : ¬ ((R.get? b).isSome = true ∨ s.heap.get? b = none) := by simpa using h
    exact ⟨fun e => (by cases e), fun e => absurd e.2 h'⟩
theorem fr_sub {R : Heap} {s s' : Shared} : Sub (fr R s s') s'.heap := fun _ _ e => (fr_get.mp e).1
theorem sub_fr {R : Heap} {s s' : Shared} (hs : Sub R s.heap) (k : Keeps s s') : Sub R (fr R s s') := fun b o e => fr_get.mpr ⟨keeps_sub k _ _ (hs _ _ e), .inl (by rw [e]; rfl)⟩
theorem fr_mono {R R' : Heap} {s s' : Shared} (h : Sub R R') : Sub (fr R s s') (fr R' s s') := fun b o e => by
  obtain ⟨h1, h2⟩ := fr_get.mp e
  refine fr_get.mpr ⟨h1, h2.imp (fun q => ?_) id⟩
  obtain ⟨o', ho⟩ := Option.isSome_iff_exists.mp q
  rw [h _ _ ho]; rfl
theorem fr_trans {R : Heap} {s s' s'' : Shared} (k : Keeps s s') : Sub (fr (fr R s s') s' s'') (fr R s s'') := fun b o e => by
  obtain ⟨h1, h2⟩ := fr_get.mp e
  refine fr_get.mpr ⟨h1, ?_⟩
  rcases h2 with q | q
  · obtain ⟨o', ho⟩ := Option.isSome_iff_exists.mp q
    exact (fr_get.mp ho).2
  · refine .inr ?_
    cases e' : s.heap.get? b with
    | none => rfl
    | some o' => rw [keeps_sub k _ _ e'] at q; cases q
theorem fr_self {s s' : Shared} : Sub s'.heap (fr s.heap s s') := fun b o e => fr_get.mpr ⟨e, by cases h : s.heap.get? b <;> simp⟩
theorem fr_new {R : Heap} {s s' : Shared} {b : Addr} {o : Obj} (h : s'.heap.get? b = some o) (hb : s.heap.objs.size ≤ b) : (fr R s s').get? b = some o :=
  fr_get.mpr ⟨h, .inr (by cases e : s.heap.get? b with | none => rfl | some o' => exact absurd (Heap.lt_size e) (Nat.not_lt.mpr hb))⟩

def Up {α : Type} (P : α → Heap → Prop) (a : α) (h : Heap) : Prop := ∀ h', Sub h h' → P a h'
theorem Up.here {α : Type} {P : α → Heap → Prop} {a : α} {h : Heap} (x : Up P a h) : P a h := x h (Sub.refl h)
theorem Up.sub {α : Type} {P : α → Heap → Prop} {a : α} {h h' : Heap} (x : Up P a h) (s : Sub h h') : Up P a h' := fun g z => x g (s.trans z)

/-- what the code reads of its own variables: stable while nothing is stored -/
structure View where
  p : Heap → Prop
  up : ∀ h h', Sub h h' → p h → p h'
def View.any : View := ⟨fun _ => True, fun _ _ _ h => h⟩
def View.ns (L : Addr) (m : PySem.Str → Option Value) : View := ⟨fun h => h.Ns L m, fun _ _ s h => h.keeps s⟩
theorem View.nsH {L : Addr} {m : PySem.Str → Option Value} : ∀ h, (View.ns L m).p h → h.Ns L m := fun _ z => z
def View.cell (c : Addr) (v : Value) : View := ⟨fun h => h.IsCell c (some v), fun _ _ s h => h.keeps s⟩
def View.and (V W : View) : View := ⟨fun h => V.p h ∧ W.p h, fun _ _ s h => ⟨V.up _ _ s h.1, W.up _ _ s h.2⟩⟩

/-- `t` comes back with a value and only adds to the heap; `P` speaks of the value, of `R` and of what was made -/
def Ev (prog : Program) (w : World) (A : Around) (V : View) (R : Heap) {α : Type} (t : Sem α) (P : α → Heap → Prop) : Prop :=
  ∀ (Q : α → Shared → Prop) (E : Value → Shared → Prop) (s : Shared), Sub R s.heap → V.p s.heap → 0 < s.toks → (∀ a s', Keeps s s' → 0 < s'.toks → Up P a (fr R s s') → Q a s') → wpAny (model prog w) A t Q E s

theorem wpAny_pos {α : Type} {M : Model} {A : Around} {t : Sem α} {Q : α → Shared → Prop} {E : Value → Shared → Prop} {s : Shared} (ht : 0 < s.toks) (h : wpAny M A t (fun a s' => 0 < s'.toks → Q a s') E s) : wpAny M A t Q E s :=
  wpAny_mono (wpAny_toks_of (n := 1) ht h) (fun _ _ q => q.2 q.1) fun _ _ e => e.2
theorem Ev.mk {prog : Program} {w : World} {A : Around} {V : View} {R : Heap} {α : Type} {t : Sem α} {P : α → Heap → Prop}
    (h : ∀ (Q : α → Shared → Prop) (E : Value → Shared → Prop) (s : Shared), Sub R s.heap → V.p s.heap → 0 < s.toks → (∀ a s', Keeps s s' → Up P a (fr R s s') → Q a s') → wpAny (model prog w) A t Q E s) : Ev prog w A V R t P :=
  fun Q E s hs hv ht hq => wpAny_pos ht (h _ E s hs hv ht fun a s' k p t => hq a s' k t p)

def Is {α : Type} (v : α) : α → Heap → Prop := fun a _ => a = v
def IsI (n : Int) : Value → Heap → Prop := fun a _ => ∃ t, a = .int n t ∧ 0 < t
def IsS (x : PySem.Str) : Value → Heap → Prop := fun a _ => ∃ t, a = .str x t ∧ 0 < t
theorem upIs {α : Type} {v : α} {h : Heap} : Up (Is v) v h := fun _ _ => rfl
theorem upI {n : Int} {t : Tok} {h : Heap} (ht : 0 < t) : Up (IsI n) (.int n t) h := fun _ _ => ⟨t, rfl, ht⟩
theorem upS {x : PySem.Str} {t : Tok} {h : Heap} (ht : 0 < t) : Up (IsS x) (.str x t) h := fun _ _ => ⟨t, rfl, ht⟩

section
variable {prog : Program} {w : World} {A : Around} {V : View} {R R' : Heap} {α β : Type} {t : Sem α} {f : α → Sem β} {P P' : α → Heap → Prop} {P2 : β → Heap → Prop}

theorem View.keeps {s s' : Shared} (hv : V.p s.heap) (k : Keeps s s') : V.p s'.heap := V.up _ _ (keeps_sub k) hv
theorem Ev.use {Q : α → Shared → Prop} {E : Value → Shared → Prop} {s : Shared} (x : Ev prog w A V R t P) (hs : Sub R s.heap) (hv : V.p s.heap) (ht : 0 < s.toks) (h : ∀ a s', Keeps s s' → 0 < s'.toks → P a s'.heap → Q a s') : wpAny (model prog w) A t Q E s :=
  x Q E s hs hv ht fun a s' k t p => h a s' k t (p _ fr_sub)
theorem Ev.here {Q : α → Shared → Prop} {E : Value → Shared → Prop} {s : Shared} (x : Ev prog w A V s.heap t P) (hv : V.p s.heap) (ht : 0 < s.toks) (h : ∀ a s', Keeps s s' → 0 < s'.toks → P a s'.heap → Q a s') : wpAny (model prog w) A t Q E s := x.use (Sub.refl _) hv ht h
theorem Ev.sub (x : Ev prog w A V R t P) (hs : Sub R R') : Ev prog w A V R' t P := fun Q E s h hv ht hq => x Q E s (hs.trans h) hv ht fun a s' k t p => hq a s' k t (p.sub (fr_mono hs))
theorem Ev.view {W : View} (x : Ev prog w A V R t P) (h : ∀ g, W.p g → V.p g) : Ev prog w A W R t P := fun Q E s hs hv ht hq => x Q E s hs (h _ hv) ht hq
/-- one stage, then another -/
theorem Ev.then {Q : α → Shared → Prop} {E : Value → Shared → Prop} {s s1 : Shared} (x : Ev prog w A V (fr R s s1) t P) (hv : V.p s.heap) (k : Keeps s s1) (ht : 0 < s1.toks) (h : ∀ a s', Keeps s s' → 0 < s'.toks → Up P a (fr R s s') → Q a s') : wpAny (model prog w) A t Q E s1 :=
  x Q E s1 fr_sub (View.keeps hv k) ht fun a s' k' t' p => h a s' (keeps_trans k k') t' (p.sub (fr_trans k))
theorem Ev.bind (x : Ev prog w A V R t P) (y : ∀ a R', Sub R R' → P a R' → Ev prog w A V R' (f a) P2) : Ev prog w A V R (t >>= f) P2 :=
  fun Q E s hs hv ht hq => wpAny_bind (x _ E s hs hv ht fun a s' k t' p => (y a _ (sub_fr hs k) p.here).then hv k t' hq)
theorem Ev.pure {a : α} (h : ∀ R', Sub R R' → P a R') : Ev prog w A V R (Pure.pure a) P := fun _ _ s hs _ ht hq => wpAny_pure (hq a s (keeps_refl s) ht fun g z => h g ((sub_fr hs (keeps_refl s)).trans z))
theorem Ev.mono (x : Ev prog w A V R t P) (h : ∀ a R', Sub R R' → P a R' → P' a R') : Ev prog w A V R t P' :=
  fun Q E s hs hv ht hq => x Q E s hs hv ht fun a s' k t' p => hq a s' k t' fun g z => h a g ((sub_fr hs k).trans z) (p g z)
theorem Ev.holding {vs : List Value} (x : Ev prog w A V R t P) : Ev prog w A V R (PySem.holding vs t) P := fun Q E s hs hv ht hq => wpAny_holding (x Q E s hs hv ht hq)
theorem Ev.onRaise {k : Value → Sem Unit} (x : Ev prog w A V R t P) : Ev prog w A V R (t.onRaise k) P := fun Q _ s hs hv ht hq => wpAny_onRaise (x Q _ s hs hv ht hq)
theorem Ev.of_look {v : α} (h : ∀ (Q : α → Shared → Prop) (E : Value → Shared → Prop) (s : Shared), Sub R s.heap → Q v s → wpAny (model prog w) A t Q E s) : Ev prog w A V R t (Is v) :=
  fun Q E s hs _ ht hq => h Q E s hs (hq v s (keeps_refl s) ht upIs)
theorem Ev.of_view {v : α} (h : ∀ (Q : α → Shared → Prop) (E : Value → Shared → Prop) (s : Shared), V.p s.heap → Q v s → wpAny (model prog w) A t Q E s) : Ev prog w A V R t (Is v) :=
  fun Q E s _ hv ht hq => h Q E s hv (hq v s (keeps_refl s) ht upIs)
theorem Ev.looks {v : α} (x : Looks (model prog w) R t v) : Ev prog w A V R t (Is v) := fun Q E s hs _ ht hq => x A Q E s hs (hq v s (keeps_refl s) ht upIs)
theorem Ev.of_in1 (x : Ev prog w A.in1 V R t P) : Ev prog w A V R t P := fun Q E s hs hv ht hq => wpAny_of_in1 (x Q E s hs hv ht hq)
theorem Ev.eq {t' : Sem α} (e : t' = t) (x : Ev prog w A V R t P) : Ev prog w A V R t' P := e ▸ x
end

/-! ## keeping facts -/
theorem isList_sub {R h : Heap} {l : Addr} {xs : Array Value} (x : R.IsList l xs) (s : Sub R h) : h.IsList l xs := let ⟨o, ho, r⟩ := x; ⟨o, s _ _ ho, r⟩
theorem ns_sub {R h : Heap} {l : Addr} {m : PySem.Str → Option Value} (x : R.Ns l m) (s : Sub R h) : h.Ns l m := x.keeps s
theorem cell_sub {R h : Heap} {c : Addr} {v : Option Value} (x : R.IsCell c v) (s : Sub R h) : h.IsCell c v := x.keeps s
theorem fresh_none (h : Heap) {a : Addr} (ha : h.objs.size ≤ a) : h.get? a = none := by
  cases e : h.get? a with
  | none => rfl
  | some o => exact absurd (Heap.lt_size e) (Nat.not_lt.mpr ha)
theorem fresh_off {R h : Heap} (s : Sub R h) {a : Addr} (ha : h.objs.size ≤ a) : R.get? a = none := by
  cases e : R.get? a with
  | none => rfl
  | some o => exact absurd (Heap.lt_size (s _ _ e)) (Nat.not_lt.mpr ha)

/-! ## room for calls -/
structure Room (A : Around) (k : Nat) : Prop where
  handled : A.handled = none
  depth : A.depth + k < recursionLimit
  units : A.units + 8 * k < cLine
theorem Room.le {A : Around} {k j : Nat} (r : Room A k) (h : j ≤ k) : Room A j := ⟨r.handled, by have := r.depth; omega, by have := r.units; omega⟩
theorem Room.deeper {A : Around} {k : Nat} (r : Room A (k + 1)) (env : Env) : Room (A.deeper env) k :=
  ⟨r.handled, by have := r.depth; show A.depth + 1 + k < _; omega, by have := r.units; show A.units + 3 + 8 * k < _; omega⟩
theorem Room.in1 {A : Around} {k : Nat} (r : Room A (k + 1)) : Room A.in1 k := ⟨r.handled, by have := r.depth; show A.depth + k < _; omega, by have := r.units; show A.units + 1 + 8 * k < _; omega⟩
theorem Room.d {A : Around} {k : Nat} (r : Room A k) : A.depth < recursionLimit := by have := r.depth; omega
theorem Room.u {A : Around} {k : Nat} (r : Room A k) : A.units < cLine := by have := r.units; omega
theorem Room.make {A : Around} {k : Nat} (r : Room A (k + 1)) (C : Addr) (rest : List Value) (kw : List (PySem.Str × Value)) : Room (A.under (.builtin "type.__call__" ⟨.ref C :: rest, kw⟩)) k := by
  have h1 : (Code.builtin "type.__call__" ⟨.ref C :: rest, kw⟩).weight = 1 := by kernel_rfl
  have h2 : (Code.builtin "type.__call__" ⟨.ref C :: rest, kw⟩).cUnits = 1 := by kernel_rfl
  refine ⟨r.handled, ?_, ?_⟩
  · have := r.depth; show A.depth + _ + k < _; rw [h1]; omega
  · have := r.units; show A.units + _ + 8 * k < _; rw [h2]; omega

end Mine

/-! Fw2 -/
namespace Mine

/-- the ground: what every heap of the call holds -/
structure Gd (K : Frag) (h : Heap) : Prop where
  k : K.In h
  g : ∃ mg, h.Ns mainGlobals mg
  b : ∃ mb, h.Ns builtinsNs mb ∧ ∀ x : PySem.Str, x ≠ "__name__" → mb x = bootBuiltins x
  lim : h.NoLimit
theorem Gd.sub {K : Frag} {h h' : Heap} (G : Gd K h) (s : Sub h h') : Gd K h' where
  k := G.k.keeps s
  g := let ⟨mg, x⟩ := G.g; ⟨mg, x.keeps s⟩
  b := let ⟨mb, x, y⟩ := G.b; ⟨mb, x.keeps s, y⟩
  lim := G.lim.keeps s

theorem size_of_sub {h h' : Heap} {a : Addr} {o : Obj} (s : Sub h h') (e : h.get? a = some o) : a < h'.objs.size := Heap.lt_size (s _ _ e)

/-- what a list is in a heap -/
def IsL (xs : List Value) : Value → Heap → Prop := fun a h => ∃ l, a = .ref l ∧ h.IsList l xs.toArray
theorem IsL.sub {xs : List Value} {a : Value} {h h' : Heap} (x : IsL xs a h) (s : Sub h h') : IsL xs a h' := let ⟨l, e, q⟩ := x; ⟨l, e, isList_sub q s⟩

section
variable {prog : Program} {w : World} {A : Around} {V : View} {R : Heap} {env : Env} {P P1 P2 : Value → Heap → Prop}

theorem evNameL {x : PySem.Str} {pos : Pos} {m : PySem.Str → Option Value} {v : Value} (hn : ∀ h, V.p h → h.Ns env.locals m) (hv : m x = some v) (hk : env.scope.kind = .function) (hl : env.kindOf x = some .local)
    (hd : (x == ("__debug__" : PySem.Str)) = false := by decide) : Ev prog w A V R (eval (.Name x pos) env) (Is v) :=
  Ev.of_view fun _ _ _ hs h => wpAny_Name (wpAny_loadName_local hk hl (hn _ hs) hv h) hd
theorem evNameC {x : PySem.Str} {pos : Pos} {c : Addr} {v : Value} (hc : ∀ h, V.p h → h.IsCell c (some v)) (hk : env.scope.kind = .function) (hl : env.kindOf x = some .cell) (hx : env.cells.lookup x = some c)
    (hd : (x == ("__debug__" : PySem.Str)) = false := by decide) : Ev prog w A V R (eval (.Name x pos) env) (Is v) :=
  Ev.of_view fun _ _ _ hs h => wpAny_Name (wpAny_loadName_cell hk hl hx (hc _ hs) h) hd
theorem evNameF {x : PySem.Str} {pos : Pos} {c : Addr} {v : Value} (hc : ∀ h, V.p h → h.IsCell c (some v)) (hk : env.scope.kind = .function) (hl : env.kindOf x = some .free) (hx : env.cells.lookup x = some c)
    (hd : (x == ("__debug__" : PySem.Str)) = false := by decide) (hq : (x == ("__classdict__" : PySem.Str)) = false := by decide) : Ev prog w A V R (eval (.Name x pos) env) (Is v) :=
  Ev.of_view fun _ _ _ hs h => wpAny_Name (wpAny_loadName_free hk hl hx (hc _ hs) h hq) hd
theorem evNameG {K : Frag} {x : PySem.Str} {pos : Pos} {v : Value} (G : Gd K R) (e : nsIn K mainGlobals x = some (some v)) (hg : env.globals = mainGlobals) (hk : env.scope.kind = .function) (hl : env.kindOf x = some .globalImplicit)
    (hd : (x == ("__debug__" : PySem.Str)) = false := by decide) : Ev prog w A V R (eval (.Name x pos) env) (Is v) :=
  Ev.of_look fun _ _ _ hs h => by
    obtain ⟨mg, hm⟩ := G.g
    exact Calls.Name_function_global hk hl (Calls.loadGlobal_global (env := env) (by rw [hg]; exact ns_sub hm hs) (mg_of G.k hm e) h) hd
theorem evNameB {K : Frag} {x : PySem.Str} {pos : Pos} {v : Value} (G : Gd K R) (e : nsIn K mainGlobals x = some none) (hv : bootBuiltins x = some v) (hn : x ≠ "__name__") (hg : env.globals = mainGlobals) (hb : env.builtins = builtinsNs)
    (hk : env.scope.kind = .function) (hl : env.kindOf x = some .globalImplicit)
    (hd : (x == ("__debug__" : PySem.Str)) = false := by decide) : Ev prog w A V R (eval (.Name x pos) env) (Is v) :=
  Ev.of_look fun _ _ _ hs h => by
    obtain ⟨mg, hm⟩ := G.g
    obtain ⟨mb, hmb, hbl⟩ := G.b
    exact Calls.Name_function_global hk hl (Calls.loadGlobal_builtin (env := env) (by rw [hg]; exact ns_sub hm hs) (mg_none_of G.k hm e) (by rw [hb]; exact ns_sub hmb hs) ((hbl x hn).trans hv) h) hd

theorem evInt {i : Int} {k : Nat} {pos : Pos} : Ev prog w A V R (eval (.Constant (.int i) k pos) env) (IsI i) := fun _ _ s _ _ ht hq => wpAny_Constant_int (hq _ _ keeps_tok (Nat.succ_pos _) (upI ht))
theorem evStr {x : PySem.Str} {k : Nat} {pos : Pos} : Ev prog w A V R (eval (.Constant (.str x) k pos) env) (IsS x) := fun _ _ s _ _ ht hq => wpAny_Constant_str (hq _ _ keeps_tok (Nat.succ_pos _) (upS ht))

/-- two stages in a row: both values, spoken of at the later heap -/
theorem ev2 {α β : Type} {t : Sem α} {u : Sem β} {P1 : α → Heap → Prop} {P2 : β → Heap → Prop} {Q : α → β → Shared → Prop} {E : Value → Shared → Prop} {s : Shared} (x : Ev prog w A V R t P1) (y : Ev prog w A V R u P2) (hs : Sub R s.heap) (hv : V.p s.heap) (ht : 0 < s.toks)
    (h : ∀ a b s2, Keeps s s2 → 0 < s2.toks → Up P1 a (fr R s s2) → Up P2 b (fr R s s2) → Q a b s2) : wpAny (model prog w) A t (fun a s1 => wpAny (model prog w) A u (fun b s2 => Q a b s2) E s1) E s :=
  x _ _ s hs hv ht fun a s1 k1 t1 p1 => (y.sub (sub_fr hs k1)) _ _ s1 fr_sub (View.keeps hv k1) t1 fun b s2 k2 t2 p2 => h a b s2 (keeps_trans k1 k2) t2
    (p1.sub fun q o e => by
      obtain ⟨e1, e2⟩ := fr_get.mp e
      exact fr_get.mpr ⟨keeps_sub k2 _ _ e1, e2⟩) (p2.sub (fr_trans k1))

theorem evBin {l r : Expr} {op : Operator} {pos : Pos} (x : Ev prog w A V R (eval l env) P1) (y : Ev prog w A V R (eval r env) P2)
    (z : ∀ a b R2, Sub R R2 → P1 a R2 → P2 b R2 → Ev prog w A V R2 (binaryOp op a b) P) : Ev prog w A V R (eval (.BinOp l op r pos) env) P :=
  fun Q E s hs hv ht hq => wpAny_BinOp (ev2 x y hs hv ht fun a b s2 k2 t2 p1 p2 => (z a b _ (sub_fr hs k2) p1.here p2.here).then hv k2 t2 hq)

theorem evCmp {l r : Expr} {op : CmpOp} {pos : Pos} (x : Ev prog w A V R (eval l env) P1) (y : Ev prog w A V R (eval r env) P2)
    (z : ∀ a b R2, Sub R R2 → P1 a R2 → P2 b R2 → Ev prog w A V R2 (compareOp op a b) P) (hm : behindInMarks op r = false := by rfl) : Ev prog w A V R (eval (.Compare l [op] [r] pos) env) P :=
  fun Q E s hs hv ht hq => wpAny_Compare1 (ev2 x y hs hv ht fun a b s2 k2 t2 p1 p2 => (z a b _ (sub_fr hs k2) p1.here p2.here).then hv k2 t2 hq) hm

theorem ev_truthy_bool {b : Bool} : Ev prog w A V R (truthy (.bool b)) (Is b) := Ev.of_look fun _ _ _ _ h => wpAny_truthy_bool h

/-- a test by one comparison -/
theorem evTest {l r : Expr} {op : CmpOp} {pos : Pos} {whole : Sem Value} {b : Bool} (x : Ev prog w A V R (eval l env) P1) (y : Ev prog w A V R (eval r env) P2)
    (z : ∀ a b' R2, Sub R R2 → P1 a R2 → P2 b' R2 → Ev prog w A V R2 (compareOp op a b') (Is (.bool b))) (hm : behindInMarks op r = false := by rfl) :
    Ev prog w A V R (isTrue (.Compare l [op] [r] pos) env whole) (Is b) :=
  fun Q E s hs hv ht hq => wpAny_isTrue_Compare1 (ev2 x y hs hv ht fun a b s2 k2 t2 p1 p2 => (z a b _ (sub_fr hs k2) p1.here p2.here).then hv k2 t2 fun c s3 k3 t3 p3 => by
      cases p3.here; exact wpAny_truthy_bool (hq _ s3 k3 t3 upIs)) hm
theorem evNot {x : Expr} {pos : Pos} {whole : Sem Value} {b : Bool} (h : Ev prog w A V R (isTrue x env (eval x env)) (Is b)) : Ev prog w A V R (isTrue (.UnaryOp .Not x pos) env whole) (Is (!b)) :=
  fun Q E s hs hv ht hq => wpAny_isTrue_Not (h.use hs hv ht fun a s1 k1 t1 p1 => by cases p1; exact hq _ s1 k1 t1 upIs)
theorem evTestV {e : Expr} {b : Bool} {whole : Sem Value} (h : Ev prog w A V R whole (Is (.bool b))) (he : isTrue e env whole = (whole >>= fun v => standAt e.pos >>= fun _ => holding [v] (truthy v)) := by rfl) :
    Ev prog w A V R (isTrue e env whole) (Is b) :=
  fun Q E s hs hv ht hq => wpAny_isTrue_value (h.use hs hv ht fun a s1 k1 t1 p1 => by cases p1; exact wpAny_truthy_bool (hq _ s1 k1 t1 upIs)) he
theorem evAndN {pos : Pos} {whole : Sem Value} {vs : List Expr} {b : Bool} (h : Ev prog w A V R (allTrue .And vs env) (Is b)) : Ev prog w A V R (isTrue (.BoolOp .And vs pos) env whole) (Is b) :=
  fun Q E s hs hv ht hq => wpAny_isTrue_BoolOp (h Q E s hs hv ht hq)
theorem evOrN {pos : Pos} {whole : Sem Value} {vs : List Expr} {b : Bool} (h : Ev prog w A V R (allTrue .Or vs env) (Is b)) : Ev prog w A V R (isTrue (.BoolOp .Or vs pos) env whole) (Is b) :=
  fun Q E s hs hv ht hq => wpAny_isTrue_BoolOp (h Q E s hs hv ht hq)
theorem evAnd0 : Ev prog w A V R (allTrue .And [] env) (Is true) := Ev.of_look fun _ _ _ _ h => wpAny_allTrue_And_nil h
theorem evOr0 : Ev prog w A V R (allTrue .Or [] env) (Is false) := Ev.of_look fun _ _ _ _ h => wpAny_allTrue_Or_nil h
theorem evAnd1 {x : Expr} {rest : List Expr} {b c : Bool} (h : Ev prog w A V R (isTrue x env (eval x env)) (Is b)) (h2 : b = true → Ev prog w A V R (allTrue .And rest env) (Is c)) :
    Ev prog w A V R (allTrue .And (x :: rest) env) (Is (b && c)) :=
  fun Q E s hs hv ht hq => wpAny_allTrue_And_cons (h.use hs hv ht fun a s1 k1 t1 p1 => by
    cases p1
    cases b with
    | false => rw [if_neg (by simp)]; exact hq _ s1 k1 t1 upIs
    | true => rw [if_pos rfl]; exact (h2 rfl).use (hs.trans (keeps_sub k1)) (View.keeps hv k1) t1 fun b s2 k2 t2 p2 => by cases p2; exact hq _ s2 (keeps_trans k1 k2) t2 upIs)
theorem evOr1 {x : Expr} {rest : List Expr} {b c : Bool} (h : Ev prog w A V R (isTrue x env (eval x env)) (Is b)) (h2 : b = false → Ev prog w A V R (allTrue .Or rest env) (Is c)) :
    Ev prog w A V R (allTrue .Or (x :: rest) env) (Is (b || c)) :=
  fun Q E s hs hv ht hq => wpAny_allTrue_Or_cons (h.use hs hv ht fun a s1 k1 t1 p1 => by
    cases p1
    cases b with
    | true => rw [if_pos rfl]; exact hq _ s1 k1 t1 upIs
    | false => rw [if_neg (by simp)]; exact (h2 rfl).use (hs.trans (keeps_sub k1)) (View.keeps hv k1) t1 fun b s2 k2 t2 p2 => by cases p2; exact hq _ s2 (keeps_trans k1 k2) t2 upIs)
theorem evIfExp {t a o : Expr} {pos : Pos} {b : Bool} (h : Ev prog w A V R (isTrue t env (eval t env)) (Is b)) (h1 : b = true → Ev prog w A V R (eval a env) P) (h2 : b = false → Ev prog w A V R (eval o env) P) :
    Ev prog w A V R (eval (.IfExp t a o pos) env) P :=
  fun Q E s hs hv ht hq => wpAny_IfExp (h _ _ s hs hv ht fun x s1 k1 t1 p1 => by
    cases p1.here
    cases b with
    | true => rw [if_pos rfl]; exact ((h1 rfl).sub (sub_fr hs k1)).then hv k1 t1 hq
    | false => rw [if_neg (by simp)]; exact ((h2 rfl).sub (sub_fr hs k1)).then hv k1 t1 hq)

/-! argument lists -/
theorem evArgs0 {pos : Pos} : Ev prog w A V R (spliced (backTo pos (starEach [] env))) (Is []) := Ev.of_look fun _ _ _ _ h => wpAny_items_nil h
def ConsP (P1 : Value → Heap → Prop) (PL : List Value → Heap → Prop) : List Value → Heap → Prop := fun l h => ∃ v vs, l = v :: vs ∧ P1 v h ∧ PL vs h
theorem evArgsC {pos : Pos} {e : Expr} {rest : List Expr} {PL : List Value → Heap → Prop} (x : Ev prog w A V R (eval e env) P1) (y : Ev prog w A V R (spliced (backTo pos (starEach rest env))) PL)
    (he : starEach (e :: rest) env = (false, eval e env) :: starEach rest env := by rfl) :
    Ev prog w A V R (spliced (backTo pos (starEach (e :: rest) env))) (ConsP P1 PL) :=
  fun Q E s hs hv ht hq => wpAny_items_cons (ev2 x y hs hv ht fun a vs s2 k2 t2 p1 p2 => hq _ s2 k2 t2 fun g z => ⟨_, _, rfl, p1 g z, p2 g z⟩) he
theorem evA1 {pos : Pos} {e : Expr} {v : Value} (x : Ev prog w A V R (eval e env) (Is v)) (he : starEach [e] env = [(false, eval e env)] := by rfl) : Ev prog w A V R (spliced (backTo pos (starEach [e] env))) (Is [v]) :=
  (evArgsC x evArgs0 he).mono fun a R' _ ⟨_, _, h1, h2, h3⟩ => by cases h1; cases h2; cases h3; exact rfl
theorem evA2 {pos : Pos} {e e' : Expr} {v v' : Value} (x : Ev prog w A V R (eval e env) (Is v)) (y : Ev prog w A V R (eval e' env) (Is v')) (he : starEach [e, e'] env = [(false, eval e env), (false, eval e' env)] := by rfl)
    (he' : starEach [e'] env = [(false, eval e' env)] := by rfl) : Ev prog w A V R (spliced (backTo pos (starEach [e, e'] env))) (Is [v, v']) :=
  (evArgsC x (evA1 y he') (he.trans (by rw [he']))).mono fun a R' _ ⟨_, _, h1, h2, h3⟩ => by cases h1; cases h2; cases h3; exact rfl

theorem isList_push (h : Heap) (vs : List Value) : (h.push { cls := .type "list", data := .seq vs.toArray }).IsList h.objs.size vs.toArray := ⟨_, Heap.get?_push_size _ rfl, rfl, _, rfl⟩
/-- a list display: the items, then a new list -/
theorem evList {elts : List Expr} {pos : Pos} {PL : List Value → Heap → Prop} (x : Ev prog w A V R (spliced (backTo pos (starEach elts env))) PL) (hsz : ∀ vs h, PL vs h → vs.length ≤ sizeLine) :
    Ev prog w A V R (eval (.List elts pos) env) (fun a h => ∃ l vs, a = .ref l ∧ h.IsList l vs.toArray ∧ PL vs h) :=
  fun Q E s hs hv ht hq => wpAny_List (x _ _ s hs hv ht fun vs s1 k1 t1 p1 => ⟨hsz _ _ p1.here, by
    have k2 : Keeps s1 { s1 with heap := s1.heap.push { cls := .type "list", data := .seq vs.toArray } } := keeps_mk (tk := s1.toks) ((Sub.refl _).push _)
    have hb : s.heap.get? s1.heap.objs.size = none := fresh_off (keeps_sub k1) (Nat.le_refl _)
    refine hq _ _ (keeps_trans k1 k2) t1 fun g z => ⟨_, vs, rfl, ?_, p1 g fun b o e => z _ _ ?_⟩
    · obtain ⟨o, h1, h2⟩ := isList_push s1.heap vs
      exact ⟨o, z _ _ (fr_get.mpr ⟨h1, .inr hb⟩), h2⟩
    · obtain ⟨e1, e2⟩ := fr_get.mp e
      exact fr_get.mpr ⟨keeps_sub k2 _ _ e1, e2⟩⟩)
theorem isTup_push (h : Heap) (vs : List Value) : (h.push { cls := .type "tuple", data := .seq vs.toArray }).get? h.objs.size = some { cls := .type "tuple", data := .seq vs.toArray } := Heap.get?_push_size _ rfl
theorem evTuple {elts : List Expr} {k : Nat} {pos : Pos} {PL : List Value → Heap → Prop} (x : Ev prog w A V R (spliced (backTo pos (starEach elts env))) PL) (hsz : ∀ vs h, PL vs h → vs.length ≤ sizeLine) :
    Ev prog w A V R (eval (.Tuple elts k pos) env) (fun a h => ∃ l vs, a = .ref l ∧ h.get? l = some { cls := .type "tuple", data := .seq vs.toArray } ∧ PL vs h) :=
  fun Q E s hs hv ht hq => wpAny_Tuple (x _ _ s hs hv ht fun vs s1 k1 t1 p1 => ⟨hsz _ _ p1.here, by
    have k2 : Keeps s1 { s1 with heap := s1.heap.push { cls := .type "tuple", data := .seq vs.toArray } } := keeps_mk (tk := s1.toks) ((Sub.refl _).push _)
    have hb : s.heap.get? s1.heap.objs.size = none := fresh_off (keeps_sub k1) (Nat.le_refl _)
    refine hq _ _ (keeps_trans k1 k2) t1 fun g z => ⟨_, vs, rfl, ?_, p1 g fun b o e => z _ _ ?_⟩
    · exact z _ _ (fr_get.mpr ⟨isTup_push s1.heap vs, .inr hb⟩)
    · obtain ⟨e1, e2⟩ := fr_get.mp e
      exact fr_get.mpr ⟨keeps_sub k2 _ _ e1, e2⟩⟩)

/-! calls of built-ins by name -/
theorem evCallB {x : PySem.Str} {xp pos : Pos} {e : Expr} {rest : List Expr} {id : String} {PL : List Value → Heap → Prop} (hf : Ev prog w A V R (eval (.Name x xp) env) (Is (.builtin id)))
    (ha : Ev prog w A V R (spliced (backTo pos (starEach (e :: rest) env))) PL)
    (hc : ∀ vs R1, Sub R R1 → PL vs R1 → Ev prog w A V R1 (call (.builtin id) vs) P)
    (he : starEach (e :: rest) env = (false, eval e env) :: starEach rest env := by rfl) (hr : ((backTo pos (starEach rest env)).any fun x => x.fst) = false := by rfl) :
    Ev prog w A V R (eval (.Call (.Name x xp) (e :: rest) [] pos) env) P :=
  fun Q E s hs hv ht hq => wpAny_Call_NameR (hf _ _ s hs hv ht fun f s1 k1 t1 p1 => by
    cases p1.here
    exact PyProof.Rows.callWith_builtin1 ((ha.sub (sub_fr hs k1)).then hv k1 t1 fun vs s2 k2 t2 p2 => (hc _ _ (sub_fr hs k2) p2.here).then hv k2 t2 hq) he hr)
theorem evCallT {x : PySem.Str} {xp pos : Pos} {e : Expr} {rest : List Expr} {T : String} {PL : List Value → Heap → Prop} (hf : Ev prog w A V R (eval (.Name x xp) env) (Is (.type T)))
    (ha : Ev prog w A V R (spliced (backTo pos (starEach (e :: rest) env))) PL)
    (hc : ∀ vs R1, Sub R R1 → PL vs R1 → Ev prog w A V R1 (call (.type T) vs) P)
    (he : starEach (e :: rest) env = (false, eval e env) :: starEach rest env := by rfl) (hr : ((backTo pos (starEach rest env)).any fun x => x.fst) = false := by rfl) :
    Ev prog w A V R (eval (.Call (.Name x xp) (e :: rest) [] pos) env) P :=
  fun Q E s hs hv ht hq => wpAny_Call_NameR (hf _ _ s hs hv ht fun f s1 k1 t1 p1 => by
    cases p1.here
    exact PyProof.Rows.callWith_type1 ((ha.sub (sub_fr hs k1)).then hv k1 t1 fun vs s2 k2 t2 p2 => (hc _ _ (sub_fr hs k2) p2.here).then hv k2 t2 hq) he hr)
/-- a def or a class of the text, called by its name -/
theorem evCallK {K : Frag} {x : PySem.Str} {xp pos : Pos} {e : Expr} {rest : List Expr} {f : Value} {PL : List Value → Heap → Prop} (X : K.In R) (hk : keepIn K f = true) (hf : Ev prog w A V R (eval (.Name x xp) env) (Is f))
    (ha : Ev prog w A V R (spliced (backTo pos (starEach (e :: rest) env))) PL)
    (hc : ∀ vs R1, Sub R R1 → PL vs R1 → Ev prog w A V R1 (call f vs) P)
    (he : starEach (e :: rest) env = (false, eval e env) :: starEach rest env := by rfl) (hr : ((backTo pos (starEach rest env)).any fun x => x.fst) = false := by rfl) :
    Ev prog w A V R (eval (.Call (.Name x xp) (e :: rest) [] pos) env) P :=
  fun Q E s hs hv ht hq => wpAny_Call_NameR (hf _ _ s hs hv ht fun f s1 k1 t1 p1 => by
    cases p1.here
    refine callWith_K X hk ((ha.sub (sub_fr hs k1)).then hv k1 t1 fun vs s2 k2 t2 p2 => ⟨X.keeps (hs.trans (keeps_sub k2)), ?_⟩) he hr
    exact (hc _ _ (sub_fr hs k2) p2.here).then hv k2 t2 hq)

theorem evSub {v i : Expr} {pos : Pos} (x : Ev prog w A V R (eval v env) P1) (y : Ev prog w A V R (eval i env) P2)
    (z : ∀ a b R2, Sub R R2 → P1 a R2 → P2 b R2 → Ev prog w A V R2 (subscriptTail v i a b) P) : Ev prog w A V R (eval (.Subscript v i pos) env) P :=
  fun Q E s hs hv ht hq => Subscript_ (ev2 x y hs hv ht fun a b s2 k2 t2 p1 p2 => (z a b _ (sub_fr hs k2) p1.here p2.here).then hv k2 t2 hq)
theorem evAttr {v : Expr} {a : PySem.Str} {pos : Pos} (x : Ev prog w A V R (eval v env) P1) (z : ∀ o R1, Sub R R1 → P1 o R1 → Ev prog w A V R1 (getAttr o a true) P)
    (he : eval (.Attribute v a pos) env = (eval v env >>= fun o => standAt pos.atName >>= fun _ => holding [o] (getAttr o a true) >>= fun r => letTemporaryGo v o r >>= fun _ => pure r) := by rfl) : Ev prog w A V R (eval (.Attribute v a pos) env) P :=
  fun Q E s hs hv ht hq => Attribute_any_ (x _ _ s hs hv ht fun a s1 k1 t1 p1 => (z _ _ (sub_fr hs k1) p1.here).then hv k1 t1 hq) he
end

end Mine

/-! P1 -/
namespace Mine

/-! ## what can be walked over -/
/-- `x` gives, one after the other, `n` values, the `i`-th of them a `P i` -/
def Iters (prog : Program) (w : World) (A : Around) (R : Heap) (x : Value) (n : Nat) (P : Nat → Value → Prop) : Prop :=
  ∀ (Q : Value → Shared → Prop) (E : Value → Shared → Prop) (s : Shared), Sub R s.heap →
    (∀ I fp wr St s', Keeps s s' → Walks prog w A I fp wr n P St → St 0 s'.heap → (∀ b ∈ wr, s.heap.get? b = none) → (∀ b ∈ fp, ((R.get? b).isSome = true ∨ s.heap.get? b = none) ∧ b < s'.heap.objs.size) →
      (∀ i h, St i h → ∀ b ∈ fp, (h.get? b).isSome = true) → Q (.ref I) s') → wpAny (model prog w) A (pyIter x) Q E s

section
variable {prog : Program} {w : World} {A : Around} {V : View} {R : Heap}

theorem it_list {l : Addr} {xs : List Value} (hh : A.handled = none) (hl : R.IsList l xs.toArray) : Iters prog w A R (.ref l) xs.length (fun i v => xs[i]? = some v) := fun Q E s hs hQ => by
  have hl' := isList_sub hl hs
  obtain ⟨ol, hol, _⟩ := id hl
  have hne : l ≠ s.heap.objs.size := Nat.ne_of_lt (Heap.lt_size (hs _ _ hol))
  refine wpAny_pyIter_list hl' ?_
  have W := Walks.list (prog := prog) (w := w) hh s.heap.objs.size l hne xs.toArray
  have W' : Walks prog w A s.heap.objs.size [s.heap.objs.size, l] [s.heap.objs.size] xs.length (fun i v => xs[i]? = some v) (fun i h => h.IsListIter s.heap.objs.size l i ∧ h.IsList l xs.toArray) := by simpa using W
  refine hQ _ _ _ _ _ (keeps_mk (tk := s.toks) ((Sub.refl _).push _)) W' ⟨⟨_, Heap.get?_push_size _ rfl, rfl, rfl⟩, isList_sub hl' ((Sub.refl _).push _)⟩ ?_ ?_ ?_
  · intro b hb; rw [List.mem_singleton.mp hb]; exact fresh_none _ (Nat.le_refl _)
  · intro b hb
    simp only [List.mem_cons, List.not_mem_nil, or_false] at hb
    rcases hb with rfl | rfl
    · exact ⟨.inr (fresh_none _ (Nat.le_refl _)), by rw [Heap.size_push]; exact Nat.lt_succ_self _⟩
    · exact ⟨.inl (by rw [hol]; rfl), by rw [Heap.size_push]; exact Nat.lt_succ_of_lt (Heap.lt_size (hs _ _ hol))⟩
  · rintro i h ⟨⟨o, ho, _⟩, ⟨o', ho', _⟩⟩ b hb
    simp only [List.mem_cons, List.not_mem_nil, or_false] at hb
    rcases hb with rfl | rfl
    · rw [ho]; rfl
    · rw [ho']; rfl

theorem it_str {x : PySem.Str} {t : Tok} (hh : A.handled = none) : Iters prog w A R (.str x t) x.cps.size (SignAt x) := fun Q E s hs hQ => by
  have fin : ∀ (T : String) (o : Obj), o.isFreed = false → (s.heap.push o).IsStrIter s.heap.objs.size T x t 0 → Walks prog w A s.heap.objs.size [s.heap.objs.size] [s.heap.objs.size] x.cps.size (SignAt x) (fun i h => h.IsStrIter s.heap.objs.size T x t i) →
      Q (.ref s.heap.objs.size) { s with heap := s.heap.push o } := by
    intro T o hf hst W
    refine hQ _ _ _ _ _ (keeps_mk (tk := s.toks) ((Sub.refl _).push _)) W hst ?_ ?_ ?_
    · intro b hb; rw [List.mem_singleton.mp hb]; exact fresh_none _ (Nat.le_refl _)
    · intro b hb; rw [List.mem_singleton.mp hb]; exact ⟨.inr (fresh_none _ (Nat.le_refl _)), by rw [Heap.size_push]; exact Nat.lt_succ_self _⟩
    · rintro i h ⟨o, ho, _⟩ b hb
      rw [List.mem_singleton.mp hb, ho]; rfl
  cases ha : x.cps.all (· < 128)
  · exact wpAny_pyIter_wide ha (fin _ _ rfl ⟨_, Heap.get?_push_size _ rfl, rfl, rfl⟩ (Walks.strWide hh _ x t))
  · exact wpAny_pyIter_ascii ha (fin _ _ rfl ⟨_, Heap.get?_push_size _ rfl, rfl, rfl⟩ (Walks.strAscii hh _ x t))

/-- a range of the numbers `a`, `a + 1`, .. below `b` -/
def IsR (a b : Int) : Value → Heap → Prop := fun v h => ∃ r t u v', v = .ref r ∧ IsRange h r a b 1 t u v'
theorem it_range {a b : Int} {v : Value} {n : Nat} (hh : A.handled = none) (hr : IsR a b v R) (ha : -(2 ^ 62) ≤ a) (ha' : a < 2 ^ 62) (hb : -(2 ^ 62) ≤ b) (hb' : b < 2 ^ 62) (hn : (n : Int) = if a < b then b - a else 0) :
    Iters prog w A R v n (fun i v => ∃ t, v = .int (a + i) t) := fun Q E s hs hQ => by
  obtain ⟨r, t, u, v', rfl, hr⟩ := hr
  refine wpAny_pyIter_range (hs _ _ hr) (small_one ha ha' hb hb') ?_
  have W := Walks.range (prog := prog) (w := w) hh s.heap.objs.size a 1 n
  have hW : Walks prog w A s.heap.objs.size [s.heap.objs.size] [s.heap.objs.size] n (fun i v => ∃ t, v = .int (a + i) t) (fun i h => IsRangeIter h s.heap.objs.size (a + (i : Nat) * 1) ((n : Int) - (i : Nat)) 1) := by
    have e : (fun (i : Nat) (v : Value) => ∃ t, v = Value.int (a + (i : Int) * 1) t) = fun i v => ∃ t, v = .int (a + i) t := by funext i v; simp
    rw [← e]; exact W
  refine hQ _ _ _ _ _ (keeps_mk (tk := s.toks) ((Sub.refl _).push _)) hW ?_ ?_ ?_ ?_
  · have e : Builtin.Range.rangeSize a b 1 = (n : Int) - ((0 : Nat) : Int) := by rw [rangeSize_one, ← hn]; simp
    show Heap.get? _ _ = _
    have e2 : a + ((0 : Nat) : Int) * 1 = a := by simp
    rw [e2, ← e]
    exact Heap.get?_push_size _ rfl
  · intro b hb; rw [List.mem_singleton.mp hb]; exact fresh_none _ (Nat.le_refl _)
  · intro b hb; rw [List.mem_singleton.mp hb]; exact ⟨.inr (fresh_none _ (Nat.le_refl _)), by rw [Heap.size_push]; exact Nat.lt_succ_self _⟩
  · intro i h ho b hb
    rw [List.mem_singleton.mp hb, ho]; rfl

theorem ev_range1 {n : Int} {t : Tok} : Ev prog w A V R (call (.type "range") [.int n t]) (IsR 0 n) := Ev.mk fun Q E s hs _ ht hQ =>
  call_range_1 (hQ _ _ (keeps_mk ((Sub.refl _).push _)) fun g z => ⟨_, _, _, _, rfl, z _ _ (fr_get.mpr ⟨Heap.get?_push_size _ rfl, .inr (fresh_none _ (Nat.le_refl _))⟩)⟩)
theorem ev_range2 {a b : Int} {t u : Tok} : Ev prog w A V R (call (.type "range") [.int a t, .int b u]) (IsR a b) := Ev.mk fun Q E s hs _ ht hQ =>
  call_range_2 (hQ _ _ (keeps_mk ((Sub.refl _).push _)) fun g z => ⟨_, _, _, _, rfl, z _ _ (fr_get.mpr ⟨Heap.get?_push_size _ rfl, .inr (fresh_none _ (Nat.le_refl _))⟩)⟩)
theorem ev_len {l : Addr} {xs : List Value} (hl : R.IsList l xs.toArray) (hz : xs.length < 2 ^ 62) : Ev prog w A V R (call (.builtin "len") [.ref l]) (IsI xs.length) := Ev.mk fun Q E s hs _ ht hQ => by
  refine Calls.call_len_list (isList_sub hl hs) (by simp; omega) ?_
  have e : ((xs.toArray.size : Nat) : Int) = (xs.length : Int) := by simp
  rw [e]
  exact hQ _ _ keeps_tok (upI (Nat.succ_pos _))
end

end Mine

/-! P2 -/
namespace Mine

/-! ## within a comprehension -/
/-- a state within a comprehension: its variables at `C`, its list at `D`, and the part `R'` that facts speak of -/
structure CS (s₁ : Shared) (R₁ : Heap) (C D : Addr) (m : PySem.Str → Option Value) (ys : List Value) (R' : Heap) (s' : Shared) : Prop where
  keep : Keeps s₁ s'
  acc : s'.heap.PlainList D ys.toArray
  ns : s'.heap.Ns C m
  low : Sub R₁ R'
  sub : Sub R' s'.heap
  new : ∀ b o, R'.get? b = some o → (R₁.get? b).isSome = true ∨ s₁.heap.get? b = none
  offC : R'.get? C = none
  offD : R'.get? D = none
  tok : 0 < s'.toks

def CStep (J : (PySem.Str → Option Value) → Prop) (s₁ : Shared) (R₁ : Heap) (C D : Addr) (ys : List Value) (R' : Heap) (s' : Shared) (G : List Value → Heap → Prop) (s'' : Shared) : Prop :=
  ∃ m'' zs R'', J m'' ∧ CS s₁ R₁ C D m'' (ys ++ zs) R'' s'' ∧ Sub R' R'' ∧ (∀ b o, b ≠ C → b ≠ D → s'.heap.get? b = some o → s''.heap.get? b = some o) ∧
    (∀ b o, R''.get? b = some o → (R'.get? b).isSome = true ∨ s'.heap.get? b = none) ∧ Up G zs R''

section
variable {prog : Program} {w : World} {A : Around} {s s₁ : Shared} {R₁ R' : Heap} {C D I : Addr} {fp wr : List Addr} {n d : Nat} {P : Nat → Value → Prop} {St : Nat → Heap → Prop} {m : PySem.Str → Option Value} {ys : List Value}
  {elt : Expr} {gens : List Comprehension} {scope : Scope} {pos p0 px : Pos} {cenv : Env} {x : PySem.Str} {act : Sem Unit} {Rr : Result → Shared → Prop}

theorem isSome_sub {a b : Heap} {p : Addr} (s : Sub a b) (h : (a.get? p).isSome = true) : (b.get? p).isSome = true := by
  obtain ⟨o, ho⟩ := Option.isSome_iff_exists.mp h; rw [s _ _ ho]; rfl

theorem compLoop_run (J : (PySem.Str → Option Value) → Prop) (hJ0 : J m) (hJs : ∀ m' v, J m' → J (fun z => if z = x then some v else m' z)) (W : Walks prog w A I fp wr n P St) (hal : ∀ i h, St i h → ∀ b ∈ wr, (h.get? b).isSome = true) (hC : cenv.locals = C) (hx : cenv.kindOf x = some .local)
    (hp : (cenv.scope.kind == .class || (cenv.scope.kind == .module && cenv.locals != cenv.globals)) = false) (hCf : C ∉ fp) (hDf : D ∉ fp) (hDC : D ≠ C)
    (hshape : ∀ (Q : PySem.Fin → Shared → Prop) (E : Value → Shared → Prop) (s' : Shared), wpAny (model prog w) A (pyNext (.ref I)) (fun r s₂ => match r with
      | none => Q (.done .next) s₂
      | some v => wpAny (model prog w) A (assign (.Name x px) cenv v) (fun _ s₃ => wpAny (model prog w) A act (fun _ s₄ => Q (.again (.compLoop (.ListComp elt gens scope pos) d (.ref I) (.ref D) cenv)) s₄) E s₃) E s₂) E s' →
      wpAny (model prog w) A (compTurn (.ListComp elt gens scope pos) d (.ref I) (.ref D) cenv) Q E s')
    (G : Nat → List Value → Heap → Prop) (c0 : CS s₁ R₁ C D m ys R' s) (st : St 0 s.heap) (offw : ∀ b ∈ wr, R'.get? b = none) (hw1 : ∀ b ∈ wr, s₁.heap.get? b = none) (hC1 : s₁.heap.get? C = none)
    (turn : ∀ i v s' m' ys' R'', J m' → i < n → P i v → CS s₁ R₁ C D m' ys' R'' s' → Sub R' R'' → m' x = some v → (∃ zss, ys' = ys ++ zss.flatten ∧ Paired (fun i zs => Up (G i) zs R'') (List.range i) zss) →
      wpAny (model prog w) A act (fun _ s'' => CStep J s₁ R₁ C D ys' R'' s' (G i) s'') (fun _ _ => False) s')
    (fin : ∀ m' zss R'' s', J m' → CS s₁ R₁ C D m' (ys ++ zss.flatten) R'' s' → Sub R' R'' → (∀ b o, b ≠ C → b ≠ D → b ∉ wr → s.heap.get? b = some o → s'.heap.get? b = some o) →
      (∀ b o, R''.get? b = some o → (R'.get? b).isSome = true ∨ s.heap.get? b = none) → Paired (fun i zs => Up (G i) zs R'') (List.range n) zss → Rr (.ok .next) s') :
    codeAny (model prog w) A (.compLoop (.ListComp elt gens scope pos) d (.ref I) (.ref D) cenv) Rr s := by
  have hCw : C ∉ wr := fun h => hCf (W.sub _ h)
  have hDw : D ∉ wr := fun h => hDf (W.sub _ h)
  refine codeAny_loop rfl (fun k s' => ∃ i m' zss R'', k = n + 1 - i ∧ i ≤ n ∧ J m' ∧ CS s₁ R₁ C D m' (ys ++ zss.flatten) R'' s' ∧ St i s'.heap ∧ (∀ b ∈ wr, R''.get? b = none) ∧ Sub R' R'' ∧
      (∀ b o, b ≠ C → b ≠ D → b ∉ wr → s.heap.get? b = some o → s'.heap.get? b = some o) ∧ (∀ b o, R''.get? b = some o → (R'.get? b).isSome = true ∨ s.heap.get? b = none) ∧ Paired (fun i zs => Up (G i) zs R'') (List.range i) zss) ?_ (n + 1)
    ⟨0, m, [], R', rfl, Nat.zero_le _, hJ0, by simpa using c0, st, offw, Sub.refl _, fun _ _ _ _ _ e => e, fun b o e => .inl (by rw [e]; rfl), .nil⟩
  rintro k s' ⟨i, m', zss, R'', rfl, hi, hJ, c, hst, ho, hR, hext, hfresh, hpair⟩
  show wpAny _ A ((compTurn (.ListComp elt gens scope pos) d (.ref I) (.ref D) cenv).onRaise (fun x => do noteFrame x cenv; theTreesLotGoes x)) _ _ s'
  refine wpAny_onRaise (hshape _ _ _ (wpAny_pos c.tok ?_))
  by_cases hlt : i < n
  · refine W.item i _ _ _ hlt hst fun v h₁ tk₁ hP hst₁ hk₁ htk => ?_
    have hn₁ : h₁.Ns cenv.locals m' := by rw [hC]; exact c.ns.at' fun o e => hk₁ _ o hCw e
    refine wpAny_assign_Name (wpAny_storeName_local hx hn₁ (fun h₂ hn₂ hs₂ => ?_) hp)
    rw [hC] at hn₂ hs₂
    have up₂ : ∀ b o, b ≠ C → b ∉ wr → s'.heap.get? b = some o → h₂.get? b = some o := fun b o hbC hbw e => hs₂.extBut b o hbC (hk₁ b o hbw e)
    have hR₂ : Sub R'' h₂ := fun b o e => up₂ b o (fun z => by rw [z, c.offC] at e; cases e) (fun z => by rw [ho b z] at e; cases e) (c.sub _ _ e)
    have keep₂ : Keeps s₁ { s' with heap := h₂, toks := tk₁ + 1 } := by
      obtain ⟨h', tk', rfl, e⟩ := c.keep
      exact ⟨h₂, _, rfl, fun b o q => up₂ b o (fun z => by rw [z, hC1] at q; cases q) (fun z => by rw [hw1 b z] at q; cases q) (e _ _ q)⟩
    have c₂ : CS s₁ R₁ C D (fun z => if z = x then some v else m' z) (ys ++ zss.flatten) R'' { s' with heap := h₂, toks := tk₁ + 1 } :=
      ⟨keep₂, c.acc.at fun o e => up₂ D o hDC hDw e, hn₂, c.low, hR₂, c.new, c.offC, c.offD, Nat.succ_pos _⟩
    have hst₂ : St (i + 1) h₂ := W.frame _ _ _ hst₁ fun b hb o e => hs₂.extBut b o (fun z => hCf (z ▸ hb)) e
    refine wpAny_mono (turn i v _ _ _ _ (hJs _ _ hJ) hlt hP c₂ hR (by simp) ⟨zss, rfl, hpair⟩) (fun _ s₃ q => ?_) fun _ _ q => q.elim
    obtain ⟨m₃, zs, R₃, hJ₃, c₃, hR₃, hx₃, hf₃, hg₃⟩ := q
    have alive : ∀ b ∈ wr, (h₂.get? b).isSome = true := hal _ _ hst₂
    have off₃ : ∀ b ∈ wr, R₃.get? b = none := fun b hb => by
      cases e : R₃.get? b with
      | none => rfl
      | some o =>
        rcases hf₃ b o e with q | q
        · rw [ho b hb] at q; cases q
        · have := alive b hb; rw [show h₂.get? b = none from q] at this; cases this
    refine ⟨rfl, n + 1 - (i + 1), by omega, i + 1, m₃, zss ++ [zs], R₃, rfl, hlt, hJ₃, ?_, ?_, off₃, hR.trans hR₃, ?_, ?_, ?_⟩
    · have e : ys ++ (zss ++ [zs]).flatten = ys ++ zss.flatten ++ zs := by simp
      rw [e]; exact c₃
    · exact W.frame _ _ _ hst₂ fun b hb o e => hx₃ b o (fun z => hCf (z ▸ hb)) (fun z => hDf (z ▸ hb)) e
    · exact fun b o h1 h2 h3 e => hx₃ b o h1 h2 (up₂ b o h1 h3 (hext b o h1 h2 h3 e))
    · intro b o e
      rcases hf₃ b o e with q | q
      · obtain ⟨o', ho'⟩ := Option.isSome_iff_exists.mp q
        exact hfresh b o' ho'
      · by_cases hbC : b = C
        · exfalso; rw [hbC, c₃.offC] at e; cases e
        by_cases hbD : b = D
        · exfalso; rw [hbD, c₃.offD] at e; cases e
        by_cases hbw : b ∈ wr
        · rw [off₃ b hbw] at e; cases e
        refine .inr ?_
        cases e' : s.heap.get? b with
        | none => rfl
        | some o' => have := up₂ b o' hbC hbw (hext b o' hbC hbD hbw e'); rw [show h₂.get? b = none from q] at this; cases this
    · rw [List.range_succ]
      have mono : ∀ {l : List Nat} {z : List (List Value)}, Paired (fun i zs => Up (G i) zs R'') l z → Paired (fun i zs => Up (G i) zs R₃) l z := by
        intro l z h
        induction h with
        | nil => exact .nil
        | cons a b ih => exact .cons (a.sub hR₃) ih
      exact Paired.snoc (mono hpair) hg₃
  · have hin : i = n := by omega
    subst hin
    refine W.done _ _ _ hst fun h₁ tk₁ hk₁ htk => ?_
    refine fin m' zss R'' _ hJ ?_ hR ?_ hfresh hpair
    · obtain ⟨h', tk', rfl, e⟩ := c.keep
      exact ⟨⟨h₁, _, rfl, fun b o q => hk₁ b o (fun z => by rw [hw1 b z] at q; cases q) (e _ _ q)⟩, c.acc.at fun o e => hk₁ D o hDw e, c.ns.at' fun o e => hk₁ C o hCw e, c.low,
        fun b o e => hk₁ b o (fun z => by rw [ho b z] at e; cases e) (c.sub _ _ e), c.new, c.offC, c.offD, htk⟩
    · exact fun b o h1 h2 h3 e => hk₁ b o h3 (hext b o h1 h2 h3 e)
end

end Mine

/-! P3 -/
namespace Mine

def testsOf (ifs : List Expr) (env : Env) : Sem Bool := forIn ifs true fun c r => if r = true then do let ok ← isTrue c env (eval c env); pure (ForInStep.yield ok) else pure (ForInStep.yield r)
def emitAct (ifs : List Expr) (elt : Expr) (acc : Value) (env : Env) : Sem Unit :=
  testsOf ifs env >>= fun ok => if ok = true then (eval elt env >>= fun x => call (.builtin "list.append") [acc, x] >>= fun _ => pure ()) else pure ()

theorem emit_on {prog : Program} {w : World} {A : Around} {s : Shared} {elt : Expr} {ifs : List Expr} {acc : Value} {env : Env} {Q : PySem.Fin → Shared → Prop} {E : Value → Shared → Prop} {C : Code}
    (h : wpAny (model prog w) A (emitAct ifs elt acc env) (fun _ s₄ => Q (.again C) s₄) E s) :
    wpAny (model prog w) A (testsOf ifs env >>= fun ok => if ok = true then ((do let _ ← call (.builtin "list.append") [acc, ← eval elt env]) >>= fun _ => again C) else again C) Q E s := by
  intro Γ p hΓ
  have h' := h Γ p hΓ
  unfold emitAct at h'
  rw [Sem.wp_bind'] at h' ⊢
  refine Sem.wp_mono _ _ _ (fun ok p' s' q => ?_) (fun _ _ _ e => e) _ _ h'
  cases ok with
  | false => exact q
  | true =>
    simp only [if_true] at q ⊢
    rw [Sem.wp_bind']
    exact q
section
variable {prog : Program} {w : World} {A : Around} {s : Shared} {elt iter iter2 : Expr} {x y : PySem.Str} {px py : Pos} {ifs ifs0 : List Expr} {scope : Scope} {pos : Pos} {I D : Addr} {env : Env}
  {Q : PySem.Fin → Shared → Prop} {E : Value → Shared → Prop}

theorem shape1 (h : wpAny (model prog w) A (pyNext (.ref I)) (fun r s₂ => match r with
      | none => Q (.done .next) s₂
      | some v => wpAny (model prog w) A (assign (.Name x px) env v) (fun _ s₃ => wpAny (model prog w) A (emitAct ifs elt (.ref D) env) (fun _ s₄ => Q (.again (.compLoop (.ListComp elt [⟨.Name x px, iter, ifs, 0⟩] scope pos) 0 (.ref I) (.ref D) env)) s₄) E s₃) E s₂) E s) :
    wpAny (model prog w) A (compTurn (.ListComp elt [⟨.Name x px, iter, ifs, 0⟩] scope pos) 0 (.ref I) (.ref D) env) Q E s := by
  rw [compTurn_list]
  refine wpAny_bind (wpAny_standAt (wpAny_bind (wpAny_mono h (fun r s₁ h₁ => ?_) fun _ _ e => e)))
  cases r with
  | none => exact wpAny_pure h₁
  | some v =>
    refine wpAny_bind (wpAny_of_eq rfl (wpAny_bind (wpAny_mono h₁ (fun _ s₂ h₂ => ?_) fun _ _ e => e)))
    exact emit_on h₂

theorem shape2b (h : wpAny (model prog w) A (pyNext (.ref I)) (fun r s₂ => match r with
      | none => Q (.done .next) s₂
      | some v => wpAny (model prog w) A (assign (.Name y py) env v) (fun _ s₃ => wpAny (model prog w) A (emitAct ifs elt (.ref D) env) (fun _ s₄ => Q (.again (.compLoop (.ListComp elt [⟨.Name x px, iter, ifs0, 0⟩, ⟨.Name y py, iter2, ifs, 0⟩] scope pos) 1 (.ref I) (.ref D) env)) s₄) E s₃) E s₂) E s) :
    wpAny (model prog w) A (compTurn (.ListComp elt [⟨.Name x px, iter, ifs0, 0⟩, ⟨.Name y py, iter2, ifs, 0⟩] scope pos) 1 (.ref I) (.ref D) env) Q E s := by
  show wpAny _ _ (standAt iter2.pos >>= fun _ => pyNext (.ref I) >>= _) _ _ _
  refine wpAny_bind (wpAny_standAt (wpAny_bind (wpAny_mono h (fun r s₁ h₁ => ?_) fun _ _ e => e)))
  cases r with
  | none => exact wpAny_pure h₁
  | some v =>
    refine wpAny_bind (wpAny_of_eq rfl (wpAny_bind (wpAny_mono h₁ (fun _ s₂ h₂ => ?_) fun _ _ e => e)))
    exact emit_on h₂

def nestAct (e iter2 : Expr) (acc : Value) (env : Env) : Sem Unit :=
  eval iter2 env >>= fun x => standAt iter2.pos >>= fun _ => foldedSetIterable iter2 env x >>= fun x => holding [x] (pyIter x) >>= fun it2 => runOwn (.compStart e 1 it2 acc env) env >>= fun _ => pure ()
theorem shape2a (h : wpAny (model prog w) A (pyNext (.ref I)) (fun r s₂ => match r with
      | none => Q (.done .next) s₂
      | some v => wpAny (model prog w) A (assign (.Name x px) env v) (fun _ s₃ => wpAny (model prog w) A (nestAct (.ListComp elt [⟨.Name x px, iter, [], 0⟩, ⟨.Name y py, iter2, ifs, 0⟩] scope pos) iter2 (.ref D) env) (fun _ s₄ =>
          Q (.again (.compLoop (.ListComp elt [⟨.Name x px, iter, [], 0⟩, ⟨.Name y py, iter2, ifs, 0⟩] scope pos) 0 (.ref I) (.ref D) env)) s₄) E s₃) E s₂) E s) :
    wpAny (model prog w) A (compTurn (.ListComp elt [⟨.Name x px, iter, [], 0⟩, ⟨.Name y py, iter2, ifs, 0⟩] scope pos) 0 (.ref I) (.ref D) env) Q E s := by
  show wpAny _ _ (standAt iter.pos >>= fun _ => pyNext (.ref I) >>= _) _ _ _
  refine wpAny_bind (wpAny_standAt (wpAny_bind (wpAny_mono h (fun r s₁ h₁ => ?_) fun _ _ e => e)))
  cases r with
  | none => exact wpAny_pure h₁
  | some v =>
    refine wpAny_bind (wpAny_of_eq rfl (wpAny_bind (wpAny_mono h₁ (fun _ s₂ h₂ => ?_) fun _ _ e => e)))
    intro Γ p hΓ
    have h' := h₂ Γ p hΓ
    unfold nestAct at h'
    refine (?_ : Sem.wp _ _ (eval iter2 env >>= _) _ _ _ _)
    rw [Sem.wp_bind'] at h' ⊢
    refine Sem.wp_mono _ _ _ (fun xv p' s' q => ?_) (fun _ _ _ e => e) _ _ h'
    show Sem.wp _ _ (standAt iter2.pos >>= fun _ => foldedSetIterable iter2 env xv >>= fun z => holding [z] (pyIter z) >>= fun it2 =>
      runOwn (.compStart (.ListComp elt [⟨.Name x px, iter, [], 0⟩, ⟨.Name y py, iter2, ifs, 0⟩] scope pos) 1 it2 (.ref D) env) env >>= fun _ => again (.compLoop (.ListComp elt [⟨.Name x px, iter, [], 0⟩, ⟨.Name y py, iter2, ifs, 0⟩] scope pos) 0 (.ref I) (.ref D) env)) _ _ _ _
    simp only [Sem.wp_bind'] at q ⊢
    exact q

end
end Mine

/-! P4 -/
namespace Mine

section
variable {prog : Program} {w : World} {A : Around} {V : View} {s' s₁ : Shared} {R R₁ R'' : Heap} {C D : Addr} {m' : PySem.Str → Option Value} {ys' : List Value} {elt : Expr} {ifs : List Expr} {cenv : Env} {b : Bool} {F : Value → Heap → Prop}

theorem off_fr {R : Heap} {s s' : Shared} {a : Addr} (h : R.get? a = none) (ha : (s.heap.get? a).isSome = true) : (fr R s s').get? a = none := by
  cases e : (fr R s s').get? a with
  | none => rfl
  | some o =>
    rcases (fr_get.mp e).2 with q | q
    · rw [h] at q; cases q
    · rw [q] at ha; cases ha
theorem none_of_keeps {s s' : Shared} {a : Addr} (k : Keeps s s') (h : s'.heap.get? a = none) : s.heap.get? a = none := by
  cases e : s.heap.get? a with
  | none => rfl
  | some o => rw [keeps_sub k _ _ e] at h; cases h
theorem plainList_keeps {h h' : Heap} {D : Addr} {ys : Array Value} (x : h.PlainList D ys) (s : Sub h h') : h'.PlainList D ys := x.at fun o e => s _ _ e

theorem emit_step {J : (PySem.Str → Option Value) → Prop} (hJ : J m') (hV : V.p s'.heap) (c : CS s₁ R₁ C D m' ys' R'' s') (hDC : D ≠ C) (hD1 : s₁.heap.get? D = none) (hz : ys'.length ≤ sizeLine)
    (ht : Ev prog w A (V.and (View.ns C m')) R'' (testsOf ifs cenv) (Is b)) (he : b = true → Ev prog w A (V.and (View.ns C m')) R'' (eval elt cenv) F) :
    wpAny (model prog w) A (emitAct ifs elt (.ref D) cenv) (fun _ s'' => CStep J s₁ R₁ C D ys' R'' s' (fun zs h => if b = true then ∃ y, zs = [y] ∧ F y h else zs = []) s'') (fun _ _ => False) s' := by
  have hCal : ∀ s2, Keeps s' s2 → (s2.heap.get? C).isSome = true := fun s2 k => by
    obtain ⟨o, es, ep, ho, _⟩ := c.ns; rw [keeps_sub k _ _ ho]; rfl
  have hDal : ∀ s2, Keeps s' s2 → (s2.heap.get? D).isSome = true := fun s2 k => by
    obtain ⟨n, ho⟩ := c.acc; rw [keeps_sub k _ _ ho]; rfl
  unfold emitAct
  refine wpAny_bind (ht.use c.sub ⟨hV, c.ns⟩ c.tok fun ok s2 k2 t2 p2 => ?_)
  cases p2
  cases hb : b with
  | false =>
    simp only [Bool.false_eq_true, if_false]
    refine wpAny_pure ⟨m', [], R'', hJ, ?_, Sub.refl _, fun b o _ _ e => keeps_sub k2 _ _ e, fun b o e => .inl (by rw [e]; rfl), fun _ _ => rfl⟩
    rw [List.append_nil]
    exact ⟨keeps_trans c.keep k2, plainList_keeps c.acc (keeps_sub k2), ns_sub c.ns (keeps_sub k2), c.low, c.sub.trans (keeps_sub k2), c.new, c.offC, c.offD, t2⟩
  | true =>
    simp only [if_true]
    refine wpAny_bind (he hb _ _ s2 (c.sub.trans (keeps_sub k2)) ⟨V.up _ _ (keeps_sub k2) hV, ns_sub c.ns (keeps_sub k2)⟩ t2 fun y s3 k3 t3 p3 => ?_)
    have k23 := keeps_trans k2 k3
    have hz' : ys'.toArray.size ≤ sizeLine := by simpa using hz
    refine wpAny_bind (wpAny_list_append_plain (hsz := hz') (plainList_keeps c.acc (keeps_sub k23)) fun h4 hl4 hs4 => wpAny_pure ?_)
    have offC3 : (fr R'' s2 s3).get? C = none := off_fr c.offC (hCal s2 k2)
    have offD3 : (fr R'' s2 s3).get? D = none := off_fr c.offD (hDal s2 k2)
    refine ⟨m', [y], fr R'' s2 s3, hJ, ⟨?_, ?_, ?_, ?_, ?_, ?_, offC3, offD3, t3⟩, sub_fr (c.sub.trans (keeps_sub k2)) k3, ?_, ?_, ?_⟩
    · obtain ⟨h3, t3, rfl, e3⟩ := keeps_trans c.keep k23
      exact ⟨h4, _, rfl, fun b o e => hs4.extBut b o (fun z => by rw [z, hD1] at e; cases e) (e3 _ _ e)⟩
    · have e : (ys' ++ [y]).toArray = ys'.toArray.push y := by simp
      rw [e]; exact hl4
    · exact (ns_sub c.ns (keeps_sub k23)).sameBut hs4 hDC.symm
    · exact c.low.trans (sub_fr (c.sub.trans (keeps_sub k2)) k3)
    · exact fun b o e => hs4.extBut b o (fun z => by rw [z, offD3] at e; cases e) (fr_sub _ _ e)
    · intro b o e
      rcases (fr_get.mp e).2 with q | q
      · obtain ⟨o', ho'⟩ := Option.isSome_iff_exists.mp q
        exact c.new b o' ho'
      · exact .inr (none_of_keeps (keeps_trans c.keep k2) q)
    · exact fun b o h1 h2 e => hs4.extBut b o h2 (keeps_sub k23 _ _ e)
    · intro b o e
      rcases (fr_get.mp e).2 with q | q
      · exact .inl q
      · exact .inr (none_of_keeps k2 q)
    · exact fun g z => ⟨y, rfl, p3 g z⟩
end

theorem flat_paired {p : Nat → Bool} {F : Nat → Value → Heap → Prop} {h : Heap} : ∀ {l : List Nat} {zss : List (List Value)}, Paired (fun i zs => Up (fun zs h => if p i = true then ∃ y, zs = [y] ∧ F i y h else zs = []) zs h) l zss → ∀ g, Sub h g →
    Paired (fun i y => F i y g) (l.filter p) zss.flatten := by
  intro l zss hp g z
  induction hp with
  | nil => exact .nil
  | cons a b ih =>
    rename_i i zs l₁ l₂
    have a' := a g z
    dsimp only at a'
    by_cases hi : p i = true
    · rw [if_pos hi] at a'
      obtain ⟨y, rfl, hy⟩ := a'
      rw [List.filter_cons_of_pos hi]
      exact .cons hy ih
    · rw [if_neg hi] at a'
      subst a'
      rw [List.filter_cons_of_neg hi]
      exact ih
theorem flat_len {p : Nat → Bool} {F : Nat → Value → Heap → Prop} {h : Heap} {l : List Nat} {zss : List (List Value)} (hp : Paired (fun i zs => Up (fun zs h => if p i = true then ∃ y, zs = [y] ∧ F i y h else zs = []) zs h) l zss) : zss.flatten.length ≤ l.length := by
  induction hp with
  | nil => simp
  | cons a b ih =>
    rename_i i zs l₁ l₂
    have a' := a h (Sub.refl _)
    dsimp only at a'
    by_cases hi : p i = true
    · rw [if_pos hi] at a'
      obtain ⟨y, rfl, hy⟩ := a'
      rw [List.flatten_cons, List.length_append, List.length_singleton, List.length_cons]; omega
    · rw [if_neg hi] at a'
      subst a'
      rw [List.flatten_cons, List.length_append, List.length_nil, List.length_cons]; omega

end Mine

/-! P5 -/
namespace Mine

theorem paired_up {α : Type} {G : Nat → α → Heap → Prop} {h g : Heap} (hs : Sub h g) : ∀ {l : List Nat} {zss : List α}, Paired (fun i zs => Up (G i) zs h) l zss → Paired (fun i zs => G i zs g) l zss := by
  intro l zss hp
  induction hp with
  | nil => exact .nil
  | cons a b ih => exact .cons (a g hs) ih

section
variable {prog : Program} {w : World} {A : Around} {V : View} {R : Heap} {env : Env} {elt iter iter2 : Expr} {x y : PySem.Str} {px py pos : Pos} {ifs : List Expr} {scope : Scope} {cl : List (PySem.Str × Addr)} {PX : Value → Heap → Prop}

theorem codeAny_compStart {gens : List Comprehension} {d : Nat} {it acc : Value} {cenv : Env} {Rr : Result → Shared → Prop} {s : Shared} (hg : ((clausesOf (.ListComp elt gens scope pos))[d]?).elim false (·.is_async != 0) = false)
    (h0 : codeAny (model prog w) A (.compLoop (.ListComp elt gens scope pos) d it acc cenv) Rr s)
    (h : wpAny (model prog w) A (pyIter it) (fun it' s' => codeAny (model prog w) A (.compLoop (.ListComp elt gens scope pos) d it' acc cenv) Rr s') (fun _ _ => False) s) :
    codeAny (model prog w) A (.compStart (.ListComp elt gens scope pos) d it acc cenv) Rr s := by
  refine codeAny_of_tree ?_
  show wpAny _ A ((compStart (.ListComp elt gens scope pos) d it acc cenv).onRaise (fun x => do noteFrame x cenv; standAt theWindowsPlace)) _ _ s
  refine wpAny_onRaise ?_
  unfold compStart
  rw [hg]
  simp only [Bool.false_eq_true, if_false]
  refine wpAny_bind (wpAny_askSetting (wpAny_ite ?_))
  split
  · first
      | exact wpAny_bind (wpAny_pure (wpAny_pure (And.intro rfl h0)))
      | exact wpAny_pure (And.intro rfl h0)
  · refine wpAny_bind (wpAny_rule ?_)
    cases (clausesOf (.ListComp elt gens scope pos))[d]? with
    | none => exact wpAny_bind (wpAny_mono h (fun it' s' h' => wpAny_pure (And.intro rfl h')) fun _ _ z => z.elim)
    | some g => exact wpAny_bind (wpAny_standAt (wpAny_bind (wpAny_mono h (fun it' s' h' => wpAny_pure (And.intro rfl h')) fun _ _ z => z.elim)))

/-- `[elt for x in iter if ..]` -/
theorem evComp1 {n : Nat} {P : Nat → Value → Prop} (p : Nat → Bool) (F : Nat → Value → Heap → Prop) (hclos : closureFor scope env = pure cl) (hcell : ∀ z ∈ scope.names, z.2 ≠ .cell) (hkind : scope.kind = .function)
    (hnames : ∀ z ∈ scope.names, z.2 = .local → scope.names.lookup z.1 = some .local) (hx : scope.names.lookup x = some .local)
    (hit : Ev prog w A V R (eval iter env) PX) (hI : ∀ xv R1, Sub R R1 → PX xv R1 → Iters prog w A R1 xv n P) (hsz : n ≤ sizeLine)
    (ht : ∀ C i v m R1, Sub R R1 → i < n → P i v → m x = some v → Ev prog w A (V.and (View.ns C m)) R1 (testsOf ifs (compEnvC scope cl C env)) (Is (p i)))
    (he : ∀ C i v m R1, Sub R R1 → i < n → P i v → m x = some v → p i = true → Ev prog w A (V.and (View.ns C m)) R1 (eval elt (compEnvC scope cl C env)) (F i))
    (hs : ∀ z, foldedSetIterable iter env z = pure z := by intro _; rfl) :
    Ev prog w A V R (eval (.ListComp elt [⟨.Name x px, iter, ifs, 0⟩] scope pos) env) (fun a h => ∃ l ys, a = .ref l ∧ h.IsList l ys.toArray ∧ Paired (fun i y => F i y h) ((List.range n).filter p) ys) := Ev.mk fun Q E s hs0 hv0 ht0 hQ => by
  rw [eval_ListComp]
  refine wpAny_comprehension_free (use := none) rfl hs hclos hkind hnames (hit _ _ s hs0 hv0 ht0 fun xv s₁ k1 tp1 p1 => ?_)
  have hR1 : Sub (fr R s s₁) s₁.heap := fr_sub
  have hv1 : V.p s₁.heap := View.keeps hv0 k1
  refine wpAny_pos tp1 ?_
  refine hI xv _ (sub_fr hs0 k1) p1.here _ _ s₁ hR1 fun I fp wr St s₂ k2 W hst hwr hfp hal tp2 => ?_
  -- the list and the variables
  refine wpAny_newObj_type (wpAny_newFunctionEnv hcell (by intro z hz; simp at hz) (fun h₁ hns₁ hsb₁ => ?_) hkind)
  dsimp only at hns₁ hsb₁ ⊢
  generalize hH2 : s₂.heap.push { cls := .type "list", dict := none, data := .seq ([] : List Value).toArray } = H2 at hns₁ hsb₁ ⊢
  have hC : H2.objs.size = s₂.heap.objs.size + 1 := by rw [← hH2, Heap.size_push]
  have hDC : s₂.heap.objs.size ≠ H2.objs.size := by rw [hC]; exact Nat.ne_of_lt (Nat.lt_succ_self _)
  have old : Sub s₂.heap h₁ := fun b o e => hsb₁.extBut b o (by rw [hC]; exact Nat.ne_of_lt (Nat.lt_succ_of_lt (Heap.lt_size e))) (Heap.get?_push_of_some _ (hH2 ▸ Heap.get?_push_of_some _ e))
  have hacc : h₁.PlainList s₂.heap.objs.size #[] := ⟨_, hsb₁.extBut _ _ hDC (Heap.get?_push_of_some _ (hH2 ▸ Heap.get?_push_size _ rfl))⟩
  have hD2 : s₂.heap.get? s₂.heap.objs.size = none := fresh_none _ (Nat.le_refl _)
  have hC2 : s₂.heap.get? H2.objs.size = none := fresh_none _ (by rw [hC]; exact Nat.le_succ _)
  have k12 : Sub s₁.heap s₂.heap := keeps_sub k2
  have hD1 : s₁.heap.get? s₂.heap.objs.size = none := none_of_keeps k2 hD2
  have hC1 : s₁.heap.get? H2.objs.size = none := none_of_keeps k2 hC2
  have hCf : H2.objs.size ∉ fp := fun hm => by have := (hfp _ hm).2; rw [hC] at this; exact Nat.lt_irrefl _ (Nat.lt_of_succ_lt this)
  have hDf : s₂.heap.objs.size ∉ fp := fun hm => Nat.lt_irrefl _ (hfp _ hm).2
  have hRs : ∀ a, s₁.heap.get? a = none → (fr R s s₁).get? a = none := fun a ha => by
    cases e : (fr R s s₁).get? a with
    | none => rfl
    | some o => rw [hR1 _ _ e] at ha; cases ha
  have c0 : CS s₁ (fr R s s₁) H2.objs.size s₂.heap.objs.size (fun x => ([] : List (PySem.Str × Value)).reverse.lookup x) [] (fr R s s₁) { s₂ with heap := h₁, toks := s₂.toks + ([] : List (PySem.Str × Value)).length } := by
    refine ⟨?_, hacc, hns₁, Sub.refl _, fun b o e => old _ _ (k12 _ _ (hR1 _ _ e)), fun b o e => .inl (by rw [e]; rfl), hRs _ hC1, hRs _ hD1, tp2⟩
    obtain ⟨h2, t2, rfl, e2⟩ := k2
    exact ⟨h₁, _, rfl, fun b o e => old _ _ (e2 _ _ e)⟩
  have loop : ∀ s₃ : Shared, s₃ = { s₂ with heap := h₁, toks := s₂.toks + ([] : List (PySem.Str × Value)).length } →
      codeAny (model prog w) A (.compLoop (.ListComp elt [⟨.Name x px, iter, ifs, 0⟩] scope pos) 0 (.ref I) (.ref s₂.heap.objs.size) (compEnvC scope cl H2.objs.size env))
        (compPost (model prog w) A E none Q (.ref s₂.heap.objs.size) H2.objs.size) s₃ := by
    rintro s₃ rfl
    refine compLoop_run (fun _ => True) trivial (fun _ _ _ => trivial) (C := H2.objs.size) (D := s₂.heap.objs.size) (cenv := compEnvC scope cl H2.objs.size env) (x := x) (px := px) (act := emitAct ifs elt (.ref s₂.heap.objs.size) (compEnvC scope cl H2.objs.size env)) W (fun i h x b hb => hal i h x b (W.sub b hb)) rfl (lookup_relabel_local hx) (by simp [compEnvC, relabel, hkind])
      hCf hDf hDC (fun Q' E' s' h => shape1 h) (fun i zs h => if p i = true then ∃ y, zs = [y] ∧ F i y h else zs = []) c0 (W.frame _ _ _ hst fun b _ o e => old b o e)
      (fun b hb => hRs _ (hwr b hb)) hwr hC1 ?_ ?_
    · intro i v s' m' ys' R'' _ hi hP c hR hm hys
      have hz : ys'.length ≤ sizeLine := by
        obtain ⟨zss, rfl, hp⟩ := hys
        have := flat_len hp
        rw [List.length_range] at this
        rw [List.nil_append]; omega
      refine emit_step trivial (V.up _ _ (keeps_sub c.keep) hv1) c hDC hD1 hz (ht _ i v m' R'' ((sub_fr hs0 k1).trans c.low) hi hP hm) fun hpi => he _ i v m' R'' ((sub_fr hs0 k1).trans c.low) hi hP hm hpi
    · intro m' zss R'' s' _ c hR _ hfresh hp
      refine ⟨m', c.ns, fun h' hs' => ?_⟩
      have hk : Keeps s₁ { s' with heap := h' } := by
        obtain ⟨h3, t3, rfl, e3⟩ := c.keep
        exact ⟨h', _, rfl, fun b o e => hs'.extBut b o (fun z => by rw [z, hC1] at e; cases e) (e3 _ _ e)⟩
      refine hQ _ _ (keeps_trans k1 hk) fun g z => ?_
      have hRg : Sub R'' g := fun b o e => z _ _ (fr_get.mpr ⟨hs'.extBut b o (fun z => by rw [z, c.offC] at e; cases e) (c.sub _ _ e), by
        rcases c.new b o e with q | q
        · obtain ⟨o', ho'⟩ := Option.isSome_iff_exists.mp q
          exact (fr_get.mp ho').2
        · exact .inr (none_of_keeps k1 q)⟩)
      refine ⟨_, zss.flatten, rfl, ?_, flat_paired hp g hRg⟩
      have hl : h'.IsList s₂.heap.objs.size ([] ++ zss.flatten).toArray := (c.acc.at fun o e => hs'.extBut _ _ hDC e).isList
      rw [List.nil_append] at hl
      obtain ⟨o, ho, r⟩ := hl
      exact ⟨o, z _ _ (fr_get.mpr ⟨ho, .inr (none_of_keeps k1 hD1)⟩), r⟩
  exact codeAny_compStart_list (loop _ rfl) (W.self 0 _ _ _ (W.frame _ _ _ hst fun b _ o e => old b o e) (loop _ rfl))

/-- `[elt for x in iter for y in iter2 if ..]` -/
theorem comp2_raw {n n2 : Nat} {P P2 : Nat → Value → Prop} {PY : Value → Heap → Prop} (p : Nat → Nat → Bool) (F : Nat → Nat → Value → Heap → Prop) (hclos : closureFor scope env = pure cl) (hcell : ∀ z ∈ scope.names, z.2 ≠ .cell) (hkind : scope.kind = .function)
    (hnames : ∀ z ∈ scope.names, z.2 = .local → scope.names.lookup z.1 = some .local) (hx : scope.names.lookup x = some .local) (hy : scope.names.lookup y = some .local) (hxy : x ≠ y)
    (hit : Ev prog w A V R (eval iter env) PX) (hI : ∀ xv R1, Sub R R1 → PX xv R1 → Iters prog w A R1 xv n P) (hsz : n * n2 ≤ sizeLine)
    (hit2 : ∀ C i v m R1, Sub R R1 → i < n → P i v → m x = some v → Ev prog w A (V.and (View.ns C m)) R1 (eval iter2 (compEnvC scope cl C env)) PY)
    (hI2 : ∀ yv R1, Sub R R1 → PY yv R1 → Iters prog w A R1 yv n2 P2)
    (ht : ∀ C i v j u m R1, Sub R R1 → i < n → P i v → j < n2 → P2 j u → m x = some v → m y = some u → Ev prog w A (V.and (View.ns C m)) R1 (testsOf ifs (compEnvC scope cl C env)) (Is (p i j)))
    (he : ∀ C i v j u m R1, Sub R R1 → i < n → P i v → j < n2 → P2 j u → m x = some v → m y = some u → p i j = true → Ev prog w A (V.and (View.ns C m)) R1 (eval elt (compEnvC scope cl C env)) (F i j))
    (hs : ∀ z, foldedSetIterable iter env z = pure z := by intro _; rfl) (hs2 : ∀ C z, foldedSetIterable iter2 (compEnvC scope cl C env) z = pure z := by intro _ _; rfl)
    {use : Option (Value → Sem Unit)} {Q : Value → Shared → Prop} {E : Value → Shared → Prop} {s : Shared} {cpos : Pos} (hs0 : Sub R s.heap) (hv0 : V.p s.heap) (ht0 : 0 < s.toks)
    (hQ : ∀ r D C s' R'' zss m', s.heap.get? C = none → s.heap.get? D = none → D ≠ C → s'.heap.Ns C m' → Keeps s s' → 0 < s'.toks → Sub R R'' → Sub R'' s'.heap → R''.get? C = none → R''.get? D = none →
      (∀ b o, R''.get? b = some o → (R.get? b).isSome = true ∨ s.heap.get? b = none) → s'.heap.PlainList D (List.flatten zss).toArray →
      (∀ g, Sub R'' g → Paired (fun i zs => Paired (fun j y => F i j y g) ((List.range n2).filter (p i)) zs) (List.range n) zss) → compPost (model prog w) A E use Q (.ref D) C (.ok r) s') :
    wpAny (model prog w) A (comprehension (.ListComp elt [⟨.Name x px, iter, [], 0⟩, ⟨.Name y py, iter2, ifs, 0⟩] scope pos) scope env cpos (newList []) false (eval iter env) use) Q E s := by
  refine wpAny_comprehension_free (use := use) rfl hs hclos hkind hnames (hit _ _ s hs0 hv0 ht0 fun xv s₁ k1 tp1 p1 => ?_)
  have hR1 : Sub (fr R s s₁) s₁.heap := fr_sub
  have hv1 : V.p s₁.heap := View.keeps hv0 k1
  refine wpAny_pos tp1 ?_
  refine hI xv _ (sub_fr hs0 k1) p1.here _ _ s₁ hR1 fun I fp wr St s₂ k2 W hst hwr hfp hal tp2 => ?_
  refine wpAny_newObj_type (wpAny_newFunctionEnv hcell (by intro z hz; simp at hz) (fun h₁ hns₁ hsb₁ => ?_) hkind)
  dsimp only at hns₁ hsb₁ ⊢
  generalize hH2 : s₂.heap.push { cls := .type "list", dict := none, data := .seq ([] : List Value).toArray } = H2 at hns₁ hsb₁ ⊢
  have hC : H2.objs.size = s₂.heap.objs.size + 1 := by rw [← hH2, Heap.size_push]
  have hDC : s₂.heap.objs.size ≠ H2.objs.size := by rw [hC]; exact Nat.ne_of_lt (Nat.lt_succ_self _)
  have old : Sub s₂.heap h₁ := fun b o e => hsb₁.extBut b o (by rw [hC]; exact Nat.ne_of_lt (Nat.lt_succ_of_lt (Heap.lt_size e))) (Heap.get?_push_of_some _ (hH2 ▸ Heap.get?_push_of_some _ e))
  have hacc : h₁.PlainList s₂.heap.objs.size #[] := ⟨_, hsb₁.extBut _ _ hDC (Heap.get?_push_of_some _ (hH2 ▸ Heap.get?_push_size _ rfl))⟩
  have hD2 : s₂.heap.get? s₂.heap.objs.size = none := fresh_none _ (Nat.le_refl _)
  have hC2 : s₂.heap.get? H2.objs.size = none := fresh_none _ (by rw [hC]; exact Nat.le_succ _)
  have k12 : Sub s₁.heap s₂.heap := keeps_sub k2
  have hD1 : s₁.heap.get? s₂.heap.objs.size = none := none_of_keeps k2 hD2
  have hC1 : s₁.heap.get? H2.objs.size = none := none_of_keeps k2 hC2
  have hCf : H2.objs.size ∉ fp := fun hm => by have := (hfp _ hm).2; rw [hC] at this; exact Nat.lt_irrefl _ (Nat.lt_of_succ_lt this)
  have hDf : s₂.heap.objs.size ∉ fp := fun hm => Nat.lt_irrefl _ (hfp _ hm).2
  have hRs : ∀ a, s₁.heap.get? a = none → (fr R s s₁).get? a = none := fun a ha => by
    cases e : (fr R s s₁).get? a with
    | none => rfl
    | some o => rw [hR1 _ _ e] at ha; cases ha
  have c0 : CS s₁ (fr R s s₁) H2.objs.size s₂.heap.objs.size (fun x => ([] : List (PySem.Str × Value)).reverse.lookup x) [] (fr R s s₁) { s₂ with heap := h₁, toks := s₂.toks + ([] : List (PySem.Str × Value)).length } := by
    refine ⟨?_, hacc, hns₁, Sub.refl _, fun b o e => old _ _ (k12 _ _ (hR1 _ _ e)), fun b o e => .inl (by rw [e]; rfl), hRs _ hC1, hRs _ hD1, tp2⟩
    obtain ⟨h2, t2, rfl, e2⟩ := k2
    exact ⟨h₁, _, rfl, fun b o e => old _ _ (e2 _ _ e)⟩
  let G : Nat → List Value → Heap → Prop := fun i zs h => Paired (fun j y => F i j y h) ((List.range n2).filter (p i)) zs
  have plen : ∀ {l : List Nat} {zss : List (List Value)} {h : Heap}, Paired (fun i zs => Up (G i) zs h) l zss → zss.flatten.length ≤ l.length * n2 := by
    intro l zss h hp
    induction hp with
    | nil => simp
    | cons a b ih =>
      rename_i i zs l₁ l₂
      have ha := (a.here).length
      have hf : ((List.range n2).filter (p i)).length ≤ n2 := by
        have := List.length_filter_le (p i) (List.range n2); rwa [List.length_range] at this
      rw [List.flatten_cons, List.length_append, List.length_cons, Nat.succ_mul]
      omega
  have loop : ∀ s₃ : Shared, s₃ = { s₂ with heap := h₁, toks := s₂.toks + ([] : List (PySem.Str × Value)).length } →
      codeAny (model prog w) A (.compLoop (.ListComp elt [⟨.Name x px, iter, [], 0⟩, ⟨.Name y py, iter2, ifs, 0⟩] scope pos) 0 (.ref I) (.ref s₂.heap.objs.size) (compEnvC scope cl H2.objs.size env))
        (compPost (model prog w) A E use Q (.ref s₂.heap.objs.size) H2.objs.size) s₃ := by
    rintro s₃ rfl
    refine compLoop_run (fun _ => True) trivial (fun _ _ _ => trivial) (C := H2.objs.size) (D := s₂.heap.objs.size) (cenv := compEnvC scope cl H2.objs.size env) (x := x) (px := px)
      (act := nestAct (.ListComp elt [⟨.Name x px, iter, [], 0⟩, ⟨.Name y py, iter2, ifs, 0⟩] scope pos) iter2 (.ref s₂.heap.objs.size) (compEnvC scope cl H2.objs.size env)) W (fun i h x b hb => hal i h x b (W.sub b hb)) rfl (lookup_relabel_local hx) (by simp [compEnvC, relabel, hkind])
      hCf hDf hDC (fun Q' E' s' h => shape2a h) G c0 (W.frame _ _ _ hst fun b _ o e => old b o e)
      (fun b hb => hRs _ (hwr b hb)) hwr hC1 ?_ ?_
    · intro i v s' m' ys' R'' _ hi hP c hR hm hys
      have hRR := (sub_fr hs0 k1).trans c.low
      have hvs : V.p s'.heap := V.up _ _ (keeps_sub c.keep) hv1
      have hylen : ys'.length ≤ i * n2 := by
        obtain ⟨zss, rfl, hp⟩ := hys
        have := plen hp
        rw [List.length_range] at this
        rw [List.nil_append]; exact this
      have hiz : (i + 1) * n2 ≤ n * n2 := Nat.mul_le_mul_right _ hi
      have hCal : ∀ s2, Keeps s' s2 → (s2.heap.get? H2.objs.size).isSome = true := fun s2 k => by
        obtain ⟨o, es, ep, ho, _⟩ := c.ns; rw [keeps_sub k _ _ ho]; rfl
      have hDal : ∀ s2, Keeps s' s2 → (s2.heap.get? s₂.heap.objs.size).isSome = true := fun s2 k => by
        obtain ⟨n, ho⟩ := c.acc; rw [keeps_sub k _ _ ho]; rfl
      unfold nestAct
      refine wpAny_bind (hit2 H2.objs.size i v m' R'' hRR hi hP hm _ _ s' c.sub ⟨hvs, c.ns⟩ c.tok fun yv sa ka tpa pa => ?_)
      refine wpAny_bind (wpAny_standAt (wpAny_bind (wpAny_of_eq (hs2 _ _) (wpAny_bind (wpAny_holding ?_)))))
      have hRa : Sub R'' (fr R'' s' sa) := sub_fr c.sub ka
      refine wpAny_pos tpa ?_
      refine hI2 yv _ (hRR.trans hRa) pa.here _ _ sa fr_sub fun I2 fp2 wr2 St2 sb kb W2 hst2 hwr2 hfp2 hal2 tpb => ?_
      have kab := keeps_trans ka kb
      have ra : ∀ b o, (fr R'' s' sa).get? b = some o → ((fr R s s₁).get? b).isSome = true ∨ s₁.heap.get? b = none := fun b o e => by
        rcases (fr_get.mp e).2 with q | q
        · obtain ⟨o', ho'⟩ := Option.isSome_iff_exists.mp q
          exact c.new b o' ho'
        · exact .inr (none_of_keeps c.keep q)
      have offCa : (fr R'' s' sa).get? H2.objs.size = none := off_fr c.offC (hCal s' (keeps_refl _))
      have offDa : (fr R'' s' sa).get? s₂.heap.objs.size = none := off_fr c.offD (hDal s' (keeps_refl _))
      have cb : CS s₁ (fr R s s₁) H2.objs.size s₂.heap.objs.size m' ys' (fr R'' s' sa) sb :=
        ⟨keeps_trans c.keep kab, plainList_keeps c.acc (keeps_sub kab), ns_sub c.ns (keeps_sub kab), c.low.trans hRa, fr_sub.trans (keeps_sub kb), ra, offCa, offDa, tpb⟩
      have hCf2 : H2.objs.size ∉ fp2 := fun hm => by
        rcases (hfp2 _ hm).1 with q | q
        · rw [offCa] at q; cases q
        · have := hCal sa ka; rw [q] at this; cases this
      have hDf2 : s₂.heap.objs.size ∉ fp2 := fun hm => by
        rcases (hfp2 _ hm).1 with q | q
        · rw [offDa] at q; cases q
        · have := hDal sa ka; rw [q] at this; cases this
      have offw2 : ∀ b ∈ wr2, (fr R'' s' sa).get? b = none := fun b hb => by
        cases e : (fr R'' s' sa).get? b with
        | none => rfl
        | some o => have := hwr2 b hb; rw [fr_sub _ _ e] at this; cases this
      have inner : codeAny (model prog w) A (.compLoop (.ListComp elt [⟨.Name x px, iter, [], 0⟩, ⟨.Name y py, iter2, ifs, 0⟩] scope pos) 1 (.ref I2) (.ref s₂.heap.objs.size) (compEnvC scope cl H2.objs.size env))
          (fun r sr => match r with | .ok f => wpAny (model prog w) A (pure () : Sem Unit) (fun _ s'' => CStep (fun _ => True) s₁ (fr R s s₁) H2.objs.size s₂.heap.objs.size ys' R'' s' (G i) s'') (fun _ _ => False) sr | .error e => cameBackBy (model prog w) A (compEnvC scope cl H2.objs.size env) (fun _ _ => False) e sr) sb := by
        refine compLoop_run (fun mm => mm x = some v) hm (fun mm u hmm => by simp only [if_neg hxy]; exact hmm) (C := H2.objs.size) (D := s₂.heap.objs.size) (cenv := compEnvC scope cl H2.objs.size env) (x := y) (px := py)
          (act := emitAct ifs elt (.ref s₂.heap.objs.size) (compEnvC scope cl H2.objs.size env)) W2 (fun i h x b hb => hal2 i h x b (W2.sub b hb)) rfl (lookup_relabel_local hy) (by simp [compEnvC, relabel, hkind])
          hCf2 hDf2 hDC (fun Q' E' s' h => shape2b h) (fun j zs h => if p i j = true then ∃ y, zs = [y] ∧ F i j y h else zs = []) cb hst2 offw2 (fun b hb => none_of_keeps c.keep (none_of_keeps ka (hwr2 b hb))) hC1 ?_ ?_
        · intro j u s3 m3 ys3 R3 hm3 hj hPj c3 hR3 hmj hys3
          have hz : ys3.length ≤ sizeLine := by
            obtain ⟨zss, rfl, hp⟩ := hys3
            have := flat_len hp
            rw [List.length_range] at this
            rw [List.length_append]
            rw [Nat.succ_mul] at hiz
            omega
          have hR3' := (sub_fr hs0 k1).trans c3.low
          exact emit_step hm3 (V.up _ _ (keeps_sub c3.keep) hv1) c3 hDC hD1 hz (ht _ i v j u m3 R3 hR3' hi hP hj hPj hm3 hmj) fun hpi => he _ i v j u m3 R3 hR3' hi hP hj hPj hm3 hmj hpi
        · intro m3 zss R3 s3 hm3 c3 hR3 hx3 hf3 hp3
          refine wpAny_pure ⟨m3, zss.flatten, R3, trivial, c3, hRa.trans hR3, ?_, ?_, fun g z => flat_paired hp3 g z⟩
          · exact fun b o h1 h2 e => hx3 b o h1 h2 (fun hb => by have := hwr2 b hb; rw [keeps_sub ka _ _ e] at this; cases this) (keeps_sub kab _ _ e)
          · intro b o e
            rcases hf3 b o e with q | q
            · obtain ⟨o', ho'⟩ := Option.isSome_iff_exists.mp q
              exact (fr_get.mp ho').2
            · exact .inr (none_of_keeps kab q)
      refine wpAny_bind (wpAny_runOwn ?_)
      exact codeAny_compStart rfl inner (W2.self 0 _ _ _ hst2 inner)
    · intro m' zss R'' s' _ c hR _ hfresh hp
      refine hQ _ _ _ s' R'' zss m' (none_of_keeps k1 hC1) (none_of_keeps k1 hD1) hDC c.ns (keeps_trans k1 c.keep) c.tok ((sub_fr hs0 k1).trans c.low) c.sub c.offC c.offD (fun b o e => ?_) (by have := c.acc; rw [List.nil_append] at this; exact this) fun g hRg => paired_up (G := G) hRg hp
      rcases c.new b o e with q | q
      · obtain ⟨o', ho'⟩ := Option.isSome_iff_exists.mp q
        exact (fr_get.mp ho').2
      · exact .inr (none_of_keeps k1 q)
  exact codeAny_compStart_list (loop _ rfl) (W.self 0 _ _ _ (W.frame _ _ _ hst fun b _ o e => old b o e) (loop _ rfl))
end

end Mine

/-! P6 -/
namespace Mine
open AutoSeq1 (wpAny_loadPart')

/-! ## lists of numbers, compared -/
def szB : CmpOp → Nat → Nat → Bool
  | .Lt, m, n => decide (m < n)
  | .LtE, m, n => decide (m ≤ n)
  | .Gt, m, n => decide (m > n)
  | .GtE, m, n => decide (m ≥ n)
  | _, _, _ => false
def intB : CmpOp → Int → Int → Bool
  | .Lt, m, n => decide (m < n)
  | .LtE, m, n => decide (m ≤ n)
  | .Gt, m, n => decide (m > n)
  | .GtE, m, n => decide (m ≥ n)
  | _, _, _ => false
def lexB (op : CmpOp) : List Int → List Int → Bool
  | a :: as, b :: bs => if a == b then lexB op as bs else intB op a b
  | as, bs => szB op as.length bs.length

theorem szB_sub {op : CmpOp} {m n i : Nat} (hm : i ≤ m) (hn : i ≤ n) : szB op (m - i) (n - i) = szB op m n := by
  cases op <;> simp only [szB] <;> first | rfl | (apply decide_eq_decide.mpr; omega)
theorem lexB_end {op : CmpOp} {as bs : List Int} (h : as = [] ∨ bs = []) : lexB op as bs = szB op as.length bs.length := by
  rcases h with rfl | rfl
  · cases bs <;> rfl
  · cases as <;> rfl
theorem lexB_cons {op : CmpOp} {ns ms : List Int} {i : Nat} {a b : Int} (ha : ns[i]? = some a) (hb : ms[i]? = some b) : lexB op (ns.drop i) (ms.drop i) = if a == b then lexB op (ns.drop (i + 1)) (ms.drop (i + 1)) else intB op a b := by
  obtain ⟨h1, e1⟩ := List.getElem?_eq_some_iff.mp ha
  obtain ⟨h2, e2⟩ := List.getElem?_eq_some_iff.mp hb
  rw [List.drop_eq_getElem_cons h1, List.drop_eq_getElem_cons h2, e1, e2]
  rfl
theorem ints_get {vs : List Value} {ns : List Int} (h : IntsAre vs ns) {i : Nat} (hi : i < ns.length) : ∃ t, vs.toArray[((i : Nat) : Int).toNat]? = some (.int ns[i] t) := by
  obtain ⟨t, e⟩ := h.get i ns[i] (by simp [hi])
  exact ⟨t, by simpa using e⟩
theorem ints_none {vs : List Value} {ns : List Int} (h : IntsAre vs ns) {i : Nat} (hi : ns.length ≤ i) : vs.toArray[((i : Nat) : Int).toNat]? = none := by
  have := h.length
  simp; omega

open Builtin in
theorem lt_loop (l b : Addr) {xs ys : List Value} {ns ms : List Int} (hx : IntsAre xs ns) (hy : IntsAre ys ms) (n n2 : Nat) (dd dd2 : Option Addr) (sl sl2 : Array (Option Value)) (k : Nat) :
    ∀ i : Nat, ns.length - i = k → i ≤ ns.length → i ≤ ms.length → Meets (Builtin.«list.__eq__.loop» ⟨[.ref l, .ref b, rawInt i, rawInt 0], []⟩)
      (fun A R s => s.heap.get? l = some { cls := .type "list", dict := dd, data := .seq xs.toArray n, slots := sl } ∧ s.heap.get? b = some { cls := .type "list", dict := dd2, data := .seq ys.toArray n2, slots := sl2 } ∧
        R (.ok (.ret (.bool (lexB .Lt (ns.drop i) (ms.drop i))))) s) := by
  have e1 : xs.toArray.size = ns.length := by simp [hx.length]
  have e2 : ys.toArray.size = ms.length := by simp [hy.length]
  induction k with
  | zero =>
    intro i hk hi hj prog w A R s h
    obtain ⟨hp, g, d, tk, os⟩ := s; obtain ⟨hl, hb, h⟩ := h
    wp_walk using wpAny_loadPart' hl, wpAny_loadPart' hb
    rw [ints_none hx (by omega)]
    wp_walk using wpAny_loadPart' hl, wpAny_loadPart' hb
    rw [lexB_end (.inl (by simp; omega)), List.length_drop, List.length_drop, szB_sub hi hj, ← e1, ← e2] at h
    exact h
  | succ k ih =>
    intro i hk hi hj prog w A R s h
    obtain ⟨hp, g, d, tk, os⟩ := s; obtain ⟨hl, hb, h⟩ := h
    wp_walk using wpAny_loadPart' hl, wpAny_loadPart' hb
    have hi' : i < ns.length := by omega
    obtain ⟨t, ex⟩ := ints_get hx hi'
    by_cases hj' : i < ms.length
    · obtain ⟨u, ey⟩ := ints_get hy hj'
      rw [ex, ey]
      rw [lexB_cons (a := ns[i]) (b := ms[i]) (by simp) (by simp)] at h
      refine wpAny_bind (wpAny_eqBool_int ?_)
      have hc : ((i : Int) + 1) = ((i + 1 : Nat) : Int) := by push_cast; rfl
      cases hb' : ns[i] == ms[i] with
      | true =>
        rw [hb'] at h
        wp_walk
        rw [hc]
        exact ⟨plainId_quiet PySem.MeetsSeq3.plain_eq_loop _, codeAny_builtin PySem.MeetsSeq3.entry_eq_loop (by
          rw [Around.under_plainId PySem.MeetsSeq3.plain_eq_loop _]
          exact ih (i + 1) (by omega) (by omega) (by omega) prog w A R _ ⟨hl, hb, h⟩)⟩
      | false =>
        rw [hb'] at h
        wp_walk using wpAny_loadPart' hl, wpAny_loadPart' hb
        rw [ex, ey]
        refine wpAny_bind (PySem.P.lt_int ?_)
        exact wpAny_pure h
    · rw [ex, ints_none hy (by omega)]
      wp_walk using wpAny_loadPart' hl, wpAny_loadPart' hb
      rw [lexB_end (.inr (by simp; omega)), List.length_drop, List.length_drop, szB_sub hi hj, ← e1, ← e2] at h
      exact h

theorem lt_meets (l b : Addr) {xs ys : List Value} {ns ms : List Int} (hx : IntsAre xs ns) (hy : IntsAre ys ms) (n n2 : Nat) (dd dd2 : Option Addr) (sl sl2 : Array (Option Value)) :
    Meets (Builtin.«list.__lt__» ⟨[.ref l, .ref b], []⟩)
      (fun A R s => s.heap.get? l = some { cls := .type "list", dict := dd, data := .seq xs.toArray n, slots := sl } ∧ s.heap.get? b = some { cls := .type "list", dict := dd2, data := .seq ys.toArray n2, slots := sl2 } ∧
        R (.ok (.ret (.bool (lexB .Lt ns ms)))) s) := by
  intro prog w A R s h
  obtain ⟨hp, g, d, tk, os⟩ := s; obtain ⟨hl, hb, h⟩ := h
  have f3 := AutoSeq1.sub_list_list
  wp_walk using wpAny_loadPart' hl, wpAny_loadPart' hb
  exact ⟨plainId_quiet PySem.MeetsSeq3.plain_eq_loop _, codeAny_builtin PySem.MeetsSeq3.entry_eq_loop (by
    rw [Around.under_plainId PySem.MeetsSeq3.plain_eq_loop _]
    exact lt_loop l b hx hy n n2 dd dd2 sl sl2 _ 0 rfl (Nat.zero_le _) (Nat.zero_le _) prog w A R _ ⟨hl, hb, by simpa using h⟩)⟩
theorem ev_lt_ints {prog : Program} {w : World} {A : Around} {V : View} {R : Heap} {l b : Addr} {xs ys : List Value} {ns ms : List Int} (hl : R.IsList l xs.toArray) (hb : R.IsList b ys.toArray) (hx : IntsAre xs ns) (hy : IntsAre ys ms)
    (hu : A.units < cLine) : Ev prog w A V R (compareOp .Lt (.ref l) (.ref b)) (Is (.bool (lexB .Lt ns ms))) := Ev.of_look fun Q E s hs h => by
  obtain ⟨⟨cls, dd, data, sl⟩, ho, hc, n, hd⟩ := isList_sub hl hs
  obtain ⟨⟨cls2, dd2, data2, sl2⟩, ho2, hc2, n2, hd2⟩ := isList_sub hb hs
  simp only at hc hd hc2 hd2
  subst hc hd hc2 hd2
  exact richCompare_meets_room (op := .Lt) ⟨_, ho, rfl⟩ ⟨_, ho2, rfl⟩ PySem.F.slot_list_lt PySem.F.entry_list_lt (PySem.F.args_list_lt_2 _ _) (lt_meets l b hx hy n n2 dd dd2 sl sl2)
    ⟨ho, ho2, show Value.bool (lexB .Lt ns ms) ≠ Value.notImplemented ∧ Q (.bool (lexB .Lt ns ms)) s from ⟨(fun x => nomatch x), h⟩⟩ hu

open Builtin in
theorem le_loop (l b : Addr) {xs ys : List Value} {ns ms : List Int} (hx : IntsAre xs ns) (hy : IntsAre ys ms) (n n2 : Nat) (dd dd2 : Option Addr) (sl sl2 : Array (Option Value)) (k : Nat) :
    ∀ i : Nat, ns.length - i = k → i ≤ ns.length → i ≤ ms.length → Meets (Builtin.«list.__eq__.loop» ⟨[.ref l, .ref b, rawInt i, rawInt 1], []⟩)
      (fun A R s => s.heap.get? l = some { cls := .type "list", dict := dd, data := .seq xs.toArray n, slots := sl } ∧ s.heap.get? b = some { cls := .type "list", dict := dd2, data := .seq ys.toArray n2, slots := sl2 } ∧
        R (.ok (.ret (.bool (lexB .LtE (ns.drop i) (ms.drop i))))) s) := by
  have e1 : xs.toArray.size = ns.length := by simp [hx.length]
  have e2 : ys.toArray.size = ms.length := by simp [hy.length]
  induction k with
  | zero =>
    intro i hk hi hj prog w A R s h
    obtain ⟨hp, g, d, tk, os⟩ := s; obtain ⟨hl, hb, h⟩ := h
    wp_walk using wpAny_loadPart' hl, wpAny_loadPart' hb
    rw [ints_none hx (by omega)]
    wp_walk using wpAny_loadPart' hl, wpAny_loadPart' hb
    rw [lexB_end (.inl (by simp; omega)), List.length_drop, List.length_drop, szB_sub hi hj, ← e1, ← e2] at h
    exact h
  | succ k ih =>
    intro i hk hi hj prog w A R s h
    obtain ⟨hp, g, d, tk, os⟩ := s; obtain ⟨hl, hb, h⟩ := h
    wp_walk using wpAny_loadPart' hl, wpAny_loadPart' hb
    have hi' : i < ns.length := by omega
    obtain ⟨t, ex⟩ := ints_get hx hi'
    by_cases hj' : i < ms.length
    · obtain ⟨u, ey⟩ := ints_get hy hj'
      rw [ex, ey]
      rw [lexB_cons (a := ns[i]) (b := ms[i]) (by simp) (by simp)] at h
      refine wpAny_bind (wpAny_eqBool_int ?_)
      have hc : ((i : Int) + 1) = ((i + 1 : Nat) : Int) := by push_cast; rfl
      cases hb' : ns[i] == ms[i] with
      | true =>
        rw [hb'] at h
        wp_walk
        rw [hc]
        exact ⟨plainId_quiet PySem.MeetsSeq3.plain_eq_loop _, codeAny_builtin PySem.MeetsSeq3.entry_eq_loop (by
          rw [Around.under_plainId PySem.MeetsSeq3.plain_eq_loop _]
          exact ih (i + 1) (by omega) (by omega) (by omega) prog w A R _ ⟨hl, hb, h⟩)⟩
      | false =>
        rw [hb'] at h
        wp_walk using wpAny_loadPart' hl, wpAny_loadPart' hb
        rw [ex, ey]
        refine wpAny_bind (PySem.P.le_int ?_)
        exact wpAny_pure h
    · rw [ex, ints_none hy (by omega)]
      wp_walk using wpAny_loadPart' hl, wpAny_loadPart' hb
      rw [lexB_end (.inr (by simp; omega)), List.length_drop, List.length_drop, szB_sub hi hj, ← e1, ← e2] at h
      exact h

theorem le_meets (l b : Addr) {xs ys : List Value} {ns ms : List Int} (hx : IntsAre xs ns) (hy : IntsAre ys ms) (n n2 : Nat) (dd dd2 : Option Addr) (sl sl2 : Array (Option Value)) :
    Meets (Builtin.«list.__le__» ⟨[.ref l, .ref b], []⟩)
      (fun A R s => s.heap.get? l = some { cls := .type "list", dict := dd, data := .seq xs.toArray n, slots := sl } ∧ s.heap.get? b = some { cls := .type "list", dict := dd2, data := .seq ys.toArray n2, slots := sl2 } ∧
        R (.ok (.ret (.bool (lexB .LtE ns ms)))) s) := by
  intro prog w A R s h
  obtain ⟨hp, g, d, tk, os⟩ := s; obtain ⟨hl, hb, h⟩ := h
  have f3 := AutoSeq1.sub_list_list
  wp_walk using wpAny_loadPart' hl, wpAny_loadPart' hb
  exact ⟨plainId_quiet PySem.MeetsSeq3.plain_eq_loop _, codeAny_builtin PySem.MeetsSeq3.entry_eq_loop (by
    rw [Around.under_plainId PySem.MeetsSeq3.plain_eq_loop _]
    exact le_loop l b hx hy n n2 dd dd2 sl sl2 _ 0 rfl (Nat.zero_le _) (Nat.zero_le _) prog w A R _ ⟨hl, hb, by simpa using h⟩)⟩
theorem ev_le_ints {prog : Program} {w : World} {A : Around} {V : View} {R : Heap} {l b : Addr} {xs ys : List Value} {ns ms : List Int} (hl : R.IsList l xs.toArray) (hb : R.IsList b ys.toArray) (hx : IntsAre xs ns) (hy : IntsAre ys ms)
    (hu : A.units < cLine) : Ev prog w A V R (compareOp .LtE (.ref l) (.ref b)) (Is (.bool (lexB .LtE ns ms))) := Ev.of_look fun Q E s hs h => by
  obtain ⟨⟨cls, dd, data, sl⟩, ho, hc, n, hd⟩ := isList_sub hl hs
  obtain ⟨⟨cls2, dd2, data2, sl2⟩, ho2, hc2, n2, hd2⟩ := isList_sub hb hs
  simp only at hc hd hc2 hd2
  subst hc hd hc2 hd2
  exact richCompare_meets_room (op := .LtE) ⟨_, ho, rfl⟩ ⟨_, ho2, rfl⟩ PySem.F.slot_list_le PySem.F.entry_list_le (PySem.F.args_list_le_2 _ _) (le_meets l b hx hy n n2 dd dd2 sl sl2)
    ⟨ho, ho2, show Value.bool (lexB .LtE ns ms) ≠ Value.notImplemented ∧ Q (.bool (lexB .LtE ns ms)) s from ⟨(fun x => nomatch x), h⟩⟩ hu

open Builtin in
theorem gt_loop (l b : Addr) {xs ys : List Value} {ns ms : List Int} (hx : IntsAre xs ns) (hy : IntsAre ys ms) (n n2 : Nat) (dd dd2 : Option Addr) (sl sl2 : Array (Option Value)) (k : Nat) :
    ∀ i : Nat, ns.length - i = k → i ≤ ns.length → i ≤ ms.length → Meets (Builtin.«list.__eq__.loop» ⟨[.ref l, .ref b, rawInt i, rawInt 4], []⟩)
      (fun A R s => s.heap.get? l = some { cls := .type "list", dict := dd, data := .seq xs.toArray n, slots := sl } ∧ s.heap.get? b = some { cls := .type "list", dict := dd2, data := .seq ys.toArray n2, slots := sl2 } ∧
        R (.ok (.ret (.bool (lexB .Gt (ns.drop i) (ms.drop i))))) s) := by
  have e1 : xs.toArray.size = ns.length := by simp [hx.length]
  have e2 : ys.toArray.size = ms.length := by simp [hy.length]
  induction k with
  | zero =>
    intro i hk hi hj prog w A R s h
    obtain ⟨hp, g, d, tk, os⟩ := s; obtain ⟨hl, hb, h⟩ := h
    wp_walk using wpAny_loadPart' hl, wpAny_loadPart' hb
    rw [ints_none hx (by omega)]
    wp_walk using wpAny_loadPart' hl, wpAny_loadPart' hb
    rw [lexB_end (.inl (by simp; omega)), List.length_drop, List.length_drop, szB_sub hi hj, ← e1, ← e2] at h
    exact h
  | succ k ih =>
    intro i hk hi hj prog w A R s h
    obtain ⟨hp, g, d, tk, os⟩ := s; obtain ⟨hl, hb, h⟩ := h
    wp_walk using wpAny_loadPart' hl, wpAny_loadPart' hb
    have hi' : i < ns.length := by omega
    obtain ⟨t, ex⟩ := ints_get hx hi'
    by_cases hj' : i < ms.length
    · obtain ⟨u, ey⟩ := ints_get hy hj'
      rw [ex, ey]
      rw [lexB_cons (a := ns[i]) (b := ms[i]) (by simp) (by simp)] at h
      refine wpAny_bind (wpAny_eqBool_int ?_)
      have hc : ((i : Int) + 1) = ((i + 1 : Nat) : Int) := by push_cast; rfl
      cases hb' : ns[i] == ms[i] with
      | true =>
        rw [hb'] at h
        wp_walk
        rw [hc]
        exact ⟨plainId_quiet PySem.MeetsSeq3.plain_eq_loop _, codeAny_builtin PySem.MeetsSeq3.entry_eq_loop (by
          rw [Around.under_plainId PySem.MeetsSeq3.plain_eq_loop _]
          exact ih (i + 1) (by omega) (by omega) (by omega) prog w A R _ ⟨hl, hb, h⟩)⟩
      | false =>
        rw [hb'] at h
        wp_walk using wpAny_loadPart' hl, wpAny_loadPart' hb
        rw [ex, ey]
        refine wpAny_bind (PySem.P.gt_int ?_)
        exact wpAny_pure h
    · rw [ex, ints_none hy (by omega)]
      wp_walk using wpAny_loadPart' hl, wpAny_loadPart' hb
      rw [lexB_end (.inr (by simp; omega)), List.length_drop, List.length_drop, szB_sub hi hj, ← e1, ← e2] at h
      exact h

theorem gt_meets (l b : Addr) {xs ys : List Value} {ns ms : List Int} (hx : IntsAre xs ns) (hy : IntsAre ys ms) (n n2 : Nat) (dd dd2 : Option Addr) (sl sl2 : Array (Option Value)) :
    Meets (Builtin.«list.__gt__» ⟨[.ref l, .ref b], []⟩)
      (fun A R s => s.heap.get? l = some { cls := .type "list", dict := dd, data := .seq xs.toArray n, slots := sl } ∧ s.heap.get? b = some { cls := .type "list", dict := dd2, data := .seq ys.toArray n2, slots := sl2 } ∧
        R (.ok (.ret (.bool (lexB .Gt ns ms)))) s) := by
  intro prog w A R s h
  obtain ⟨hp, g, d, tk, os⟩ := s; obtain ⟨hl, hb, h⟩ := h
  have f3 := AutoSeq1.sub_list_list
  wp_walk using wpAny_loadPart' hl, wpAny_loadPart' hb
  exact ⟨plainId_quiet PySem.MeetsSeq3.plain_eq_loop _, codeAny_builtin PySem.MeetsSeq3.entry_eq_loop (by
    rw [Around.under_plainId PySem.MeetsSeq3.plain_eq_loop _]
    exact gt_loop l b hx hy n n2 dd dd2 sl sl2 _ 0 rfl (Nat.zero_le _) (Nat.zero_le _) prog w A R _ ⟨hl, hb, by simpa using h⟩)⟩
theorem ev_gt_ints {prog : Program} {w : World} {A : Around} {V : View} {R : Heap} {l b : Addr} {xs ys : List Value} {ns ms : List Int} (hl : R.IsList l xs.toArray) (hb : R.IsList b ys.toArray) (hx : IntsAre xs ns) (hy : IntsAre ys ms)
    (hu : A.units < cLine) : Ev prog w A V R (compareOp .Gt (.ref l) (.ref b)) (Is (.bool (lexB .Gt ns ms))) := Ev.of_look fun Q E s hs h => by
  obtain ⟨⟨cls, dd, data, sl⟩, ho, hc, n, hd⟩ := isList_sub hl hs
  obtain ⟨⟨cls2, dd2, data2, sl2⟩, ho2, hc2, n2, hd2⟩ := isList_sub hb hs
  simp only at hc hd hc2 hd2
  subst hc hd hc2 hd2
  exact richCompare_meets_room (op := .Gt) ⟨_, ho, rfl⟩ ⟨_, ho2, rfl⟩ PySem.F.slot_list_gt PySem.F.entry_list_gt (PySem.F.args_list_gt_2 _ _) (gt_meets l b hx hy n n2 dd dd2 sl sl2)
    ⟨ho, ho2, show Value.bool (lexB .Gt ns ms) ≠ Value.notImplemented ∧ Q (.bool (lexB .Gt ns ms)) s from ⟨(fun x => nomatch x), h⟩⟩ hu

open Builtin in
theorem ge_loop (l b : Addr) {xs ys : List Value} {ns ms : List Int} (hx : IntsAre xs ns) (hy : IntsAre ys ms) (n n2 : Nat) (dd dd2 : Option Addr) (sl sl2 : Array (Option Value)) (k : Nat) :
    ∀ i : Nat, ns.length - i = k → i ≤ ns.length → i ≤ ms.length → Meets (Builtin.«list.__eq__.loop» ⟨[.ref l, .ref b, rawInt i, rawInt 5], []⟩)
      (fun A R s => s.heap.get? l = some { cls := .type "list", dict := dd, data := .seq xs.toArray n, slots := sl } ∧ s.heap.get? b = some { cls := .type "list", dict := dd2, data := .seq ys.toArray n2, slots := sl2 } ∧
        R (.ok (.ret (.bool (lexB .GtE (ns.drop i) (ms.drop i))))) s) := by
  have e1 : xs.toArray.size = ns.length := by simp [hx.length]
  have e2 : ys.toArray.size = ms.length := by simp [hy.length]
  induction k with
  | zero =>
    intro i hk hi hj prog w A R s h
    obtain ⟨hp, g, d, tk, os⟩ := s; obtain ⟨hl, hb, h⟩ := h
    wp_walk using wpAny_loadPart' hl, wpAny_loadPart' hb
    rw [ints_none hx (by omega)]
    wp_walk using wpAny_loadPart' hl, wpAny_loadPart' hb
    rw [lexB_end (.inl (by simp; omega)), List.length_drop, List.length_drop, szB_sub hi hj, ← e1, ← e2] at h
    exact h
  | succ k ih =>
    intro i hk hi hj prog w A R s h
    obtain ⟨hp, g, d, tk, os⟩ := s; obtain ⟨hl, hb, h⟩ := h
    wp_walk using wpAny_loadPart' hl, wpAny_loadPart' hb
    have hi' : i < ns.length := by omega
    obtain ⟨t, ex⟩ := ints_get hx hi'
    by_cases hj' : i < ms.length
    · obtain ⟨u, ey⟩ := ints_get hy hj'
      rw [ex, ey]
      rw [lexB_cons (a := ns[i]) (b := ms[i]) (by simp) (by simp)] at h
      refine wpAny_bind (wpAny_eqBool_int ?_)
      have hc : ((i : Int) + 1) = ((i + 1 : Nat) : Int) := by push_cast; rfl
      cases hb' : ns[i] == ms[i] with
      | true =>
        rw [hb'] at h
        wp_walk
        rw [hc]
        exact ⟨plainId_quiet PySem.MeetsSeq3.plain_eq_loop _, codeAny_builtin PySem.MeetsSeq3.entry_eq_loop (by
          rw [Around.under_plainId PySem.MeetsSeq3.plain_eq_loop _]
          exact ih (i + 1) (by omega) (by omega) (by omega) prog w A R _ ⟨hl, hb, h⟩)⟩
      | false =>
        rw [hb'] at h
        wp_walk using wpAny_loadPart' hl, wpAny_loadPart' hb
        rw [ex, ey]
        refine wpAny_bind (PySem.P.ge_int ?_)
        exact wpAny_pure h
    · rw [ex, ints_none hy (by omega)]
      wp_walk using wpAny_loadPart' hl, wpAny_loadPart' hb
      rw [lexB_end (.inr (by simp; omega)), List.length_drop, List.length_drop, szB_sub hi hj, ← e1, ← e2] at h
      exact h

theorem ge_meets (l b : Addr) {xs ys : List Value} {ns ms : List Int} (hx : IntsAre xs ns) (hy : IntsAre ys ms) (n n2 : Nat) (dd dd2 : Option Addr) (sl sl2 : Array (Option Value)) :
    Meets (Builtin.«list.__ge__» ⟨[.ref l, .ref b], []⟩)
      (fun A R s => s.heap.get? l = some { cls := .type "list", dict := dd, data := .seq xs.toArray n, slots := sl } ∧ s.heap.get? b = some { cls := .type "list", dict := dd2, data := .seq ys.toArray n2, slots := sl2 } ∧
        R (.ok (.ret (.bool (lexB .GtE ns ms)))) s) := by
  intro prog w A R s h
  obtain ⟨hp, g, d, tk, os⟩ := s; obtain ⟨hl, hb, h⟩ := h
  have f3 := AutoSeq1.sub_list_list
  wp_walk using wpAny_loadPart' hl, wpAny_loadPart' hb
  exact ⟨plainId_quiet PySem.MeetsSeq3.plain_eq_loop _, codeAny_builtin PySem.MeetsSeq3.entry_eq_loop (by
    rw [Around.under_plainId PySem.MeetsSeq3.plain_eq_loop _]
    exact ge_loop l b hx hy n n2 dd dd2 sl sl2 _ 0 rfl (Nat.zero_le _) (Nat.zero_le _) prog w A R _ ⟨hl, hb, by simpa using h⟩)⟩
theorem ev_ge_ints {prog : Program} {w : World} {A : Around} {V : View} {R : Heap} {l b : Addr} {xs ys : List Value} {ns ms : List Int} (hl : R.IsList l xs.toArray) (hb : R.IsList b ys.toArray) (hx : IntsAre xs ns) (hy : IntsAre ys ms)
    (hu : A.units < cLine) : Ev prog w A V R (compareOp .GtE (.ref l) (.ref b)) (Is (.bool (lexB .GtE ns ms))) := Ev.of_look fun Q E s hs h => by
  obtain ⟨⟨cls, dd, data, sl⟩, ho, hc, n, hd⟩ := isList_sub hl hs
  obtain ⟨⟨cls2, dd2, data2, sl2⟩, ho2, hc2, n2, hd2⟩ := isList_sub hb hs
  simp only at hc hd hc2 hd2
  subst hc hd hc2 hd2
  exact richCompare_meets_room (op := .GtE) ⟨_, ho, rfl⟩ ⟨_, ho2, rfl⟩ PySem.F.slot_list_ge PySem.F.entry_list_ge (PySem.F.args_list_ge_2 _ _) (ge_meets l b hx hy n n2 dd dd2 sl sl2)
    ⟨ho, ho2, show Value.bool (lexB .GtE ns ms) ≠ Value.notImplemented ∧ Q (.bool (lexB .GtE ns ms)) s from ⟨(fun x => nomatch x), h⟩⟩ hu

end Mine

/-! P7 -/
namespace Mine

section
variable {prog : Program} {w : World} {A : Around} {V : View} {R : Heap} {env : Env} {P P1 P2 : Value → Heap → Prop}

/-! ### items -/
theorem ev_item {value slice : Expr} {l : Addr} {xs : List Value} {k : Int} {t : Tok} {v : Value} (hl : R.IsList l xs.toArray) (h0 : 0 ≤ k) (hx : xs[k.toNat]? = some v) (hz : xs.length < 2 ^ 62)
    (hs : subscripted slice false (.ref l) (.int k t) = operate [.ref l, .int k t] (getItem (.ref l) (.int k t)) := by rfl) :
    Ev prog w A V R (subscriptTail value slice (.ref l) (.int k t)) (Is v) := Ev.of_look fun Q E s hs' h => by
  have hl' := isList_sub hl hs'
  have hk : k < 2 ^ 63 := by
    have := (List.getElem?_eq_some_iff.mp hx).1
    omega
  exact subscriptTail_builtinR hl'.typeIs slot_list_getitem.lookup (wpAny_getItem_list hl' h0 hk (by simpa using hx) ⟨rfl, h⟩) hs
theorem ev_last {value slice : Expr} {l : Addr} {xs : List Value} {t : Tok} {v : Value} (hl : R.IsList l xs.toArray) (hx : xs.getLast? = some v) (hz : xs.length < 2 ^ 62)
    (hs : subscripted slice false (.ref l) (.int (-1) t) = operate [.ref l, .int (-1) t] (getItem (.ref l) (.int (-1) t)) := by rfl) :
    Ev prog w A V R (subscriptTail value slice (.ref l) (.int (-1) t)) (Is v) := Ev.of_look fun Q E s hs' h => by
  have hl' := isList_sub hl hs'
  have hne : xs ≠ [] := by rintro rfl; cases hx
  have hp : 0 < xs.length := List.length_pos_iff.mpr hne
  refine subscriptTail_builtinR hl'.typeIs slot_list_getitem.lookup (wpAny_getItem_list_neg hl' (by decide) (by simp; omega) (by decide) (x := v) ?_ ⟨rfl, h⟩) hs
  rw [List.getLast?_eq_getElem?] at hx
  have e : (-1 + (xs.toArray.size : Int)).toNat = xs.length - 1 := by simp; omega
  rw [e]
  simpa using hx

/-! ### numbers -/
theorem ev_mod {a b : Int} {t u : Tok} (hb : b ≠ 0) : Ev prog w A V R (binaryOp .Mod (.int a t) (.int b u)) (IsI (a.fmod b)) := fun Q E s hs _ ht hQ => mod_int hb (hQ _ _ keeps_tok (Nat.succ_pos _) (upI ht))
theorem ev_div {a b : Int} {t u : Tok} (hb : b ≠ 0) (hs : b.natAbs < 1073741824) : Ev prog w A V R (binaryOp .FloorDiv (.int a t) (.int b u)) (IsI (a.fdiv b)) := fun Q E s _ _ ht hQ =>
  floordiv_int hb (hQ _ _ keeps_tok (Nat.succ_pos _) (upI ht)) (.inl (PyProof.noPylong_small hs))
theorem ev_add {a b : Int} {t u : Tok} : Ev prog w A V R (binaryOp .Add (.int a t) (.int b u)) (IsI (a + b)) := fun Q E s _ _ ht hQ => PySem.P.add_int (hQ _ _ keeps_tok (Nat.succ_pos _) (upI ht))
theorem ev_eqI {a b : Int} {t u : Tok} : Ev prog w A V R (compareOp .Eq (.int a t) (.int b u)) (Is (.bool (a == b))) := Ev.of_look fun _ _ _ _ h => PySem.P.eq_int h
theorem ev_ltI {a b : Int} {t u : Tok} : Ev prog w A V R (compareOp .Lt (.int a t) (.int b u)) (Is (.bool (decide (a < b)))) := Ev.of_look fun _ _ _ _ h => PySem.P.lt_int h

/-! ### texts -/
theorem ev_chr {i : Int} {t : Tok} (h0 : 0 ≤ i) (h1 : i ≤ 1114111) : Ev prog w A V R (call (.builtin "chr") [.int i t]) (IsS ⟨#[i.toNat]⟩) := fun Q E s _ _ ht hQ => chr_of_range h0 h1 (hQ _ _ keeps_tok (Nat.succ_pos _) (upS ht))
theorem ev_ord {c : Nat} {t : Tok} : Ev prog w A V R (call (.builtin "ord") [.str ⟨#[c]⟩ t]) (IsI c) := fun Q E s _ _ ht hQ => PySem.P.ord_of_char (hQ _ _ keeps_tok (Nat.succ_pos _) (upI ht))
theorem nil_app {x y : PySem.Str} (h : x.length = 0) : x ++ y = y := by
  have h0 : x.cps = #[] := Array.eq_empty_of_size_eq_zero (by simpa [PySem.Str.length] using h)
  show PySem.Str.append x y = y
  cases y; simp [PySem.Str.append, h0]
theorem app_nil' {x y : PySem.Str} (h : y.length = 0) : x ++ y = x := by
  have h0 : y.cps = #[] := Array.eq_empty_of_size_eq_zero (by simpa [PySem.Str.length] using h)
  show PySem.Str.append x y = x
  cases x; simp [PySem.Str.append, h0]
theorem ev_addS {x y : PySem.Str} {t u : Tok} (hx : x.length + y.length ≤ 3000) (htx : 0 < t) (hty : 0 < u) : Ev prog w A V R (binaryOp .Add (.str x t) (.str y u)) (IsS (x ++ y)) := fun Q E s _ _ ht hQ => by
  refine PySem.P.add_str ?_
  by_cases h1 : x.length = 0
  · rw [if_pos (by simpa using h1)]
    refine hQ _ _ (keeps_refl s) ht ?_
    rw [nil_app h1]; exact upS hty
  · rw [if_neg (by simpa using h1)]
    by_cases h2 : y.length = 0
    · rw [if_pos (by simpa using h2)]
      refine hQ _ _ (keeps_refl s) ht ?_
      rw [app_nil' h2]; exact upS htx
    · rw [if_neg (by simpa using h2)]
      refine ⟨?_, hQ _ _ keeps_tok (Nat.succ_pos _) (upS ht)⟩
      rw [show (x ++ y).length = x.length + y.length from Str.length_append .., sizeLine_eq]; omega
theorem ev_neS {x y : PySem.Str} {t u : Tok} : Ev prog w A V R (compareOp .NotEq (.str x t) (.str y u)) (Is (.bool (x.cps.toList != y.cps.toList))) := Ev.of_look fun _ _ _ _ h => PySem.P.ne_str h

/-! ### lists of numbers -/
theorem ints_of_paired {f : Nat → Int} {h : Heap} : ∀ {l : List Nat} {ys : List Value}, Paired (fun i y => IsI (f i) y h) l ys → IntsAre ys (l.map f)
  | _, _, .nil => .nil
  | _, _, .cons a b => by obtain ⟨t, rfl, _⟩ := a; exact .cons _ t (ints_of_paired b)
theorem ev_eqL {a b : Addr} {xs ys : List Value} {ns ms : List Int} (ha : R.IsList a xs.toArray) (hb : R.IsList b ys.toArray) (hi : IntsAre xs ns) (hj : IntsAre ys ms) (hu : A.units + 64 < cLine) :
    Ev prog w A V R (compareOp .Eq (.ref a) (.ref b)) (Is (.bool (decide (ns = ms)))) := Ev.of_look fun _ _ _ hs h => ke_eq_ints (isList_sub ha hs) (isList_sub hb hs) hi hj hu h
theorem ev_neL {a b : Addr} {xs ys : List Value} {ns ms : List Int} (ha : R.IsList a xs.toArray) (hb : R.IsList b ys.toArray) (hi : IntsAre xs ns) (hj : IntsAre ys ms) (hu : A.units + 64 < cLine) :
    Ev prog w A V R (compareOp .NotEq (.ref a) (.ref b)) (Is (.bool (!decide (ns = ms)))) := Ev.of_look fun _ _ _ hs h => ke_ne_ints (isList_sub ha hs) (isList_sub hb hs) hi hj hu h
/-- a list of whatever against the empty list -/
theorem ev_ne_nil {a b : Addr} {xs : List Value} (ha : R.IsList a xs.toArray) (hb : R.IsList b ([] : List Value).toArray) (hu : A.units < cLine) :
    Ev prog w A V R (compareOp .NotEq (.ref a) (.ref b)) (Is (.bool (!xs.isEmpty))) := Ev.of_look fun Q E s hs h => by
  obtain ⟨⟨cls, dd, data, sl⟩, ho, hc, n, hd⟩ := isList_sub ha hs
  obtain ⟨⟨cls2, dd2, data2, sl2⟩, ho2, hc2, n2, hd2⟩ := isList_sub hb hs
  simp only at hc hd hc2 hd2
  subst hc hd hc2 hd2
  cases xs with
  | nil =>
    exact richCompare_meets_room (op := .NotEq) ⟨_, ho, rfl⟩ ⟨_, ho2, rfl⟩ PySem.F.slot_list_ne PySem.F.entry_list_ne (PySem.F.args_list_ne_2 _ _) (PySem.SeqAt.list_neAt a b _ _ n n2 dd dd2 sl sl2 rfl (fun _ => true))
      ⟨ho, ho2, fun j h1 => by simp at h1, show Value.bool _ ≠ Value.notImplemented ∧ Q (.bool _) s from ⟨(fun x => nomatch x), by simpa using h⟩⟩ hu
  | cons x r =>
    exact richCompare_meets_room (op := .NotEq) ⟨_, ho, rfl⟩ ⟨_, ho2, rfl⟩ PySem.F.slot_list_ne PySem.F.entry_list_ne (PySem.F.args_list_ne_2 _ _) (PySem.SeqAt.list_ne_lengthsAt a b _ _ n n2 dd dd2 sl sl2 (by simp))
      ⟨ho, ho2, show Value.bool true ≠ Value.notImplemented ∧ Q (.bool true) s from ⟨(fun x => nomatch x), by simpa using h⟩⟩ hu

/-- one thing is itself -/
def Selfsame (v : Value) : Prop := (∃ a, v = .ref a) ∨ (∃ x t, v = .str x t ∧ 0 < t) ∨ (∃ n t, v = .int n t ∧ 0 < t) ∨ (∃ b t, v = .bytes b t ∧ 0 < t) ∨ v = .none
theorem ev_is_not {v : Value} (h : Selfsame v) : Ev prog w A V R (compareOp .IsNot v v) (Is (.bool false)) := Ev.of_look fun Q E s _ hq => by
  have key : ∀ t : Tok, 0 < t → ∀ (b : Bool), isSame.created b t t = pure true := by
    intro t ht b
    have h0 : (t == 0) = false := by simpa using Nat.ne_of_gt ht
    unfold isSame.created
    simp [h0]
  have fin : ∀ {v : Value}, wpAny (model prog w) A (isSame v v) (fun b s' => b = true ∧ s' = s) E s → Q (.bool false) s → wpAny (model prog w) A (compareOp .IsNot v v) Q E s := by
    intro v e hq
    show wpAny _ _ (isSame v v >>= fun b => pure (Value.bool (!b))) _ _ _
    refine wpAny_bind (wpAny_mono e (fun b s' z => ?_) fun _ _ e => e)
    obtain ⟨rfl, rfl⟩ := z
    exact wpAny_pure hq
  rcases h with ⟨a, rfl⟩ | ⟨x, t, rfl, ht⟩ | ⟨n, t, rfl, ht⟩ | ⟨b, t, rfl, ht⟩ | rfl
  · exact wpAny_isNot_ref_self hq
  · refine fin ?_ hq
    show wpAny _ _ (isSame.created (x == x) t t) _ _ _
    rw [key t ht]; exact wpAny_pure ⟨rfl, rfl⟩
  · refine fin ?_ hq
    show wpAny _ _ (if (n == n && smallInt n) = true then isSame.cachedInt t t else isSame.created (n == n) t t) _ _ _
    split
    · have h0 : (t == 0) = false := by simpa using Nat.ne_of_gt ht
      unfold isSame.cachedInt
      simp only [h0, Bool.or_self, Bool.false_eq_true, if_false]
      exact wpAny_bind (wpAny_rule (wpAny_pure ⟨rfl, rfl⟩))
    · rw [key t ht]; exact wpAny_pure ⟨rfl, rfl⟩
  · refine fin ?_ hq
    show wpAny _ _ (isSame.created (b == b) t t) _ _ _
    rw [key t ht]; exact wpAny_pure ⟨rfl, rfl⟩
  · exact wpAny_isNot_self rfl hq
end

end Mine

/-! P8 -/
namespace Mine

section
variable {prog : Program} {w : World} {A : Around} {V : View} {R : Heap} {env : Env} {P P1 P2 : Value → Heap → Prop}

/-! ### slices -/
/-- `xs[:k]` -/
theorem ev_upto {value upper : Expr} {p pos : Pos} {xs : List Value} {k : Nat} (x : Ev prog w A V R (eval value env) (IsL xs)) (y : Ev prog w A V R (eval upper env) (fun a _ => ∃ t, a = .int (k : Int) t)) (hz : xs.length ≤ sizeLine)
    (ht : ∀ o r, letTemporaryGo value o r = pure () := by intro _ _; rfl) :
    Ev prog w A V R (eval (.Subscript value (.Slice none (some upper) none p) pos) env) (IsL (xs.take k)) := Ev.mk fun Q E s hs hv htk hQ => by
  refine wpAny_Subscript_list_slice (wpAny_mono (ev2 x y hs hv htk fun a b s2 k2 t2 p1 p2 => ?_) (fun a s1 h => wpAny_evalPart_none (wpAny_evalPart_some h)) fun _ _ e => e) ht
  obtain ⟨l, rfl, hl⟩ := p1 _ fr_sub
  obtain ⟨t, rfl⟩ := p2.here
  refine ⟨l, xs.toArray, none, some (k : Int), rfl, hl, by simpa using hz, .none, .int _ _, ?_⟩
  rw [slicePick_upto']
  have kk : Keeps s2 { s2 with heap := (s2.heap.push { cls := .type "slice", data := .fields #[.none, .int k t, .none] }).push { cls := .type "list", data := .seq (xs.toArray.toList.take k).toArray } } := keeps_mk (tk := s2.toks) (((Sub.refl _).push _).push _)
  refine hQ _ _ (keeps_trans k2 kk) fun g z => ⟨_, rfl, ?_⟩
  have e : xs.toArray.toList.take k = xs.take k := by simp
  rw [e] at z
  obtain ⟨o, ho, r⟩ := isList_push (s2.heap.push { cls := .type "slice", data := .fields #[.none, .int k t, .none] }) (xs.take k)
  rw [Heap.size_push] at ho
  refine ⟨o, z _ _ (fr_get.mpr ⟨ho, .inr ?_⟩), r⟩
  exact none_of_keeps k2 (fresh_none _ (Nat.le_succ _))

/-- `xs[::-1]` -/
theorem ev_rev {value : Expr} {p q1 q2 pos : Pos} {j : Nat} {xs : List Value} (x : Ev prog w A V R (eval value env) (IsL xs)) (hz : xs.length ≤ sizeLine)
    (ht : ∀ o r, letTemporaryGo value o r = pure () := by intro _ _; rfl) :
    Ev prog w A V R (eval (.Subscript value (.Slice none none (some (.UnaryOp .USub (.Constant (.int 1) j q1) q2)) p) pos) env) (IsL xs.reverse) := Ev.mk fun Q E s hs hv htk hQ => by
  refine wpAny_Subscript_Slice_step (T := "list") slot_list_getitem.lookup (x _ _ s hs hv htk fun a s2 k2 t2 p1 => ?_) ht
  refine wpAny_Slice (wpAny_evalPart_none (wpAny_evalPart_none (wpAny_evalPart_some ?_)))
  refine wpAny_UnaryOp (wpAny_Constant_int (PySem.P.neg_int ?_))
  obtain ⟨l, rfl, hl⟩ := p1 _ fr_sub
  have hl' : (s2.heap.push { cls := .type "slice", data := .fields #[.none, .none, .int (-1) (s2.toks + 1)] }).IsList l xs.toArray := hl.push _
  refine ⟨hl'.typeIs, ?_⟩
  refine wpAny_getItem_list_slice hl' (Heap.IsSliceOf.new ..) .none .none (.int _ _) (by decide) ?_ (by simpa using hz)
  rw [krv_pick]
  have e : xs.toArray.toList.reverse = xs.reverse := by simp
  rw [e]
  refine hQ _ _ (keeps_trans k2 (keeps_mk (s := s2) (((Sub.refl _).push _).push _))) fun g z => ⟨_, rfl, ?_⟩
  obtain ⟨o, ho, r⟩ := isList_push (s2.heap.push { cls := .type "slice", data := .fields #[.none, .none, .int (-1) (s2.toks + 1)] }) xs.reverse
  refine ⟨o, z _ _ (fr_get.mpr ⟨ho, .inr ?_⟩), r⟩
  rw [Heap.size_push]
  exact none_of_keeps k2 (fresh_none _ (Nat.le_succ _))

/-! ### keys: lists of lists of numbers -/
def KeyAt (T : List Int) : Value → Heap → Prop := fun v h => ∃ l us, v = .ref l ∧ h.IsList l us.toArray ∧ IntsAre us T
theorem KeyAt.sub {T : List Int} {v : Value} {h h' : Heap} (x : KeyAt T v h) (s : Sub h h') : KeyAt T v h' := let ⟨l, us, a, b, c⟩ := x; ⟨l, us, a, isList_sub b s, c⟩
theorem ints_uniq : ∀ {us : List Value} {ns ms : List Int}, IntsAre us ns → IntsAre us ms → ns = ms
  | _, _, _, .nil, .nil => rfl
  | _, _, _, .cons n t h, .cons _ _ h' => by rw [ints_uniq h h']
theorem KeyAt.uniq {T T' : List Int} {v : Value} {h : Heap} (x : KeyAt T v h) (y : KeyAt T' v h) : T = T' := by
  obtain ⟨l, us, rfl, ⟨o, ho, hc, n, hd⟩, hi⟩ := x
  obtain ⟨l', us', e, ⟨o', ho', hc', n', hd'⟩, hi'⟩ := y
  cases e
  rw [ho] at ho'
  cases ho'
  rw [hd] at hd'
  have : us = us' := by
    have h1 := (Data.seq.inj hd').1
    simpa using congrArg Array.toList h1
  subst this
  exact ints_uniq hi hi'

theorem ev_key_eq {a b : Value} {T T' : List Int} (ha : KeyAt T a R) (hb : KeyAt T' b R) (hu : A.units + 64 < cLine) : Ev prog w A V R (compareOp .Eq a b) (Is (.bool (decide (T = T')))) := by
  obtain ⟨l, us, rfl, hl, hi⟩ := ha
  obtain ⟨l', us', rfl, hl', hi'⟩ := hb
  exact ev_eqL hl hl' hi hi' hu

theorem key_eqAt {s : Shared} {a b : Value} {T T' : List Int} (ha : KeyAt T a s.heap) (hb : KeyAt T' b s.heap) (hu : A.units + 64 < cLine) : PySem.SeqAt.EqAt A s a b (decide (T = T')) := by
  by_cases hab : a = b
  · subst hab
    rw [ha.uniq hb, decide_eq_true rfl]
    exact PySem.SeqAt.EqAt.same _
  · obtain ⟨l, us, rfl, hl, hi⟩ := ha
    obtain ⟨l', us', rfl, hl', hi'⟩ := hb
    exact PySem.SeqAt.EqAt.of_refs (fun e => hab (by rw [e])) fun prog w E Q h => ke_eq_ints hl hl' hi hi' hu h

/-- `key not in [key, ..]` -/
theorem ev_key_notIn {l : Addr} {xs : List Value} {v : Value} {T : List Int} {Ts : List (List Int)} (hl : R.IsList l xs.toArray) (hv : KeyAt T v R) (hk : Paired (fun T v => KeyAt T v R) Ts xs) (hu : A.units + 72 < cLine) :
    Ev prog w A V R (compareOp .NotIn v (.ref l)) (Is (.bool (!decide (T ∈ Ts)))) := Ev.of_look fun Q E s hs hq => by
  classical
  have all : ∀ y ∈ xs, ∃ T', T' ∈ Ts ∧ KeyAt T' y s.heap := by
    intro y hy
    clear hq hl
    induction hk with
    | nil => cases hy
    | cons a b ih =>
      rcases List.mem_cons.mp hy with rfl | hy
      · exact ⟨_, List.mem_cons_self, a.sub hs⟩
      · obtain ⟨T', h1, h2⟩ := ih hy
        exact ⟨T', List.mem_cons_of_mem _ h1, h2⟩
  refine PySem.SeqAt.notIn_listAt (fun y => decide (KeyAt T y s.heap)) (isList_sub hl hs) (fun y hy => ?_) ?_
  · obtain ⟨T', h1, h2⟩ := all y (by simpa using hy)
    have : decide (KeyAt T y s.heap) = decide (T' = T) := by
      refine decide_eq_decide.mpr ⟨fun z => h2.uniq z, fun z => z ▸ h2⟩
    rw [this]
    exact key_eqAt (A := A.in1) h2 (hv.sub hs) (by show A.units + 1 + 64 < cLine; omega)
  · have : (xs.toArray.any fun y => decide (KeyAt T y s.heap)) = decide (T ∈ Ts) := by
      rw [List.any_toArray]
      clear hq hl all
      induction hk with
      | nil => simp
      | cons a b ih =>
        rename_i T1 v1 Ts1 xs1
        rw [List.any_cons, ih, Bool.eq_iff_iff]
        simp only [Bool.or_eq_true, decide_eq_true_eq, List.mem_cons]
        exact ⟨fun z => z.imp (fun z => z.uniq (a.sub hs)) id, fun z => z.imp (fun (z : T = T1) => by rw [z]; exact a.sub hs) id⟩
    rw [this]; exact hq
end

end Mine

/-! P9 -/
namespace Mine
section
variable {prog : Program} {w : World} {A : Around} {V : View} {R : Heap} {env : Env} {elt iter iter2 : Expr} {x y : PySem.Str} {px py pos : Pos} {ifs : List Expr} {scope : Scope} {cl : List (PySem.Str × Addr)} {PX : Value → Heap → Prop}

/-- a comprehension that may be used before its variables go, and may begin before the first token is sure -/
theorem comp1_raw {n : Nat} {P : Nat → Value → Prop} (p : Nat → Bool) (F : Nat → Value → Heap → Prop) (hclos : closureFor scope env = pure cl) (hcell : ∀ z ∈ scope.names, z.2 ≠ .cell) (hkind : scope.kind = .function)
    (hnames : ∀ z ∈ scope.names, z.2 = .local → scope.names.lookup z.1 = some .local) (hx : scope.names.lookup x = some .local)
    {use : Option (Value → Sem Unit)} {Q : Value → Shared → Prop} {E : Value → Shared → Prop} {s : Shared} {cpos : Pos} (hs0 : Sub R s.heap) (hv0 : V.p s.heap)
    (hit : ∀ (Q : Value → Shared → Prop) (E : Value → Shared → Prop), (∀ xv s₁, Keeps s s₁ → 0 < s₁.toks → Up PX xv (fr R s s₁) → Q xv s₁) → wpAny (model prog w) A (eval iter env) Q E s)
    (hI : ∀ xv R1, Sub R R1 → PX xv R1 → Iters prog w A R1 xv n P) (hsz : n ≤ sizeLine)
    (ht : ∀ C i v m R1, Sub R R1 → i < n → P i v → m x = some v → Ev prog w A (V.and (View.ns C m)) R1 (testsOf ifs (compEnvC scope cl C env)) (Is (p i)))
    (he : ∀ C i v m R1, Sub R R1 → i < n → P i v → m x = some v → p i = true → Ev prog w A (V.and (View.ns C m)) R1 (eval elt (compEnvC scope cl C env)) (F i))
    (hQ : ∀ r D C s' R'' ys m', s.heap.get? C = none → s.heap.get? D = none → D ≠ C → s'.heap.Ns C m' → Keeps s s' → 0 < s'.toks → Sub R R'' → Sub R'' s'.heap → R''.get? C = none → R''.get? D = none →
      (∀ b o, R''.get? b = some o → (R.get? b).isSome = true ∨ s.heap.get? b = none) → s'.heap.PlainList D (List.toArray ys) →
      (∀ g, Sub R'' g → Paired (fun i y => F i y g) ((List.range n).filter p) ys) → compPost (model prog w) A E use Q (.ref D) C (.ok r) s')
    (hs : ∀ z, foldedSetIterable iter env z = pure z := by intro _; rfl) :
    wpAny (model prog w) A (comprehension (.ListComp elt [⟨.Name x px, iter, ifs, 0⟩] scope pos) scope env cpos (newList []) false (eval iter env) use) Q E s := by
  refine wpAny_comprehension_free (use := use) rfl hs hclos hkind hnames (hit _ _ fun xv s₁ k1 tp1 p1 => ?_)
  have hR1 : Sub (fr R s s₁) s₁.heap := fr_sub
  have hv1 : V.p s₁.heap := View.keeps hv0 k1
  refine wpAny_pos tp1 ?_
  refine hI xv _ (sub_fr hs0 k1) p1.here _ _ s₁ hR1 fun I fp wr St s₂ k2 W hst hwr hfp hal tp2 => ?_
  -- the list and the variables
  refine wpAny_newObj_type (wpAny_newFunctionEnv hcell (by intro z hz; simp at hz) (fun h₁ hns₁ hsb₁ => ?_) hkind)
  dsimp only at hns₁ hsb₁ ⊢
  generalize hH2 : s₂.heap.push { cls := .type "list", dict := none, data := .seq ([] : List Value).toArray } = H2 at hns₁ hsb₁ ⊢
  have hC : H2.objs.size = s₂.heap.objs.size + 1 := by rw [← hH2, Heap.size_push]
  have hDC : s₂.heap.objs.size ≠ H2.objs.size := by rw [hC]; exact Nat.ne_of_lt (Nat.lt_succ_self _)
  have old : Sub s₂.heap h₁ := fun b o e => hsb₁.extBut b o (by rw [hC]; exact Nat.ne_of_lt (Nat.lt_succ_of_lt (Heap.lt_size e))) (Heap.get?_push_of_some _ (hH2 ▸ Heap.get?_push_of_some _ e))
  have hacc : h₁.PlainList s₂.heap.objs.size #[] := ⟨_, hsb₁.extBut _ _ hDC (Heap.get?_push_of_some _ (hH2 ▸ Heap.get?_push_size _ rfl))⟩
  have hD2 : s₂.heap.get? s₂.heap.objs.size = none := fresh_none _ (Nat.le_refl _)
  have hC2 : s₂.heap.get? H2.objs.size = none := fresh_none _ (by rw [hC]; exact Nat.le_succ _)
  have k12 : Sub s₁.heap s₂.heap := keeps_sub k2
  have hD1 : s₁.heap.get? s₂.heap.objs.size = none := none_of_keeps k2 hD2
  have hC1 : s₁.heap.get? H2.objs.size = none := none_of_keeps k2 hC2
  have hCf : H2.objs.size ∉ fp := fun hm => by have := (hfp _ hm).2; rw [hC] at this; exact Nat.lt_irrefl _ (Nat.lt_of_succ_lt this)
  have hDf : s₂.heap.objs.size ∉ fp := fun hm => Nat.lt_irrefl _ (hfp _ hm).2
  have hRs : ∀ a, s₁.heap.get? a = none → (fr R s s₁).get? a = none := fun a ha => by
    cases e : (fr R s s₁).get? a with
    | none => rfl
    | some o => rw [hR1 _ _ e] at ha; cases ha
  have c0 : CS s₁ (fr R s s₁) H2.objs.size s₂.heap.objs.size (fun x => ([] : List (PySem.Str × Value)).reverse.lookup x) [] (fr R s s₁) { s₂ with heap := h₁, toks := s₂.toks + ([] : List (PySem.Str × Value)).length } := by
    refine ⟨?_, hacc, hns₁, Sub.refl _, fun b o e => old _ _ (k12 _ _ (hR1 _ _ e)), fun b o e => .inl (by rw [e]; rfl), hRs _ hC1, hRs _ hD1, tp2⟩
    obtain ⟨h2, t2, rfl, e2⟩ := k2
    exact ⟨h₁, _, rfl, fun b o e => old _ _ (e2 _ _ e)⟩
  have loop : ∀ s₃ : Shared, s₃ = { s₂ with heap := h₁, toks := s₂.toks + ([] : List (PySem.Str × Value)).length } →
      codeAny (model prog w) A (.compLoop (.ListComp elt [⟨.Name x px, iter, ifs, 0⟩] scope pos) 0 (.ref I) (.ref s₂.heap.objs.size) (compEnvC scope cl H2.objs.size env))
        (compPost (model prog w) A E use Q (.ref s₂.heap.objs.size) H2.objs.size) s₃ := by
    rintro s₃ rfl
    refine compLoop_run (fun _ => True) trivial (fun _ _ _ => trivial) (C := H2.objs.size) (D := s₂.heap.objs.size) (cenv := compEnvC scope cl H2.objs.size env) (x := x) (px := px) (act := emitAct ifs elt (.ref s₂.heap.objs.size) (compEnvC scope cl H2.objs.size env)) W (fun i h x b hb => hal i h x b (W.sub b hb)) rfl (lookup_relabel_local hx) (by simp [compEnvC, relabel, hkind])
      hCf hDf hDC (fun Q' E' s' h => shape1 h) (fun i zs h => if p i = true then ∃ y, zs = [y] ∧ F i y h else zs = []) c0 (W.frame _ _ _ hst fun b _ o e => old b o e)
      (fun b hb => hRs _ (hwr b hb)) hwr hC1 ?_ ?_
    · intro i v s' m' ys' R'' _ hi hP c hR hm hys
      have hz : ys'.length ≤ sizeLine := by
        obtain ⟨zss, rfl, hp⟩ := hys
        have := flat_len hp
        rw [List.length_range] at this
        rw [List.nil_append]; omega
      refine emit_step trivial (V.up _ _ (keeps_sub c.keep) hv1) c hDC hD1 hz (ht _ i v m' R'' ((sub_fr hs0 k1).trans c.low) hi hP hm) fun hpi => he _ i v m' R'' ((sub_fr hs0 k1).trans c.low) hi hP hm hpi
    · intro m' zss R'' s' _ c hR _ hfresh hp
      have hpl := c.acc
      rw [List.nil_append] at hpl
      refine hQ _ _ _ s' R'' zss.flatten m' (none_of_keeps k1 hC1) (none_of_keeps k1 hD1) hDC c.ns (keeps_trans k1 c.keep) c.tok ((sub_fr hs0 k1).trans c.low) c.sub c.offC c.offD ?_ hpl (fun g z => flat_paired hp g z)
      intro b o e
      rcases c.new b o e with q | q
      · obtain ⟨o', ho'⟩ := Option.isSome_iff_exists.mp q
        exact (fr_get.mp ho').2
      · exact .inr (none_of_keeps k1 q)
  exact codeAny_compStart_list (loop _ rfl) (W.self 0 _ _ _ (W.frame _ _ _ hst fun b _ o e => old b o e) (loop _ rfl))
end
end Mine

/-! W1 -/
namespace Mine

abbrev MS := PySem.Str → Option Value
def Frame (env : Env) (a : Addr) : Prop := a = env.locals ∨ ∃ x, env.cells.lookup x = some a
def Only (W : View) (wf : List Addr) : Prop := ∀ h h' : Heap, (∀ a ∈ wf, ∀ o, h.get? a = some o → h'.get? a = some o) → W.p h → W.p h'
def upd (m : MS) (x : PySem.Str) (v : Value) : MS := fun z => if z = x then some v else m z
/-- the view of a frame, and of what else is watched -/
def fv (env : Env) (m cm : MS) (W : View) : View := ⟨fun h => h.Ns env.locals m ∧ (∀ x c, env.cells.lookup x = some c → h.IsCell c (cm x)) ∧ W.p h, fun _ _ s h => ⟨ns_sub h.1 s, fun x c e => cell_sub (h.2.1 x c e) s, W.up _ _ s h.2.2⟩⟩

structure Apart (env : Env) : Prop where
  loc : ∀ x c, env.cells.lookup x = some c → c ≠ env.locals
  inj : ∀ x y c, env.cells.lookup x = some c → env.cells.lookup y = some c → x = y

structure FS (s₁ : Shared) (B : Heap) (env : Env) (off wf : List Addr) (W : View) (R : Heap) (m cm : MS) (s : Shared) : Prop where
  keep : Keeps s₁ s
  tok : 0 < s.toks
  sub : Sub R s.heap
  base : ∀ b o, R.get? b = some o → (B.get? b).isSome = true ∨ s₁.heap.get? b = none
  ap : Apart env
  fns : s.heap.Ns env.locals m
  cells : ∀ x c, env.cells.lookup x = some c → s.heap.IsCell c (cm x)
  offF : ∀ a, Frame env a → R.get? a = none ∧ s₁.heap.get? a = none ∧ a ∉ wf
  offW : ∀ a ∈ off, R.get? a = none ∧ s₁.heap.get? a = none ∧ (s.heap.get? a).isSome = true
  liveW : ∀ a ∈ wf, (s.heap.get? a).isSome = true
  only : Only W wf
  view : W.p s.heap

section
variable {prog : Program} {w : World} {A : Around} {s₁ s s' : Shared} {B : Heap} {env : Env} {off wf : List Addr} {W : View} {R R' : Heap} {m cm : MS}

theorem FS.vw (f : FS s₁ B env off wf W R m cm s) : (fv env m cm W).p s.heap := ⟨f.fns, f.cells, f.view⟩
theorem FS.liveF (f : FS s₁ B env off wf W R m cm s) {a : Addr} (h : Frame env a) : (s.heap.get? a).isSome = true := by
  rcases h with rfl | ⟨x, hx⟩
  · obtain ⟨o, es, ep, ho, _⟩ := f.fns; rw [ho]; rfl
  · obtain ⟨o, ho, _⟩ := f.cells x a hx; rw [ho]; rfl
theorem off_fr' {R : Heap} {s s' : Shared} {a : Addr} (hR : R.get? a = none) (hl : (s.heap.get? a).isSome = true) : (fr R s s').get? a = none := by
  cases e : (fr R s s').get? a with
  | none => rfl
  | some o =>
    rcases (fr_get.mp e).2 with q | q
    · rw [hR] at q; cases q
    · rw [q] at hl; cases hl
theorem FS.step (f : FS s₁ B env off wf W R m cm s) (k : Keeps s s') (ht : 0 < s'.toks) : FS s₁ B env off wf W (fr R s s') m cm s' where
  keep := keeps_trans f.keep k
  tok := ht
  sub := fr_sub
  base := fun b o e => by
    rcases (fr_get.mp e).2 with q | q
    · obtain ⟨o', ho'⟩ := Option.isSome_iff_exists.mp q
      exact f.base b o' ho'
    · refine .inr ?_
      cases z : s₁.heap.get? b with
      | none => rfl
      | some o' => rw [keeps_sub f.keep _ _ z] at q; cases q
  ap := f.ap
  fns := ns_sub f.fns (keeps_sub k)
  cells := fun x c e => cell_sub (f.cells x c e) (keeps_sub k)
  offF := fun a h => ⟨off_fr' (f.offF a h).1 (f.liveF h), (f.offF a h).2⟩
  offW := fun a h => ⟨off_fr' (f.offW a h).1 (f.offW a h).2.2, (f.offW a h).2.1, by obtain ⟨o, ho⟩ := Option.isSome_iff_exists.mp (f.offW a h).2.2; rw [keeps_sub k _ _ ho]; rfl⟩
  liveW := fun a h => by obtain ⟨o, ho⟩ := Option.isSome_iff_exists.mp (f.liveW a h); rw [keeps_sub k _ _ ho]; rfl
  only := f.only
  view := W.up _ _ (keeps_sub k) f.view
/-- a reading code in a frame -/
theorem FS.ev {α : Type} {t : Sem α} {P : α → Heap → Prop} {Q : α → Shared → Prop} {E : Value → Shared → Prop} (f : FS s₁ B env off wf W R m cm s) (x : Ev prog w A (fv env m cm W) R t P)
    (h : ∀ a s' R', FS s₁ B env off wf W R' m cm s' → Sub R R' → P a R' → Q a s') : wpAny (model prog w) A t Q E s :=
  x Q E s f.sub f.vw f.tok fun a s' k t p => h a s' _ (f.step k t) (sub_fr f.sub k) p.here

/-- one object of the frame or of what is watched is changed -/
theorem FS.change {a : Addr} {h' : Heap} {tk : Nat} {W' : View} {m' cm' : MS} (f : FS s₁ B env off wf W R m cm s) (hs : Heap.SameBut a s.heap h') (ha : R.get? a = none ∧ s₁.heap.get? a = none) (hal : (h'.get? a).isSome = true) (ht : 0 < tk)
    (hn : h'.Ns env.locals m') (hc : ∀ x c, env.cells.lookup x = some c → h'.IsCell c (cm' x)) (ho : Only W' wf) (hw : W'.p h') : FS s₁ B env off wf W' R m' cm' { s with heap := h', toks := tk } where
  keep := by
    obtain ⟨h, t, rfl, e⟩ := f.keep
    exact ⟨h', tk, rfl, fun b o q => (hs.2 b (fun z => by rw [z, ha.2] at q; cases q)).trans (e b o q)⟩
  tok := ht
  sub := fun b o q => (hs.2 b (fun z => by rw [z, ha.1] at q; cases q)).trans (f.sub b o q)
  base := f.base
  ap := f.ap
  fns := hn
  cells := hc
  offF := f.offF
  offW := fun b h => ⟨(f.offW b h).1, (f.offW b h).2.1, by
    by_cases e : b = a
    · rw [e]; exact hal
    · show (h'.get? b).isSome = true; rw [hs.2 b e]; exact (f.offW b h).2.2⟩
  liveW := fun b h => by
    by_cases e : b = a
    · rw [e]; exact hal
    · show (h'.get? b).isSome = true; rw [hs.2 b e]; exact f.liveW b h
  only := ho
  view := hw
theorem ns_live {h : Heap} {a : Addr} {m : MS} (x : h.Ns a m) : (h.get? a).isSome = true := by obtain ⟨o, es, ep, ho, _⟩ := x; rw [ho]; rfl
theorem cell_live {h : Heap} {a : Addr} {v : Option Value} (x : h.IsCell a v) : (h.get? a).isSome = true := by obtain ⟨o, ho, _⟩ := x; rw [ho]; rfl
theorem cell_at {h h' : Heap} {c : Addr} {v : Option Value} (x : h.IsCell c v) (e : ∀ o, h.get? c = some o → h'.get? c = some o) : h'.IsCell c v := let ⟨o, ho, r⟩ := x; ⟨o, e _ ho, r⟩

theorem FS.storeL {x : PySem.Str} {v : Value} {Q : Unit → Shared → Prop} {E : Value → Shared → Prop} (f : FS s₁ B env off wf W R m cm s) (hl : env.kindOf x = some .local)
    (h : ∀ s', FS s₁ B env off wf W R (upd m x v) cm s' → Q () s')
    (hp : (env.scope.kind == .class || (env.scope.kind == .module && env.locals != env.globals)) = false := by rfl) : wpAny (model prog w) A (storeName env x v) Q E s := by
  refine wpAny_storeName_local hl f.fns (fun h' hn hs => h _ ?_) hp
  have hF : Frame env env.locals := .inl rfl
  refine f.change hs ⟨(f.offF _ hF).1, (f.offF _ hF).2.1⟩ (ns_live hn) (Nat.succ_pos _) hn (fun y c e => cell_at (f.cells y c e) fun o q => (hs.2 c (f.ap.loc y c e)).trans q) f.only ?_
  exact f.only _ _ (fun a ha o q => (hs.2 a (fun z => (f.offF _ hF).2.2 (z ▸ ha))).trans q) f.view
theorem FS.storeC {x : PySem.Str} {v : Value} {c : Addr} {Q : Unit → Shared → Prop} {E : Value → Shared → Prop} (f : FS s₁ B env off wf W R m cm s) (hk : env.scope.kind = .function) (hl : env.kindOf x = some .cell) (hc : env.cells.lookup x = some c)
    (h : ∀ s', FS s₁ B env off wf W R m (upd cm x v) s' → Q () s') : wpAny (model prog w) A (storeName env x v) Q E s := by
  refine wpAny_storeName_cell hk hl hc (f.cells x c hc) fun h' hv hs => h _ ?_
  have hF : Frame env c := .inr ⟨x, hc⟩
  refine f.change (tk := s.toks) hs ⟨(f.offF _ hF).1, (f.offF _ hF).2.1⟩ (cell_live hv) f.tok (f.fns.sameBut hs (f.ap.loc x c hc).symm) (fun y d e => ?_) f.only ?_
  · by_cases hy : y = x
    · subst hy
      rw [hc] at e; cases e
      simp only [upd, if_true]; exact hv
    · simp only [upd, if_neg hy]
      exact cell_at (f.cells y d e) fun o q => (hs.2 d (fun z => hy (f.ap.inj y x c (z ▸ e) hc))).trans q
  · exact f.only _ _ (fun a ha o q => (hs.2 a (fun z => (f.offF _ hF).2.2 (z ▸ ha))).trans q) f.view

/-- `x = e` -/
theorem FS.assignL {x : PySem.Str} {px pos : Pos} {e : Expr} {P : Value → Heap → Prop} {Q : Flow → Shared → Prop} {E : Value → Shared → Prop} (f : FS s₁ B env off wf W R m cm s) (x1 : Ev prog w A (fv env m cm W) R (eval e env) P) (hl : env.kindOf x = some .local)
    (h : ∀ v s' R', FS s₁ B env off wf W R' (upd m x v) cm s' → Sub R R' → P v R' → Q .next s')
    (hp : (env.scope.kind == .class || (env.scope.kind == .module && env.locals != env.globals)) = false := by rfl) (hs : swapsWith e (some (.Name x px)) pos.line env = pure false := by rfl) :
    wpAny (model prog w) A (exec (.Assign [.Name x px] e pos) env) Q E s :=
  wpAny_Assign_Name (f.ev x1 fun v s' R' f' hR p => f'.storeL hl (fun s'' f'' => h v s'' R' f'' hR p) hp) hs
theorem FS.assignC {x : PySem.Str} {px pos : Pos} {e : Expr} {c : Addr} {P : Value → Heap → Prop} {Q : Flow → Shared → Prop} {E : Value → Shared → Prop} (f : FS s₁ B env off wf W R m cm s) (x1 : Ev prog w A (fv env m cm W) R (eval e env) P) (hk : env.scope.kind = .function) (hl : env.kindOf x = some .cell) (hc : env.cells.lookup x = some c)
    (h : ∀ v s' R', FS s₁ B env off wf W R' m (upd cm x v) s' → Sub R R' → P v R' → Q .next s') (hs : swapsWith e (some (.Name x px)) pos.line env = pure false := by rfl) :
    wpAny (model prog w) A (exec (.Assign [.Name x px] e pos) env) Q E s :=
  wpAny_Assign_Name (f.ev x1 fun v s' R' f' hR p => f'.storeC hk hl hc fun s'' f'' => h v s'' R' f'' hR p) hs
/-- a test -/
theorem FS.test {t : Expr} {bd el : List Stmt} {pos : Pos} {b : Bool} {Q : Flow → Shared → Prop} {E : Value → Shared → Prop} (f : FS s₁ B env off wf W R m cm s) (x : Ev prog w A (fv env m cm W) R (isTrue t env (eval t env)) (Is b))
    (h : ∀ s' R', FS s₁ B env off wf W R' m cm s' → Sub R R' → wpAny (model prog w) A (if b then execs bd env else execs el env) Q E s') : wpAny (model prog w) A (exec (.If t bd el pos) env) Q E s :=
  wpAny_If (f.ev x fun a s' R' f' hR p => by
    cases p
    have := h s' R' f' hR
    cases b with
    | true => exact this
    | false => exact this)
end

/-! ## loops -/
def View.st {prog : Program} {w : World} {A : Around} {I : Addr} {fp wr : List Addr} {n : Nat} {P : Nat → Value → Prop} {St : Nat → Heap → Prop} (W : Walks prog w A I fp wr n P St) (i : Nat) : View := ⟨St i, fun h h' s x => W.frame i h h' x fun b _ o e => s _ _ e⟩
theorem only_and {V W : View} {a b : List Addr} (x : Only V a) (y : Only W b) : Only (V.and W) (b ++ a) := fun h h' k p => ⟨x h h' (fun q hq => k q (List.mem_append_right _ hq)) p.1, y h h' (fun q hq => k q (List.mem_append_left _ hq)) p.2⟩

section
variable {prog : Program} {w : World} {A : Around} {s₁ : Shared} {B : Heap} {env : Env} {off wf : List Addr} {R0 : Heap}

theorem for_core {ι : Type} {W : ι → View} {J : Nat → ι → Heap → MS → MS → Prop} {T : Value → MS → MS → MS → MS → Prop} {target : Expr} {body : List Stmt} {I : Addr} {fp wr : List Addr} {n : Nat} {P : Nat → Value → Prop} {St : Nat → Heap → Prop} {RR : Result → Shared → Prop}
    (Wk : Walks prog w A I fp wr n P St) (hal : ∀ i h, St i h → ∀ b ∈ fp, (h.get? b).isSome = true)
    (hgo : ∀ i v (s : Shared) (Q : Unit → Shared → Prop) (E : Value → Shared → Prop), St (i + 1) s.heap → P i v → Q () s → wpAny (model prog w) A (letOwnedTupleGo target (.ref I) v) Q E s)
    (hW : ∀ z, Only (W z) wf) (hfpF : ∀ a, Frame env a → a ∉ fp) (hfpO : ∀ a ∈ off, a ∉ fp) (hfpW : ∀ a ∈ wf, a ∉ wr)
    (hasg : ∀ off' wf' W' R m cm s i v, FS s₁ B env off' wf' W' R m cm s → Sub R0 R → P i v → ∀ (Q : Unit → Shared → Prop) (E : Value → Shared → Prop), (∀ s' R' m' cm', FS s₁ B env off' wf' W' R' m' cm' s' → Sub R R' → T v m m' cm cm' → Q () s') → wpAny (model prog w) A (assign target env v) Q E s)
    (hJ : ∀ i z R R' m cm, Sub R R' → J i z R m cm → J i z R' m cm)
    (hbody : ∀ Wx offx fpx z i v R m0 cm0 m cm s, i < n → P i v → J i z R m0 cm0 → T v m0 m cm0 cm → Sub R0 R → Only Wx fpx → (∀ a ∈ off, a ∉ fpx) → FS s₁ B env (offx ++ off) (fpx ++ wf) ((W z).and Wx) R m cm s →
      ∀ (Q : Flow → Shared → Prop) (E : Value → Shared → Prop), (∀ s' z' R' m' cm', FS s₁ B env (offx ++ off) (fpx ++ wf) ((W z').and Wx) R' m' cm' s' → Sub R R' → J (i + 1) z' R' m' cm' → Q .next s') → wpAny (model prog w) A (execs body env) Q E s)
    (hdone : ∀ z R m cm s, FS s₁ B env off wf (W z) R m cm s → Sub R0 R → J n z R m cm → RR (.ok .next) s)
    {z0 : ι} {m0 cm0 : MS} {s : Shared} (f0 : FS s₁ B env off wf (W z0) R0 m0 cm0 s) (hst : St 0 s.heap) (hwr : ∀ b ∈ wr, R0.get? b = none ∧ s₁.heap.get? b = none) (h0 : J 0 z0 R0 m0 cm0) :
    codeAny (model prog w) A (.forLoop target (.ref I) body [] env) RR s := by
  have hwF : ∀ a, Frame env a → a ∉ wr := fun a h q => hfpF a h (Wk.sub a q)
  have hwO : ∀ a ∈ off, a ∉ wr := fun a h q => hfpO a h (Wk.sub a q)
  have oSt : ∀ i, Only (View.st Wk i) fp := fun i h h' k p => Wk.frame i h h' p fun b hb o e => k b hb o e
  refine codeAny_forLoop_any (fun k s => ∃ i z R m cm, k = n - i ∧ i ≤ n ∧ FS s₁ B env (wr ++ off) (fp ++ wf) ((W z).and (View.st Wk i)) R m cm s ∧ Sub R0 R ∧ J i z R m cm) ?turn n ⟨0, z0, R0, m0, cm0, rfl, Nat.zero_le _, ?start, Sub.refl _, h0⟩
  case start =>
    exact { f0 with
      offF := fun a h => ⟨(f0.offF a h).1, (f0.offF a h).2.1, fun q => (List.mem_append.mp q).elim (hfpF a h) (f0.offF a h).2.2⟩
      offW := fun a h => (List.mem_append.mp h).elim (fun q => ⟨(hwr a q).1, (hwr a q).2, hal 0 _ hst a (Wk.sub a q)⟩) (f0.offW a)
      liveW := fun a h => (List.mem_append.mp h).elim (fun q => hal 0 _ hst a q) (f0.liveW a)
      only := only_and (hW z0) (oSt 0)
      view := ⟨f0.view, hst⟩ }
  case turn =>
    rintro k s ⟨i, z, R, m, cm, rfl, hi, f, hR, hj⟩
    -- what a step of the walk leaves
    have next : ∀ (h' : Heap) (tk : Nat) (i' : Nat), 0 < tk → St i' h' → (∀ b o, b ∉ wr → s.heap.get? b = some o → h'.get? b = some o) → FS s₁ B env (wr ++ off) (fp ++ wf) ((W z).and (View.st Wk i')) R m cm { s with heap := h', toks := tk } := fun h' tk i' ht hst' hk =>
      { keep := by
          obtain ⟨h, t, rfl, e⟩ := f.keep
          exact ⟨h', tk, rfl, fun b o q => hk b o (fun hb => by rw [(f.offW b (List.mem_append_left _ hb)).2.1] at q; cases q) (e b o q)⟩
        tok := ht
        sub := fun b o q => hk b o (fun hb => by rw [(f.offW b (List.mem_append_left _ hb)).1] at q; cases q) (f.sub b o q)
        base := f.base
        ap := f.ap
        fns := Heap.Ns.at' f.fns fun o q => hk _ o (hwF _ (.inl rfl)) q
        cells := fun x c e => cell_at (f.cells x c e) fun o q => hk _ o (hwF _ (.inr ⟨x, e⟩)) q
        offF := f.offF
        offW := fun a h => ⟨(f.offW a h).1, (f.offW a h).2.1, by
          by_cases hb : a ∈ wr
          · exact hal i' h' hst' a (Wk.sub a hb)
          · obtain ⟨o, ho⟩ := Option.isSome_iff_exists.mp (f.offW a h).2.2
            show (h'.get? a).isSome = true
            rw [hk a o hb ho]; rfl⟩
        liveW := fun a h => by
          by_cases hb : a ∈ wr
          · exact hal i' h' hst' a (Wk.sub a hb)
          · obtain ⟨o, ho⟩ := Option.isSome_iff_exists.mp (f.liveW a h)
            show (h'.get? a).isSome = true
            rw [hk a o hb ho]; rfl
        only := only_and (hW z) (oSt i')
        view := ⟨hW z _ _ (fun a ha o q => hk a o (hfpW a ha) q) f.view.1, hst'⟩ }
    by_cases hlt : i < n
    · refine wpAny_pos f.tok (Wk.item i s _ _ hlt f.view.2 fun v h' tk hP hst' hk ht => ?_)
      dsimp only
      have f1 := next h' tk (i + 1) ht hst' hk
      refine hgo i v _ _ _ hst' hP ?_
      refine hasg _ _ _ R m cm _ i v f1 hR hP _ _ fun s' R' m' cm' f2 hR' hT => ?_
      refine hbody (View.st Wk (i + 1)) wr fp z i v R' m cm m' cm' s' hlt hP (hJ _ _ _ _ _ _ hR' hj) hT (hR.trans hR') (oSt _) hfpO f2 _ _ fun s'' z' R'' m'' cm'' f3 hR'' hj' => ?_
      exact ⟨n - (i + 1), by omega, i + 1, z', R'', m'', cm'', rfl, hlt, f3, (hR.trans hR').trans hR'', hj'⟩
    · obtain rfl : i = n := by omega
      refine wpAny_pos f.tok (Wk.done s _ _ f.view.2 fun h' tk hk ht => ?_)
      dsimp only
      refine wpAny_execs_nil ?_
      refine hdone z R m cm _ ?_ hR hj
      exact
        { keep := by
            obtain ⟨h, t, rfl, e⟩ := f.keep
            exact ⟨h', tk, rfl, fun b o q => hk b o (fun hb => by rw [(f.offW b (List.mem_append_left _ hb)).2.1] at q; cases q) (e b o q)⟩
          tok := ht
          sub := fun b o q => hk b o (fun hb => by rw [(f.offW b (List.mem_append_left _ hb)).1] at q; cases q) (f.sub b o q)
          base := f.base
          ap := f.ap
          fns := Heap.Ns.at' f.fns fun o q => hk _ o (hwF _ (.inl rfl)) q
          cells := fun x c e => cell_at (f.cells x c e) fun o q => hk _ o (hwF _ (.inr ⟨x, e⟩)) q
          offF := fun a h => ⟨(f.offF a h).1, (f.offF a h).2.1, fun q => (f.offF a h).2.2 (List.mem_append_right _ q)⟩
          offW := fun a h => ⟨(f.offW a (List.mem_append_right _ h)).1, (f.offW a (List.mem_append_right _ h)).2.1, by
            obtain ⟨o, ho⟩ := Option.isSome_iff_exists.mp (f.offW a (List.mem_append_right _ h)).2.2
            show (h'.get? a).isSome = true
            rw [hk a o (hwO a h) ho]; rfl⟩
          liveW := fun a h => by
            obtain ⟨o, ho⟩ := Option.isSome_iff_exists.mp (f.liveW a (List.mem_append_right _ h))
            show (h'.get? a).isSome = true
            rw [hk a o (hfpW a h) ho]; rfl
          only := hW z
          view := hW z _ _ (fun a ha o q => hk a o (hfpW a ha) q) f.view.1 }
end

end Mine

/-! W2 -/
namespace Mine

section
variable {prog : Program} {w : World} {A : Around} {s₁ s s' : Shared} {B : Heap} {env : Env} {off wf : List Addr} {W : View} {R R' : Heap} {m cm m' cm' : MS}

theorem FS.weaken (f : FS s₁ B env off wf W R' m cm s) (h : Sub R R') : FS s₁ B env off wf W R m cm s :=
  have q : ∀ a, R'.get? a = none → R.get? a = none := fun a e => by
    cases z : R.get? a with
    | none => rfl
    | some o => rw [h _ _ z] at e; cases e
  { f with
    sub := h.trans f.sub
    base := fun b o e => f.base b o (h _ _ e)
    offF := fun a z => ⟨q a (f.offF a z).1, (f.offF a z).2⟩
    offW := fun a z => ⟨q a (f.offW a z).1, (f.offW a z).2⟩ }
theorem FS.grow (f : FS s₁ B env off wf W R m cm s) (k : Keeps s s') (ht : 0 < s'.toks) : FS s₁ B env off wf W R m cm s' := (f.step k ht).weaken (sub_fr f.sub k)

/-- at the end of a call: what is known of the region is known of what was given and what was made -/
theorem FS.out (f : FS s₁ B env off wf W R m cm s) : Sub R (fr B s₁ s) := fun b o e => fr_get.mpr ⟨f.sub _ _ e, f.base b o e⟩
theorem Ev.whole {α : Type} {V : View} {t : Sem α} {P0 : α → Prop} (h : ∀ g, Sub R g → V.p g → Ev prog w A V g t (fun a _ => P0 a)) : Ev prog w A V R t (fun a _ => P0 a) :=
  fun Q E s hs hv ht hq => h s.heap hs hv Q E s (Sub.refl _) hv ht fun a s' k t' p => hq a s' k t' fun g z => p.here
theorem FS.newList {x : PySem.Str} {px lp pos : Pos} {Q : Flow → Shared → Prop} {E : Value → Shared → Prop} (f : FS s₁ B env off wf W R m cm s) (hl : env.kindOf x = some .local)
    (h : ∀ D s', ¬ Frame env D → D ∉ off → D ∉ wf → FS s₁ B env (D :: off) (D :: wf) (W.and ⟨fun h => h.PlainList D ([] : List Value).toArray, fun _ _ s z => let ⟨n, q⟩ := z; ⟨n, s _ _ q⟩⟩) R (upd m x (.ref D)) cm s' → Q .next s')
    (hp : (env.scope.kind == .class || (env.scope.kind == .module && env.locals != env.globals)) = false := by rfl) (hs : swapsWith (.List [] lp) (some (.Name x px)) pos.line env = pure false := by rfl) :
    wpAny (model prog w) A (exec (.Assign [.Name x px] (.List [] lp) pos) env) Q E s := by
  refine wpAny_Assign_Name (wpAny_List (wpAny_items_nil ⟨Nat.zero_le _, ?_⟩)) hs
  have k : Keeps s { s with heap := s.heap.push { cls := .type "list", data := .seq ([] : List Value).toArray } } := keeps_mk (tk := s.toks) ((Sub.refl _).push _)
  have hD : s.heap.get? s.heap.objs.size = none := fresh_none _ (Nat.le_refl _)
  have hDn : (s.heap.push { cls := .type "list", data := .seq ([] : List Value).toArray }).get? s.heap.objs.size = some { cls := .type "list", data := .seq ([] : List Value).toArray } := Heap.get?_push_size _ rfl
  have nF : ¬ Frame env s.heap.objs.size := fun z => by have := f.liveF z; rw [hD] at this; cases this
  have nO : s.heap.objs.size ∉ off := fun z => by have := (f.offW _ z).2.2; rw [hD] at this; cases this
  have nW : s.heap.objs.size ∉ wf := fun z => by have := f.liveW _ z; rw [hD] at this; cases this
  have f1 := f.grow k f.tok
  have f2 : FS s₁ B env (s.heap.objs.size :: off) (s.heap.objs.size :: wf) (W.and ⟨fun h => h.PlainList s.heap.objs.size ([] : List Value).toArray, fun _ _ s z => let ⟨n, q⟩ := z; ⟨n, s _ _ q⟩⟩) R m cm { s with heap := s.heap.push { cls := .type "list", data := .seq ([] : List Value).toArray } } :=
    { f1 with
      offF := fun a z => ⟨(f1.offF a z).1, (f1.offF a z).2.1, fun q => (List.mem_cons.mp q).elim (fun e => nF (e ▸ z)) (f1.offF a z).2.2⟩
      offW := fun a z => (List.mem_cons.mp z).elim (fun e => by
        subst e
        refine ⟨fresh_off f.sub (Nat.le_refl _), fresh_off (keeps_sub f.keep) (Nat.le_refl _), ?_⟩
        rw [hDn]; rfl) (f1.offW a)
      liveW := fun a z => (List.mem_cons.mp z).elim (fun e => by rw [e, hDn]; rfl) (f1.liveW a)
      only := fun h h' q z => ⟨f1.only h h' (fun a ha => q a (.tail _ ha)) z.1, by obtain ⟨n, e⟩ := z.2; exact ⟨n, q _ (.head _) _ e⟩⟩
      view := ⟨f1.view, ⟨0, hDn⟩⟩ }
  exact f2.storeL hl (fun s3 f3 => h _ s3 nF nO nW f3) hp

/-- storing in a frame: a plain variable or a cell -/
inductive Sto (env : Env) (x : PySem.Str) (v : Value) (m cm : MS) : MS → MS → Prop
  | l (hl : env.kindOf x = some .local) : Sto env x v m cm (upd m x v) cm
  | c {a : Addr} (hl : env.kindOf x = some .cell) (hc : env.cells.lookup x = some a) : Sto env x v m cm m (upd cm x v)
theorem FS.sto {x : PySem.Str} {v : Value} {Q : Unit → Shared → Prop} {E : Value → Shared → Prop} (f : FS s₁ B env off wf W R m cm s) (hk : env.scope.kind = .function) (t : Sto env x v m cm m' cm') (h : ∀ s', FS s₁ B env off wf W R m' cm' s' → Q () s') :
    wpAny (model prog w) A (storeName env x v) Q E s := by
  cases t with
  | l hl => exact f.storeL hl h (by rw [hk]; rfl)
  | c hl hc => exact f.storeC hk hl hc h
theorem FS.bindN {x : PySem.Str} {px : Pos} {v : Value} {Q : Unit → Shared → Prop} {E : Value → Shared → Prop} (f : FS s₁ B env off wf W R m cm s) (hk : env.scope.kind = .function) (t : Sto env x v m cm m' cm') (h : ∀ s', FS s₁ B env off wf W R m' cm' s' → Q () s') :
    wpAny (model prog w) A (assign (.Name x px) env v) Q E s := wpAny_assign_Name (f.sto hk t h)

theorem keeps_ext {s : Shared} {h' : Heap} (e : Heap.ExtBut s.heap.objs.size s.heap h') : Keeps s { s with heap := h' } := keeps_mk (tk := s.toks) fun b o q => e b o (Nat.ne_of_lt (Heap.lt_size q)) q
theorem isTuple_sub {h h' : Heap} {t : Addr} {xs : Array Value} (x : h.IsTuple t xs) (s : Sub h h') : h'.IsTuple t xs := let ⟨o, ho, r⟩ := x; ⟨o, s _ _ ho, r⟩
/-- a pair taken apart -/
theorem FS.pair {x y : PySem.Str} {px py tp : Pos} {k : Nat} {t : Addr} {a b : Value} {m2 cm2 : MS} {Q : Unit → Shared → Prop} {E : Value → Shared → Prop} (f : FS s₁ B env off wf W R m cm s) (hk : env.scope.kind = .function) (hh : A.handled = none) (ht : R.IsTuple t #[a, b])
    (t1 : Sto env x a m cm m' cm') (t2 : Sto env y b m' cm' m2 cm2) (h : ∀ s' R', FS s₁ B env off wf W R' m2 cm2 s' → Sub R R' → Q () s') :
    wpAny (model prog w) A (assign (.Tuple [.Name x px, .Name y py] k tp) env (.ref t)) Q E s := by
  refine wpAny_assign_Tuple hh (isTuple_sub ht f.sub) rfl rfl fun h' e => ?_
  have f1 := f.step (keeps_ext e) f.tok
  show wpAny _ _ (assignInOrder [assign (.Name x px) env, assign (.Name y py) env] [a, b]) _ _ _
  refine wpAny_assignInOrder_more (f1.bindN hk t1 fun s2 f2 => wpAny_assignInOrder_more (f2.bindN hk t2 fun s3 f3 => wpAny_assignInOrder_none (h s3 _ f3 (sub_fr f.sub (keeps_ext e)))))
theorem FS.pairSwapped {x y : PySem.Str} {t : Addr} {a b : Value} {m2 cm2 : MS} {Q : Unit → Shared → Prop} {E : Value → Shared → Prop} (f : FS s₁ B env off wf W R m cm s) (hk : env.scope.kind = .function) (hh : A.handled = none) (ht : R.IsTuple t #[a, b])
    (t1 : Sto env y b m cm m' cm') (t2 : Sto env x a m' cm' m2 cm2) (h : ∀ s' R', FS s₁ B env off wf W R' m2 cm2 s' → Sub R R' → Q () s') :
    wpAny (model prog w) A (unpackItems (.ref t) 2 none) (fun items s₂ => wpAny (model prog w) A (assignInOrder ([x, y].reverse.map fun n => bindName env n) items.reverse) Q E s₂) E s := by
  refine wpAny_unpackItems_tuple (items := #[a, b]) (t := t) (Q := fun items s₂ => wpAny (model prog w) A (assignInOrder ([x, y].reverse.map fun n => bindName env n) items.reverse) Q E s₂) hh (isTuple_sub ht f.sub) fun h' e => ?_
  have f1 := f.step (keeps_ext e) f.tok
  show wpAny _ _ (assignInOrder [bindName env y, bindName env x] [b, a]) _ _ _
  refine wpAny_assignInOrder_more (wpAny_bindName (f1.sto hk t1 fun s2 f2 => wpAny_assignInOrder_more (wpAny_bindName (f2.sto hk t2 fun s3 f3 => wpAny_assignInOrder_none (h s3 _ f3 (sub_fr f.sub (keeps_ext e)))))))

/-- a list grows -/
theorem FS.append {lst : PySem.Str} {elt : Expr} {p1 apos cpos epos : Pos} {D : Addr} {xs : List Value} {P : Value → Heap → Prop} {Q : Flow → Shared → Prop} {E : Value → Shared → Prop} {W' : Value → View} (f : FS s₁ B env off wf W R m cm s) (hD : D ∈ off) (hnF : ¬ Frame env D)
    (hk : env.scope.kind = .function) (hl : env.kindOf lst = some .local) (hm : m lst = some (.ref D)) (hz : xs.length ≤ sizeLine) (hpl : ∀ h, W.p h → h.PlainList D xs.toArray)
    (hW : ∀ v, Only (W' v) wf) (hW' : ∀ v h h', W.p h → Heap.SameBut D h h' → h'.PlainList D (xs ++ [v]).toArray → (W' v).p h')
    (x : Ev prog w A (fv env m cm W) R (eval elt env) P) (h : ∀ v s' R', FS s₁ B env off wf (W' v) R' m cm s' → Sub R R' → P v R' → Q .next s')
    (hd : (lst == ("__debug__" : PySem.Str)) = false := by decide)
    (hbase : attributeBase (.Name lst p1) "append" env (eval (.Name lst p1) env) = eval (.Name lst p1) env := by rfl)
    (hfew : ((backTo cpos (starEach [elt] env)).all (fun x => !x.1) && (backToKw cpos (keywordEach [] env)).all (fun x => x.1.isSome)
      && decide (([elt] : List Expr).length + ([] : List Keyword).length + (if ([] : List Keyword).isEmpty then 0 else 1) < 30)) = true := by rfl)
    (hline : (apos.endLine == cpos.line) = true := by rfl) (htrees : backTo cpos (starEach [elt] env) = [(false, eval elt env)] := by rfl) (hi : interactive env = false := by rfl) (hsw : swapsWith (.Call (.Attribute (.Name lst p1) "append" apos) [elt] [] cpos) none epos.line env = pure false := by rfl) :
    wpAny (model prog w) A (exec (.Expr (.Call (.Attribute (.Name lst p1) "append" apos) [elt] [] cpos) epos) env) Q E s := by
  refine wpAny_Expr ?_ hi hsw
  refine wpAny_Call_append hbase hfew hline htrees ?_
  refine wpAny_Name (wpAny_loadName_local hk hl f.fns hm ?_) hd
  obtain ⟨n, ho⟩ := hpl _ f.view
  refine ⟨D, _, rfl, ⟨_, n, ho, rfl, rfl, rfl⟩, ?_⟩
  refine f.ev x fun v s2 R2 f2 hR2 p => ?_
  obtain ⟨n2, ho2⟩ := hpl _ f2.view
  refine append_at ho2 (fun h' hs ho' => ?_) (by simpa using hz)
  have hpl' : h'.PlainList D (xs ++ [v]).toArray := ⟨n2 + 1, by rw [ho']; simp⟩
  have hFs : ∀ a, Frame env a → a ≠ D := fun a ha z => hnF (z ▸ ha)
  refine h v _ R2 (f2.change (tk := s2.toks) hs ⟨(f2.offW D hD).1, (f2.offW D hD).2.1⟩ (by rw [ho']; rfl) f2.tok (f2.fns.sameBut hs (hFs _ (.inl rfl))) (fun y c e => cell_at (f2.cells y c e) fun o q => (hs.2 c (hFs _ (.inr ⟨y, e⟩))).trans q) (hW v) (hW' v _ _ f2.view hs hpl')) hR2 p

theorem FS.forIter {ι : Type} {W : ι → View} {J : Nat → ι → Heap → MS → MS → Prop} {T : Value → MS → MS → MS → MS → Prop} {target iter : Expr} {body : List Stmt} {pos : Pos} {n : Nat} {P : Nat → Value → Prop} {PX : Value → Heap → Prop} {Q : Flow → Shared → Prop} {E : Value → Shared → Prop} {z0 : ι} {R0 : Heap} {m0 cm0 : MS}
    (f0 : FS s₁ B env off wf (W z0) R0 m0 cm0 s) (hit : Ev prog w A (fv env m0 cm0 (W z0)) R0 (eval iter env) PX) (hI : ∀ xv R1, Sub R0 R1 → PX xv R1 → Iters prog w A R1 xv n P)
    (hW : ∀ z, Only (W z) wf)
    (hasg : ∀ off' wf' W' R m cm s i v, FS s₁ B env off' wf' W' R m cm s → Sub R0 R → P i v → ∀ (Q : Unit → Shared → Prop) (E : Value → Shared → Prop), (∀ s' R' m' cm', FS s₁ B env off' wf' W' R' m' cm' s' → Sub R R' → T v m m' cm cm' → Q () s') → wpAny (model prog w) A (assign target env v) Q E s)
    (hJ : ∀ i z R R' m cm, Sub R R' → J i z R m cm → J i z R' m cm) (h0 : J 0 z0 R0 m0 cm0)
    (hbody : ∀ Wx offx fpx z i v R ma cma m cm s, i < n → P i v → J i z R ma cma → T v ma m cma cm → Sub R0 R → Only Wx fpx → (∀ a ∈ off, a ∉ fpx) → FS s₁ B env (offx ++ off) (fpx ++ wf) ((W z).and Wx) R m cm s →
      ∀ (Q : Flow → Shared → Prop) (E : Value → Shared → Prop), (∀ s' z' R' m' cm', FS s₁ B env (offx ++ off) (fpx ++ wf) ((W z').and Wx) R' m' cm' s' → Sub R R' → J (i + 1) z' R' m' cm' → Q .next s') → wpAny (model prog w) A (execs body env) Q E s)
    (hdone : ∀ z R m cm s, FS s₁ B env off wf (W z) R m cm s → Sub R0 R → J n z R m cm → Q .next s)
    (hgo : ∀ it v, letOwnedTupleGo target it v = pure () := by intro _ _; rfl) (hs : ∀ x, foldedSetIterable iter env x = pure x := by intro _; rfl) :
    wpAny (model prog w) A (exec (.For target iter body [] pos) env) Q E s := by
  refine wpAny_For (f0.ev hit fun xv sa R1 f1 hR1 p => ?_) hs
  refine wpAny_pos f1.tok (hI xv R1 hR1 p _ _ sa f1.sub fun I fp wr St s2 k2 Wk hst hwr hfp hal ht => ?_)
  have nofp : ∀ a, R1.get? a = none → (sa.heap.get? a).isSome = true → a ∉ fp := fun a h1 h2 hm => by
    rcases (hfp a hm).1 with q | q
    · rw [h1] at q; cases q
    · rw [q] at h2; cases h2
  refine for_core (R0 := R1) (J := J) (T := T) Wk hal (fun i v s Q E _ _ hq => wpAny_of_eq (hgo _ _) hq) hW (fun a h => nofp a (f1.offF a h).1 (f1.liveF h)) (fun a h => nofp a (f1.offW a h).1 (f1.offW a h).2.2)
    (fun a h hm => by have := f1.liveW a h; rw [hwr a hm] at this; cases this)
    (fun off' wf' W' R m cm s i v f hR => hasg off' wf' W' R m cm s i v f (hR1.trans hR)) hJ
    (fun Wx offx fpx z i v R ma cma m cm s hi hP hj hT hR => hbody Wx offx fpx z i v R ma cma m cm s hi hP hj hT (hR1.trans hR))
    (fun z R m cm s f hR hj => hdone z R m cm s f (hR1.trans hR) hj) (f1.grow k2 ht) hst (fun b hb => ⟨?_, none_of_keeps f1.keep (hwr b hb)⟩) (hJ _ _ _ _ _ _ hR1 h0)
  cases e : R1.get? b with
  | none => rfl
  | some o => have := hwr b hb; rw [f1.sub _ _ e] at this; cases this
end

end Mine

/-! W3 -/
namespace Mine
section
variable {prog : Program} {w : World} {A : Around} {s₁ : Shared} {B : Heap} {env : Env} {off wf : List Addr} {R0 : Heap}

theorem for_core2 {ι : Type} {W : ι → View} {J : Nat → ι → Heap → MS → MS → Prop} {D : ι → Heap → MS → MS → Prop} {T : Value → MS → MS → MS → MS → Prop} {target : Expr} {body : List Stmt} {I : Addr} {fp wr : List Addr} {n : Nat} {P : Nat → Value → Prop} {St : Nat → Heap → Prop} {RR : Result → Shared → Prop}
    (Wk : Walks prog w A I fp wr n P St) (hal : ∀ i h, St i h → ∀ b ∈ fp, (h.get? b).isSome = true)
    (hgo : ∀ i v (s : Shared) (Q : Unit → Shared → Prop) (E : Value → Shared → Prop), St (i + 1) s.heap → P i v → Q () s → wpAny (model prog w) A (letOwnedTupleGo target (.ref I) v) Q E s)
    (hW : ∀ z, Only (W z) wf) (hfpF : ∀ a, Frame env a → a ∉ fp) (hfpO : ∀ a ∈ off, a ∉ fp) (hfpW : ∀ a ∈ wf, a ∉ wr)
    (hasg : ∀ off' wf' W' R m cm s i v, FS s₁ B env off' wf' W' R m cm s → Sub R0 R → P i v → ∀ (Q : Unit → Shared → Prop) (E : Value → Shared → Prop), (∀ s' R' m' cm', FS s₁ B env off' wf' W' R' m' cm' s' → Sub R R' → T v m m' cm cm' → Q () s') → wpAny (model prog w) A (assign target env v) Q E s)
    (hJ : ∀ i z R R' m cm, Sub R R' → J i z R m cm → J i z R' m cm)
    (hbody : ∀ Wx offx fpx z i v R m0 cm0 m cm s, i < n → P i v → J i z R m0 cm0 → T v m0 m cm0 cm → Sub R0 R → Only Wx fpx → (∀ a ∈ off, a ∉ fpx) → FS s₁ B env (offx ++ off) (fpx ++ wf) ((W z).and Wx) R m cm s →
      ∀ (Q : Flow → Shared → Prop) (E : Value → Shared → Prop), (∀ s' z' R' m' cm', FS s₁ B env (offx ++ off) (fpx ++ wf) ((W z').and Wx) R' m' cm' s' → Sub R R' → J (i + 1) z' R' m' cm' → Q .next s' ∧ Q .cont s') →
        (∀ s' z' R' m' cm', FS s₁ B env (offx ++ off) (fpx ++ wf) ((W z').and Wx) R' m' cm' s' → Sub R R' → D z' R' m' cm' → Q .brk s') → wpAny (model prog w) A (execs body env) Q E s)
    (hend : ∀ z R m cm, J n z R m cm → D z R m cm)
    (hdone : ∀ z R m cm s, FS s₁ B env off wf (W z) R m cm s → Sub R0 R → D z R m cm → RR (.ok .next) s)
    {z0 : ι} {m0 cm0 : MS} {s : Shared} (f0 : FS s₁ B env off wf (W z0) R0 m0 cm0 s) (hst : St 0 s.heap) (hwr : ∀ b ∈ wr, R0.get? b = none ∧ s₁.heap.get? b = none) (h0 : J 0 z0 R0 m0 cm0) :
    codeAny (model prog w) A (.forLoop target (.ref I) body [] env) RR s := by
  have hwF : ∀ a, Frame env a → a ∉ wr := fun a h q => hfpF a h (Wk.sub a q)
  have hwO : ∀ a ∈ off, a ∉ wr := fun a h q => hfpO a h (Wk.sub a q)
  have oSt : ∀ i, Only (View.st Wk i) fp := fun i h h' k p => Wk.frame i h h' p fun b hb o e => k b hb o e
  refine codeAny_forLoop_any (fun k s => ∃ i z R m cm, k = n - i ∧ i ≤ n ∧ FS s₁ B env (wr ++ off) (fp ++ wf) ((W z).and (View.st Wk i)) R m cm s ∧ Sub R0 R ∧ J i z R m cm) ?turn n ⟨0, z0, R0, m0, cm0, rfl, Nat.zero_le _, ?start, Sub.refl _, h0⟩
  case start =>
    exact { f0 with
      offF := fun a h => ⟨(f0.offF a h).1, (f0.offF a h).2.1, fun q => (List.mem_append.mp q).elim (hfpF a h) (f0.offF a h).2.2⟩
      offW := fun a h => (List.mem_append.mp h).elim (fun q => ⟨(hwr a q).1, (hwr a q).2, hal 0 _ hst a (Wk.sub a q)⟩) (f0.offW a)
      liveW := fun a h => (List.mem_append.mp h).elim (fun q => hal 0 _ hst a q) (f0.liveW a)
      only := only_and (hW z0) (oSt 0)
      view := ⟨f0.view, hst⟩ }
  case turn =>
    rintro k s ⟨i, z, R, m, cm, rfl, hi, f, hR, hj⟩
    -- what a step of the walk leaves
    have next : ∀ (h' : Heap) (tk : Nat) (i' : Nat), 0 < tk → St i' h' → (∀ b o, b ∉ wr → s.heap.get? b = some o → h'.get? b = some o) → FS s₁ B env (wr ++ off) (fp ++ wf) ((W z).and (View.st Wk i')) R m cm { s with heap := h', toks := tk } := fun h' tk i' ht hst' hk =>
      { keep := by
          obtain ⟨h, t, rfl, e⟩ := f.keep
          exact ⟨h', tk, rfl, fun b o q => hk b o (fun hb => by rw [(f.offW b (List.mem_append_left _ hb)).2.1] at q; cases q) (e b o q)⟩
        tok := ht
        sub := fun b o q => hk b o (fun hb => by rw [(f.offW b (List.mem_append_left _ hb)).1] at q; cases q) (f.sub b o q)
        base := f.base
        ap := f.ap
        fns := Heap.Ns.at' f.fns fun o q => hk _ o (hwF _ (.inl rfl)) q
        cells := fun x c e => cell_at (f.cells x c e) fun o q => hk _ o (hwF _ (.inr ⟨x, e⟩)) q
        offF := f.offF
        offW := fun a h => ⟨(f.offW a h).1, (f.offW a h).2.1, by
          by_cases hb : a ∈ wr
          · exact hal i' h' hst' a (Wk.sub a hb)
          · obtain ⟨o, ho⟩ := Option.isSome_iff_exists.mp (f.offW a h).2.2
            show (h'.get? a).isSome = true
            rw [hk a o hb ho]; rfl⟩
        liveW := fun a h => by
          by_cases hb : a ∈ wr
          · exact hal i' h' hst' a (Wk.sub a hb)
          · obtain ⟨o, ho⟩ := Option.isSome_iff_exists.mp (f.liveW a h)
            show (h'.get? a).isSome = true
            rw [hk a o hb ho]; rfl
        only := only_and (hW z) (oSt i')
        view := ⟨hW z _ _ (fun a ha o q => hk a o (hfpW a ha) q) f.view.1, hst'⟩ }
    by_cases hlt : i < n
    · refine wpAny_pos f.tok (Wk.item i s _ _ hlt f.view.2 fun v h' tk hP hst' hk ht => ?_)
      dsimp only
      have f1 := next h' tk (i + 1) ht hst' hk
      refine hgo i v _ _ _ hst' hP ?_
      refine hasg _ _ _ R m cm _ i v f1 hR hP _ _ fun s' R' m' cm' f2 hR' hT => ?_
      refine hbody (View.st Wk (i + 1)) wr fp z i v R' m cm m' cm' s' hlt hP (hJ _ _ _ _ _ _ hR' hj) hT (hR.trans hR') (oSt _) hfpO f2 _ _ (fun s'' z' R'' m'' cm'' f3 hR'' hj' => ?_) fun s'' z' R'' m'' cm'' f3 hR'' hd => ?_
      · have : ∃ m, m < n - i ∧ ∃ i z R m_1 cm, m = n - i ∧ i ≤ n ∧ FS s₁ B env (wr ++ off) (fp ++ wf) ((W z).and (View.st Wk i)) R m_1 cm s'' ∧ Sub R0 R ∧ J i z R m_1 cm :=
          ⟨n - (i + 1), by omega, i + 1, z', R'', m'', cm'', rfl, hlt, f3, (hR.trans hR').trans hR'', hj'⟩
        exact ⟨this, this⟩
      · refine hdone z' R'' m'' cm'' s'' ?_ ((hR.trans hR').trans hR'') hd
        exact { f3 with
          offF := fun a h => ⟨(f3.offF a h).1, (f3.offF a h).2.1, fun q => (f3.offF a h).2.2 (List.mem_append_right _ q)⟩
          offW := fun a h => f3.offW a (List.mem_append_right _ h)
          liveW := fun a h => f3.liveW a (List.mem_append_right _ h)
          only := hW z'
          view := f3.view.1 }
    · obtain rfl : i = n := by omega
      refine wpAny_pos f.tok (Wk.done s _ _ f.view.2 fun h' tk hk ht => ?_)
      dsimp only
      refine wpAny_execs_nil ?_
      refine hdone z R m cm _ ?_ hR (hend _ _ _ _ hj)
      exact
        { keep := by
            obtain ⟨h, t, rfl, e⟩ := f.keep
            exact ⟨h', tk, rfl, fun b o q => hk b o (fun hb => by rw [(f.offW b (List.mem_append_left _ hb)).2.1] at q; cases q) (e b o q)⟩
          tok := ht
          sub := fun b o q => hk b o (fun hb => by rw [(f.offW b (List.mem_append_left _ hb)).1] at q; cases q) (f.sub b o q)
          base := f.base
          ap := f.ap
          fns := Heap.Ns.at' f.fns fun o q => hk _ o (hwF _ (.inl rfl)) q
          cells := fun x c e => cell_at (f.cells x c e) fun o q => hk _ o (hwF _ (.inr ⟨x, e⟩)) q
          offF := fun a h => ⟨(f.offF a h).1, (f.offF a h).2.1, fun q => (f.offF a h).2.2 (List.mem_append_right _ q)⟩
          offW := fun a h => ⟨(f.offW a (List.mem_append_right _ h)).1, (f.offW a (List.mem_append_right _ h)).2.1, by
            obtain ⟨o, ho⟩ := Option.isSome_iff_exists.mp (f.offW a (List.mem_append_right _ h)).2.2
            show (h'.get? a).isSome = true
            rw [hk a o (hwO a h) ho]; rfl⟩
          liveW := fun a h => by
            obtain ⟨o, ho⟩ := Option.isSome_iff_exists.mp (f.liveW a (List.mem_append_right _ h))
            show (h'.get? a).isSome = true
            rw [hk a o (hfpW a h) ho]; rfl
          only := hW z
          view := hW z _ _ (fun a ha o q => hk a o (hfpW a ha) q) f.view.1 }
end
section
variable {prog : Program} {w : World} {A : Around} {s₁ s s' : Shared} {B : Heap} {env : Env} {off wf : List Addr} {W : View} {R R' : Heap} {m cm m' cm' : MS}

theorem FS.forIter2 {ι : Type} {W : ι → View} {J : Nat → ι → Heap → MS → MS → Prop} {D : ι → Heap → MS → MS → Prop} {T : Value → MS → MS → MS → MS → Prop} {target iter : Expr} {body : List Stmt} {pos : Pos} {n : Nat} {P : Nat → Value → Prop} {PX : Value → Heap → Prop} {Q : Flow → Shared → Prop} {E : Value → Shared → Prop} {z0 : ι} {R0 : Heap} {m0 cm0 : MS}
    (f0 : FS s₁ B env off wf (W z0) R0 m0 cm0 s) (hit : Ev prog w A (fv env m0 cm0 (W z0)) R0 (eval iter env) PX) (hI : ∀ xv R1, Sub R0 R1 → PX xv R1 → Iters prog w A R1 xv n P)
    (hW : ∀ z, Only (W z) wf)
    (hasg : ∀ off' wf' W' R m cm s i v, FS s₁ B env off' wf' W' R m cm s → Sub R0 R → P i v → ∀ (Q : Unit → Shared → Prop) (E : Value → Shared → Prop), (∀ s' R' m' cm', FS s₁ B env off' wf' W' R' m' cm' s' → Sub R R' → T v m m' cm cm' → Q () s') → wpAny (model prog w) A (assign target env v) Q E s)
    (hJ : ∀ i z R R' m cm, Sub R R' → J i z R m cm → J i z R' m cm) (h0 : J 0 z0 R0 m0 cm0)
    (hbody : ∀ Wx offx fpx z i v R ma cma m cm s, i < n → P i v → J i z R ma cma → T v ma m cma cm → Sub R0 R → Only Wx fpx → (∀ a ∈ off, a ∉ fpx) → FS s₁ B env (offx ++ off) (fpx ++ wf) ((W z).and Wx) R m cm s →
      ∀ (Q : Flow → Shared → Prop) (E : Value → Shared → Prop), (∀ s' z' R' m' cm', FS s₁ B env (offx ++ off) (fpx ++ wf) ((W z').and Wx) R' m' cm' s' → Sub R R' → J (i + 1) z' R' m' cm' → Q .next s' ∧ Q .cont s') →
        (∀ s' z' R' m' cm', FS s₁ B env (offx ++ off) (fpx ++ wf) ((W z').and Wx) R' m' cm' s' → Sub R R' → D z' R' m' cm' → Q .brk s') → wpAny (model prog w) A (execs body env) Q E s)
    (hend : ∀ z R m cm, J n z R m cm → D z R m cm)
    (hdone : ∀ z R m cm s, FS s₁ B env off wf (W z) R m cm s → Sub R0 R → D z R m cm → Q .next s)
    (hgo : ∀ it v, letOwnedTupleGo target it v = pure () := by intro _ _; rfl) (hs : ∀ x, foldedSetIterable iter env x = pure x := by intro _; rfl) :
    wpAny (model prog w) A (exec (.For target iter body [] pos) env) Q E s := by
  refine wpAny_For (f0.ev hit fun xv sa R1 f1 hR1 p => ?_) hs
  refine wpAny_pos f1.tok (hI xv R1 hR1 p _ _ sa f1.sub fun I fp wr St s2 k2 Wk hst hwr hfp hal ht => ?_)
  have nofp : ∀ a, R1.get? a = none → (sa.heap.get? a).isSome = true → a ∉ fp := fun a h1 h2 hm => by
    rcases (hfp a hm).1 with q | q
    · rw [h1] at q; cases q
    · rw [q] at h2; cases h2
  refine for_core2 (R0 := R1) (J := J) (D := D) (T := T) Wk hal (fun i v s Q E _ _ hq => wpAny_of_eq (hgo _ _) hq) hW (fun a h => nofp a (f1.offF a h).1 (f1.liveF h)) (fun a h => nofp a (f1.offW a h).1 (f1.offW a h).2.2)
    (fun a h hm => by have := f1.liveW a h; rw [hwr a hm] at this; cases this)
    (fun off' wf' W' R m cm s i v f hR => hasg off' wf' W' R m cm s i v f (hR1.trans hR)) hJ
    (fun Wx offx fpx z i v R ma cma m cm s hi hP hj hT hR => hbody Wx offx fpx z i v R ma cma m cm s hi hP hj hT (hR1.trans hR)) hend
    (fun z R m cm s f hR hj => hdone z R m cm s f (hR1.trans hR) hj) (f1.grow k2 ht) hst (fun b hb => ⟨?_, none_of_keeps f1.keep (hwr b hb)⟩) (hJ _ _ _ _ _ _ hR1 h0)
  cases e : R1.get? b with
  | none => rfl
  | some o => have := hwr b hb; rw [f1.sub _ _ e] at this; cases this
end

end Mine

/-! W4 -/
namespace Mine

def PLv (D : Addr) (xs : List Value) : View := ⟨fun h => h.PlainList D xs.toArray, fun _ _ s z => let ⟨n, q⟩ := z; ⟨n, s _ _ q⟩⟩
theorem only_PLv {D : Addr} {xs : List Value} : Only (PLv D xs) [D] := fun h h' q p => let ⟨n, e⟩ := p; ⟨n, q D (by simp) _ e⟩
theorem plain_same {D a : Addr} {xs : Array Value} {h h' : Heap} (x : h.PlainList D xs) (hs : Heap.SameBut a h h') (hne : D ≠ a) : h'.PlainList D xs := let ⟨n, e⟩ := x; ⟨n, (hs.2 D hne).trans e⟩

section
variable {prog : Program} {w : World} {A : Around} {s₁ s s' : Shared} {B : Heap} {env : Env} {off wf : List Addr} {W : View} {R R' : Heap} {m cm m' cm' : MS}

/-- a new list, still to be changed -/
theorem FS.pushList (f : FS s₁ B env off wf W R m cm s) (vs : List Value) : ¬ Frame env s.heap.objs.size ∧ s.heap.objs.size ∉ off ∧ s.heap.objs.size ∉ wf ∧
    FS s₁ B env (s.heap.objs.size :: off) (s.heap.objs.size :: wf) (W.and (PLv s.heap.objs.size vs)) R m cm { s with heap := s.heap.push { cls := .type "list", data := .seq vs.toArray } } := by
  have k : Keeps s { s with heap := s.heap.push { cls := .type "list", data := .seq vs.toArray } } := keeps_mk (tk := s.toks) ((Sub.refl _).push _)
  have hD : s.heap.get? s.heap.objs.size = none := fresh_none _ (Nat.le_refl _)
  have hDn : (s.heap.push { cls := .type "list", data := .seq vs.toArray }).get? s.heap.objs.size = some { cls := .type "list", data := .seq vs.toArray } := Heap.get?_push_size _ rfl
  have nF : ¬ Frame env s.heap.objs.size := fun z => by have := f.liveF z; rw [hD] at this; cases this
  have nO : s.heap.objs.size ∉ off := fun z => by have := (f.offW _ z).2.2; rw [hD] at this; cases this
  have nW : s.heap.objs.size ∉ wf := fun z => by have := f.liveW _ z; rw [hD] at this; cases this
  have f1 := f.grow k f.tok
  refine ⟨nF, nO, nW, ?_⟩
  exact { f1 with
      offF := fun a z => ⟨(f1.offF a z).1, (f1.offF a z).2.1, fun q => (List.mem_cons.mp q).elim (fun e => nF (e ▸ z)) (f1.offF a z).2.2⟩
      offW := fun a z => (List.mem_cons.mp z).elim (fun e => by
        subst e
        refine ⟨fresh_off f.sub (Nat.le_refl _), fresh_off (keeps_sub f.keep) (Nat.le_refl _), ?_⟩
        rw [hDn]; rfl) (f1.offW a)
      liveW := fun a z => (List.mem_cons.mp z).elim (fun e => by rw [e, hDn]; rfl) (f1.liveW a)
      only := fun h h' q z => ⟨f1.only h h' (fun a ha => q a (.tail _ ha)) z.1, by obtain ⟨n, e⟩ := z.2; exact ⟨n, q _ (.head _) _ e⟩⟩
      view := ⟨f1.view, ⟨0, hDn⟩⟩ }

/-- a list that is done with stands from now on -/
theorem FS.freeze {D : Addr} {xs : Array Value} {off' wf' : List Addr} {W' : View} (f : FS s₁ B env off wf W R m cm s) (hD : D ∈ off) (nF : ¬ Frame env D) (ho : ∀ a ∈ off', a ∈ off ∧ a ≠ D) (hw : ∀ a ∈ wf', a ∈ wf) (hW : Only W' wf') (hv : W'.p s.heap) (hl : s.heap.IsList D xs) :
    ∃ R', FS s₁ B env off' wf' W' R' m cm s ∧ Sub R R' ∧ R'.IsList D xs := by
  let R' : Heap := Mine.only s.heap fun b => (R.get? b).isSome || b == D
  have g : ∀ b o, R'.get? b = some o ↔ s.heap.get? b = some o ∧ ((R.get? b).isSome = true ∨ b = D) := fun b o => by
    show (Mine.only s.heap _).get? b = some o ↔ _
    rw [only_get]
    split
    · rename_i q; exact ⟨fun e => ⟨e, by simpa using q⟩, fun e => e.1⟩
    · rename_i q; exact ⟨fun e => (by cases e), fun e => absurd (by simpa using e.2) q⟩
  have n' : ∀ a, R.get? a = none → a ≠ D → R'.get? a = none := fun a h1 h2 => by
    cases e : R'.get? a with
    | none => rfl
    | some o =>
      rcases ((g a o).mp e).2 with q | q
      · rw [h1] at q; cases q
      · exact absurd q h2
  refine ⟨R', ?_, fun b o e => (g b o).mpr ⟨f.sub _ _ e, .inl (by rw [e]; rfl)⟩, ?_⟩
  · exact { f with
      sub := fun b o e => ((g b o).mp e).1
      base := fun b o e => by
        rcases ((g b o).mp e).2 with q | q
        · obtain ⟨o', ho'⟩ := Option.isSome_iff_exists.mp q
          exact f.base b o' ho'
        · rw [q]; exact .inr (f.offW D hD).2.1
      offF := fun a h => ⟨n' a (f.offF a h).1 (fun z => nF (z ▸ h)), (f.offF a h).2.1, fun z => (f.offF a h).2.2 (hw a z)⟩
      offW := fun a h => ⟨n' a (f.offW a (ho a h).1).1 (ho a h).2, (f.offW a (ho a h).1).2⟩
      liveW := fun a h => f.liveW a (hw a h)
      only := hW
      view := hv }
  · obtain ⟨o, e, q⟩ := hl
    exact ⟨o, (g D o).mpr ⟨e, .inr rfl⟩, q⟩

/-- a list grows; the list by whatever reads it -/
theorem FS.appendE {o elt : Expr} {apos cpos epos : Pos} {D : Addr} {xs : List Value} {P : Value → Heap → Prop} {Q : Flow → Shared → Prop} {E : Value → Shared → Prop} {W' : Value → View} (f : FS s₁ B env off wf W R m cm s) (hD : D ∈ off) (hnF : ¬ Frame env D)
    (ho : Ev prog w A (fv env m cm W) R (eval o env) (Is (.ref D))) (hz : xs.length ≤ sizeLine) (hpl : ∀ h, W.p h → h.PlainList D xs.toArray)
    (hW : ∀ v, Only (W' v) wf) (hW' : ∀ v h h', W.p h → Heap.SameBut D h h' → h'.PlainList D (xs ++ [v]).toArray → (W' v).p h')
    (x : Ev prog w A (fv env m cm W) R (eval elt env) P) (h : ∀ v s' R', FS s₁ B env off wf (W' v) R' m cm s' → Sub R R' → P v R' → Q .next s')
    (hbase : attributeBase o "append" env (eval o env) = eval o env := by rfl)
    (hfew : ((backTo cpos (starEach [elt] env)).all (fun x => !x.1) && (backToKw cpos (keywordEach [] env)).all (fun x => x.1.isSome)
      && decide (([elt] : List Expr).length + ([] : List Keyword).length + (if ([] : List Keyword).isEmpty then 0 else 1) < 30)) = true := by rfl)
    (hline : (apos.endLine == cpos.line) = true := by rfl) (htrees : backTo cpos (starEach [elt] env) = [(false, eval elt env)] := by rfl) (hi : interactive env = false := by rfl) (hsw : swapsWith (.Call (.Attribute o "append" apos) [elt] [] cpos) none epos.line env = pure false := by rfl) :
    wpAny (model prog w) A (exec (.Expr (.Call (.Attribute o "append" apos) [elt] [] cpos) epos) env) Q E s := by
  refine wpAny_Expr ?_ hi hsw
  refine wpAny_Call_append hbase hfew hline htrees ?_
  refine f.ev ho fun ov s1 R1 f1 hR1 p => ?_
  cases p
  obtain ⟨n, ho⟩ := hpl _ f1.view
  refine ⟨D, _, rfl, ⟨_, n, ho, rfl, rfl, rfl⟩, ?_⟩
  refine f1.ev (x.sub hR1) fun v s2 R2 f2 hR2 p => ?_
  obtain ⟨n2, ho2⟩ := hpl _ f2.view
  refine append_at ho2 (fun h' hs ho' => ?_) (by simpa using hz)
  have hpl' : h'.PlainList D (xs ++ [v]).toArray := ⟨n2 + 1, by rw [ho']; simp⟩
  have hFs : ∀ a, Frame env a → a ≠ D := fun a ha z => hnF (z ▸ ha)
  refine h v _ R2 (f2.change (tk := s2.toks) hs ⟨(f2.offW D hD).1, (f2.offW D hD).2.1⟩ (by rw [ho']; rfl) f2.tok (f2.fns.sameBut hs (hFs _ (.inl rfl))) (fun y c e => cell_at (f2.cells y c e) fun o q => (hs.2 c (hFs _ (.inr ⟨y, e⟩))).trans q) (hW v) (hW' v _ _ f2.view hs hpl')) (hR1.trans hR2) p

/-- a new list is appended, still to be changed -/
theorem FS.appendNew {o : Expr} {elts : List Expr} {lp apos cpos epos : Pos} {D : Addr} {xs : List Value} {PL : List Value → Heap → Prop} {Q : Flow → Shared → Prop} {E : Value → Shared → Prop} {W' : Value → View} (f : FS s₁ B env off wf W R m cm s) (hD : D ∈ off) (hnF : ¬ Frame env D)
    (ho : Ev prog w A (fv env m cm W) R (eval o env) (Is (.ref D))) (hz : xs.length ≤ sizeLine) (hpl : ∀ h, W.p h → h.PlainList D xs.toArray)
    (hW : ∀ v, Only (W' v) wf) (hW' : ∀ v h h', W.p h → Heap.SameBut D h h' → h'.PlainList D (xs ++ [v]).toArray → (W' v).p h')
    (x : Ev prog w A (fv env m cm W) R (spliced (backTo lp (starEach elts env))) PL) (hsz : ∀ vs h, PL vs h → vs.length ≤ sizeLine)
    (h : ∀ C vs s' R', ¬ Frame env C → C ∉ off → C ∉ wf → FS s₁ B env (C :: off) (C :: wf) ((W' (.ref C)).and (PLv C vs)) R' m cm s' → Sub R R' → PL vs R' → Q .next s')
    (hbase : attributeBase o "append" env (eval o env) = eval o env := by rfl)
    (hfew : ((backTo cpos (starEach [.List elts lp] env)).all (fun x => !x.1) && (backToKw cpos (keywordEach [] env)).all (fun x => x.1.isSome)
      && decide (([.List elts lp] : List Expr).length + ([] : List Keyword).length + (if ([] : List Keyword).isEmpty then 0 else 1) < 30)) = true := by rfl)
    (hline : (apos.endLine == cpos.line) = true := by rfl) (htrees : backTo cpos (starEach [.List elts lp] env) = [(false, eval (.List elts lp) env)] := by rfl) (hi : interactive env = false := by rfl) (hsw : swapsWith (.Call (.Attribute o "append" apos) [.List elts lp] [] cpos) none epos.line env = pure false := by rfl) :
    wpAny (model prog w) A (exec (.Expr (.Call (.Attribute o "append" apos) [.List elts lp] [] cpos) epos) env) Q E s := by
  refine wpAny_Expr ?_ hi hsw
  refine wpAny_Call_append hbase hfew hline htrees ?_
  refine f.ev ho fun ov s1 R1 f1 hR1 p => ?_
  cases p
  obtain ⟨n, ho⟩ := hpl _ f1.view
  refine ⟨D, _, rfl, ⟨_, n, ho, rfl, rfl, rfl⟩, ?_⟩
  refine wpAny_List (f1.ev (x.sub hR1) fun vs s2 R2 f2 hR2 p => ⟨hsz _ _ p, ?_⟩)
  obtain ⟨nF, nO, nW, f3⟩ := f2.pushList vs
  have hDC : D ≠ s2.heap.objs.size := fun z => nO (z ▸ hD)
  obtain ⟨n2, ho2⟩ := hpl _ f3.view.1
  refine append_at ho2 (fun h' hs ho' => ?_) (by simpa using hz)
  have hpl' : h'.PlainList D (xs ++ [Value.ref s2.heap.objs.size]).toArray := ⟨n2 + 1, by rw [ho']; simp⟩
  have hFs : ∀ a, Frame env a → a ≠ D := fun a ha z => hnF (z ▸ ha)
  refine h _ vs _ R2 nF nO nW (f3.change (W' := (W' (.ref s2.heap.objs.size)).and (PLv s2.heap.objs.size vs)) (tk := s2.toks) hs ⟨(f3.offW D (.tail _ hD)).1, (f3.offW D (.tail _ hD)).2.1⟩ (by rw [ho']; rfl) f3.tok (f3.fns.sameBut hs (hFs _ (.inl rfl))) (fun y c e => cell_at (f3.cells y c e) fun o q => (hs.2 c (hFs _ (.inr ⟨y, e⟩))).trans q)
    (only_and (hW _) only_PLv) ⟨hW' _ _ _ f3.view.1 hs hpl', plain_same f3.view.2 hs hDC.symm⟩) (hR1.trans hR2) p
end
end Mine

/-! W5 -/
namespace Mine

section
variable {prog : Program} {w : World} {A : Around} {s₁ s : Shared} {B R : Heap} {env : Env} {off wf : List Addr} {W : View} {m cm : MS}

/-- a change where the frame does not look -/
theorem FS.skip {C : Addr} {h' : Heap} (f : FS s₁ B env off wf W R m cm s) (hs : Heap.SameBut C s.heap h') (hR : R.get? C = none) (h1 : s₁.heap.get? C = none) (hF : ¬ Frame env C) (ho : C ∉ off) (hw : C ∉ wf) : FS s₁ B env off wf W R m cm { s with heap := h' } :=
  have go : ∀ a o, a ≠ C → s.heap.get? a = some o → h'.get? a = some o := fun a o h e => (hs.2 a h).trans e
  have live : ∀ a, a ≠ C → (s.heap.get? a).isSome = true → (h'.get? a).isSome = true := fun a h e => by rw [hs.2 a h]; exact e
  { keep := by
      obtain ⟨h, t, rfl, e⟩ := f.keep
      exact ⟨h', t, rfl, fun b o q => go b o (fun z => by rw [z, h1] at q; cases q) (e b o q)⟩
    tok := f.tok
    sub := fun b o q => go b o (fun z => by rw [z, hR] at q; cases q) (f.sub b o q)
    base := f.base
    ap := f.ap
    fns := Heap.Ns.at' f.fns fun o q => go _ o (fun z => hF (z ▸ .inl rfl)) q
    cells := fun x c e => cell_at (f.cells x c e) fun o q => go _ o (fun z => hF (z ▸ .inr ⟨x, e⟩)) q
    offF := f.offF
    offW := fun a h => ⟨(f.offW a h).1, (f.offW a h).2.1, live a (fun z => ho (z ▸ h)) (f.offW a h).2.2⟩
    liveW := fun a h => live a (fun z => hw (z ▸ h)) (f.liveW a h)
    only := f.only
    view := f.only _ _ (fun a ha o q => go a o (fun z => hw (z ▸ ha)) q) f.view }

theorem keeps_from {s s' : Shared} {tk : Nat} (k : Keeps s s') : Keeps { s with toks := tk } s' := by
  obtain ⟨h, t, rfl, e⟩ := k
  exact ⟨h, t, rfl, e⟩
theorem FS.later {tk : Nat} {s' : Shared} (f : FS s₁ B env off wf W R m cm { s with toks := tk }) (k : Keeps s s') (ht : 0 < s'.toks) : FS s₁ B env off wf W (fr R s s') m cm s' := f.step (keeps_from k) ht

/-- `name = [elt for x in iter if ..]`, stored before the variables go -/
theorem FS.assignComp1 {elt iter : Expr} {x nm : PySem.Str} {px pn pos spos : Pos} {ifs : List Expr} {scope : Scope} {cl : List (PySem.Str × Addr)} {PX : Value → Heap → Prop} {n tk0 : Nat} {P : Nat → Value → Prop} {Q : Flow → Shared → Prop} {E : Value → Shared → Prop}
    (p : Nat → Bool) (F : Nat → Value → Heap → Prop) (f : FS s₁ B env off wf W R m cm { s with toks := tk0 }) (hclos : closureFor scope env = pure cl) (hcell : ∀ z ∈ scope.names, z.2 ≠ .cell) (hkind : scope.kind = .function)
    (hnames : ∀ z ∈ scope.names, z.2 = .local → scope.names.lookup z.1 = some .local) (hx : scope.names.lookup x = some .local) (hnm : env.kindOf nm = some .local) (hk : env.scope.kind = .function)
    (hit : ∀ (Q : Value → Shared → Prop) (E : Value → Shared → Prop), (∀ xv s₁, Keeps s s₁ → 0 < s₁.toks → Up PX xv (fr R s s₁) → Q xv s₁) → wpAny (model prog w) A (eval iter env) Q E s)
    (hI : ∀ xv R1, Sub R R1 → PX xv R1 → Iters prog w A R1 xv n P) (hsz : n ≤ sizeLine)
    (ht : ∀ C i v mc R1, Sub R R1 → i < n → P i v → mc x = some v → Ev prog w A ((fv env m cm W).and (View.ns C mc)) R1 (testsOf ifs (compEnvC scope cl C env)) (Is (p i)))
    (he : ∀ C i v mc R1, Sub R R1 → i < n → P i v → mc x = some v → p i = true → Ev prog w A ((fv env m cm W).and (View.ns C mc)) R1 (eval elt (compEnvC scope cl C env)) (F i))
    (h : ∀ D s' R' ys, FS s₁ B env off wf W R' (upd m nm (.ref D)) cm s' → Sub R R' → R'.IsList D (List.toArray ys) → Paired (fun i y => F i y R') ((List.range n).filter p) ys → Q .next s')
    (hsw : swapsWith (.ListComp elt [⟨.Name x px, iter, ifs, 0⟩] scope pos) (some (.Name nm pn)) spos.line env = pure true)
    (hs : ∀ z, foldedSetIterable iter env z = pure z := by intro _; rfl) :
    wpAny (model prog w) A (exec (.Assign [.Name nm pn] (.ListComp elt [⟨.Name x px, iter, ifs, 0⟩] scope pos) spos) env) Q E s := by
  rw [exec_Assign_Name_used _ _ _ _ hsw]
  refine wpAny_bind (wpAny_standAt (wpAny_bind ?_))
  show wpAny _ A (do let _ ← comprehension (.ListComp elt [⟨.Name x px, iter, ifs, 0⟩] scope pos) scope env _ (PySem.newList []) false (eval iter env) (some (assign (.Name nm pn) env))) _ _ s
  refine wpAny_bind (wpAny_mono (comp1_raw (use := some (assign (.Name nm pn) env)) (Q := fun _ s' => Q .next s') p F hclos hcell hkind hnames hx f.sub f.vw hit hI hsz ht he ?_ hs) (fun _ s' hq => wpAny_pure (wpAny_pure hq)) fun _ _ e => e)
  intro r D C s' R'' ys m' hC hD hDC hns k tk hRR hsub offC offD new hpl hpr
  have aC : ∀ a, (s.heap.get? a).isSome = true → a ≠ C := fun a h z => by rw [z, hC] at h; cases h
  have aD : ∀ a, (s.heap.get? a).isSome = true → a ≠ D := fun a h z => by rw [z, hD] at h; cases h
  have offA : ∀ a, R.get? a = none → (s.heap.get? a).isSome = true → R''.get? a = none := fun a h1 h2 => by
    cases e : R''.get? a with
    | none => rfl
    | some o =>
      rcases new a o e with q | q
      · rw [h1] at q; cases q
      · rw [q] at h2; cases h2
  let R2 : Heap := Mine.only s'.heap fun b => (R''.get? b).isSome || b == D
  have g2 : ∀ b o, R2.get? b = some o ↔ s'.heap.get? b = some o ∧ ((R''.get? b).isSome = true ∨ b = D) := fun b o => by
    show (Mine.only s'.heap _).get? b = some o ↔ _
    rw [only_get]
    split
    · rename_i q; exact ⟨fun e => ⟨e, by simpa using q⟩, fun e => e.1⟩
    · rename_i q; exact ⟨fun e => (by cases e), fun e => absurd (by simpa using e.2) q⟩
  have n2' : ∀ a, R''.get? a = none → a ≠ D → R2.get? a = none := fun a h1 h2 => by
    cases e : R2.get? a with
    | none => rfl
    | some o =>
      rcases ((g2 a o).mp e).2 with q | q
      · rw [h1] at q; cases q
      · exact absurd q h2
  have sub2 : Sub R'' R2 := fun b o e => (g2 b o).mpr ⟨hsub _ _ e, .inl (by rw [e]; rfl)⟩
  have hD1 : s₁.heap.get? D = none := none_of_keeps f.keep hD
  have hC1 : s₁.heap.get? C = none := none_of_keeps f.keep hC
  have f2 : FS s₁ B env off (C :: wf) (W.and (View.ns C m')) R2 m cm s' :=
    { keep := keeps_trans f.keep (keeps_from k)
      tok := tk
      sub := fun b o e => ((g2 b o).mp e).1
      base := fun b o e => by
        rcases ((g2 b o).mp e).2 with q | q
        · obtain ⟨o', ho'⟩ := Option.isSome_iff_exists.mp q
          rcases new b o' ho' with z | z
          · obtain ⟨o2, ho2⟩ := Option.isSome_iff_exists.mp z
            exact f.base b o2 ho2
          · exact .inr (none_of_keeps f.keep z)
        · rw [q]; exact .inr hD1
      ap := f.ap
      fns := ns_sub f.fns (keeps_sub k)
      cells := fun x c e => cell_sub (f.cells x c e) (keeps_sub k)
      offF := fun a h => ⟨n2' a (offA a (f.offF a h).1 (f.liveF h)) (aD a (f.liveF h)), (f.offF a h).2.1, fun q => (List.mem_cons.mp q).elim (aC a (f.liveF h)) (f.offF a h).2.2⟩
      offW := fun a h => ⟨n2' a (offA a (f.offW a h).1 (f.offW a h).2.2) (aD a (f.offW a h).2.2), (f.offW a h).2.1, by obtain ⟨o, ho⟩ := Option.isSome_iff_exists.mp (f.offW a h).2.2; rw [keeps_sub k _ _ ho]; rfl⟩
      liveW := fun a h => (List.mem_cons.mp h).elim (fun e => by rw [e]; exact ns_live hns) fun e => by obtain ⟨o, ho⟩ := Option.isSome_iff_exists.mp (f.liveW a e); rw [keeps_sub k _ _ ho]; rfl
      only := fun h h' q z => ⟨f.only h h' (fun a ha => q a (.tail _ ha)) z.1, Heap.Ns.at' z.2 fun o e => q C (.head _) o e⟩
      view := ⟨W.up _ _ (keeps_sub k) f.view, hns⟩ }
  show wpAny _ A (assign (.Name nm pn) env (.ref D)) _ _ _
  refine f2.bindN hk (.l hnm) fun s3 f3 => ⟨m', f3.view.2, fun h' hs' => ?_⟩
  have nCF : ¬ Frame env C := fun z => aC C (f.liveF z) rfl
  have nCo : C ∉ off := fun z => aC C (f.offW C z).2.2 rfl
  have nCw : C ∉ wf := fun z => aC C (f.liveW C z) rfl
  have f4 : FS s₁ B env off wf W R2 (upd m nm (.ref D)) cm s3 :=
    { f3 with
      offF := fun a h => ⟨(f3.offF a h).1, (f3.offF a h).2.1, fun q => (f3.offF a h).2.2 (.tail _ q)⟩
      liveW := fun a h => f3.liveW a (.tail _ h)
      only := f.only
      view := f3.view.1 }
  have f5 := f4.skip hs' (n2' C offC hDC.symm) hC1 nCF nCo nCw
  refine h D _ R2 ys f5 (hRR.trans sub2) ?_ (hpr R2 sub2)
  obtain ⟨nn, e⟩ := hpl
  exact ⟨_, (g2 D _).mpr ⟨e, .inr rfl⟩, rfl, nn, rfl⟩
end
end Mine

/-! B1 -/
namespace Mine

/-! ## the text's defs, read off the program -/
def prog2 : Program := PySem.Challenge.pw_dn0281_02
def defIn (n : PySem.Str) (b : List Stmt) : Stmt := (b.find? (isADef n)).getD (.Pass default)
def clsBody (n : PySem.Str) : List Stmt → List Stmt
  | [] => []
  | .ClassDef m _ _ b _ _ _ _ _ _ _ :: r => if m == n then b else clsBody n r
  | _ :: r => clsBody n r
def bodyOf : Stmt → List Stmt
  | .FunctionDef _ _ b _ _ _ _ _ _ _ => b
  | _ => []
def argsOf : Stmt → Arguments
  | .FunctionDef _ a _ _ _ _ _ _ _ _ => a
  | _ => default
def scopeOf : Stmt → Scope
  | .FunctionDef _ _ _ _ _ _ s _ _ _ => s
  | _ => default
def meth (n : PySem.Str) : Stmt := defIn n (clsBody "QName" prog2.main.body)
def fdOf (d : Stmt) (name qual : PySem.Str) (dV pm cd : Value) : FuncData :=
  { name := name, qualname := qual, params := argsOf d, body := .stmts (bodyOf d), scope := scopeOf d, globals := mainGlobals, closure := [], defaults := dV, kwdefaults := .none, pyModule := pm, code := cd }

structure FnK (K : Frag) (f : Addr) (fd : FuncData) : Prop where
  at_ : ∃ oc od sl, K.lookup f = some ⟨oc, od, .func fd, sl⟩
  code : codeIn K fd.code fd.qualname = true
def mName : CmpOp → PySem.Str := fun op => (cmpInfo op).2.1
def fAddr : CmpOp → Addr
  | .Eq => 85 | .Lt => 64 | .LtE => 57 | .Gt => 78 | .GtE => 71 | _ => 0
def cAddr : CmpOp → Addr
  | .Eq => 84 | .Lt => 63 | .LtE => 56 | .Gt => 77 | .GtE => 70 | _ => 0
def cmpFd (op : CmpOp) : FuncData := fdOf (meth (mName op)) (mName op) (PySem.Str.ofString "QName." ++ mName op) .none (.str "cpy313.xml.etree.ElementTree" 187) (.ref (cAddr op))
def isOrd : CmpOp → Bool
  | .Eq | .Lt | .LtE | .Gt | .GtE => true
  | _ => false

/-- what is known of the class in the written heap -/
structure KQ (K : Frag) : Prop where
  nQ : nsIn K mainGlobals "QName" = some (some (.ref 88))
  nB : ∀ x ∈ (["isinstance", "len", "range", "list", "str", "ord", "chr", "int", "bytes", "bool", "TypeError"] : List PySem.Str), nsIn K mainGlobals x = some none
  keep : keepIn K (.ref 88) = true
  makes : makesIn K 88 = true
  init : findIn K (.ref 88) "__init__" = some (some (.ref 29))
  initFn : typeIn K (.ref 29) = some (.type "function")
  plainG : plainGet K 88 "__class__" = true
  sa : findIn K (.ref 88) "__setattr__" = some (some (.builtin "object.__setattr__"))
  over : plainOver K 88 = true
  taker : takerIn K 88 "text" = some none
  text : findIn K (.ref 88) "text" = some none
  hasDict : hasDictIn K 88 = true
  clsA : findIn K (.ref 88) "__class__" = some (some (.builtin "object.__class__"))
  clsG : specialIn K (.builtin "object.__class__") "__get__" = some (some (.builtin "getset_descriptor.__get__"))
  clsT : takesIn K (.builtin "object.__class__") = some true
  mro : mroIn K 88 (.type "object") = some true
  cmp : ∀ op, isOrd op = true → findIn K (.ref 88) (mName op) = some (some (.ref (fAddr op))) ∧ isFn K (.ref (fAddr op)) = true ∧ FnK K (fAddr op) (cmpFd op)
  sub : ∀ T ∈ ["str", "int", "NoneType", "bytes"], subIn K (.type T) (.ref 88) = some false ∧ kitOne K (.type T) (.ref 88) = some false
  mroT : ∀ T ∈ ["str", "int", "NoneType", "bytes"], mroIn K 88 (.type T) = some false
  kitQ : kitOne K (.ref 88) (.ref 88) = some true
  strF : findIn K (.ref 88) "__str__" = some (some (.ref 36)) ∧ typeIn K (.ref 36) = some (.type "function") ∧ FnK K 36 (fdOf (meth "__str__") "__str__" "QName.__str__" .none (.str "cpy313.xml.etree.ElementTree" 187) (.ref 35))
  initF : FnK K 29 (fdOf (meth "__init__") "__init__" "QName.__init__" (.ref 22) (.str "cpy313.xml.etree.ElementTree" 187) (.ref 28))
  dflt : ∃ oc od sl, K.lookup 22 = some ⟨oc, od, .seq #[.none] 0, sl⟩

/-- a qualified name at `q` that holds `v` -/
def QN (h : Heap) (q : Addr) (v : Value) : Prop := ∃ d od, h.get? q = some (instObj 88 d) ∧ h.get? d = some od ∧ lookIn "text" od = some (some v)
theorem QN.sub {h h' : Heap} {q : Addr} {v : Value} (x : QN h q v) (s : Sub h h') : QN h' q v := let ⟨d, od, a, b, c⟩ := x; ⟨d, od, s _ _ a, s _ _ b, c⟩
theorem QN.inst {h : Heap} {q : Addr} {v : Value} (x : QN h q v) : ∃ d od, InstAt h q (instObj 88 d) 88 (some od) ∧ lookIn "text" od = some (some v) :=
  let ⟨d, od, a, b, c⟩ := x; ⟨d, od, ⟨a, rfl, rfl, b⟩, c⟩

section
variable {prog : Program} {w : World} {A : Around} {V : View} {R : Heap} {K : Frag} {q : Addr} {v : Value}

theorem findText (Y : KQ K) {od : Obj} (h : lookIn "text" od = some (some v)) : findObj K 88 (some od) "text" = some (.value v) := by
  obtain ⟨cd, hc, hd⟩ := any_some Y.hasDict
  unfold findObj
  rw [hc, Y.text]
  simp only [Option.bind_some, W.ownOf, hd, if_true, h]

theorem ev_text {ex : Bool} (Y : KQ K) (X : K.In R) (hq : QN R q v) (hh : handedIn v = true) : Ev prog w A V R (getAttr (.ref q) "text" ex) (Is v) := Ev.mk fun Q E s hs _ _ hQ => by
  obtain ⟨d, od, I, ht⟩ := (hq.sub hs).inst
  exact get_value (X.keeps hs) I (beq_iff_eq.mp (Bool.and_eq_true_iff.mp Y.plainG).1) (findText Y ht) hh (hQ _ _ keeps_tok upIs)

/-- the values that stand in the row -/
inductive Plainly : Value → String → Prop
  | str (x : PySem.Str) (t : Tok) : Plainly (.str x t) "str"
  | int (n : Int) (t : Tok) : Plainly (.int n t) "int"
  | none : Plainly .none "NoneType"
  | bytes (b : Array UInt8) (t : Tok) : Plainly (.bytes b t) "bytes"
theorem Plainly.kit {T : String} (p : Plainly v T) : KitX K v (.type T) (fun _ => True) := by cases p <;> first | exact kitx_str | exact kitx_int | exact kitx_none | exact kitx_bytes
theorem Plainly.mem {T : String} (p : Plainly v T) : T ∈ ["str", "int", "NoneType", "bytes"] := by cases p <;> simp
theorem Plainly.ty {T : String} (p : Plainly v T) {M : Model} {h : Heap} : Looks M h (typeOf v) (.type T) := by cases p <;> exact Looks.of_pure rfl
theorem Plainly.noLoader {T : String} (p : Plainly v T) : v ≠ .builtin "__main__.__loader__#opaque" := by cases p <;> (intro e; cases e)
theorem Plainly.handed {T : String} (p : Plainly v T) : handedIn v = true := by cases p <;> rfl

theorem ev_isi_no {T : String} (Y : KQ K) (X : K.In R) (p : Plainly v T) : Ev prog w A V R (call (.builtin "isinstance") [v, .ref 88]) (Is (.bool false)) := Ev.mk fun Q E s hs _ _ hQ =>
  kia_one p.kit (X.keeps hs) trivial (Y.sub T p.mem).2 p.noLoader fun tk => hQ _ _ keeps_tok upIs
theorem ev_isi_yes (Y : KQ K) (X : K.In R) (hq : QN R q v) : Ev prog w A V R (call (.builtin "isinstance") [.ref q, .ref 88]) (Is (.bool true)) := Ev.mk fun Q E s hs _ _ hQ => by
  obtain ⟨d, od, I, ht⟩ := (hq.sub hs).inst
  exact kia_one (kitx_own Y.plainG Y.hasDict Y.clsA Y.clsG Y.clsT Y.mro) (X.keeps hs) I Y.kitQ (by intro e; cases e) fun tk => hQ _ _ keeps_tok upIs
end

/-- what the second of two compared things counts as: a qualified name's own text, any other thing itself -/
inductive Held (h : Heap) : Value → Value → Prop
  | q {a : Addr} {v : Value} : QN h a v → Held h (.ref a) v
  | p {v : Value} {T : String} : Plainly v T → Held h v v
theorem Held.sub {h h' : Heap} {a b : Value} (x : Held h a b) (s : Sub h h') : Held h' a b := by
  cases x with
  | q e => exact .q (e.sub s)
  | p e => exact .p e

end Mine

/-! B2 -/
namespace Mine

def cmpEnv (op : CmpOp) (L : Addr) : Env := callEnv (cmpFd op) L (fAddr op)

section
variable {w : World} {A : Around} {K : Frag} {q : Addr} {v u b : Value} {s : Shared} {Q : Value → Shared → Prop} {E : Value → Shared → Prop}

theorem boot_isinstance : bootBuiltins "isinstance" = some (.builtin "isinstance") := by decide +kernel

/-- one of the five comparing methods: what it gives is what comparing the held things gives -/
theorem cmpFn {op : CmpOp} (ho : isOrd op = true) (Y : KQ K) (G : Gd K s.heap) (hq : QN s.heap q v) (hv : handedIn v = true) (hb : Held s.heap b u) (hu : handedIn u = true) (hroom : A.depth < recursionLimit)
    (h : ∀ s', Keeps s s' → 0 < s'.toks → (∃ m, s'.heap.Ns s.heap.objs.size m) → wpAny (model prog2 w) (A.deeper (cmpEnv op s.heap.objs.size)) (compareOp op v u) Q
      (fun e s'' => wpAny (model prog2 w) (A.deeper (cmpEnv op s.heap.objs.size)) (leaving (cmpEnv op s.heap.objs.size) e) (fun _ s3 => E e s3) (fun e' s3 => E e' s3) s'') s') :
    wpAny (model prog2 w) A (call (.ref (fAddr op)) [.ref q, b]) Q E s := by
  obtain ⟨e1, e2, ⟨oc, od, sl, e3⟩, e4⟩ := Y.cmp op ho
  have nI := Y.nB "isinstance" (by simp)
  cases op <;> first | (cases ho; done) | skip
  all_goals
    refine wpAny_call (codeAny_call_def (binds := [("self", .ref q), ("other", b)]) hroom (G.k _ _ e3) rfl G.lim (codeRec_of G.k e4) rfl (BindsTo.of_eq rfl) (by decide) (locs rfl) ?_)
    intro h₀ hns hk
    have G' : Gd K h₀ := G.sub hk
    let V : View := View.ns s.heap.objs.size (fun x => List.lookup x [(PySem.Str.ofString "self", Value.ref q), (PySem.Str.ofString "other", b)].reverse)
    have hv0 : V.p h₀ := hns
    have hn : ∀ h, V.p h → h.Ns s.heap.objs.size (fun x => List.lookup x [(PySem.Str.ofString "self", Value.ref q), (PySem.Str.ofString "other", b)].reverse) := fun h z => z
    refine wpAny_execs_cons (wpAny_If ?_)
    cases hb with
    | q hqb =>
      refine (evTestV (b := true) (evCallB (evNameB G' nI boot_isinstance (by decide) rfl rfl rfl rfl) (evA2 (evNameL (V := V) hn rfl rfl rfl) (evNameG G' Y.nQ rfl rfl rfl)) ?z3)).here hv0 (Nat.succ_pos _) ?_
      case z3 => intro vs R1 hs p; cases p; exact ev_isi_yes Y (G'.sub hs).k ((hqb.sub hk).sub hs)
      intro a s' k' t' p; cases p
      rw [if_pos rfl]
      refine wpAny_execs_cons (wpAny_Return_some (wpAny_Compare1 ?_ rfl))
      have k1 : Sub h₀ s'.heap := keeps_sub k'
      refine (evAttr (evNameL (V := V) hn rfl rfl rfl) (fun o R1 h1 p => by cases p; exact ev_text Y (G'.sub (k1.trans h1)).k (((hq.sub hk).sub k1).sub h1) hv) (P := Is v)).here (V.up _ _ k1 hv0) t' ?_
      intro a s2 k2 t2 p; cases p
      have k3 : Sub h₀ s2.heap := k1.trans (keeps_sub k2)
      refine (evAttr (evNameL (V := V) hn rfl rfl rfl) (fun o R1 h1 p => by cases p; exact ev_text Y (G'.sub (k3.trans h1)).k (((hqb.sub hk).sub k3).sub h1) hu) (P := Is u)).here (V.up _ _ k3 hv0) t2 ?_
      intro a s3 k4 t3 p; cases p
      refine wpAny_mono (h s3 (keeps_trans (keeps_mk hk) (keeps_trans k' (keeps_trans k2 k4))) t3 ⟨_, ns_sub hns (k3.trans (keeps_sub k4))⟩) (fun r s4 z => ?_) fun _ _ z => z
      exact z
    | p hpb =>
      refine (evTestV (b := false) (evCallB (evNameB G' nI boot_isinstance (by decide) rfl rfl rfl rfl) (evA2 (evNameL (V := V) hn rfl rfl rfl) (evNameG G' Y.nQ rfl rfl rfl)) ?z3)).here hv0 (Nat.succ_pos _) ?_
      case z3 => intro vs R1 hs p; cases p; exact ev_isi_no Y (G'.sub hs).k hpb
      intro a s' k' t' p; cases p
      rw [if_neg (by decide)]
      refine wpAny_execs_nil ?_
      refine wpAny_execs_cons (wpAny_Return_some (wpAny_Compare1 ?_ rfl))
      have k1 : Sub h₀ s'.heap := keeps_sub k'
      refine (evAttr (evNameL (V := V) hn rfl rfl rfl) (fun o R1 h1 p => by cases p; exact ev_text Y (G'.sub (k1.trans h1)).k (((hq.sub hk).sub k1).sub h1) hv) (P := Is v)).here (V.up _ _ k1 hv0) t' ?_
      intro a s2 k2 t2 p; cases p
      have k3 : Sub h₀ s2.heap := k1.trans (keeps_sub k2)
      refine (evNameL (V := V) hn rfl rfl rfl).here (V.up _ _ k3 hv0) t2 ?_
      intro a s3 k4 t3 p; cases p
      refine wpAny_mono (h s3 (keeps_trans (keeps_mk hk) (keeps_trans k' (keeps_trans k2 k4))) t3 ⟨_, ns_sub hns (k3.trans (keeps_sub k4))⟩) (fun r s4 z => ?_) fun _ _ z => z
      exact z
end
end Mine

/-! B3 -/
namespace Mine

def refl : CmpOp → CmpOp
  | .Lt => .Gt | .LtE => .GtE | .Gt => .Lt | .GtE => .LtE | o => o
theorem refl_ord {op : CmpOp} (h : isOrd op = true) : isOrd (refl op) = true := by cases op <;> first | rfl | cases h
theorem refl_name {op : CmpOp} (h : isOrd op = true) : (cmpInfo op).2.2 = mName (refl op) := by cases op <;> first | rfl | cases h

section
variable {w : World} {A : Around} {K : Frag} {q : Addr} {v u a b tb : Value} {s : Shared} {Q : Value → Shared → Prop} {E : Value → Shared → Prop}

theorem held_type {h : Heap} {M : Model} (Y : KQ K) (hb : Held h b u) : ∃ tb, Looks M h (typeOf b) tb ∧ notFirst K 88 tb = true := by
  cases hb with
  | q x => obtain ⟨d, od, I, _⟩ := x.inst; exact ⟨.ref 88, I.type, by simp [notFirst]⟩
  | p x => exact ⟨_, x.ty, by simp [notFirst, (Y.sub _ x.mem).1]⟩

/-- a qualified name on the left -/
theorem richQ {op : CmpOp} (ho : isOrd op = true) (Y : KQ K) (G : Gd K s.heap) (hu : A.units < cLine) (hq : QN s.heap q v) (hb : Held s.heap b u)
    (h : wpAny (model prog2 w) A (call (.ref (fAddr op)) [.ref q, b]) (W.CmpBack Q) E s) : wpAny (model prog2 w) A (richCompare op (.ref q) b) Q E s := by
  obtain ⟨d, od, I, _⟩ := hq.inst
  obtain ⟨e1, e2, _⟩ := Y.cmp op ho
  have own : wpAny (model prog2 w) A (tryCompare (.ref q) (mName op) b) (fun r s' => ∃ v, r = some v ∧ Q v s') E s := by
    unfold tryCompare
    refine wpAny_bind (ifBound_K G.k I e1 e2 (wpAny_mono h (fun v s' hv => ?_) fun _ _ e => e))
    cases v <;> first | exact hv.elim | exact wpAny_pure ⟨_, rfl, hv⟩
  have fin : ∀ (t : Option Value → Sem Value), (∀ v s', Q v s' → wpAny (model prog2 w) A (t (some v)) Q E s') → wpAny (model prog2 w) A (tryCompare (.ref q) (mName op) b >>= t) Q E s := fun t ht =>
    wpAny_bind (wpAny_mono own (fun r s' z => by obtain ⟨v, rfl, hv⟩ := z; exact ht v s' hv) fun _ _ e => e)
  unfold richCompare
  simp only [oneThing_ref]
  refine wpAny_holding (wpAny_bind (wpAny_cRoomFor hu ?_))
  cases hb with
  | q x =>
    obtain ⟨d', od', I', _⟩ := x.inst
    refine wpAny_bind (I.type.here (wpAny_bind (I'.type.here ?_)))
    rw [if_neg (show ¬ ((Value.ref 88 != Value.ref 88) = true) from by decide)]
    first
      | exact fin _ fun v s' hv => wpAny_pure hv
      | (refine wpAny_bind (wpAny_pure ?_); simp only [Bool.false_eq_true, if_false]; exact fin _ fun v s' hv => wpAny_pure hv)
  | p x =>
    rename_i T
    refine wpAny_bind (I.type.here (wpAny_bind (x.ty.here ?_)))
    rw [if_pos (show (Value.ref 88 != Value.type T) = true from rfl)]
    refine wpAny_bind ((looks_subIn G.k (Y.sub T x.mem).1).here ?_)
    simp only [Bool.false_eq_true, if_false]
    exact fin _ fun v s' hv => wpAny_pure hv

/-- a plain thing on the left whose own method declines, a qualified name on the right -/
theorem richP {op : CmpOp} {T : String} (ho : isOrd op = true) (Y : KQ K) (G : Gd K s.heap) (hu : A.units < cLine) (hq : QN s.heap q v) (p : Plainly a T) {id : String} (S : Slot T (cmpInfo op).2.1 id)
    (hT : s.TypeIs a T)
    (hd : wpAny (model prog2 w) A (call (.builtin id) [a, .ref q]) (fun v s' => v = .notImplemented ∧ s' = s) E s)
    (h : wpAny (model prog2 w) A (call (.ref (fAddr (refl op))) [.ref q, a]) (W.CmpBack Q) E s) : wpAny (model prog2 w) A (richCompare op a (.ref q)) Q E s := by
  obtain ⟨d, od, I, _⟩ := hq.inst
  obtain ⟨e1, e2, _⟩ := Y.cmp _ (refl_ord ho)
  have two : wpAny (model prog2 w) A (tryCompare (.ref q) (cmpInfo op).2.2 a) (fun r s' => ∃ v, r = some v ∧ Q v s') E s := by
    unfold tryCompare
    rw [refl_name ho]
    refine wpAny_bind (ifBound_K G.k I e1 e2 (wpAny_mono h (fun v s' hv => ?_) fun _ _ e => e))
    cases v <;> first | exact hv.elim | exact wpAny_pure ⟨_, rfl, hv⟩
  have hne : (Value.type T != Value.ref 88) = true := rfl
  unfold richCompare
  simp only [hT.oneThing_none]
  refine wpAny_holding (wpAny_bind (wpAny_cRoomFor hu ?_))
  refine wpAny_bind (p.ty.here (wpAny_bind (I.type.here ?_)))
  rw [if_pos hne]
  refine wpAny_bind ((looks_mroIn G.k (Y.mroT T p.mem)).here ?_)
  simp only [Bool.false_eq_true, if_false]
  refine wpAny_bind (wpAny_tryCompare_declines hT S (wpAny_mono hd (fun v s' z => ?_) fun _ _ e => e))
  obtain ⟨z1, rfl⟩ := z
  refine ⟨z1, ?_⟩
  simp only [Bool.not_false, if_true]
  refine wpAny_bind (wpAny_mono two (fun r s' z => ?_) fun _ _ e => e)
  obtain ⟨v, rfl, hq⟩ := z
  exact wpAny_pure hq
end

end Mine

/-! B4 -/
namespace Mine

section
variable {w : World} {A : Around} {K : Frag} {q d : Addr} {v : Value} {s : Shared} {E : Value → Shared → Prop}

/-- `self.text = v` for a name just made -/
theorem setText {Q : Unit → Shared → Prop} (Y : KQ K) (X : K.In s.heap) (hq : s.heap.get? q = some (instObj 88 d)) (hd : s.heap.get? d = some emptyDict)
    (h : ∀ h' od, Heap.SameBut d s.heap h' → h'.get? d = some od → lookIn "text" od = some (some v) → ∀ tk, Q () { s with heap := h', toks := tk }) :
    wpAny (model prog2 w) A (setAttr (.ref q) "text" v) Q E s := by
  have I : InstAt s.heap q (instObj 88 d) 88 (some emptyDict) := ⟨hq, rfl, rfl, hd⟩
  refine set_plain X I Y.sa ?_
  refine osa_open (s := { s with toks := s.toks + 1 }) X I Y.over Y.taker fun b => ?_
  obtain ⟨cd, hc, hd'⟩ := any_some Y.hasDict
  dsimp only
  refine wpAny_bind (wpAny_pure (wpAny_bind (wpAny_bind (wpAny_loadPart hq (wpAny_bind (looks_clsIn X hc _ _ _ _ (fun _ _ e => e) ?_))))))
  rw [hd']
  refine wpAny_pure (a := some d) (wpAny_bind (wpAny_pure (wpAny_bind ?_)))
  unfold nsSet
  refine wpAny_bind (wpAny_bind (wpAny_askSetting (wpAny_pure (wpAny_bind (wpAny_mkText (wpAny_bind (wpAny_loadPart hd ?_)))))))
  dsimp only
  rw [aRefKeyMayBeTheName_at]
  rw [if_neg (by simp)]
  generalize (if (PySem.Str.ofString "text").cps.isEmpty = true then 0 else reduceHash ((model prog2 w).w.params.strHash (PySem.Str.ofString "text").cps)) = hsh
  have D' := Heap.get?_update_self (h := s.heap) (Obj.putName "text" hsh (.str "text" (s.toks + 1)) v) hd rfl
  refine wpAny_updatePart (o := emptyDict) hd ?_
  refine wpAny_bind (wpAny_lookBehind D' (by exact pastItsLine_dict (show 1 ≤ sizeLine + 1 by rw [sizeLine_eq]; omega)) ?_)
  exact wpAny_pure (h _ _ (Heap.SameBut.update ..) D' rfl _)
end
end Mine

/-! B5 -/
namespace Mine

def initFd : FuncData := fdOf (meth "__init__") "__init__" "QName.__init__" (.ref 22) (.str "cpy313.xml.etree.ElementTree" 187) (.ref 28)
def initEnv (L : Addr) : Env := callEnv initFd L 29

section
variable {w : World} {A : Around} {K : Frag} {q d : Addr} {v : Value} {s : Shared} {V : View} {R : Heap}

/-- behind the test: the store -/
theorem init_store {Q : Flow → Shared → Prop} {E : Value → Shared → Prop} {L : Addr} {m : PySem.Str → Option Value} (Y : KQ K) (X : K.In s.heap) (ht : 0 < s.toks) (hn : s.heap.Ns L m) (hs : m "self" = some (.ref q)) (hv : m "text_or_uri" = some v)
    (hq : s.heap.get? q = some (instObj 88 d)) (hd : s.heap.get? d = some emptyDict)
    (h : ∀ h' tk od, Heap.ExtBut d s.heap h' → h'.get? q = some (instObj 88 d) → h'.get? d = some od → lookIn "text" od = some (some v) → Q .next { s with heap := h', toks := tk }) :
    wpAny (model prog2 w) A (execs ((bodyOf (meth "__init__")).drop 1) (initEnv L)) Q E s := by
  have hqd : q ≠ d := by rintro rfl; rw [hq] at hd; cases hd
  refine wpAny_execs_cons (plainObj_wpAny_Assign_Attribute ?_ rfl)
  refine (evNameL (View.nsH (L := L) (m := m)) hv rfl rfl).here hn ht fun a s1 k1 t1p p => ?_
  cases p
  obtain ⟨h1, t1, rfl, k1⟩ := k1
  refine (evNameL (View.nsH (L := L) (m := m)) hs rfl rfl).here (ns_sub hn k1) t1p fun a s2 k2 t2p p => ?_
  cases p
  obtain ⟨h2, t2, rfl, k2⟩ := k2
  have k3 : Sub s.heap h2 := Sub.trans k1 k2
  refine setText Y (X.keeps k3) (k3 _ _ hq) (k3 _ _ hd) fun h' od e1 e2 e3 tk => ?_
  exact wpAny_execs_nil (h h' tk od (fun b o hb e => e1.extBut b o hb (k3 _ _ e)) (e1.extBut _ _ hqd (k3 _ _ hq)) e2 e3)

/-- the call of the class with one thing -/
theorem make1 (Y : KQ K) (G : Gd K R) (rm : Room A 2) : Ev prog2 w A V R (call (.ref 88) [v]) (fun a h => ∃ q, a = .ref q ∧ QN h q v) := Ev.mk fun Q E s hs _ _ hQ => by
  obtain ⟨h, g, dr, t, os⟩ := s
  have G1 : Gd K h := G.sub hs
  refine wpAny_call (make_core (makes_of G1.k Y.makes) (looks_findIn G1.k Y.init) (fun self => bind_fn G1.k self Y.initFn) (.inl rfl) ?_)
  have k0 : Sub h ((h.push emptyDict).push (instObj 88 h.objs.size)) := ((Sub.refl h).push _).push _
  have G2 := G1.sub k0
  have hd0 : ((h.push emptyDict).push (instObj 88 h.objs.size)).get? h.objs.size = some emptyDict := by heap_get
  have hq0 : ((h.push emptyDict).push (instObj 88 h.objs.size)).get? (h.objs.size + 1) = some (instObj 88 h.objs.size) := by heap_get
  obtain ⟨⟨oc, od, sl, e3⟩, e4⟩ := Y.initF
  obtain ⟨oc', od', sl', e5⟩ := Y.dflt
  refine codeAny_call_def (binds := [("self", .ref (h.objs.size + 1)), ("text_or_uri", v), ("tag", .none)]) (rm.make 88 [v] []).d (G2.k _ _ e3) rfl G2.lim (codeRec_of G2.k e4) rfl (binds_K G2.k rfl e5 rfl rfl rfl) (by decide) (locs rfl) ?_
  intro h₀ hns hk
  refine wpAny_execs_cons (wpAny_If (wpAny_isTrue_value ?_ rfl))
  refine (evNameL View.nsH rfl rfl rfl).here hns (Nat.succ_pos _) fun a s1 k1 t1p p => ?_
  cases p
  obtain ⟨h1, t1, rfl, k1⟩ := k1
  refine truthy_none ?_
  rw [if_neg (by decide)]
  refine wpAny_execs_nil ?_
  have k2 : Sub ((h.push emptyDict).push (instObj 88 h.objs.size)) h1 := Sub.trans hk k1
  refine init_store Y (G2.sub k2).k t1p (ns_sub hns k1) rfl rfl (k2 _ _ hq0) (k2 _ _ hd0) fun h' tk od x y1 y2 y3 => ?_
  refine ⟨rfl, hQ _ _ (keeps_mk (s := ⟨h, g, dr, t, os⟩) fun b o e => x b o ?_ (k2 _ _ (k0 _ _ e))) fun g' z => ⟨_, rfl, h.objs.size, od, z _ _ ?_, z _ _ ?_, y3⟩⟩
  · exact Nat.ne_of_lt (Heap.lt_size e)
  · exact fr_get.mpr ⟨y1, .inr (fresh_none h (Nat.le_succ _))⟩
  · exact fr_get.mpr ⟨y2, .inr (fresh_none h (Nat.le_refl _))⟩
end
end Mine

/-! C1 -/
namespace Mine

/-! ## what the plain things hold -/
inductive Raw where
  | int (n : Int)
  | str (x : PySem.Str)
  | none
  | bytes (b : Array UInt8)
def Raw.ty : Raw → String
  | .int _ => "int" | .str _ => "str" | .none => "NoneType" | .bytes _ => "bytes"
inductive Raw.At : Raw → Value → Prop
  | int {n : Int} {t : Tok} : 0 < t → Raw.At (.int n) (.int n t)
  | str {x : PySem.Str} {t : Tok} : 0 < t → Raw.At (.str x) (.str x t)
  | none : Raw.At .none .none
  | bytes {b : Array UInt8} {t : Tok} : 0 < t → Raw.At (.bytes b) (.bytes b t)
theorem Raw.At.plain {r : Raw} {v : Value} (h : r.At v) : Plainly v r.ty := by cases h <;> constructor
theorem Raw.At.tyIs {r : Raw} {v : Value} (h : r.At v) (s : Shared) : s.TypeIs v r.ty := by cases h <;> rfl

/-! ## declining -/
abbrev NI : PySem.Fin := .done (.ret .notImplemented)
section
variable {M : Model} {h : Heap} {q d : Addr}

theorem asInt_str {x : PySem.Str} {t : Tok} : Looks M h (asInt? (.str x t)) Option.none := Looks.of_pure rfl
theorem asInt_none : Looks M h (asInt? .none) Option.none := Looks.of_pure rfl
theorem asInt_bytes {x : Array UInt8} {t : Tok} : Looks M h (asInt? (.bytes x t)) Option.none := Looks.of_pure rfl
theorem asInt_q (hq : h.get? q = some (instObj 88 d)) : Looks M h (asInt? (.ref q)) Option.none := fun A Q E s k hQ => by
  unfold asInt?
  exact wpAny_bind (wpAny_load (k _ _ hq) (wpAny_pure hQ))
theorem asStr_int {x : Int} {t : Tok} : Looks M h (asStr? (.int x t)) Option.none := Looks.of_pure rfl
theorem asStr_none : Looks M h (asStr? .none) Option.none := Looks.of_pure rfl
theorem asStr_bytes {x : Array UInt8} {t : Tok} : Looks M h (asStr? (.bytes x t)) Option.none := Looks.of_pure rfl
theorem asStr_q (hq : h.get? q = some (instObj 88 d)) : Looks M h (asStr? (.ref q)) Option.none := fun A Q E s k hQ => by
  unfold asStr?
  exact wpAny_bind (wpAny_load (k _ _ hq) (wpAny_pure hQ))

theorem int_dec {nm : String} {f : Int → Int → Sem PySem.Fin} {n : Int} {t : Tok} {b : Value} (hb : Looks M h (asInt? b) Option.none) : Looks M h (Builtin.Int.intBinary nm f false ⟨[.int n t, b], []⟩) NI := fun A Q E s k hQ => by
  unfold Builtin.Int.intBinary
  refine wpAny_bind (m := slotArgs nm 1 _) (wpAny_pure (a := (Value.int n t, [b])) ?_)
  refine wpAny_bind (m := Builtin.Int.intOfSelf _) (wpAny_pure (a := n) ?_)
  refine wpAny_bind (hb _ _ _ _ k ?_)
  exact wpAny_bind (wpAny_rule (wpAny_pure hQ))
theorem str_dec {nm : String} {f : List Nat → List Nat → Bool} {x : PySem.Str} {t : Tok} {b : Value} (hb : Looks M h (asStr? b) Option.none) : Looks M h (Builtin.Str.strCompare nm f ⟨[.str x t, b], []⟩) NI := fun A Q E s k hQ => by
  unfold Builtin.Str.strCompare
  refine wpAny_bind (m := Builtin.Str.strSlot nm 1 _) (wpAny_pure (a := (Value.str x t, x, [b])) ?_)
  refine wpAny_bind (hb _ _ _ _ k ?_)
  exact wpAny_bind (wpAny_rule (wpAny_pure hQ))
theorem none_lt {b : Value} : Looks M h (Builtin.«NoneType.__lt__» ⟨[.none, b], []⟩) NI := Looks.of_pure rfl
theorem none_le {b : Value} : Looks M h (Builtin.«NoneType.__le__» ⟨[.none, b], []⟩) NI := Looks.of_pure rfl
theorem none_gt {b : Value} : Looks M h (Builtin.«NoneType.__gt__» ⟨[.none, b], []⟩) NI := Looks.of_pure rfl
theorem none_ge {b : Value} : Looks M h (Builtin.«NoneType.__ge__» ⟨[.none, b], []⟩) NI := Looks.of_pure rfl
theorem none_eq {b : Value} (hb : (b == .none) = false) : Looks M h (Builtin.«NoneType.__eq__» ⟨[.none, b], []⟩) NI := fun A Q E s k hQ => by
  unfold Builtin.«NoneType.__eq__»
  refine wpAny_bind (m := slotArgs _ 1 _) (wpAny_pure (a := (Value.none, [b])) ?_)
  show wpAny M A (ret (if (b == .none) = true then .bool true else .notImplemented)) Q E s
  rw [hb]
  exact wpAny_pure hQ

/-! bytes -/
theorem bytes_eq_dec {x : Array UInt8} {t : Tok} {b : Value} (hb : Looks M h (isInstance b (.type "bytes")) false) : Looks M h (Builtin.«bytes.__eq__» ⟨[.bytes x t, b], []⟩) NI := fun A Q E s k hQ => by
  refine wpAny_bind (m := slotArgs "__eq__" 1 _) (wpAny_pure (a := (Value.bytes x t, [b])) ?_)
  refine wpAny_bind (hb _ _ _ _ k ?_)
  exact wpAny_bind (wpAny_rule (wpAny_pure hQ))
theorem bytes_eq_cmp {x y : Array UInt8} {t u : Tok} : Looks M h (Builtin.«bytes.__eq__» ⟨[.bytes x t, .bytes y u], []⟩) (.done (.ret (.bool (Builtin.Bytes.holds "__eq__" (Builtin.Bytes.order x.toList y.toList))))) := fun A Q E s k hQ => by
  refine wpAny_bind (m := slotArgs "__eq__" 1 _) (wpAny_pure (a := (Value.bytes x t, [Value.bytes y u])) ?_)
  refine wpAny_bind (m := isInstance _ _) (wpAny_bind (wpAny_pure (a := Value.type "bytes") (wpAny_of_eq F.sub_bytes_bytes ?_)))
  exact wpAny_pure hQ
theorem bytes_lt_dec {x : Array UInt8} {t : Tok} {b : Value} (hb : Looks M h (isInstance b (.type "bytes")) false) : Looks M h (Builtin.«bytes.__lt__» ⟨[.bytes x t, b], []⟩) NI := fun A Q E s k hQ => by
  refine wpAny_bind (m := slotArgs "__lt__" 1 _) (wpAny_pure (a := (Value.bytes x t, [b])) ?_)
  refine wpAny_bind (hb _ _ _ _ k ?_)
  exact wpAny_bind (wpAny_rule (wpAny_pure hQ))
theorem bytes_lt_cmp {x y : Array UInt8} {t u : Tok} : Looks M h (Builtin.«bytes.__lt__» ⟨[.bytes x t, .bytes y u], []⟩) (.done (.ret (.bool (Builtin.Bytes.holds "__lt__" (Builtin.Bytes.order x.toList y.toList))))) := fun A Q E s k hQ => by
  refine wpAny_bind (m := slotArgs "__lt__" 1 _) (wpAny_pure (a := (Value.bytes x t, [Value.bytes y u])) ?_)
  refine wpAny_bind (m := isInstance _ _) (wpAny_bind (wpAny_pure (a := Value.type "bytes") (wpAny_of_eq F.sub_bytes_bytes ?_)))
  exact wpAny_pure hQ
theorem bytes_le_dec {x : Array UInt8} {t : Tok} {b : Value} (hb : Looks M h (isInstance b (.type "bytes")) false) : Looks M h (Builtin.«bytes.__le__» ⟨[.bytes x t, b], []⟩) NI := fun A Q E s k hQ => by
  refine wpAny_bind (m := slotArgs "__le__" 1 _) (wpAny_pure (a := (Value.bytes x t, [b])) ?_)
  refine wpAny_bind (hb _ _ _ _ k ?_)
  exact wpAny_bind (wpAny_rule (wpAny_pure hQ))
theorem bytes_le_cmp {x y : Array UInt8} {t u : Tok} : Looks M h (Builtin.«bytes.__le__» ⟨[.bytes x t, .bytes y u], []⟩) (.done (.ret (.bool (Builtin.Bytes.holds "__le__" (Builtin.Bytes.order x.toList y.toList))))) := fun A Q E s k hQ => by
  refine wpAny_bind (m := slotArgs "__le__" 1 _) (wpAny_pure (a := (Value.bytes x t, [Value.bytes y u])) ?_)
  refine wpAny_bind (m := isInstance _ _) (wpAny_bind (wpAny_pure (a := Value.type "bytes") (wpAny_of_eq F.sub_bytes_bytes ?_)))
  exact wpAny_pure hQ
theorem bytes_gt_dec {x : Array UInt8} {t : Tok} {b : Value} (hb : Looks M h (isInstance b (.type "bytes")) false) : Looks M h (Builtin.«bytes.__gt__» ⟨[.bytes x t, b], []⟩) NI := fun A Q E s k hQ => by
  refine wpAny_bind (m := slotArgs "__gt__" 1 _) (wpAny_pure (a := (Value.bytes x t, [b])) ?_)
  refine wpAny_bind (hb _ _ _ _ k ?_)
  exact wpAny_bind (wpAny_rule (wpAny_pure hQ))
theorem bytes_gt_cmp {x y : Array UInt8} {t u : Tok} : Looks M h (Builtin.«bytes.__gt__» ⟨[.bytes x t, .bytes y u], []⟩) (.done (.ret (.bool (Builtin.Bytes.holds "__gt__" (Builtin.Bytes.order x.toList y.toList))))) := fun A Q E s k hQ => by
  refine wpAny_bind (m := slotArgs "__gt__" 1 _) (wpAny_pure (a := (Value.bytes x t, [Value.bytes y u])) ?_)
  refine wpAny_bind (m := isInstance _ _) (wpAny_bind (wpAny_pure (a := Value.type "bytes") (wpAny_of_eq F.sub_bytes_bytes ?_)))
  exact wpAny_pure hQ
theorem bytes_ge_dec {x : Array UInt8} {t : Tok} {b : Value} (hb : Looks M h (isInstance b (.type "bytes")) false) : Looks M h (Builtin.«bytes.__ge__» ⟨[.bytes x t, b], []⟩) NI := fun A Q E s k hQ => by
  refine wpAny_bind (m := slotArgs "__ge__" 1 _) (wpAny_pure (a := (Value.bytes x t, [b])) ?_)
  refine wpAny_bind (hb _ _ _ _ k ?_)
  exact wpAny_bind (wpAny_rule (wpAny_pure hQ))
theorem bytes_ge_cmp {x y : Array UInt8} {t u : Tok} : Looks M h (Builtin.«bytes.__ge__» ⟨[.bytes x t, .bytes y u], []⟩) (.done (.ret (.bool (Builtin.Bytes.holds "__ge__" (Builtin.Bytes.order x.toList y.toList))))) := fun A Q E s k hQ => by
  refine wpAny_bind (m := slotArgs "__ge__" 1 _) (wpAny_pure (a := (Value.bytes x t, [Value.bytes y u])) ?_)
  refine wpAny_bind (m := isInstance _ _) (wpAny_bind (wpAny_pure (a := Value.type "bytes") (wpAny_of_eq F.sub_bytes_bytes ?_)))
  exact wpAny_pure hQ
theorem inst_int {n : Int} {t : Tok} : Looks M h (isInstance (.int n t) (.type "bytes")) false := fun A Q E s k hQ => wpAny_bind (wpAny_pure (a := Value.type "int") (wpAny_of_eq F.sub_int_bytes hQ))
theorem inst_str {n : PySem.Str} {t : Tok} : Looks M h (isInstance (.str n t) (.type "bytes")) false := fun A Q E s k hQ => wpAny_bind (wpAny_pure (a := Value.type "str") (wpAny_of_eq F.sub_str_bytes hQ))
theorem inst_none : Looks M h (isInstance .none (.type "bytes")) false := fun A Q E s k hQ => wpAny_bind (wpAny_pure (a := Value.type "NoneType") (wpAny_of_eq F.sub_NoneType_bytes hQ))
theorem inst_q {K : Frag} (Y : KQ K) (X : K.In h) (hq : h.get? q = some (instObj 88 d)) : Looks M h (isInstance (.ref q) (.type "bytes")) false := fun A Q E s k hQ => by
  refine wpAny_bind (m := typeOf _) (wpAny_bind (wpAny_load (k _ _ hq) (wpAny_pure ?_)))
  exact (looks_mroIn X (Y.mroT "bytes" (by simp))) _ _ _ _ k hQ
end
end Mine

/-! C2 -/
namespace Mine

theorem slot_bytes_eq : Slot "bytes" (cmpInfo .Eq).2.1 "bytes.__eq__" :=
  .of (owner := "bytes") (n := "__eq__") (by rw [typeLookup_type, builtinLookup_eq_fast]; kernel_rfl) (by decide +kernel) (by decide +kernel) (by decide +kernel)
    (by first | exact .inl (by decide +kernel) | exact .inr (by decide +kernel)) (by rw [isSubtype_type]; kernel_rfl)
theorem entry_bytes_eq : entryFor table "bytes.__eq__" = some Builtin.«bytes.__eq__» := entryFor_of_tree (by kernel_rfl)
theorem args_bytes_eq_2 (a b : Value) : argsOk "bytes.__eq__" ⟨[a, b], []⟩ := by unfold argsOk; kernel_rfl
theorem slot_bytes_lt : Slot "bytes" (cmpInfo .Lt).2.1 "bytes.__lt__" :=
  .of (owner := "bytes") (n := "__lt__") (by rw [typeLookup_type, builtinLookup_eq_fast]; kernel_rfl) (by decide +kernel) (by decide +kernel) (by decide +kernel)
    (by first | exact .inl (by decide +kernel) | exact .inr (by decide +kernel)) (by rw [isSubtype_type]; kernel_rfl)
theorem entry_bytes_lt : entryFor table "bytes.__lt__" = some Builtin.«bytes.__lt__» := entryFor_of_tree (by kernel_rfl)
theorem args_bytes_lt_2 (a b : Value) : argsOk "bytes.__lt__" ⟨[a, b], []⟩ := by unfold argsOk; kernel_rfl
theorem slot_bytes_le : Slot "bytes" (cmpInfo .LtE).2.1 "bytes.__le__" :=
  .of (owner := "bytes") (n := "__le__") (by rw [typeLookup_type, builtinLookup_eq_fast]; kernel_rfl) (by decide +kernel) (by decide +kernel) (by decide +kernel)
    (by first | exact .inl (by decide +kernel) | exact .inr (by decide +kernel)) (by rw [isSubtype_type]; kernel_rfl)
theorem entry_bytes_le : entryFor table "bytes.__le__" = some Builtin.«bytes.__le__» := entryFor_of_tree (by kernel_rfl)
theorem args_bytes_le_2 (a b : Value) : argsOk "bytes.__le__" ⟨[a, b], []⟩ := by unfold argsOk; kernel_rfl
theorem slot_bytes_gt : Slot "bytes" (cmpInfo .Gt).2.1 "bytes.__gt__" :=
  .of (owner := "bytes") (n := "__gt__") (by rw [typeLookup_type, builtinLookup_eq_fast]; kernel_rfl) (by decide +kernel) (by decide +kernel) (by decide +kernel)
    (by first | exact .inl (by decide +kernel) | exact .inr (by decide +kernel)) (by rw [isSubtype_type]; kernel_rfl)
theorem entry_bytes_gt : entryFor table "bytes.__gt__" = some Builtin.«bytes.__gt__» := entryFor_of_tree (by kernel_rfl)
theorem args_bytes_gt_2 (a b : Value) : argsOk "bytes.__gt__" ⟨[a, b], []⟩ := by unfold argsOk; kernel_rfl
theorem slot_bytes_ge : Slot "bytes" (cmpInfo .GtE).2.1 "bytes.__ge__" :=
  .of (owner := "bytes") (n := "__ge__") (by rw [typeLookup_type, builtinLookup_eq_fast]; kernel_rfl) (by decide +kernel) (by decide +kernel) (by decide +kernel)
    (by first | exact .inl (by decide +kernel) | exact .inr (by decide +kernel)) (by rw [isSubtype_type]; kernel_rfl)
theorem entry_bytes_ge : entryFor table "bytes.__ge__" = some Builtin.«bytes.__ge__» := entryFor_of_tree (by kernel_rfl)
theorem args_bytes_ge_2 (a b : Value) : argsOk "bytes.__ge__" ⟨[a, b], []⟩ := by unfold argsOk; kernel_rfl

/-- what a plain thing's own method does not speak of -/
def Fgn (h : Heap) (r : Raw) (op : CmpOp) (b : Value) : Prop := (∃ r' : Raw, r'.At b ∧ (r'.ty ≠ r.ty ∨ (r = .none ∧ op ≠ .Eq))) ∨ ∃ q d, b = .ref q ∧ h.get? q = some (instObj 88 d)

structure SlotOf (r : Raw) (op : CmpOp) where
  id : String
  B : Builtin
  slot : Slot r.ty (cmpInfo op).2.1 id
  entry : entryFor table id = some B
  args : ∀ a b, argsOk id ⟨[a, b], []⟩
  dec : ∀ {M : Model} {h : Heap} {K : Frag} {v b : Value}, KQ K → K.In h → r.At v → Fgn h r op b → Looks M h (B ⟨[v, b], []⟩) NI


theorem fgn_int {M : Model} {h : Heap} {n : Int} {op : CmpOp} {b : Value} (f : Fgn h (.int n) op b) : Looks M h (asInt? b) Option.none := by
  rcases f with ⟨r', hr, hne | ⟨e, _⟩⟩ | ⟨q, d, rfl, hq⟩
  · cases hr <;> first | exact absurd rfl hne | exact asInt_str | exact asInt_none | exact asInt_bytes
  · cases e
  · exact asInt_q hq
theorem fgn_str {M : Model} {h : Heap} {n : PySem.Str} {op : CmpOp} {b : Value} (f : Fgn h (.str n) op b) : Looks M h (asStr? b) Option.none := by
  rcases f with ⟨r', hr, hne | ⟨e, _⟩⟩ | ⟨q, d, rfl, hq⟩
  · cases hr <;> first | exact absurd rfl hne | exact asStr_int | exact asStr_none | exact asStr_bytes
  · cases e
  · exact asStr_q hq
theorem fgn_bytes {M : Model} {h : Heap} {K : Frag} {n : Array UInt8} {op : CmpOp} {b : Value} (Y : KQ K) (X : K.In h) (f : Fgn h (.bytes n) op b) : Looks M h (isInstance b (.type "bytes")) false := by
  rcases f with ⟨r', hr, hne | ⟨e, _⟩⟩ | ⟨q, d, rfl, hq⟩
  · cases hr <;> first | exact absurd rfl hne | exact inst_int | exact inst_none | exact inst_str
  · cases e
  · exact inst_q Y X hq
theorem fgn_none {h : Heap} {b : Value} (f : Fgn h .none .Eq b) : (b == Value.none) = false := by
  rcases f with ⟨r', hr, hne | ⟨_, e⟩⟩ | ⟨q, d, rfl, hq⟩
  · cases hr <;> first | exact absurd rfl hne | rfl
  · exact absurd rfl e
  · rfl

def sl_int_eq (n : Int) : SlotOf (.int n) .Eq := ⟨"int.__eq__", Builtin.«int.__eq__», F.slot_int_eq, F.entry_int_eq, F.args_int_eq_2, fun Y X hv f => by cases hv; exact int_dec (fgn_int f)⟩
def sl_int_lt (n : Int) : SlotOf (.int n) .Lt := ⟨"int.__lt__", Builtin.«int.__lt__», F.slot_int_lt, F.entry_int_lt, F.args_int_lt_2, fun Y X hv f => by cases hv; exact int_dec (fgn_int f)⟩
def sl_int_le (n : Int) : SlotOf (.int n) .LtE := ⟨"int.__le__", Builtin.«int.__le__», F.slot_int_le, F.entry_int_le, F.args_int_le_2, fun Y X hv f => by cases hv; exact int_dec (fgn_int f)⟩
def sl_int_gt (n : Int) : SlotOf (.int n) .Gt := ⟨"int.__gt__", Builtin.«int.__gt__», F.slot_int_gt, F.entry_int_gt, F.args_int_gt_2, fun Y X hv f => by cases hv; exact int_dec (fgn_int f)⟩
def sl_int_ge (n : Int) : SlotOf (.int n) .GtE := ⟨"int.__ge__", Builtin.«int.__ge__», F.slot_int_ge, F.entry_int_ge, F.args_int_ge_2, fun Y X hv f => by cases hv; exact int_dec (fgn_int f)⟩
def sl_str_eq (x : PySem.Str) : SlotOf (.str x) .Eq := ⟨"str.__eq__", Builtin.«str.__eq__», F.slot_str_eq, F.entry_str_eq, F.args_str_eq_2, fun Y X hv f => by cases hv; exact str_dec (fgn_str f)⟩
def sl_str_lt (x : PySem.Str) : SlotOf (.str x) .Lt := ⟨"str.__lt__", Builtin.«str.__lt__», F.slot_str_lt, F.entry_str_lt, F.args_str_lt_2, fun Y X hv f => by cases hv; exact str_dec (fgn_str f)⟩
def sl_str_le (x : PySem.Str) : SlotOf (.str x) .LtE := ⟨"str.__le__", Builtin.«str.__le__», F.slot_str_le, F.entry_str_le, F.args_str_le_2, fun Y X hv f => by cases hv; exact str_dec (fgn_str f)⟩
def sl_str_gt (x : PySem.Str) : SlotOf (.str x) .Gt := ⟨"str.__gt__", Builtin.«str.__gt__», F.slot_str_gt, F.entry_str_gt, F.args_str_gt_2, fun Y X hv f => by cases hv; exact str_dec (fgn_str f)⟩
def sl_str_ge (x : PySem.Str) : SlotOf (.str x) .GtE := ⟨"str.__ge__", Builtin.«str.__ge__», F.slot_str_ge, F.entry_str_ge, F.args_str_ge_2, fun Y X hv f => by cases hv; exact str_dec (fgn_str f)⟩
def sl_none_eq : SlotOf .none .Eq := ⟨"NoneType.__eq__", Builtin.«NoneType.__eq__», F.slot_NoneType_eq, F.entry_NoneType_eq, F.args_NoneType_eq_2, fun Y X hv f => by cases hv; exact none_eq (fgn_none f)⟩
def sl_none_lt : SlotOf .none .Lt := ⟨"NoneType.__lt__", Builtin.«NoneType.__lt__», F.slot_NoneType_lt, F.entry_NoneType_lt, F.args_NoneType_lt_2, fun Y X hv f => by cases hv; exact none_lt⟩
def sl_none_le : SlotOf .none .LtE := ⟨"NoneType.__le__", Builtin.«NoneType.__le__», F.slot_NoneType_le, F.entry_NoneType_le, F.args_NoneType_le_2, fun Y X hv f => by cases hv; exact none_le⟩
def sl_none_gt : SlotOf .none .Gt := ⟨"NoneType.__gt__", Builtin.«NoneType.__gt__», F.slot_NoneType_gt, F.entry_NoneType_gt, F.args_NoneType_gt_2, fun Y X hv f => by cases hv; exact none_gt⟩
def sl_none_ge : SlotOf .none .GtE := ⟨"NoneType.__ge__", Builtin.«NoneType.__ge__», F.slot_NoneType_ge, F.entry_NoneType_ge, F.args_NoneType_ge_2, fun Y X hv f => by cases hv; exact none_ge⟩
def sl_bytes_eq (x : Array UInt8) : SlotOf (.bytes x) .Eq := ⟨"bytes.__eq__", Builtin.«bytes.__eq__», slot_bytes_eq, entry_bytes_eq, args_bytes_eq_2, fun Y X hv f => by cases hv; exact bytes_eq_dec (fgn_bytes Y X f)⟩
def sl_bytes_lt (x : Array UInt8) : SlotOf (.bytes x) .Lt := ⟨"bytes.__lt__", Builtin.«bytes.__lt__», slot_bytes_lt, entry_bytes_lt, args_bytes_lt_2, fun Y X hv f => by cases hv; exact bytes_lt_dec (fgn_bytes Y X f)⟩
def sl_bytes_le (x : Array UInt8) : SlotOf (.bytes x) .LtE := ⟨"bytes.__le__", Builtin.«bytes.__le__», slot_bytes_le, entry_bytes_le, args_bytes_le_2, fun Y X hv f => by cases hv; exact bytes_le_dec (fgn_bytes Y X f)⟩
def sl_bytes_gt (x : Array UInt8) : SlotOf (.bytes x) .Gt := ⟨"bytes.__gt__", Builtin.«bytes.__gt__», slot_bytes_gt, entry_bytes_gt, args_bytes_gt_2, fun Y X hv f => by cases hv; exact bytes_gt_dec (fgn_bytes Y X f)⟩
def sl_bytes_ge (x : Array UInt8) : SlotOf (.bytes x) .GtE := ⟨"bytes.__ge__", Builtin.«bytes.__ge__», slot_bytes_ge, entry_bytes_ge, args_bytes_ge_2, fun Y X hv f => by cases hv; exact bytes_ge_dec (fgn_bytes Y X f)⟩
theorem slotOf (r : Raw) {op : CmpOp} (ho : isOrd op = true) : Nonempty (SlotOf r op) := by
  cases r with
  | int n => cases op <;> first | (cases ho; done) | exact ⟨sl_int_eq n⟩ | exact ⟨sl_int_lt n⟩ | exact ⟨sl_int_le n⟩ | exact ⟨sl_int_gt n⟩ | exact ⟨sl_int_ge n⟩
  | str x => cases op <;> first | (cases ho; done) | exact ⟨sl_str_eq x⟩ | exact ⟨sl_str_lt x⟩ | exact ⟨sl_str_le x⟩ | exact ⟨sl_str_gt x⟩ | exact ⟨sl_str_ge x⟩
  | none  => cases op <;> first | (cases ho; done) | exact ⟨sl_none_eq ⟩ | exact ⟨sl_none_lt ⟩ | exact ⟨sl_none_le ⟩ | exact ⟨sl_none_gt ⟩ | exact ⟨sl_none_ge ⟩
  | bytes x => cases op <;> first | (cases ho; done) | exact ⟨sl_bytes_eq x⟩ | exact ⟨sl_bytes_lt x⟩ | exact ⟨sl_bytes_le x⟩ | exact ⟨sl_bytes_gt x⟩ | exact ⟨sl_bytes_ge x⟩

theorem SlotOf.call {r : Raw} {op : CmpOp} {prog : Program} {w : World} {A : Around} {K : Frag} {v b : Value} {s : Shared} {Q : Value → Shared → Prop} {E : Value → Shared → Prop} (S : SlotOf r op) (Y : KQ K) (X : K.In s.heap) (hv : r.At v) (hb : Fgn s.heap r op b) (hQ : Q .notImplemented s) :
    wpAny (model prog w) A (call (.builtin S.id) [v, b]) Q E s :=
  wpAny_call_entry S.slot (hv.tyIs s) S.entry (S.dec Y X hv hb _ _ _ _ (fun _ _ e => e) ⟨_, rfl, hQ⟩) (S.args _ _)
end Mine

/-! C3 -/
namespace Mine

/-! ## orders of lists of numbers -/
theorem lexB_gt : ∀ x y : List Int, lexB .Gt x y = lexB .Lt y x
  | [], [] => rfl
  | [], y :: ys => by simp [lexB, szB]
  | x :: xs, [] => by simp [lexB, szB]
  | x :: xs, y :: ys => by
    simp only [lexB, lexB_gt xs ys, intB]
    by_cases h : x = y
    · subst h; simp
    · have h' : ¬ y = x := fun e => h e.symm
      simp [h, h']
theorem lexB_le : ∀ x y : List Int, lexB .LtE x y = !lexB .Lt y x
  | [], [] => rfl
  | [], y :: ys => by simp [lexB, szB]
  | x :: xs, [] => by simp [lexB, szB]
  | x :: xs, y :: ys => by
    simp only [lexB, lexB_le xs ys, intB]
    by_cases h : x = y
    · subst h; simp
    · have h' : ¬ y = x := fun e => h e.symm
      simp [h, h']
      rw [← decide_not]
      apply decide_eq_decide.mpr
      omega
theorem lexB_ge : ∀ x y : List Int, lexB .GtE x y = !lexB .Lt x y
  | [], [] => rfl
  | [], y :: ys => by simp [lexB, szB]
  | x :: xs, [] => by simp [lexB, szB]
  | x :: xs, y :: ys => by
    simp only [lexB, lexB_ge xs ys, intB]
    by_cases h : x = y
    · subst h; simp
    · simp [h]
      rw [← decide_not]
      apply decide_eq_decide.mpr
      omega
def asInts (x : List Nat) : List Int := x.map Int.ofNat
theorem lexB_lt : ∀ x y : List Nat, lexB .Lt (asInts x) (asInts y) = decide (x < y)
  | [], [] => rfl
  | [], y :: ys => by show szB .Lt 0 _ = _; simp [szB, asInts]
  | x :: xs, [] => by show szB .Lt _ 0 = _; simp [szB, asInts]
  | x :: xs, y :: ys => by
    show (if Int.ofNat x == Int.ofNat y then lexB .Lt (asInts xs) (asInts ys) else intB .Lt (Int.ofNat x) (Int.ofNat y)) = _
    rw [lexB_lt xs ys]
    by_cases h : x = y
    · subst h; simp
    · have : (Int.ofNat x == Int.ofNat y) = false := by simp; omega
      rw [this]
      simp only [Bool.false_eq_true, if_false, intB]
      apply decide_eq_decide.mpr
      rw [List.cons_lt_cons_iff]
      constructor
      · intro q; exact .inl (by simpa using q)
      · rintro (q | ⟨q, _⟩)
        · simpa using q
        · exact absurd q h
theorem asInts_inj : ∀ {x y : List Nat}, asInts x = asInts y ↔ x = y
  | [], [] => by simp
  | [], y :: ys => by simp [asInts]
  | x :: xs, [] => by simp [asInts]
  | x :: xs, y :: ys => by
    have ih := asInts_inj (x := xs) (y := ys)
    show Int.ofNat x :: asInts xs = Int.ofNat y :: asInts ys ↔ _
    rw [List.cons.injEq, List.cons.injEq, ih]
    constructor
    · rintro ⟨h1, h2⟩; exact ⟨by simpa using Int.ofNat.inj h1, h2⟩
    · rintro ⟨rfl, h2⟩; exact ⟨rfl, h2⟩

/-! the order of bytes -/
def byI (x : List UInt8) : List Int := x.map fun c => (c.toNat : Int)
theorem u8_eq {x y : UInt8} : ((x.toNat : Int) = (y.toNat : Int)) ↔ x = y := by
  constructor
  · intro h; exact UInt8.toNat_inj.mp (by omega)
  · rintro rfl; rfl
theorem order_all : ∀ x y : List UInt8, (Builtin.Bytes.order x y = .lt ↔ lexB .Lt (byI x) (byI y) = true) ∧ (Builtin.Bytes.order x y = .gt ↔ lexB .Lt (byI y) (byI x) = true) ∧ (Builtin.Bytes.order x y = .eq ↔ byI x = byI y)
  | [], [] => by simp [Builtin.Bytes.order, byI, lexB, szB]
  | [], y :: ys => by simp [Builtin.Bytes.order, byI, lexB, szB]
  | x :: xs, [] => by simp [Builtin.Bytes.order, byI, lexB, szB]
  | x :: xs, y :: ys => by
    have ih := order_all xs ys
    show ((if x < y then Ordering.lt else if x > y then Ordering.gt else Builtin.Bytes.order xs ys) = _ ↔ (if ((x.toNat : Int) == (y.toNat : Int)) then lexB .Lt (byI xs) (byI ys) else decide ((x.toNat : Int) < (y.toNat : Int))) = true) ∧
      ((if x < y then Ordering.lt else if x > y then Ordering.gt else Builtin.Bytes.order xs ys) = _ ↔ (if ((y.toNat : Int) == (x.toNat : Int)) then lexB .Lt (byI ys) (byI xs) else decide ((y.toNat : Int) < (x.toNat : Int))) = true) ∧
      ((if x < y then Ordering.lt else if x > y then Ordering.gt else Builtin.Bytes.order xs ys) = _ ↔ ((x.toNat : Int) :: byI xs) = ((y.toNat : Int) :: byI ys))
    by_cases h1 : x < y
    · have h1' : x.toNat < y.toNat := h1
      have e1 : ((x.toNat : Int) == (y.toNat : Int)) = false := by simp; omega
      have e2 : ((y.toNat : Int) == (x.toNat : Int)) = false := by simp; omega
      rw [if_pos h1, e1, e2]
      simp
      refine ⟨by omega, by omega, ?_⟩
      intro h; omega
    · rw [if_neg h1]
      have h1' : ¬ x.toNat < y.toNat := h1
      by_cases h2 : x > y
      · have h2' : y.toNat < x.toNat := h2
        have e1 : ((x.toNat : Int) == (y.toNat : Int)) = false := by simp; omega
        have e2 : ((y.toNat : Int) == (x.toNat : Int)) = false := by simp; omega
        rw [if_pos h2, e1, e2]
        simp
        refine ⟨by omega, by omega, ?_⟩
        intro h; omega
      · have h2' : ¬ y.toNat < x.toNat := h2
        have e : x.toNat = y.toNat := by omega
        rw [if_neg h2, e]
        simp
        exact ih

/-! ## how two plain things compare -/
def intE (op : CmpOp) (a b : Int) : Bool := match op with | .Eq => decide (a = b) | o => intB o a b
def lexE (op : CmpOp) (a b : List Int) : Bool := match op with | .Eq => decide (a = b) | o => lexB o a b
def strI (x : PySem.Str) : List Int := asInts x.cps.toList
def isEq : CmpOp → Bool
  | .Eq => true | _ => false
def rawB (op : CmpOp) : Raw → Raw → Option Bool
  | .int a, .int b => some (intE op a b)
  | .str x, .str y => some (lexE op (strI x) (strI y))
  | .bytes x, .bytes y => some (lexE op (byI x.toList) (byI y.toList))
  | .none, .none => if isEq op then some true else none
  | _, _ => if isEq op then some false else none

theorem lexB_refl_op {op : CmpOp} (h : isOrd op = true) (x y : List Int) : lexE (refl op) y x = lexE op x y := by
  cases op <;> first | (cases h; done) | skip
  · exact decide_eq_decide.mpr ⟨fun e => e.symm, fun e => e.symm⟩
  · exact lexB_gt y x
  · show lexB .GtE y x = lexB .LtE x y; rw [lexB_ge, lexB_le]
  · exact (lexB_gt x y).symm
  · show lexB .LtE y x = lexB .GtE x y; rw [lexB_ge, lexB_le]
theorem intE_refl_op {op : CmpOp} (h : isOrd op = true) (x y : Int) : intE (refl op) y x = intE op x y := by
  cases op <;> first | (cases h; done) | rfl | skip
  exact decide_eq_decide.mpr ⟨fun e => e.symm, fun e => e.symm⟩
theorem isEq_refl {op : CmpOp} : isEq (refl op) = isEq op := by cases op <;> rfl
theorem rawB_refl {op : CmpOp} (h : isOrd op = true) (a b : Raw) : rawB (refl op) b a = rawB op a b := by
  cases a <;> cases b <;> simp only [rawB, lexB_refl_op h, intE_refl_op h, isEq_refl]

section
variable {prog : Program} {w : World} {A : Around} {V : View} {R : Heap}
theorem rc_bytes {op : CmpOp} {x y : Array UInt8} {t u : Tok} {id : String} {B : Builtin} {b : Bool} (hid : Slot "bytes" (cmpInfo op).2.1 id) (he : entryFor table id = some B) (ha : argsOk id ⟨[.bytes x t, .bytes y u], []⟩)
    (hB : ∀ (M : Model) (h : Heap), Looks M h (B ⟨[.bytes x t, .bytes y u], []⟩) (.done (.ret (.bool b)))) {Q : Value → Shared → Prop} {E : Value → Shared → Prop} {s : Shared} (hQ : Q (.bool b) s) :
    wpAny (model prog w) A (richCompare op (.bytes x t) (.bytes y u)) Q E s := by
  have hT : ∀ z t, s.TypeIs (.bytes z t) "bytes" := fun _ _ => rfl
  rcases hi : cmpInfo op with ⟨sym, f, r⟩
  rw [hi] at hid
  simp only [richCompare, hi, (hT x t).oneThing_none]
  refine wpAny_holding ?_
  refine wpAny_bind (wpAny_cRoomFor_or (.inl rfl) ?_)
  refine wpAny_bind (wpAny_typeOf (hT x t) (wpAny_bind (wpAny_typeOf (hT y u) ?_)))
  rw [if_neg (show ¬ ((Value.type "bytes" != Value.type "bytes") = true) from by decide)]
  refine wpAny_bind (wpAny_pure ?_)
  simp only [Bool.false_eq_true, if_false]
  refine wpAny_bind (wpAny_tryCompare_slot (hT x t) hid ?_)
  refine wpAny_call_entry hid (hT x t) he (hB _ s.heap _ _ _ _ (fun _ _ e => e) ⟨_, rfl, ?_, wpAny_pure hQ⟩) ha
  intro e; cases e

theorem ev_raw_same {op : CmpOp} {r r' : Raw} {v u : Value} {b : Bool} (ho : isOrd op = true) (hv : r.At v) (hu : r'.At u) (ht : r.ty = r'.ty) (hb : rawB op r r' = some b) : Ev prog w A V R (richCompare op v u) (Is (.bool b)) := by
  cases hv <;> cases hu <;> first | (simp only [Raw.ty, String.reduceEq] at ht; done) | skip
  · rename_i n t _ n' t' _
    cases hb
    cases op <;> first | (cases ho; done) | skip
    · exact Ev.of_look fun _ _ _ _ h => PySem.P.eq_int (by rw [show (n == n') = intE .Eq n n' from by simp [intE, BEq.beq]]; exact h)
    · exact Ev.of_look fun _ _ _ _ h => PySem.P.lt_int h
    · exact Ev.of_look fun _ _ _ _ h => PySem.P.le_int h
    · exact Ev.of_look fun _ _ _ _ h => PySem.P.gt_int h
    · exact Ev.of_look fun _ _ _ _ h => PySem.P.ge_int h
  · rename_i x t _ y t' _
    cases hb
    cases op <;> first | (cases ho; done) | skip
    · refine Ev.of_look fun _ _ _ _ h => PySem.P.eq_str ?_
      have e : (x.cps.toList == y.cps.toList) = lexE .Eq (strI x) (strI y) := by
        show _ = decide (asInts _ = asInts _)
        rw [Bool.eq_iff_iff]; simp [asInts_inj]
      rw [e]; exact h
    · refine Ev.of_look fun _ _ _ _ h => PySem.P.lt_str ?_
      rw [← lexB_lt]; exact h
    · refine Ev.of_look fun _ _ _ _ h => PySem.P.le_str ?_
      rw [← lexB_lt, ← lexB_le]; exact h
    · refine Ev.of_look fun _ _ _ _ h => PySem.P.gt_str ?_
      rw [← lexB_lt, ← lexB_gt]; exact h
    · refine Ev.of_look fun _ _ _ _ h => PySem.P.ge_str ?_
      rw [← lexB_lt, ← lexB_ge]; exact h
  · cases op <;> first | (cases ho; done) | (cases hb; done) | skip
    cases hb
    exact Ev.of_look fun _ _ _ _ h => EqNone.eq_none_none h
  · rename_i x t _ y t' _
    cases hb
    obtain ⟨o1, o2, o3⟩ := order_all x.toList y.toList
    have hf : ∀ {p : Bool} {q : Prop} [Decidable q], (q ↔ p = true) → decide q = p := by
      intro p q _ h; by_cases hq : q
      · rw [decide_eq_true hq, h.mp hq]
      · rw [decide_eq_false hq]; cases p with
        | false => rfl
        | true => exact absurd (h.mpr rfl) hq
    clear ht
    cases op <;> first | (cases ho; done) | skip
    · have e : Builtin.Bytes.holds "__eq__" (Builtin.Bytes.order x.toList y.toList) = lexE .Eq (byI x.toList) (byI y.toList) := by
        show (Builtin.Bytes.order x.toList y.toList == .eq) = decide (byI x.toList = byI y.toList)
        rw [Bool.eq_iff_iff]; simp only [beq_iff_eq, decide_eq_true_eq]; exact o3
      exact Ev.of_look fun _ _ _ _ h => rc_bytes slot_bytes_eq entry_bytes_eq (args_bytes_eq_2 _ _) (fun M h => e ▸ bytes_eq_cmp) h
    · have e : Builtin.Bytes.holds "__lt__" (Builtin.Bytes.order x.toList y.toList) = lexE .Lt (byI x.toList) (byI y.toList) := by
        show (Builtin.Bytes.order x.toList y.toList == .lt) = lexB .Lt (byI x.toList) (byI y.toList)
        rw [Bool.eq_iff_iff]; simp only [beq_iff_eq]; exact o1
      exact Ev.of_look fun _ _ _ _ h => rc_bytes slot_bytes_lt entry_bytes_lt (args_bytes_lt_2 _ _) (fun M h => e ▸ bytes_lt_cmp) h
    · have e : Builtin.Bytes.holds "__le__" (Builtin.Bytes.order x.toList y.toList) = lexE .LtE (byI x.toList) (byI y.toList) := by
        show (Builtin.Bytes.order x.toList y.toList != .gt) = lexB .LtE (byI x.toList) (byI y.toList)
        rw [lexB_le, bne]; congr 1
        rw [Bool.eq_iff_iff]; simp only [beq_iff_eq]; exact o2
      exact Ev.of_look fun _ _ _ _ h => rc_bytes slot_bytes_le entry_bytes_le (args_bytes_le_2 _ _) (fun M h => e ▸ bytes_le_cmp) h
    · have e : Builtin.Bytes.holds "__gt__" (Builtin.Bytes.order x.toList y.toList) = lexE .Gt (byI x.toList) (byI y.toList) := by
        show (Builtin.Bytes.order x.toList y.toList == .gt) = lexB .Gt (byI x.toList) (byI y.toList)
        rw [lexB_gt]
        rw [Bool.eq_iff_iff]; simp only [beq_iff_eq]; exact o2
      exact Ev.of_look fun _ _ _ _ h => rc_bytes slot_bytes_gt entry_bytes_gt (args_bytes_gt_2 _ _) (fun M h => e ▸ bytes_gt_cmp) h
    · have e : Builtin.Bytes.holds "__ge__" (Builtin.Bytes.order x.toList y.toList) = lexE .GtE (byI x.toList) (byI y.toList) := by
        show (Builtin.Bytes.order x.toList y.toList != .lt) = lexB .GtE (byI x.toList) (byI y.toList)
        rw [lexB_ge, bne]; congr 1
        rw [Bool.eq_iff_iff]; simp only [beq_iff_eq]; exact o1
      exact Ev.of_look fun _ _ _ _ h => rc_bytes slot_bytes_ge entry_bytes_ge (args_bytes_ge_2 _ _) (fun M h => e ▸ bytes_ge_cmp) h
end
end Mine

/-! C4 -/
namespace Mine

theorem raw_sub {r r' : Raw} (h : r.ty ≠ r'.ty) : isSubtype (.type r'.ty) (.type r.ty) = pure false := by
  cases r <;> cases r' <;> first | exact absurd rfl h | exact F.sub_int_str | exact F.sub_int_bytes | exact F.sub_int_NoneType | exact F.sub_str_int | exact F.sub_str_bytes | exact F.sub_str_NoneType | exact F.sub_bytes_int | exact F.sub_bytes_str | exact F.sub_bytes_NoneType | exact F.sub_NoneType_int | exact F.sub_NoneType_str | exact F.sub_NoneType_bytes
theorem raw_tyne {r r' : Raw} (h : r.ty ≠ r'.ty) : (Value.type r.ty != Value.type r'.ty) = true := by
  cases r <;> cases r' <;> first | exact absurd rfl h | rfl
theorem raw_notSame {M : Model} {r r' : Raw} {v u : Value} (hv : r.At v) (hu : r'.At u) (h : r.ty ≠ r'.ty) {hp : Heap} : Looks M hp (isSame v u) false := by
  cases hv <;> cases hu <;> first | exact absurd rfl h | exact Looks.of_pure rfl
theorem raw_short (r : Raw) : (shownName r.ty).length ≤ 1000 := by
  have h : ∀ T ∈ ["int", "str", "NoneType", "bytes"], (shownName T).length ≤ 1000 := by decide
  exact h _ (by cases r <;> simp [Raw.ty])
theorem raw_nofn (r : Raw) : (Value.type r.ty == Value.type "builtin_function_or_method") = false := by cases r <;> rfl
theorem raw_heap {r r' : Raw} {v u : Value} (hv : r.At v) (hu : r'.At u) : [v, u].any Value.onHeap = false := by cases hv <;> cases hu <;> rfl

theorem msg_short {a b c d e f g : String} (hb : b.length ≤ 100) (hd : d.length ≤ 1000) (hf : f.length ≤ 1000) (ha : a.length ≤ 100 := by decide) (hc : c.length ≤ 100 := by decide) (he : e.length ≤ 100 := by decide) (hg : g.length ≤ 100 := by decide) : (PySem.Str.ofString (a ++ b ++ c ++ d ++ e ++ f ++ g)).length ≤ sizeLine := by
  rw [PySem.ofString_length, sizeLine_eq]
  simp only [String.length_append]
  omega

section
variable {prog : Program} {w : World} {A : Around} {K : Frag} {V : View} {R : Heap} {r r' : Raw} {v u : Value} {op : CmpOp}

theorem ev_raw_ne (Y : KQ K) (X : K.In R) (hv : r.At v) (hu : r'.At u) (h : r.ty ≠ r'.ty) : Ev prog w A V R (richCompare .Eq v u) (Is (.bool false)) := Ev.of_look fun Q E s hs hQ => by
  obtain ⟨S⟩ := slotOf r (op := .Eq) rfl
  obtain ⟨S'⟩ := slotOf r' (op := .Eq) rfl
  have f1 : Fgn s.heap r .Eq u := .inl ⟨r', hu, .inl fun e => h e.symm⟩
  have f2 : Fgn s.heap r' .Eq v := .inl ⟨r, hv, .inl h⟩
  exact SeqAt.rc_eq_decline_or (hv.tyIs s) (hu.tyIs s) (raw_tyne h) (raw_sub h) S.slot S'.slot (fun Q' q => S.call Y (X.keeps hs) hv f1 q) (fun Q' q => S'.call Y (X.keeps hs) hu f2 q)
    (fun Q' q => raw_notSame hv hu h _ _ _ _ (fun _ _ e => e) q) (.inl (raw_heap hv hu)) hQ

theorem rich_raise {s : Shared} {Q : Value → Shared → Prop} {E : Value → Shared → Prop} (hh : A.handled = none) (ho : isOrd op = true) (hne : isEq op = false) (Y : KQ K) (X : K.In s.heap) (hv : r.At v) (hu : r'.At u) (hf : r.ty ≠ r'.ty ∨ (r = .none ∧ r' = .none))
    (h : ∀ h' tk e, Heap.NewExc s.heap h' e "TypeError" → E (.ref e) { s with heap := h', toks := tk }) : wpAny (model prog w) A (richCompare op v u) Q E s := by
  obtain ⟨S⟩ := slotOf r ho
  obtain ⟨S'⟩ := slotOf r' (refl_ord ho)
  have hE : op ≠ .Eq := by rintro rfl; cases hne
  have hE' : refl op ≠ .Eq := by cases op <;> first | (cases ho; done) | (cases hne; done) | (intro e; cases e)
  have f1 : Fgn s.heap r op u := .inl ⟨r', hu, hf.imp (fun h e => h e.symm) fun h => ⟨h.1, hE⟩⟩
  have f2 : Fgn s.heap r' (refl op) v := .inl ⟨r, hv, hf.imp id fun h => ⟨h.2, hE'⟩⟩
  have h2 : Slot r'.ty (cmpInfo op).2.2 S'.id := by rw [refl_name ho]; exact S'.slot
  have h1 := S.slot
  rcases hi : cmpInfo op with ⟨sym, f, rr⟩
  rw [hi] at h1 h2
  have hsym : sym.length ≤ 100 := by
    have : sym = (cmpInfo op).1 := by rw [hi]
    rw [this]; cases op <;> decide
  simp only [richCompare, hi, (hv.tyIs s).oneThing_none]
  refine wpAny_holding ?_
  refine wpAny_bind (wpAny_cRoomFor_or (.inl (raw_heap hv hu)) ?_)
  refine wpAny_bind (wpAny_typeOf (hv.tyIs s) (wpAny_bind (wpAny_typeOf (hu.tyIs s) ?_)))
  rcases hf with hf | hf
  · rw [if_pos (raw_tyne hf)]
    refine wpAny_bind (wpAny_of_eq (raw_sub hf) ?_)
    simp only [Bool.false_eq_true, if_false, Bool.not_false, if_true]
    refine wpAny_bind (m := tryCompare v _ u) (wpAny_tryCompare_declines (hv.tyIs s) h1 (S.call Y X hv f1 ⟨rfl, ?_⟩))
    refine wpAny_bind (m := tryCompare u _ v) (wpAny_tryCompare_declines (hu.tyIs s) h2 (S'.call Y X hu f2 ⟨rfl, ?_⟩))
    cases op <;> first | (cases ho; done) | (cases hne; done) | skip
    all_goals
      refine wpAny_bind (wpAny_rule (wpAny_bind (wpAny_typeNameOf' (hv.tyIs s) (raw_nofn r) (wpAny_bind (wpAny_typeNameOf' (hu.tyIs s) (raw_nofn r') (wpAny_raiseTypeError hh h ?_))))))
      exact msg_short hsym (raw_short r) (raw_short r')
  · have e : (Value.type r.ty != Value.type r'.ty) = false := by rw [hf.1, hf.2]; rfl
    rw [if_neg (by rw [e]; decide)]
    try refine wpAny_bind (wpAny_pure ?_)
    try simp only [Bool.false_eq_true, if_false, Bool.not_false, if_true]
    refine wpAny_bind (m := tryCompare v _ u) (wpAny_tryCompare_declines (hv.tyIs s) h1 (S.call Y X hv f1 ⟨rfl, ?_⟩))
    refine wpAny_bind (m := tryCompare u _ v) (wpAny_tryCompare_declines (hu.tyIs s) h2 (S'.call Y X hu f2 ⟨rfl, ?_⟩))
    cases op <;> first | (cases ho; done) | (cases hne; done) | skip
    all_goals
      refine wpAny_bind (wpAny_rule (wpAny_bind (wpAny_typeNameOf' (hv.tyIs s) (raw_nofn r) (wpAny_bind (wpAny_typeNameOf' (hu.tyIs s) (raw_nofn r') (wpAny_raiseTypeError hh h ?_))))))
      exact msg_short hsym (raw_short r) (raw_short r')
end
end Mine

/-! C5 -/
namespace Mine

theorem rich_eq_cmp {op : CmpOp} (h : isOrd op = true) (a b : Value) : compareOp op a b = richCompare op a b := by cases op <;> first | rfl | cases h

/-- `v` is `r`, wrapped `d` times -/
inductive Nest (h : Heap) : Nat → Value → Raw → Prop
  | raw {r : Raw} {v : Value} : r.At v → Nest h 0 v r
  | wrap {d : Nat} {q : Addr} {v : Value} {r : Raw} : QN h q v → Nest h d v r → Nest h (d + 1) (.ref q) r
theorem Nest.sub {h h' : Heap} {d : Nat} {v : Value} {r : Raw} (x : Nest h d v r) (s : Sub h h') : Nest h' d v r := by
  induction x with
  | raw e => exact .raw e
  | wrap q _ ih => exact .wrap (q.sub s) ih
theorem Nest.handed {h : Heap} {d : Nat} {v : Value} {r : Raw} (x : Nest h d v r) : handedIn v = true := by
  cases x with
  | raw e => exact e.plain.handed
  | wrap q _ => rfl
theorem Nest.held {h : Heap} {d : Nat} {v : Value} {r : Raw} (x : Nest h d v r) : ∃ u, Held h v u ∧ Nest h (d - 1) u r := by
  cases x with
  | raw e => exact ⟨_, .p e.plain, .raw e⟩
  | wrap q n => exact ⟨_, .q q, n⟩

section
variable {w : World} {K : Frag} {V : View}

theorem ev_nest (Y : KQ K) : ∀ (n : Nat) {op : CmpOp} {A : Around} {V : View} {R : Heap} {d e : Nat} {a b : Value} {r r' : Raw} {c : Bool}, d + e ≤ n → isOrd op = true → Gd K R → Room A n → A.units < cLine → Nest R d a r → Nest R e b r' → rawB op r r' = some c →
    Ev prog2 w A V R (richCompare op a b) (Is (.bool c)) := by
  intro n
  induction n with
  | zero =>
    intro op A V R d e a b r r' c hn ho G rm hu ha hb hc
    obtain rfl : d = 0 := by omega
    obtain rfl : e = 0 := by omega
    cases ha with | raw ha =>
    cases hb with | raw hb =>
    by_cases hT : r.ty = r'.ty
    · exact ev_raw_same ho ha hb hT hc
    · have : op = .Eq ∧ c = false := by
        cases r <;> cases r' <;> first | exact absurd rfl hT | skip
        all_goals (cases op <;> first | (cases ho; done) | (cases hc; done) | (cases hc; exact ⟨rfl, rfl⟩))
      obtain ⟨rfl, rfl⟩ := this
      exact ev_raw_ne Y G.k ha hb hT
  | succ n ih =>
    intro op A V R d e a b r r' c hn ho G rm hu ha hb hc
    cases ha with
    | wrap hq ha' =>
      rename_i d q v
      obtain ⟨u, hh, hu'⟩ := hb.held
      refine Ev.mk fun Q E s hs hv ht hQ => ?_
      refine richQ ho Y (G.sub hs) hu (hq.sub hs) (hh.sub hs) ?_
      refine cmpFn ho Y (G.sub hs) (hq.sub hs) ha'.handed (hh.sub hs) hu'.handed rm.d fun s' k t' _ => ?_
      rw [rich_eq_cmp ho]
      have hs' := hs.trans (keeps_sub k)
      refine (ih (V := View.any) (by omega) ho (G.sub hs') (rm.deeper _) (rm.deeper _).u (ha'.sub hs') (hu'.sub hs') hc).here trivial t' fun x s3 k3 t3 p3 => ?_
      cases p3
      exact hQ _ _ (keeps_trans k k3) upIs
    | raw ha =>
      cases hb with
      | raw hb => exact ih (d := 0) (e := 0) (Nat.zero_le _) ho G (rm.le (Nat.le_succ _)) hu (.raw ha) (.raw hb) hc
      | wrap hq hb' =>
        rename_i e q v
        refine Ev.mk fun Q E s hs hv ht hQ => ?_
        obtain ⟨S⟩ := slotOf r ho
        obtain ⟨d0, od, h1, _⟩ := hq.sub hs
        refine richP ho Y (G.sub hs) hu (hq.sub hs) ha.plain S.slot (ha.tyIs s) (S.call Y (G.sub hs).k ha (.inr ⟨_, _, rfl, h1⟩) ⟨rfl, rfl⟩) ?_
        refine cmpFn (refl_ord ho) Y (G.sub hs) (hq.sub hs) hb'.handed (.p ha.plain) ha.plain.handed rm.d fun s' k t' _ => ?_
        rw [rich_eq_cmp (refl_ord ho)]
        have hs' := hs.trans (keeps_sub k)
        refine (ih (V := View.any) (by omega) (refl_ord ho) (G.sub hs') (rm.deeper _) (rm.deeper _).u (hb'.sub hs') (.raw ha) ((rawB_refl ho r r').trans hc)).here trivial t' fun x s3 k3 t3 p3 => ?_
        cases p3
        exact hQ _ _ (keeps_trans k k3) upIs
end
end Mine

/-! C6 -/
namespace Mine

/-- an exception flies through the frames `l`; what `base` holds stands -/
def Fly (base : Heap) (l : List Env) (s s' : Shared) (e : Value) : Prop := ∃ x a0, e = .ref x ∧ Heap.FlyingW base l x (.type "TypeError") a0 s'.heap ∧ s.heap.UpToSlots s'.heap ∧ ∃ h tk, s' = { s with heap := h, toks := tk }
theorem Fly.keeps {base : Heap} {l : List Env} {s0 s s' : Shared} {e : Value} (k : Keeps s0 s) (f : Fly base l s s' e) : Fly base l s0 s' e := by
  obtain ⟨x, a0, rfl, h1, h2, h, tk, rfl⟩ := f
  obtain ⟨h0, t0, rfl, e0⟩ := k
  exact ⟨x, a0, rfl, h1, (Heap.UpToSlots.of_keeps e0).trans h2, h, tk, rfl⟩

section
variable {M : Model} {A : Around} {base : Heap} {l : List Env} {env : Env} {L : Addr} {s s' : Shared} {E : Value → Shared → Prop} {e : Value}

/-- the frame in which it was raised -/
theorem leave_first {x : Addr} {Q : Unit → Shared → Prop} {E2 : Value → Shared → Prop} {h' : Heap} {tk : Nat} (hfr : A.frames = some (env :: l)) (hf : env.frame = some L) (hb : base.StaysIn s.heap) (hl : s.heap.FunFrames base (env :: l)) (hx : Heap.NewExc s.heap h' x "TypeError")
    (hQ : ∀ s'', Fly base l s s'' (.ref x) → Q () s'') : wpAny M A (leaving env (.ref x)) Q E2 { s with heap := h', toks := tk } := by
  obtain ⟨ob, tp, he, hcls, hd⟩ := hx.there
  have hen : base.get? x = none := by
    cases hq : base.get? x with
    | none => rfl
    | some o' => have := hb x o' hq; rw [hx.new] at this; cases this
  refine wpAny_leaving_firstW (s := { s with heap := h', toks := tk }) hfr (hl.of_keeps fun b o hb _ => ⟨o, hx.keeps b o hb, rfl⟩) hf he (fun b o q => hx.keeps b o (hb b o q)) hen hd rfl rfl fun h2 hL => ?_
  obtain ⟨k1, ⟨_, _, k2⟩, k3, k4⟩ := hL
  refine hQ _ ⟨x, tp, rfl, ⟨k1, hen, k2, by rw [← hcls]; exact k3⟩, (Heap.UpToSlots.of_keeps hx.keeps).trans k4, h2, tk, rfl⟩
/-- a frame that it passes -/
theorem leave_next {Q : Unit → Shared → Prop} {E2 : Value → Shared → Prop} (hfr : A.frames = some (env :: l)) (hf : env.frame = some L) (h : Fly base (env :: l) s s' e) (hQ : ∀ s'', Fly base l s s'' e → Q () s'') : wpAny M A (leaving env e) Q E2 s' := by
  obtain ⟨x, a0, rfl, h1, h2, hp, tk, rfl⟩ := h
  refine wpAny_leaves_onW hfr hf h1 fun h' f u => hQ _ ⟨x, a0, rfl, f, h2.trans u, h', tk, rfl⟩
end

section
variable {w : World} {K : Frag}

theorem funFrames_keeps {h h' base : Heap} {l : List Env} (s : Sub h h') (hl : h.FunFrames base l) : h'.FunFrames base l := hl.of_keeps fun b o e _ => ⟨o, s _ _ e, rfl⟩
theorem fresh_base {base h : Heap} (hb : base.StaysIn h) : base.get? h.objs.size = none := hb.fresh

theorem raise_nest (Y : KQ K) : ∀ (n : Nat) {op : CmpOp} {A : Around} {base : Heap} {l : List Env} {s : Shared} {d e : Nat} {a b : Value} {r r' : Raw} {Q : Value → Shared → Prop} {E : Value → Shared → Prop}, d + e ≤ n → 0 < d + e → isOrd op = true → Gd K s.heap → Room A n → A.units < cLine → A.frames = some l → base.StaysIn s.heap → s.heap.FunFrames base l →
    Nest s.heap d a r → Nest s.heap e b r' → rawB op r r' = none → 0 < s.toks → (∀ e s', Fly base l s s' e → E e s') → wpAny (model prog2 w) A (richCompare op a b) Q E s := by
  intro n
  induction n with
  | zero => intro op A base l s d e a b r r' Q E hn h0; omega
  | succ n ih =>
    intro op A base l s d e a b r r' Q E hn h0 ho G rm hu hA hst hff ha hb hc ht hE
    -- what goes on in a frame that compares `v` and `u`
    have inner : ∀ {op' : CmpOp} {d' e' : Nat} {v u : Value} {rv ru : Raw} (s1 : Shared), isOrd op' = true → d' + e' ≤ n → Nest s.heap d' v rv → Nest s.heap e' u ru → rawB op' rv ru = none → Keeps s s1 → 0 < s1.toks → (∃ m, s1.heap.Ns s.heap.objs.size m) →
        wpAny (model prog2 w) (A.deeper (cmpEnv op' s.heap.objs.size)) (compareOp op' v u) (W.CmpBack Q) (fun e s'' => wpAny (model prog2 w) (A.deeper (cmpEnv op' s.heap.objs.size)) (leaving (cmpEnv op' s.heap.objs.size) e) (fun _ s3 => E e s3) (fun e' s3 => E e' s3) s'') s1 := by
      intro op' d' e' v u rv ru s1 ho' hn' hv hu' hc' k t1 ⟨m, hm⟩
      rw [rich_eq_cmp ho']
      have hs := keeps_sub k
      have hA' : (A.deeper (cmpEnv op' s.heap.objs.size)).frames = some (cmpEnv op' s.heap.objs.size :: l) := Around.frames_deeper hA
      have hst' : base.StaysIn s1.heap := fun b o q => hs _ _ (hst b o q)
      have hff' : s1.heap.FunFrames base (cmpEnv op' s.heap.objs.size :: l) := by
        refine Heap.FunFrames.cons (L := s.heap.objs.size) ?_ ?_ hm (fresh_base hst) (funFrames_keeps hs hff)
        · cases op' <;> first | (cases ho'; done) | (intro q; cases q)
        · rfl
      by_cases hz : d' + e' = 0
      · obtain rfl : d' = 0 := by omega
        obtain rfl : e' = 0 := by omega
        cases hv with | raw hv =>
        cases hu' with | raw hu' =>
        have hf : isEq op' = false ∧ (rv.ty ≠ ru.ty ∨ (rv = .none ∧ ru = .none)) := by
          cases rv <;> cases ru <;> first | (cases hc'; done) | skip
          all_goals (cases op' <;> first | (cases ho'; done) | (cases hc'; done) | (exact ⟨rfl, .inr ⟨rfl, rfl⟩⟩) | (exact ⟨rfl, .inl (by simp [Raw.ty])⟩))
        refine rich_raise (rm.deeper _).handled ho' hf.1 Y (G.sub hs).k hv hu' hf.2 fun h' tk x hx => ?_
        exact leave_first hA' rfl hst' hff' hx fun s'' f => hE _ _ (f.keeps k)
      · refine ih hn' (by omega) ho' (G.sub hs) (rm.deeper _) (rm.deeper _).u hA' hst' hff' (hv.sub hs) (hu'.sub hs) hc' t1 fun e s2 f => ?_
        exact leave_next hA' rfl f fun s3 f3 => hE _ _ (f3.keeps k)
    cases ha with
    | wrap hq ha' =>
      rename_i d q v
      obtain ⟨u, hh, hu'⟩ := hb.held
      refine richQ ho Y G hu hq hh ?_
      exact cmpFn ho Y G hq ha'.handed hh hu'.handed rm.d fun s' k t' hm => inner s' ho (by omega) ha' hu' hc k t' hm
    | raw ha =>
      cases hb with
      | raw hb => omega
      | wrap hq hb' =>
        rename_i e q v
        obtain ⟨S⟩ := slotOf r ho
        obtain ⟨d0, od, h1, _⟩ := id hq
        refine richP ho Y G hu hq ha.plain S.slot (ha.tyIs s) (S.call Y G.k ha (.inr ⟨_, _, rfl, h1⟩) ⟨rfl, rfl⟩) ?_
        exact cmpFn (refl_ord ho) Y G hq hb'.handed (.p ha.plain) ha.plain.handed rm.d fun s' k t' hm => inner s' (refl_ord ho) (by omega) hb' (.raw ha) ((rawB_refl ho r r').trans hc) k t' hm
end
end Mine

/-! C7 -/
namespace Mine

structure KN (K : Frag) : Prop where
  ne : findIn K (.ref 88) "__ne__" = some (some (.builtin "object.__ne__"))

section
variable {prog : Program} {w : World} {A : Around} {K : Frag} {q : Addr} {v u b : Value} {s : Shared} {E : Value → Shared → Prop}

theorem check_ne {Q : Unit → Shared → Prop} (Y : KQ K) (X : K.In s.heap) (hq : QN s.heap q v) (h : Q () s) : wpAny (model prog w) A (checkBuiltinCall "object.__ne__" ⟨[.ref q, b], []⟩) Q E s := by
  obtain ⟨d, od, I, _⟩ := hq.inst
  simp only [checkBuiltinCall, F.cmpKind_ne, F.cmpSplit_ne]
  refine wpAny_bind ?_
  unfold isInstance
  refine wpAny_bind (I.type.here ((looks_mroIn X Y.mro).here ?_))
  have ha := F.cmpArgs_ne (.ref q) b
  simp only [Bool.not_true, Bool.false_eq_true, if_false]
  cases hsig : Manifest.signature? "object.__ne__" with
  | none => exact wpAny_pure h
  | some sig =>
    simp only [argsOk, hsig] at ha
    have h2 : Bind.checkArgs "object.__ne__" sig ⟨[.ref q, b], []⟩ = pure () := ha
    show wpAny _ _ (Bind.checkArgs "object.__ne__" sig ⟨[.ref q, b], []⟩) Q E _
    rw [h2]; exact wpAny_pure h

/-- `!=` with a qualified name on the left: not what `==` gives -/
theorem richNe {Q : Value → Shared → Prop} (Y : KQ K) (Z : KN K) (X : K.In s.heap) (hu : A.units + 1 < cLine) (hq : QN s.heap q v) (hb : Held s.heap b u)
    (h : wpAny (model prog w) A.in1 (call (.ref (fAddr .Eq)) [.ref q, b]) (fun r s' => ∃ c, r = .bool c ∧ Q (.bool (!c)) s') E s) : wpAny (model prog w) A (richCompare .NotEq (.ref q) b) Q E s := by
  obtain ⟨d, od, I, _⟩ := hq.inst
  obtain ⟨e1, e2, _⟩ := Y.cmp .Eq rfl
  have S := F.cmp_object.ne
  have body : wpAny (model prog w) A.in1 (Builtin.«object.__ne__» ⟨[.ref q, b], []⟩) (fun fin s' => ∃ c, fin = .done (.ret (.bool (!c))) ∧ Q (.bool (!c)) s') E s := by
    unfold Builtin.«object.__ne__»
    refine wpAny_bind (m := slotArgs _ 1 _) (wpAny_pure (a := (Value.ref q, [b])) ?_)
    refine wpAny_bind (wpAny_cRoomFor hu ?_)
    refine wpAny_bind (ifBound_K X I e1 e2 (wpAny_mono h (fun r s' hr => ?_) fun _ _ e => e))
    obtain ⟨c, rfl, hc⟩ := hr
    exact wpAny_bind (wpAny_truthy_bool (wpAny_pure ⟨c, rfl, hc⟩))
  have callNe : wpAny (model prog w) A (call (.builtin "object.__ne__") [.ref q, b]) (fun r s' => ∃ c, r = .bool (!c) ∧ Q (.bool (!c)) s') E s := by
    refine wpAny_call (codeAny_call_builtin S.plain F.cmpEntry_ne (check_ne Y X hq (wpAny_mono body (fun fin s' hf => ?_) fun _ _ e => e)))
    obtain ⟨c, rfl, hc⟩ := hf
    exact ⟨c, rfl, hc⟩
  have own : wpAny (model prog w) A (tryCompare (.ref q) "__ne__" b) (fun r s' => ∃ c, r = some (.bool c) ∧ Q (.bool c) s') E s := by
    unfold tryCompare
    refine wpAny_bind ?_
    simp only [callSpecialIfBound?, bindSpecialIfBound?]
    refine wpAny_holding (wpAny_bind (wpAny_bind (wpAny_bind (I.type.here ((looks_findIn X Z.ne).here ?_)))))
    refine wpAny_bind (wpAny_askSetting (wpAny_ite ?_))
    have fin : ∀ QQ : Option Value → Shared → Prop, (∀ c s', Q (.bool c) s' → QQ (some (.bool c)) s') → wpAny (model prog w) A (call (.builtin "object.__ne__") ([.ref q] ++ [b]) >>= fun v => pure (some v)) QQ E s := fun QQ hQQ => wpAny_bind (wpAny_mono callNe (fun v s' h' => by
      obtain ⟨c, rfl, hc⟩ := h'; exact wpAny_pure (hQQ _ _ hc)) fun _ _ h' => h')
    have fin' := fin (fun r s' => wpAny (model prog w) A (match r with | some .notImplemented | none => pure none | some v => pure (some v)) (fun r s' => ∃ c, r = some (.bool c) ∧ Q (.bool c) s') E s') fun c s' hc => wpAny_pure ⟨c, rfl, hc⟩
    split
    · refine wpAny_bind (wpAny_of_eq (S.bind _) (wpAny_pure ?_)); exact fin'
    · refine wpAny_tryCatch (wpAny_bind (wpAny_of_eq (S.bind _) (wpAny_pure ?_))); exact fin'
  have fin : ∀ (t : Option Value → Sem Value), (∀ c s', Q (.bool c) s' → wpAny (model prog w) A (t (some (.bool c))) Q E s') → wpAny (model prog w) A (tryCompare (.ref q) "__ne__" b >>= t) Q E s := fun t ht =>
    wpAny_bind (wpAny_mono own (fun r s' z => by obtain ⟨c, rfl, hv⟩ := z; exact ht c s' hv) fun _ _ e => e)
  unfold richCompare
  simp only [oneThing_ref]
  refine wpAny_holding (wpAny_bind (wpAny_cRoomFor (Nat.lt_of_succ_lt hu) ?_))
  cases hb with
  | q x =>
    obtain ⟨d', od', I', _⟩ := x.inst
    refine wpAny_bind (I.type.here (wpAny_bind (I'.type.here ?_)))
    rw [if_neg (show ¬ ((Value.ref 88 != Value.ref 88) = true) from by decide)]
    first
      | exact fin _ fun v s' hv => wpAny_pure hv
      | (refine wpAny_bind (wpAny_pure ?_); simp only [Bool.false_eq_true, if_false]; exact fin _ fun v s' hv => wpAny_pure hv)
  | p x =>
    rename_i T
    refine wpAny_bind (I.type.here (wpAny_bind (x.ty.here ?_)))
    rw [if_pos (show (Value.ref 88 != Value.type T) = true from rfl)]
    refine wpAny_bind ((looks_subIn X (Y.sub T x.mem).1).here ?_)
    simp only [Bool.false_eq_true, if_false]
    exact fin _ fun v s' hv => wpAny_pure hv
end

theorem rawB_eq (r r' : Raw) : ∃ c, rawB .Eq r r' = some c := by
  cases r <;> cases r' <;> exact ⟨_, rfl⟩
def rawEq (r r' : Raw) : Bool := (rawB .Eq r r').getD false
theorem rawEq_some (r r' : Raw) : rawB .Eq r r' = some (rawEq r r') := by
  unfold rawEq; obtain ⟨c, e⟩ := rawB_eq r r'; rw [e]; rfl

section
variable {w : World} {K : Frag} {A : Around} {V : View} {R : Heap} {d e : Nat} {a b : Value} {r r' : Raw}
theorem ev_nest_ne (Y : KQ K) (Z : KN K) (G : Gd K R) (rm : Room A (d + e + 3)) (ha : Nest R (d + 1) a r) (hb : Nest R e b r') : Ev prog2 w A V R (richCompare .NotEq a b) (Is (.bool (!rawEq r r'))) := by
  cases ha with
  | wrap hq ha' =>
    rename_i q v
    obtain ⟨u, hh, hu'⟩ := hb.held
    refine Ev.mk fun Q E s hs hv ht hQ => ?_
    have rm1 := rm.in1
    have hu : A.units + 1 < cLine := rm1.u
    refine richNe Y Z (G.sub hs).k hu (hq.sub hs) (hh.sub hs) ?_
    refine cmpFn rfl Y (G.sub hs) (hq.sub hs) ha'.handed (hh.sub hs) hu'.handed rm1.d fun s' k t' _ => ?_
    rw [rich_eq_cmp rfl]
    have hs' := hs.trans (keeps_sub k)
    refine (ev_nest Y (d + e) (V := View.any) (by omega) rfl (G.sub hs') ((rm1.deeper _).le (by omega)) (rm1.deeper _).u (ha'.sub hs') (hu'.sub hs') (rawEq_some r r')).here trivial t' fun x s3 k3 t3 p3 => ?_
    cases p3
    exact ⟨_, rfl, hQ _ _ (keeps_trans k k3) upIs⟩
end
end Mine

/-! D1 -/
namespace Mine

section
variable {prog : Program} {w : World} {A : Around} {V : View} {R : Heap}
theorem ev_at {value slice : Expr} {d : Addr} {vs : List Value} {i : Nat} {t : Tok} {v : Value} (hl : R.IsList d vs.toArray) (hv : vs[i]? = some v) (hz : vs.length < 1000)
    (hs : subscripted slice false (.ref d) (.int i t) = operate [.ref d, .int i t] (getItem (.ref d) (.int i t)) := by rfl) :
    Ev prog w A V R (subscriptTail value slice (.ref d) (.int i t)) (Is v) := ev_item hl (by omega) (by simpa using hv) (by omega) hs
end

/-! ## the asking lambdas -/
def lamPar : Arguments := ⟨[], [], none, [], [], none, []⟩
def freeScope (ns : List PySem.Str) : Scope := { kind := .function, names := ns.map fun n => (n, NameKind.free), isGenerator := false, isCoroutine := false, more := [] }
def lamScope : Scope := freeScope ["i", "j", "row"]
def lamX (op : CmpOp) (p : Nat → Pos) : Expr := .Compare (.Subscript (.Name "row" (p 0)) (.Name "i" (p 1)) (p 2)) [op] [.Subscript (.Name "row" (p 3)) (.Name "j" (p 4)) (p 5)] (p 6)
def lamQ : PySem.Str := PySem.Str.ofString "law.<locals>.<lambda>"
def lamFd (op : CmpOp) (p : Nat → Pos) (ci cj cr : Addr) (pm cv ct : Value) : FuncData := kla_fn "<lambda>" lamQ lamPar (lamX op p) lamScope [("row", cr), ("j", cj), ("i", ci)] pm cv ct
/-- a lambda that asks `row[i] op row[j]` -/
def LamAt (h : Heap) (f : Addr) (op : CmpOp) (ci cj cr : Addr) : Prop := ∃ p pm cv ct, h.get? f = some { cls := .type "function", data := .func (lamFd op p ci cj cr pm cv ct) } ∧ h.CodeRec cv lamQ
theorem LamAt.sub {h h' : Heap} {f : Addr} {op : CmpOp} {ci cj cr : Addr} (x : LamAt h f op ci cj cr) (s : Sub h h') : LamAt h' f op ci cj cr := let ⟨p, pm, cv, ct, a, b⟩ := x; ⟨p, pm, cv, ct, s _ _ a, b.keeps s⟩
theorem LamAt.fn {h : Heap} {f : Addr} {op : CmpOp} {ci cj cr : Addr} (x : LamAt h f op ci cj cr) : FnAt f h := let ⟨p, pm, cv, ct, a, b⟩ := x; ⟨_, _, _, _, a⟩

def askOp : CmpOp → Bool
  | .Eq | .NotEq | .Lt | .LtE | .Gt | .GtE => true
  | _ => false

section
variable {w : World} {A : Around} {K : Frag} {s : Shared} {f ci cj cr dr : Addr} {op : CmpOp} {rows : List Value} {i j : Nat} {ti tj : Tok} {a b : Value} {Q : Value → Shared → Prop} {E : Value → Shared → Prop}

theorem lam_core (ha : askOp op = true) (G : Gd K s.heap) (hf : LamAt s.heap f op ci cj cr) (hci : s.heap.IsCell ci (some (.int i ti))) (hcj : s.heap.IsCell cj (some (.int j tj))) (hcr : s.heap.IsCell cr (some (.ref dr)))
    (hl : s.heap.IsList dr rows.toArray) (hz : rows.length < 1000) (hi : rows[i]? = some a) (hj : rows[j]? = some b) (ht : 0 < s.toks) (hroom : A.depth < recursionLimit)
    (h : ∀ (env : Env) s', env.scope.kind = .function → env.frame = some s.heap.objs.size → Keeps s s' → 0 < s'.toks → (∃ m, s'.heap.Ns s.heap.objs.size m) →
      wpAny (model prog2 w) (A.deeper env) (compareOp op a b) Q (fun e s'' => wpAny (model prog2 w) (A.deeper env) (leaving env e) (fun _ s3 => E e s3) (fun e' s3 => E e' s3) s'') s') :
    wpAny (model prog2 w) A (call (.ref f) []) Q E s := by
  obtain ⟨p, pm, cv, ct, ho, hcd⟩ := hf
  have hb : bindArgs (lamFd op p ci cj cr pm cv ct) ⟨[], []⟩ = pure [] := rfl
  refine wpAny_call (kla_callFunE (fd := lamFd op p ci cj cr pm cv ct) hroom ho rfl rfl rfl rfl hcd ?_)
  rw [hb]
  refine wpAny_pure (wpAny_newFunctionEnv (show ∀ x ∈ lamScope.names, x.2 ≠ NameKind.cell by decide) (by intro x hx; cases hx) (fun h₁ hns hsb => ⟨(G.lim).fresh _ hsb, ?_⟩) rfl)
  have hk₁ : Sub s.heap h₁ := fun b o e => hsb.extBut b o (Nat.ne_of_lt (Heap.lt_size e)) (Heap.get?_push_of_some _ e)
  refine kla_codeExpr ?_
  show wpAny (model prog2 w) (A.deeper (callEnv (lamFd op p ci cj cr pm cv ct) s.heap.objs.size f)) (eval (lamX op p) (callEnv (lamFd op p ci cj cr pm cv ct) s.heap.objs.size f)) _ _ _
  have fin := h (callEnv (lamFd op p ci cj cr pm cv ct) s.heap.objs.size f)
  let V : View := ⟨fun h => h.IsCell ci (some (.int i ti)) ∧ h.IsCell cj (some (.int j tj)) ∧ h.IsCell cr (some (.ref dr)), fun _ _ s h => ⟨cell_sub h.1 s, cell_sub h.2.1 s, cell_sub h.2.2 s⟩⟩
  have hv0 : V.p h₁ := ⟨cell_sub hci hk₁, cell_sub hcj hk₁, cell_sub hcr hk₁⟩
  have hl₁ := isList_sub hl hk₁
  have hm : behindInMarks op (.Subscript (.Name "row" (p 3)) (.Name "j" (p 4)) (p 5)) = false := by cases op <;> rfl
  refine wpAny_Compare1 ?_ hm
  refine (evSub (P := Is a) (evNameF (V := V) (fun h q => q.2.2) rfl rfl rfl) (evNameF (V := V) (fun h q => q.1) rfl rfl rfl) ?_).here hv0 (Nat.add_pos_left ht _) ?_
  · intro x y R2 h2 p1 p2; cases p1; cases p2
    exact ev_at (isList_sub hl₁ h2) hi hz
  intro x s2 k2 t2 p2; cases p2
  refine (evSub (P := Is b) (evNameF (V := V) (fun h q => q.2.2) rfl rfl rfl) (evNameF (V := V) (fun h q => q.2.1) rfl rfl rfl) ?_).here (V.up _ _ (keeps_sub k2) hv0) t2 ?_
  · intro x y R2 h2 p1 p2; cases p1; cases p2
    exact ev_at (isList_sub (isList_sub hl₁ (keeps_sub k2)) h2) hj hz
  intro x s3 k3 t3 p3; cases p3
  exact fin s3 rfl rfl (keeps_trans (keeps_mk hk₁) (keeps_trans k2 k3)) t3 ⟨_, ns_sub hns (keeps_sub (keeps_trans k2 k3))⟩
end
end Mine

/-! D2 -/
namespace Mine
def rowD : Stmt := defIn "_law_row" prog2.main.body
def kindD : Stmt := defIn "_law_kind" prog2.main.body
def toldD : Stmt := defIn "_law_told" prog2.main.body
def lawD : Stmt := defIn "law" prog2.main.body
def pmV : Value := .str "law_dn0281_02" 280
def rowFd : FuncData := fdOf rowD "_law_row" "_law_row" .none pmV (.ref 98)
def kindFd : FuncData := fdOf kindD "_law_kind" "_law_kind" .none pmV (.ref 103)
def toldFd : FuncData := fdOf toldD "_law_told" "_law_told" .none pmV (.ref 110)
structure KT (K : Frag) : Prop where
  rowN : nsIn K mainGlobals "_law_row" = some (some (.ref 99))
  rowK : keepIn K (.ref 99) = true
  rowF : FnK K 99 rowFd
  kindN : nsIn K mainGlobals "_law_kind" = some (some (.ref 104))
  kindK : keepIn K (.ref 104) = true
  kindF : FnK K 104 kindFd
  toldN : nsIn K mainGlobals "_law_told" = some (some (.ref 111))
  toldK : keepIn K (.ref 111) = true
  toldF : FnK K 111 toldFd
end Mine

/-! D3 -/
namespace Mine

def toldEnv (L : Addr) : Env := callEnv toldFd L 111
theorem wpAny_posE {α : Type} {M : Model} {A : Around} {t : Sem α} {Q : α → Shared → Prop} {E : Value → Shared → Prop} {s : Shared} (ht : 0 < s.toks) (h : wpAny M A t (fun a s' => 0 < s'.toks → Q a s') (fun e s' => 0 < s'.toks → E e s') s) : wpAny M A t Q E s :=
  wpAny_mono (wpAny_toks_of (n := 1) ht h) (fun _ _ q => q.2 q.1) fun _ _ q => q.2 q.1

section
variable {prog : Program} {w : World} {A : Around} {K : Frag} {s : Shared} {env : Env} {R : Heap}
theorem lookB {x : PySem.Str} {pos : Pos} {v : Value} {Q : Value → Shared → Prop} {E : Value → Shared → Prop} (G : Gd K R) (hs : Sub R s.heap) (e : nsIn K mainGlobals x = some none) (hv : bootBuiltins x = some v) (hn : x ≠ "__name__") (hg : env.globals = mainGlobals) (hb : env.builtins = builtinsNs)
    (hk : env.scope.kind = .function) (hl : env.kindOf x = some .globalImplicit) (h : Q v s) (hd : (x == ("__debug__" : PySem.Str)) = false := by decide) : wpAny (model prog w) A (eval (.Name x pos) env) Q E s := by
  obtain ⟨mg, hm⟩ := G.g
  obtain ⟨mb, hmb, hbl⟩ := G.b
  exact Calls.Name_function_global hk hl (Calls.loadGlobal_builtin (env := env) (by rw [hg]; exact ns_sub hm hs) (mg_none_of G.k hm e) (by rw [hb]; exact ns_sub hmb hs) ((hbl x hn).trans hv) h) hd
end

section
variable {w : World} {A : Around} {K : Frag} {s : Shared} {f ci cj cr dr : Addr} {op : CmpOp} {rows : List Value} {i j : Nat} {ti tj : Tok} {a b : Value} {Q : Value → Shared → Prop} {E : Value → Shared → Prop}

/-- what a lambda's call finds -/
structure AskS (K : Frag) (h : Heap) (f ci cj cr dr : Addr) (op : CmpOp) (rows : List Value) (i j : Nat) (ti tj : Tok) (a b : Value) : Prop where
  ask : askOp op = true
  lam : LamAt h f op ci cj cr
  ci : h.IsCell ci (some (.int i ti))
  cj : h.IsCell cj (some (.int j tj))
  cr : h.IsCell cr (some (.ref dr))
  list : h.IsList dr rows.toArray
  few : rows.length < 1000
  a : rows[i]? = some a
  b : rows[j]? = some b
theorem AskS.sub {h h' : Heap} (x : AskS K h f ci cj cr dr op rows i j ti tj a b) (s : Sub h h') : AskS K h' f ci cj cr dr op rows i j ti tj a b :=
  { x with lam := x.lam.sub s, ci := cell_sub x.ci s, cj := cell_sub x.cj s, cr := cell_sub x.cr s, list := isList_sub x.list s }

theorem boot_TypeError : bootBuiltins "TypeError" = some (.type "TypeError") := by decide +kernel
theorem boot_bool : bootBuiltins "bool" = some (.type "bool") := by decide +kernel

theorem told_ok {c : Bool} {n : Nat} (Y : KQ K) (T : KT K) (G : Gd K s.heap) (H : AskS K s.heap f ci cj cr dr op rows i j ti tj a b) (ht : 0 < s.toks) (rm : Room A (n + 2))
    (hcmp : ∀ (A' : Around) (R' : Heap), Room A' n → Sub s.heap R' → Ev prog2 w A' View.any R' (compareOp op a b) (Is (.bool c))) (hQ : ∀ s', Keeps s s' → 0 < s'.toks → Q (.bool c) s') :
    wpAny (model prog2 w) A (call (.ref 111) [.ref f]) Q E s := by
  obtain ⟨⟨oc, od, sl, e3⟩, e4⟩ := T.toldF
  refine wpAny_call (codeAny_call_def (binds := [("ask", .ref f)]) (rm.le (j := 1) (by omega)).d (G.k _ _ e3) rfl G.lim (codeRec_of G.k e4) rfl (BindsTo.of_eq rfl) (by decide) (locs rfl) ?_)
  intro h₀ hns hk
  have G' : Gd K h₀ := G.sub hk
  have H' := H.sub (h' := h₀) hk
  have rm2 : Room (A.deeper (toldEnv s.heap.objs.size)) (n + 1) := rm.deeper _
  show wpAny (model prog2 w) (A.deeper (toldEnv s.heap.objs.size)) (execs (bodyOf toldD) (toldEnv s.heap.objs.size)) _ _ _
  refine wpAny_execs_cons (wpAny_Try_except (wpAny_execs_cons (wpAny_Assign_Name (wpAny_Call_NameR ?_) rfl)))
  refine wpAny_Name (wpAny_loadName_local rfl rfl hns rfl ?_) (by decide)
  refine callWith_F0 H'.lam.fn ?_
  refine lam_core H'.ask G' H'.lam H'.ci H'.cj H'.cr H'.list H'.few H'.a H'.b (Nat.succ_pos _) rm2.d fun env s1 hke hfr k1 t1 hm => ?_
  refine (hcmp _ s1.heap (rm2.deeper env) (Sub.trans hk (keeps_sub k1))).here trivial t1 fun x s2 k2 t2 p2 => ?_
  cases p2
  have k12 := keeps_trans k1 k2
  refine wpAny_storeName_local rfl (ns_sub hns (keeps_sub k12)) (fun h3 hn3 hs3 => ?_) rfl
  refine wpAny_execs_nil (wpAny_execs_nil ?_)
  have hL : ∀ b : Nat, b < s.heap.objs.size → b ≠ (toldEnv s.heap.objs.size).locals := fun b hb => Nat.ne_of_lt hb
  have k3 : Sub s.heap h3 := fun b o e => hs3.extBut b o (hL b (Heap.lt_size e)) (keeps_sub k12 _ _ (hk _ _ e))
  have G3 : Gd K h3 := G.sub k3
  have kk : Keeps s { s2 with heap := h3, toks := s2.toks + 1 } := by
    obtain ⟨h2, tk2, rfl, _⟩ := k12
    exact keeps_mk k3
  refine wpAny_execs_cons (wpAny_Return_some ?_)
  refine (evIfExp (b := true) (P := Is (.bool c)) (evTestV (b := true) (evCallB (evNameB G3 (Y.nB "isinstance" (by simp)) boot_isinstance (by decide) rfl rfl rfl rfl) (evA2 (evNameL View.nsH rfl rfl rfl) (evNameB G3 (Y.nB "bool" (by simp)) boot_bool (by decide) rfl rfl rfl rfl)) ?_)) ?_ ?_).here hn3 (Nat.succ_pos _) ?_
  · intro vs R1 hR1 p; cases p
    exact Ev.mk fun Q E s hs _ _ hQ => kia_one (K := K) kitx_bool ((G3.sub hR1).k.keeps hs) trivial (by kernel_rfl) (by intro e; cases e) fun tk => hQ _ _ keeps_tok upIs
  · intro _; exact evNameL View.nsH rfl rfl rfl
  · intro q; cases q
  · intro x s4 k4 t4 p4; cases p4
    exact hQ _ (keeps_trans kk k4) t4

/-- refused: the TypeError is caught, its name given back -/
theorem told_no {n : Nat} {base : Heap} {l : List Env} {d e : Nat} {r r' : Raw} (Y : KQ K) (T : KT K) (Gb : Gd K base) (H : AskS K s.heap f ci cj cr dr op rows i j ti tj a b) (ht : 0 < s.toks) (rm : Room A (n + 2)) (hn : d + e ≤ n) (h0 : 0 < d + e) (ho : isOrd op = true)
    (hA : A.frames = some l) (hst : base.StaysIn s.heap) (hff : s.heap.FunFrames base l) (ha : Nest s.heap d a r) (hb : Nest s.heap e b r') (hc : rawB op r r' = none)
    (hQ : ∀ s' t, base.StaysIn s'.heap → s.heap.UpToSlots s'.heap → (∃ h tk, s' = { s with heap := h, toks := tk }) → 0 < s'.toks → 0 < t → Q (.str "TypeError" t) s') :
    wpAny (model prog2 w) A (call (.ref 111) [.ref f]) Q E s := by
  have G : Gd K s.heap := Gb.sub hst
  obtain ⟨⟨oc, od, sl, e3⟩, e4⟩ := T.toldF
  refine wpAny_call (codeAny_call_def (binds := [("ask", .ref f)]) (rm.le (j := 1) (by omega)).d (G.k _ _ e3) rfl G.lim (codeRec_of G.k e4) rfl (BindsTo.of_eq rfl) (by decide) (locs rfl) ?_)
  intro h₀ hns hk
  have G' : Gd K h₀ := G.sub hk
  have H' := H.sub (h' := h₀) hk
  have rm2 : Room (A.deeper (toldEnv s.heap.objs.size)) (n + 1) := rm.deeper _
  have hA2 : (A.deeper (toldEnv s.heap.objs.size)).frames = some (toldEnv s.heap.objs.size :: l) := Around.frames_deeper hA
  have hst0 : base.StaysIn h₀ := fun b o q => hk _ _ (hst b o q)
  have hff0 : h₀.FunFrames base (toldEnv s.heap.objs.size :: l) := Heap.FunFrames.cons (L := s.heap.objs.size) (by intro q; cases q) rfl hns hst.fresh (funFrames_keeps hk hff)
  show wpAny (model prog2 w) (A.deeper (toldEnv s.heap.objs.size)) (execs (bodyOf toldD) (toldEnv s.heap.objs.size)) _ _ _
  refine wpAny_execs_cons (wpAny_Try_except (wpAny_posE (Nat.succ_pos _) (wpAny_execs_cons (wpAny_Assign_Name (wpAny_Call_NameR ?_) rfl))))
  refine wpAny_Name (wpAny_loadName_local rfl rfl hns rfl ?_) (by decide)
  refine callWith_F0 H'.lam.fn ?_
  refine lam_core H'.ask G' H'.lam H'.ci H'.cj H'.cr H'.list H'.few H'.a H'.b (Nat.succ_pos _) rm2.d fun env s1 hke hfr k1 t1 ⟨m1, hm1⟩ => ?_
  have hs1 := keeps_sub k1
  have hsk : Sub s.heap s1.heap := Sub.trans hk hs1
  rw [rich_eq_cmp ho]
  have hA3 : ((A.deeper (toldEnv s.heap.objs.size)).deeper env).frames = some (env :: toldEnv s.heap.objs.size :: l) := Around.frames_deeper hA2
  have hff1 : s1.heap.FunFrames base (env :: toldEnv s.heap.objs.size :: l) := Heap.FunFrames.cons (by rw [hke]; intro q; cases q) hfr hm1 hst0.fresh (funFrames_keeps hs1 hff0)
  refine raise_nest Y n hn h0 ho (G.sub hsk) (rm2.deeper env) (rm2.deeper env).u hA3 (fun b o q => hsk _ _ (hst b o q)) hff1 (ha.sub hsk) (hb.sub hsk) hc t1 fun x s2 fl => ?_
  refine leave_next hA3 hfr fl fun s3 fl3 => ?_
  intro t3
  -- the handler
  obtain ⟨x, a0, rfl, fl4, up4, hp4, tk4, rfl⟩ := fl3
  refine wpAny_looks_onW hA2 rfl fl4 fun h5 hheld5 up5 => ?_
  refine wpAny_landsW hheld5 fun h6 fl6 up6 => ?_
  obtain ⟨ob, hob, hobc⟩ := fl6.there
  refine wpAny_handleBy_builtin (X := "TypeError") (T := "TypeError") (b := true) PySem.F.isExc_TypeError PySem.F.notTuple_TypeError (by rw [isSubtype_type]; kernel_rfl) ?_
  refine lookB (R := base) Gb fl6.1 (Y.nB "TypeError" (by simp)) boot_TypeError (by decide) rfl rfl rfl rfl ⟨rfl, ⟨ob, hob, hobc⟩, ?_⟩
  rw [if_pos rfl]
  refine lands_againW fl6 fun h7 fl7 up7 => ?_
  refine wpAny_execs_cons (wpAny_Return_some (wpAny_Constant_str ?_))
  obtain ⟨h1, tk1, rfl, _⟩ := k1
  exact hQ _ _ fl7.1 ((Heap.UpToSlots.of_keeps hsk).trans (up4.trans (up5.trans (up6.trans up7)))) ⟨_, _, rfl⟩ (Nat.succ_pos _) t3
end
end Mine

/-! D4 -/
namespace Mine

section
variable {prog : Program} {w : World} {A : Around} {s₁ s s' : Shared} {B R : Heap} {env : Env} {off wf : List Addr} {W W' : View} {m cm : MS}

/-- one watched object is changed, others are made -/
theorem FS.grow1 {a : Addr} {h2 : Heap} {tk : Nat} (f : FS s₁ B env off wf W R m cm s) (hx : Heap.ExtBut a s.heap h2) (ha : a ∈ off) (haF : ¬ Frame env a) (hal : (h2.get? a).isSome = true) (ht : 0 < tk) (ho : Only W' wf) (hw : W'.p h2) :
    FS s₁ B env off wf W' (fr R s { s with heap := h2, toks := tk }) m cm { s with heap := h2, toks := tk } :=
  have live : ∀ b, (s.heap.get? b).isSome = true → (h2.get? b).isSome = true := fun b e => by
    by_cases q : b = a
    · rw [q]; exact hal
    · obtain ⟨o, ho⟩ := Option.isSome_iff_exists.mp e; rw [hx b o q ho]; rfl
  { keep := by
      obtain ⟨h, t, rfl, e⟩ := f.keep
      exact ⟨h2, tk, rfl, fun b o q => hx b o (fun z => by rw [z, (f.offW a ha).2.1] at q; cases q) (e b o q)⟩
    tok := ht
    sub := fr_sub
    base := fun b o e => by
      rcases (fr_get.mp e).2 with q | q
      · obtain ⟨o', ho'⟩ := Option.isSome_iff_exists.mp q
        exact f.base b o' ho'
      · refine .inr ?_
        cases z : s₁.heap.get? b with
        | none => rfl
        | some o' => rw [keeps_sub f.keep _ _ z] at q; cases q
    ap := f.ap
    fns := Heap.Ns.at' f.fns fun o q => hx _ o (fun z => haF (z ▸ .inl rfl)) q
    cells := fun x c e => cell_at (f.cells x c e) fun o q => hx _ o (fun z => haF (z ▸ .inr ⟨x, e⟩)) q
    offF := fun b h => ⟨off_fr' (f.offF b h).1 (f.liveF h), (f.offF b h).2⟩
    offW := fun b h => ⟨off_fr' (f.offW b h).1 (f.offW b h).2.2, (f.offW b h).2.1, live b (f.offW b h).2.2⟩
    liveW := fun b h => live b (f.liveW b h)
    only := ho
    view := hw }

/-- the frame's own slots may turn -/
theorem FS.slots (f : FS s₁ B env off wf W R m cm s) (hb : ∀ b o, b ≠ env.locals → s.heap.get? b = some o → s'.heap.get? b = some o) (hu : s.heap.UpToSlots s'.heap) (he : ∃ h tk, s' = { s with heap := h, toks := tk }) (ht : 0 < s'.toks) : FS s₁ B env off wf W R m cm s' := by
  obtain ⟨h2, tk, rfl⟩ := he
  have hns : h2.Ns env.locals m := hu.ns f.fns
  have hL := f.offF env.locals (.inl rfl)
  have live : ∀ b, (s.heap.get? b).isSome = true → (h2.get? b).isSome = true := fun b e => by
    by_cases q : b = env.locals
    · rw [q]; exact ns_live hns
    · obtain ⟨o, ho⟩ := Option.isSome_iff_exists.mp e; rw [hb b o q ho]; rfl
  exact
    { keep := by
        obtain ⟨h, t, rfl, e⟩ := f.keep
        exact ⟨h2, tk, rfl, fun b o q => hb b o (fun z => by rw [z, hL.2.1] at q; cases q) (e b o q)⟩
      tok := ht
      sub := fun b o q => hb b o (fun z => by rw [z, hL.1] at q; cases q) (f.sub b o q)
      base := f.base
      ap := f.ap
      fns := hns
      cells := fun x c e => cell_at (f.cells x c e) fun o q => hb _ o (f.ap.loc x c e) q
      offF := f.offF
      offW := fun b h => ⟨(f.offW b h).1, (f.offW b h).2.1, live b (f.offW b h).2.2⟩
      liveW := fun b h => live b (f.liveW b h)
      only := f.only
      view := f.only _ _ (fun a ha o q => hb a o (fun z => hL.2.2 (z ▸ ha)) q) f.view }
end

/-! ## the table of the law's lambdas -/
def tabV (ps : Array Value) : View := ⟨fun h => h.get? 113 = some (tabObj ps), fun _ _ s h => s _ _ h⟩
def TabR (R : Heap) (ps : Array Value) : Prop := TriplesOk ps.toList ∧ ∀ pos c, codeAmong pos ps.toList = some c → R.CodeRec c lamQ
theorem TabR.sub {R R' : Heap} {ps : Array Value} (x : TabR R ps) (s : Sub R R') : TabR R' ps := ⟨x.1, fun pos c e => (x.2 pos c e).keeps s⟩
theorem triples_app : ∀ (l : List Value) {a b : Int} {t u : Tok} {c : Value}, TriplesOk l → TriplesOk (l ++ [.int a t, .int b u, c])
  | [], _, _, _, _, _, _ => trivial
  | .int _ _ :: .int _ _ :: _ :: r, _, _, _, _, _, h => triples_app r h
theorem among_app {pos : Pos} {a b : Int} {t u : Tok} {c v : Value} : ∀ (l : List Value), TriplesOk l → codeAmong pos (l ++ [.int a t, .int b u, c]) = some v → codeAmong pos l = some v ∨ v = c
  | [], _, h => by
    simp only [List.nil_append, codeAmong] at h
    split at h
    · cases h; exact .inr rfl
    · cases h
  | .int _ _ :: .int _ _ :: _ :: r, ht, h => by
    simp only [List.cons_append, codeAmong] at h ⊢
    split at h
    · rename_i q; rw [if_pos q]; exact .inl h
    · rename_i q; rw [if_neg q]; exact among_app r ht h
theorem TabR.more {R : Heap} {ps : Array Value} {pos : Pos} {c : Addr} (x : TabR R ps) (hc : R.CodeRec (.ref c) lamQ) : TabR R (ps ++ #[rawInt pos.line, rawInt pos.col, .ref c]) := by
  have e : (ps ++ #[rawInt pos.line, rawInt pos.col, .ref c]).toList = ps.toList ++ [rawInt pos.line, rawInt pos.col, .ref c] := by simp
  refine ⟨by rw [e]; exact triples_app _ x.1, fun p v h => ?_⟩
  rw [e] at h
  rcases among_app ps.toList x.1 h with q | rfl
  · exact x.2 _ _ q
  · exact hc

def lawEnv (L fa : Addr) (cd : Value) : Env := envOfC "law" (scopeOf lawD) L fa cd
theorem law_cells (L fa : Addr) (cd : Value) : (lawEnv L fa cd).cells = [(PySem.Str.ofString "row", L + 1 + 1 + 1 + 1), (PySem.Str.ofString "j", L + 1 + 1 + 1), (PySem.Str.ofString "i", L + 1 + 1), (PySem.Str.ofString "chain", L + 1)] := by rfl
theorem law_clos (L fa : Addr) (cd : Value) : closureFor lamScope (lawEnv L fa cd) = pure [(PySem.Str.ofString "row", L + 1 + 1 + 1 + 1), (PySem.Str.ofString "j", L + 1 + 1 + 1), (PySem.Str.ofString "i", L + 1 + 1)] := by rfl

/-- what stands around the law's lambdas -/
structure LamG (K : Frag) (R : Heap) : Prop where
  G : Gd K R
  C : CodeHd R 115 113
  b : ∃ mg, R.Ns mainGlobals mg ∧ R.BuiltinsAt mg 113
theorem LamG.sub {K : Frag} {R R' : Heap} (x : LamG K R) (s : Sub R R') : LamG K R' := ⟨x.G.sub s, x.C.keeps s, let ⟨mg, a, b⟩ := x.b; ⟨mg, ns_sub a s, b.keeps s⟩⟩

/-- a view of the table, and of what else is watched -/
structure TabW (WV : Array Value → View) (off wf : List Addr) : Prop where
  off : 113 ∈ off
  get : ∀ ps h, (WV ps).p h → h.get? 113 = some (tabObj ps)
  set : ∀ ps ps' h h', (WV ps).p h → (∀ a ∈ wf, a ≠ 113 → ∀ o, h.get? a = some o → h'.get? a = some o) → h'.get? 113 = some (tabObj ps') → (WV ps').p h'
  only : ∀ ps, Only (WV ps) wf

section
variable {w : World} {A : Around} {K : Frag} {s₁ s : Shared} {B R : Heap} {L fa : Addr} {off wf : List Addr} {WV : Array Value → View} {m cm : MS} {ps : Array Value} {op : CmpOp} {p : Nat → Pos} {pos : Pos}

theorem FS.lam {Q : Value → Shared → Prop} {E : Value → Shared → Prop} (f : FS s₁ B (lawEnv L fa (.ref 115)) off wf (WV ps) R m cm s) (H : LamG K R) (TW : TabW WV off wf) (hF : ¬ Frame (lawEnv L fa (.ref 115)) 113) (TR : TabR R ps)
    (h : ∀ fl s' R' ps', FS s₁ B (lawEnv L fa (.ref 115)) off wf (WV ps') R' m cm s' → Sub R R' → TabR R' ps' → LamAt R' fl op (L + 1 + 1) (L + 1 + 1 + 1) (L + 1 + 1 + 1 + 1) → Q (.ref fl) s') :
    wpAny (model prog2 w) A (eval (.Lambda lamPar (lamX op p) lamScope pos) (lawEnv L fa (.ref 115))) Q E s := by
  obtain ⟨mg, hg, hb⟩ := H.b
  have hgs := ns_sub hg f.sub
  have hP := TW.get _ _ f.view
  have hgP : mainGlobals ≠ 113 := by decide
  refine wpAny_pos f.tok (kla_eval rfl ?_)
  cases hc : codeAmong pos ps.toList with
  | none =>
    refine kla_makeFunction (law_clos L fa (.ref 115)) rfl hgs rfl (H.C.keeps f.sub) hP TR.1 hc hgP (hb.keeps f.sub) fun c' ctv h' tk hx hge hlt hrec htb ht => ?_
    have hx2 : ∀ o : Obj, Heap.ExtBut 113 s.heap (h'.push o) := fun o b o' hb e => Heap.get?_push_of_some _ (hx b o' hb e)
    have qe : (lawEnv L fa (.ref 115)).qual ++ PySem.Str.ofString "<lambda>" = lamQ := by first | rfl | kernel_rfl
    rw [qe] at hrec
    rw [qe]
    let ob : Obj := kla_obj "<lambda>" lamQ lamPar (lamX op p) lamScope [("row", L + 1 + 1 + 1 + 1), ("j", L + 1 + 1 + 1), ("i", L + 1 + 1)] ((mg "__name__").getD .none) c' ctv
    have f2 := f.grow1 (W' := WV (ps ++ #[rawInt pos.line, rawInt pos.col, .ref c'])) (tk := tk) (hx2 ob) TW.off hF (by rw [Heap.get?_push_of_some _ htb]; rfl) ht (TW.only _)
      (TW.set ps _ s.heap _ f.view (fun a ha hne o e => hx2 ob a o hne e) (Heap.get?_push_of_some _ htb))
    have hrec' : (fr R s { s with heap := h'.push ob, toks := tk }).CodeRec (.ref c') lamQ := by
      obtain ⟨c, o, vs, t, e1, e2, e3, e4⟩ := hrec
      cases e1
      exact ⟨c', o, vs, t, rfl, fr_get.mpr ⟨Heap.get?_push_of_some _ e2, .inr (fresh_none _ hge)⟩, e3, e4⟩
    have hsz : s.heap.objs.size ≤ h'.objs.size := Nat.le_trans hge (Nat.le_of_lt hlt)
    have subR : Sub R (fr R s { s with heap := h'.push ob, toks := tk }) := fun b o e =>
      fr_get.mpr ⟨hx2 _ b o (fun z => by rw [z, (f.offW 113 TW.off).1] at e; cases e) (f.sub _ _ e), .inl (by rw [e]; rfl)⟩
    refine h _ _ _ _ f2 subR ((TR.sub subR).more hrec') ⟨p, _, .ref c', ctv, fr_get.mpr ⟨Heap.get?_push_size _ rfl, .inr (fresh_none _ hsz)⟩, hrec'⟩
  | some cv =>
    refine kla_makeFunctionHit (law_clos L fa (.ref 115)) rfl hgs rfl (H.C.keeps f.sub) hP TR.1 hc (hb.keeps f.sub) fun ctv h' tk hk hsz ht => ?_
    have qe : (lawEnv L fa (.ref 115)).qual ++ PySem.Str.ofString "<lambda>" = lamQ := by first | rfl | kernel_rfl
    rw [qe]
    have k : Keeps s { s with heap := h'.push { cls := .type "function", data := .func (kla_fn "<lambda>" lamQ lamPar (lamX op p) lamScope [("row", L + 1 + 1 + 1 + 1), ("j", L + 1 + 1 + 1), ("i", L + 1 + 1)] ((mg "__name__").getD .none) cv ctv) }, toks := tk } := keeps_mk fun b o e => Heap.get?_push_of_some _ (hk b o e)
    have f2 := f.step k ht
    have subR := sub_fr f.sub k
    exact h _ _ _ _ f2 subR (TR.sub subR) ⟨p, _, cv, ctv, fr_get.mpr ⟨Heap.get?_push_size _ rfl, .inr (fresh_none _ hsz)⟩, (TR.2 _ _ hc).keeps subR⟩
end
end Mine

/-! D5 -/
namespace Mine

def askB (op : CmpOp) (r r' : Raw) : Option Bool := match op with | .NotEq => some (!rawEq r r') | o => rawB o r r'
def IsTold (o : Option Bool) (v : Value) : Prop := match o with | some c => v = .bool c | none => ∃ t, v = .str "TypeError" t ∧ 0 < t
def pf (a0 a1 a2 a3 a4 a5 a6 : Pos) : Nat → Pos
  | 0 => a0 | 1 => a1 | 2 => a2 | 3 => a3 | 4 => a4 | 5 => a5 | _ => a6

/-- the pair that is asked about -/
structure Pair2 (R : Heap) (cm : MS) (dr : Addr) (rows : List Value) (i j : Nat) (a b : Value) (d e : Nat) (r r' : Raw) : Prop where
  ci : ∃ t, cm "i" = some (.int i t)
  cj : ∃ t, cm "j" = some (.int j t)
  cr : cm "row" = some (.ref dr)
  list : R.IsList dr rows.toArray
  few : rows.length < 1000
  ga : rows[i]? = some a
  gb : rows[j]? = some b
  na : Nest R (d + 1) a r
  nb : Nest R e b r'
  d6 : d ≤ 6
  e6 : e ≤ 6
theorem Pair2.sub {R R' : Heap} {cm : MS} {dr : Addr} {rows : List Value} {i j : Nat} {a b : Value} {d e : Nat} {r r' : Raw} (x : Pair2 R cm dr rows i j a b d e r r') (s : Sub R R') : Pair2 R' cm dr rows i j a b d e r r' :=
  { x with list := isList_sub x.list s, na := x.na.sub s, nb := x.nb.sub s }

section
variable {w : World} {A : Around} {K : Frag} {s₁ s : Shared} {B R : Heap} {L fa : Addr} {off wf : List Addr} {WV : Array Value → View} {m cm : MS} {ps : Array Value} {op : CmpOp}
  {dr : Addr} {rows : List Value} {i j : Nat} {a b : Value} {d e : Nat} {r r' : Raw}

theorem only_base {h : Heap} {L : Addr} : ∀ b o, (only h fun b => b != L).get? b = some o ↔ h.get? b = some o ∧ b ≠ L := fun b o => by
  rw [only_get]
  by_cases q : b = L
  · subst q; simp
  · have : (b != L) = true := by simpa using q
    rw [if_pos this]; exact ⟨fun z => ⟨z, q⟩, fun z => z.1⟩

theorem told_call {Q : Value → Shared → Prop} {E : Value → Shared → Prop} {W : View} {fl : Addr} (Y : KQ K) (Z : KN K) (T : KT K) (f : FS s₁ B (lawEnv L fa (.ref 115)) off wf W R m cm s) (G : Gd K R) (rm : Room A 20) (hA : A.frames = some [lawEnv L fa (.ref 115)])
    (hop : askOp op = true) (P : Pair2 R cm dr rows i j a b d e r r') (hl : LamAt R fl op (L + 1 + 1) (L + 1 + 1 + 1) (L + 1 + 1 + 1 + 1))
    (h : ∀ v s' R', FS s₁ B (lawEnv L fa (.ref 115)) off wf W R' m cm s' → Sub R R' → IsTold (askB op r r') v → Q v s') :
    wpAny (model prog2 w) A (call (.ref 111) [.ref fl]) Q E s := by
  obtain ⟨ti, hci⟩ := P.ci
  obtain ⟨tj, hcj⟩ := P.cj
  have c1 := f.cells "i" (L + 1 + 1) rfl
  have c2 := f.cells "j" (L + 1 + 1 + 1) rfl
  have c3 := f.cells "row" (L + 1 + 1 + 1 + 1) rfl
  rw [hci] at c1; rw [hcj] at c2; rw [P.cr] at c3
  have H : AskS K s.heap fl (L + 1 + 1) (L + 1 + 1 + 1) (L + 1 + 1 + 1 + 1) dr op rows i j ti tj a b :=
    { ask := hop, lam := hl.sub f.sub, ci := c1, cj := c2, cr := c3, list := isList_sub P.list f.sub, few := P.few, a := P.ga, b := P.gb }
  have na := P.na.sub f.sub
  have nb := P.nb.sub f.sub
  have Gs := G.sub f.sub
  have d6 := P.d6
  have e6 := P.e6
  cases hc : askB op r r' with
  | some c =>
    refine told_ok (c := c) (n := 18) Y T Gs H f.tok rm ?_ fun s' k t => h _ s' _ (f.step k t) (sub_fr f.sub k) (by rw [hc]; rfl)
    intro A' R' rm' hR
    cases hop' : op with
    | NotEq =>
      rw [hop'] at hc
      cases hc
      show Ev prog2 w A' View.any R' (richCompare .NotEq a b) _
      exact ev_nest_ne (d := d) (e := e) Y Z (Gs.sub hR) (rm'.le (by omega)) (na.sub hR) (nb.sub hR)
    | _ =>
      rw [hop'] at hc hop
      first
        | (cases hop; done)
        | exact ev_nest (d := d + 1) (e := e) Y 18 (by omega) rfl (Gs.sub hR) rm' rm'.u (na.sub hR) (nb.sub hR) hc
  | none =>
    have ho : isOrd op = true := by cases op <;> first | rfl | (cases hop; done) | (cases hc; done)
    have hc' : rawB op r r' = none := by cases op <;> first | exact hc | (cases ho; done)
    have hst : (only s.heap fun b => b != L).StaysIn s.heap := fun b o q => ((only_base b o).mp q).1
    have Gb : Gd K (only s.heap fun b => b != L) := by
      refine G.sub fun b o q => (only_base b o).mpr ⟨f.sub _ _ q, fun z => ?_⟩
      have := (f.offF L (.inl rfl)).1
      rw [← z, q] at this; cases this
    have hff : s.heap.FunFrames (only s.heap fun b => b != L) [lawEnv L fa (.ref 115)] :=
      Heap.FunFrames.cons (L := L) (by intro q; cases q) rfl f.fns (by
        cases q : (only s.heap fun b => b != L).get? L with
        | none => rfl
        | some o => exact absurd rfl ((only_base L o).mp q).2) trivial
    refine told_no (n := 18) (d := d + 1) (e := e) Y T Gb H f.tok rm (by omega) (by omega) ho hA hst hff na nb hc' fun s' t h1 h2 h3 h4 h5 => ?_
    exact h _ s' R (f.slots (fun b o hb q => h1 b o ((only_base b o).mpr ⟨q, hb⟩)) h2 h3 h4) (Sub.refl _) (by rw [hc]; exact ⟨t, rfl, h5⟩)

/-- `_law_told(lambda: row[i] op row[j])` -/
theorem told_one {Q : Value → Shared → Prop} {E : Value → Shared → Prop} {xp a0 a1 a2 a3 a4 a5 a6 lp cp : Pos} (Y : KQ K) (Z : KN K) (T : KT K) (f : FS s₁ B (lawEnv L fa (.ref 115)) off wf (WV ps) R m cm s) (H : LamG K R) (TW : TabW WV off wf) (hF : ¬ Frame (lawEnv L fa (.ref 115)) 113) (TR : TabR R ps)
    (rm : Room A 20) (hA : A.frames = some [lawEnv L fa (.ref 115)]) (hop : askOp op = true) (P : Pair2 R cm dr rows i j a b d e r r')
    (h : ∀ v s' R' ps', FS s₁ B (lawEnv L fa (.ref 115)) off wf (WV ps') R' m cm s' → Sub R R' → TabR R' ps' → IsTold (askB op r r') v → Q v s') :
    wpAny (model prog2 w) A (eval (.Call (.Name "_law_told" xp) [.Lambda lamPar (.Compare (.Subscript (.Name "row" a0) (.Name "i" a1) a2) [op] [.Subscript (.Name "row" a3) (.Name "j" a4) a5] a6) lamScope lp] [] cp) (lawEnv L fa (.ref 115))) Q E s := by
  refine wpAny_Call_NameR (f.ev (evNameG H.G T.toldN rfl rfl rfl) fun v s2 R2 f2 hR2 p => ?_)
  cases p
  refine callWith_K (H.G.sub (hR2.trans f2.sub)).k T.toldK (wpAny_items_cons ?_ rfl) rfl rfl
  refine (f2.lam (op := op) (p := pf a0 a1 a2 a3 a4 a5 a6) (H.sub hR2) TW hF (TR.sub hR2) fun fl s3 R3 ps3 f3 hR3 TR3 hl => ?_ : wpAny _ _ (eval (.Lambda lamPar (lamX op (pf a0 a1 a2 a3 a4 a5 a6)) lamScope lp) _) _ _ _)
  have hR := hR2.trans hR3
  refine wpAny_items_nil ⟨(H.G.sub (hR.trans f3.sub)).k, ?_⟩
  exact told_call Y Z T f3 (H.G.sub hR) rm hA hop (P.sub hR) hl fun v s4 R4 f4 hR4 hv => h v s4 R4 ps3 f4 (hR.trans hR4) (TR3.sub hR4) hv
end
end Mine

/-! E0 -/
namespace Mine

section
variable {prog : Program} {w : World} {A : Around} {E : Value → Shared → Prop} {s : Shared} {b : Array UInt8} {t : Tok}

theorem slot_bytes_len : Slot "bytes" "__len__" "bytes.__len__" :=
  .of (owner := "bytes") (n := "__len__") (by rw [typeLookup_type, builtinLookup_eq_fast]; kernel_rfl) (by decide +kernel) (by decide +kernel) (by decide +kernel)
    (by first | exact .inl (by decide +kernel) | exact .inr (by decide +kernel)) (by rw [isSubtype_type]; kernel_rfl)
theorem hint_bytes {Q : Bool → Shared → Prop} (hlen : b.size ≤ 1000) (h : ∀ c tk, Q c { s with toks := tk }) : wpAny (model prog w) A (Builtin.List.listLengthHint (.bytes b t)) Q E s := by
  have hT : s.TypeIs (.bytes b t) "bytes" := rfl
  unfold Builtin.List.listLengthHint
  refine wpAny_bind (wpAny_specialOf hT slot_bytes_len.lookup ?_)
  generalize hid : ("bytes.__len__" : String) = id0
  wp_delta
  rw [show splitId id0 = some ("bytes", "__len__") from by subst hid; decide +kernel]
  subst hid
  refine wpAny_bind (wpAny_isInstance (T := "bytes") (b := true) hT (by rw [isSubtype_type]; kernel_rfl) ?_)
  refine wpAny_ite_split (fun hab => absurd hab (by decide)) (fun _ => ?_)
  refine wpAny_ite_split (fun _ => ?_) (fun hab => absurd (by decide +kernel) hab)
  exact wpAny_bind (wpAny_typeOf hT (wpAny_pure (h _ s.toks)))

theorem extend_bytes {R : Result → Shared → Prop} (hh : A.handled = none) (hlen : b.size ≤ 1000) (S : Addr) (res : Value) (c₀ : Nat) (hS : s.heap.get? S = some { cls := .type "list", data := .seq #[] c₀ })
    (hR : ∀ h' tk acc' c', (∀ b o, b ≠ S → s.heap.get? b = some o → h'.get? b = some o) → h'.get? S = some { cls := .type "list", dict := none, data := .seq acc' c', slots := #[] } →
      ItemsOf (fun i v => ∃ c u, b[i]? = some c ∧ v = .int (c.toNat : Int) u) acc' b.size → R (.ok (.ret res)) { s with heap := h', toks := tk }) :
    wpAny (model prog w) A.in1 (Builtin.List.listExtendWith (.ref S) (.bytes b t) res)
      (fun fin s' => match fin with | .done f => R (.ok f) s' | .again c' => c'.quiet = true ∧ codeAny (model prog w) A c' R s') (fun e s' => R (.error e) s') s := by
  have hT : s.TypeIs (.bytes b t) "bytes" := rfl
  have hSlt : S < s.heap.objs.size := Heap.lt_size hS
  have hSI : S ≠ s.heap.objs.size := Nat.ne_of_lt hSlt
  have hSf : S ∉ [s.heap.objs.size] := fun hm => hSI (List.mem_singleton.mp hm)
  have W := (KBw.walks (prog := prog) (w := w) (A := A.in1) hh s.heap.objs.size b t).toS
  have key : ∀ (h : Heap) (c₁ tk : Nat), KBw.IsBytesIter h s.heap.objs.size b t 0 → (∀ b o, b ≠ S → s.heap.get? b = some o → h.get? b = some o) →
      h.get? S = some { cls := .type "list", data := .seq #[] c₁ } → codeAny (model prog w) A (.builtin "list.extend.loop" ⟨[.ref S, .ref s.heap.objs.size, res], []⟩) R { s with heap := h, toks := tk } := by
    intro h c₁ tk hit hk hS₁
    refine codeAny_extend_loopS W (by rw [sizeLine_eq]; omega) S hSf res b.size 0 _ #[] c₁ rfl (Nat.zero_le _) hit hS₁ (ItemsOf.nil _) fun s' acc' c' hm hS' hacc => ?_
    rw [Moved.eq_with hm]
    refine hR s'.heap s'.toks acc' c' (fun b o hb e => hm.heap b o (fun hmem => ?_) (hk b o hb e)) hS' hacc
    rcases List.mem_cons.mp hmem with e' | hmem
    · exact hb e'
    · exact absurd (Heap.lt_size e) (by rw [List.mem_singleton.mp hmem]; exact Nat.lt_irrefl _)
  unfold Builtin.List.listExtendWith
  refine wpAny_bind (wpAny_typeOf hT ?_)
  have h1 : Builtin.List.listSameRef (.ref S) (.bytes b t) = false := rfl
  have h2 : (Value.type "bytes" == Value.type "list") = false := by decide
  have h3 : (Value.type "bytes" == Value.type "tuple") = false := by decide
  simp only [h1, h2, h3, Bool.or_false, Bool.false_eq_true, if_false]
  refine wpAny_bind (KBw.pyIter_bytes ?_)
  refine wpAny_bind (wpAny_holding (hint_bytes hlen fun c tk => ?_))
  have hit₁ : KBw.IsBytesIter (s.heap.push { cls := .type "bytes_iterator", data := .fields #[.bytes b t, .int 0 0] }) s.heap.objs.size b t 0 := ⟨_, Heap.get?_push_size _ rfl, rfl, rfl⟩
  have hS₁ := Heap.get?_push_of_some { cls := .type "bytes_iterator", data := .fields #[.bytes b t, .int 0 0] } hS
  refine wpAny_ite_split (fun _ => ?_) (fun _ => wpAny_pure ⟨plainId_quiet F.plain_extend_loop _, key _ c₀ _ hit₁ (fun b o _ e => Heap.get?_push_of_some _ e) hS₁⟩)
  refine wpAny_bind (wpAny_rule ?_)
  refine wpAny_bind ?_
  show wpAny _ _ (updateSeq S (·.push .none) >>= fun _ => updateSeq S (·.pop)) _ _ _
  refine wpAny_bind (wpAny_updateSeq hS₁ rfl ?_)
  have hS₂ := Heap.get?_update_self (Obj.mapSeq (·.push Value.none)) hS₁ rfl
  refine wpAny_updateSeq (hz := by seq_fits) hS₂ rfl ?_
  have hS₃ := Heap.get?_update_self (Obj.mapSeq (·.pop)) hS₂ rfl
  refine wpAny_pure ⟨plainId_quiet F.plain_extend_loop _, key _ _ _ ?_ (fun b o hb e => ?_) hS₃⟩
  · obtain ⟨o, ho, r⟩ := hit₁
    exact ⟨o, (Heap.get?_update_other _ _ hSI).trans ((Heap.get?_update_other _ _ hSI).trans ho), r⟩
  · exact (Heap.get?_update_other _ _ (Ne.symm hb)).trans ((Heap.get?_update_other _ _ (Ne.symm hb)).trans (Heap.get?_push_of_some _ e))

theorem init_bytes {R : Result → Shared → Prop} (hh : A.handled = none) (hlen : b.size ≤ 1000) (S : Addr) (hS : s.heap.get? S = some { cls := .type "list", data := .seq #[] })
    (hR : ∀ h' tk acc' c', (∀ b o, b ≠ S → s.heap.get? b = some o → h'.get? b = some o) → h'.get? S = some { cls := .type "list", dict := none, data := .seq acc' c', slots := #[] } →
      ItemsOf (fun i v => ∃ c u, b[i]? = some c ∧ v = .int (c.toNat : Int) u) acc' b.size → R (.ok (.ret .none)) { s with heap := h', toks := tk }) :
    wpAny (model prog w) A.in1 (Builtin.«list.__init__» ⟨[.ref S, .bytes b t], []⟩)
      (fun fin s' => match fin with | .done f => R (.ok f) s' | .again c' => c'.quiet = true ∧ codeAny (model prog w) A c' R s') (fun e s' => R (.error e) s') s := by
  refine wpAny_bind (m := Builtin.List.listItems (.ref S)) ?_
  unfold Builtin.List.listItems
  refine wpAny_bind (wpAny_seqItems hS rfl (wpAny_pure ?_))
  refine wpAny_bind (m := updateSeq S (fun _ => #[])) (wpAny_updateSeq hS rfl ?_)
  have hS₂ := Heap.get?_update_self (Obj.mapSeq (fun _ => (#[] : Array Value))) hS rfl
  have oth : ∀ b o, b ≠ S → s.heap.get? b = some o → (s.heap.update S (Obj.mapSeq (fun _ => (#[] : Array Value)))).get? b = some o :=
    fun b o hb e => (Heap.get?_update_other _ _ (Ne.symm hb)).trans e
  refine wpAny_bind (wpAny_letGo ?_)
  refine extend_bytes hh hlen S .none _ hS₂ fun h' tk acc' c' hk hS' hacc => ?_
  exact hR h' tk acc' c' (fun b o hb e => hk b o hb (oth b o hb e)) hS' hacc

theorem call_list_bytes {Q : Value → Shared → Prop} (hh : A.handled = none) (hlen : b.size ≤ 1000)
    (hQ : ∀ h' tk acc' c', (∀ b o, s.heap.get? b = some o → h'.get? b = some o) →
      h'.get? s.heap.objs.size = some { cls := .type "list", dict := none, data := .seq acc' c', slots := #[] } → ItemsOf (fun i v => ∃ c u, b[i]? = some c ∧ v = .int (c.toNat : Int) u) acc' b.size → Q (.ref s.heap.objs.size) { s with heap := h', toks := tk }) :
    wpAny (model prog w) A (call (.type "list") [.bytes b t]) Q E s := by
  refine callType_codes (Q₁ := fun obj s₁ => obj = .ref s.heap.objs.size ∧ s₁ = { s with heap := s.heap.push { cls := .type "list", data := .seq #[] } }) F.called_list (F.typeCall_list_1 _) F.entry_list_init
    (code_list_new _ ⟨rfl, rfl⟩) fun obj s₁ h₁ => ?_
  obtain ⟨rfl, rfl⟩ := h₁
  have hS : (s.heap.push { cls := .type "list", data := .seq #[] }).get? s.heap.objs.size = some { cls := .type "list", data := .seq #[] } := Heap.get?_push_size _ rfl
  refine ⟨⟨_, hS, rfl⟩, F.args_list_init_2 _ _, init_bytes (A := A.in1) hh hlen _ hS fun h' tk acc' c' hk hS' hacc => ?_⟩
  exact ⟨rfl, hQ h' tk acc' c' (fun b o e => hk b o (Nat.ne_of_lt (Heap.lt_size e)) (Heap.get?_push_of_some _ e)) hS' hacc⟩
end
end Mine

/-! E1 -/
namespace Mine

theorem boot_len : bootBuiltins "len" = some (.builtin "len") := by decide +kernel
theorem boot_chr : bootBuiltins "chr" = some (.builtin "chr") := by decide +kernel
theorem boot_range : bootBuiltins "range" = some (.type "range") := by decide +kernel
theorem boot_list : bootBuiltins "list" = some (.type "list") := by decide +kernel
theorem boot_str : bootBuiltins "str" = some (.type "str") := by decide +kernel
theorem boot_int : bootBuiltins "int" = some (.type "int") := by decide +kernel
theorem boot_bytes : bootBuiltins "bytes" = some (.type "bytes") := by decide +kernel
theorem boot_ord : bootBuiltins "ord" = some (.builtin "ord") := by decide +kernel

section
variable {prog : Program} {w : World} {A : Around} {V : View} {R : Heap} {env : Env} {α : Type} {t : Sem α} {P : α → Heap → Prop}
theorem Ev.into {Q : α → Shared → Prop} {E : Value → Shared → Prop} {s s1 : Shared} (x : Ev prog w A V (fr R s s1) t P) (hv : V.p s1.heap) (k : Keeps s s1) (ht : 0 < s1.toks) (h : ∀ a s', Keeps s s' → 0 < s'.toks → V.p s'.heap → Up P a (fr R s s') → Q a s') : wpAny (model prog w) A t Q E s1 :=
  x Q E s1 fr_sub hv ht fun a s' k' t' p => h a s' (keeps_trans k k') t' (V.up _ _ (keeps_sub k') hv) (p.sub (fr_trans k))
theorem evNone {k : Nat} {pos : Pos} : Ev prog w A V R (eval (.Constant .none k pos) env) (Is .none) := Ev.of_look fun _ _ _ _ h => wpAny_Constant_none h
theorem evBool {b : Bool} {k : Nat} {pos : Pos} : Ev prog w A V R (eval (.Constant (.bool b) k pos) env) (Is (.bool b)) := Ev.of_look fun _ _ _ _ h => wpAny_Constant_bool h
theorem ev_isNone {r : Raw} {v : Value} (hv : r.At v) : Ev prog w A V R (compareOp .Is v .none) (Is (.bool (decide (r.ty = "NoneType")))) := by
  cases hv <;> first | exact Ev.of_look fun _ _ _ _ h => is_none_none h | exact Ev.of_look fun _ _ _ _ h => is_none_ne (by intro x; cases x) h
theorem ev_isi_ty {K : Frag} {r : Raw} {v : Value} {T : String} (X : K.In R) (hv : r.At v) (hT : T = "int" ∨ T = "str") : Ev prog w A V R (call (.builtin "isinstance") [v, .type T]) (Is (.bool (decide (r.ty = T)))) := Ev.mk fun Q E s hs _ _ hQ => by
  refine kia_one hv.plain.kit (X.keeps hs) trivial (b := decide (r.ty = T)) ?_ hv.plain.noLoader fun tk => hQ _ _ keeps_tok upIs
  rcases hT with rfl | rfl <;> cases r <;> kernel_rfl
end

def kindS : Raw → PySem.Str
  | .int _ => "number" | .str _ => "text" | .none => "none" | .bytes _ => "bytes"
def keyI : Raw → List Int
  | .str x => strI x | .bytes b => byI b.toList | _ => []
def MineP (r : Raw) (v : Value) (h : Heap) : Prop := match r with | .int n => ∃ t, v = .int n t | r => KeyAt (keyI r) v h
theorem MineP.sub {r : Raw} {v : Value} {h h' : Heap} (x : MineP r v h) (s : Sub h h') : MineP r v h' := by
  cases r with
  | int n => exact x
  | _ => exact KeyAt.sub x s
def KindP (r : Raw) : Value → Heap → Prop := fun v h => ∃ t ks mv, v = .ref t ∧ h.IsTuple t #[.str (kindS r) ks, mv] ∧ 0 < ks ∧ MineP r mv h
def Raw.small : Raw → Prop
  | .str x => x.length ≤ 100
  | .bytes b => b.size ≤ 100
  | _ => True

theorem filter_all {α : Type} (l : List α) : l.filter (fun _ => true) = l := by simp
theorem map_cps (x : PySem.Str) : (List.range x.cps.size).map (fun j => ((x.cps[j]?.getD 0 : Nat) : Int)) = asInts x.cps.toList := by
  apply List.ext_getElem (by simp [asInts])
  intro i h1 h2
  have hi : i < x.cps.size := by simpa using h1
  simp [asInts, hi]
theorem ints_of_get : ∀ {vs : List Value} {ns : List Int}, vs.length = ns.length → (∀ (i : Nat) (v : Value), vs[i]? = some v → ∃ t, v = Value.int (ns.getD i 0) t) → IntsAre vs ns
  | [], [], _, _ => .nil
  | v :: vs, n :: ns, hl, h => by
    obtain ⟨t, e⟩ := h 0 v rfl
    have e' : v = .int n t := e
    subst e'
    exact .cons n t (ints_of_get (by simpa using hl) fun i u hu => h (i + 1) u hu)

section
variable {w : World} {A : Around} {K : Frag} {V : View} {R : Heap}

theorem ev_list_bytes {b : Array UInt8} {t : Tok} (hh : A.handled = none) (hb : b.size ≤ 100) : Ev prog2 w A V R (call (.type "list") [.bytes b t]) (KeyAt (byI b.toList)) := Ev.mk fun Q E s hs _ ht hQ =>
  call_list_bytes hh (by omega) fun h' tk acc c' hk hS hacc => hQ _ _ (keeps_mk hk) fun g z => by
    refine ⟨_, acc.toList, rfl, ⟨_, z _ _ (fr_get.mpr ⟨hS, .inr (fresh_none _ (Nat.le_refl _))⟩), rfl, c', by simp⟩, ?_⟩
    refine ints_of_get (by rw [Array.length_toList, hacc.1]; simp [byI]) fun i v e => ?_
    have e' : acc[i]? = some v := by rw [← Array.getElem?_toList]; exact e
    obtain ⟨c, u, hc, rfl⟩ := hacc.2 i v e'
    refine ⟨u, ?_⟩
    have : (byI b.toList).getD i 0 = (c.toNat : Int) := by
      simp only [byI, List.getD_eq_getElem?_getD, List.getElem?_map, Array.getElem?_toList, hc]; rfl
    rw [this]

theorem evCL {prog : Program} {scope : Scope} {cl : List (PySem.Str × Addr)} {C : Addr} {mc : MS} {env : Env} {x : PySem.Str} {pos : Pos} {v : Value} (hv : mc x = some v) (hk : (compEnvC scope cl C env).scope.kind = .function := by rfl) (hl : (compEnvC scope cl C env).kindOf x = some .local := by rfl) (hd : (x == ("__debug__" : PySem.Str)) = false := by decide) :
    Ev prog w A (V.and (View.ns C mc)) R (eval (.Name x pos) (compEnvC scope cl C env)) (Is v) := evNameL (fun h q => q.2) hv hk hl hd
def kindEnv (L : Addr) : Env := callEnv kindFd L 104

theorem evTup2 {prog : Program} {env : Env} {e e' : Expr} {k : Nat} {pos : Pos} {P1 P2 : Value → Heap → Prop} (x : Ev prog w A V R (eval e env) P1) (y : Ev prog w A V R (eval e' env) P2) (he : starEach [e, e'] env = [(false, eval e env), (false, eval e' env)] := by rfl) (he' : starEach [e'] env = [(false, eval e' env)] := by rfl) :
    Ev prog w A V R (eval (.Tuple [e, e'] k pos) env) (fun a h => ∃ t u v, a = .ref t ∧ h.IsTuple t #[u, v] ∧ P1 u h ∧ P2 v h) :=
  (evTuple (PL := ConsP P1 (ConsP P2 (Is []))) (evArgsC x (evArgsC y evArgs0 he') (he.trans (by rw [he']))) (by
    rintro vs h ⟨a, l, rfl, _, b, l', rfl, _, rfl⟩; show 2 ≤ sizeLine; rw [sizeLine_eq]; omega)).mono fun a R' _ ⟨l, vs, e1, e2, ⟨u, l1, e3, p1, v, l2, e4, p2, e5⟩⟩ => by
    subst e1 e3 e4 e5
    exact ⟨l, u, v, rfl, ⟨_, e2, rfl, _, rfl⟩, p1, p2⟩

theorem kind_call {r : Raw} {v : Value} (Y : KQ K) (T : KT K) (G : Gd K R) (rm : Room A 3) (hv : r.At v) (hsm : r.small) : Ev prog2 w A V R (call (.ref 104) [v]) (KindP r) := Ev.mk fun Q E s hs _ ht hQ => by
  have G1 := G.sub hs
  obtain ⟨⟨oc, od, sl, e3⟩, e4⟩ := T.kindF
  refine wpAny_call (codeAny_call_def (binds := [("value", v)]) rm.d (G1.k _ _ e3) rfl G1.lim (codeRec_of G1.k e4) rfl (BindsTo.of_eq rfl) (by decide) (locs rfl) ?_)
  intro h₀ hns hk
  show wpAny (model prog2 w) (A.deeper (kindEnv s.heap.objs.size)) (execs (bodyOf kindD) (kindEnv s.heap.objs.size)) _ _ _
  let V2 : View := View.ns s.heap.objs.size (fun x => List.lookup x [(PySem.Str.ofString "value", v)].reverse)
  have hN : ∀ {pos : Pos} {R' : Heap} {A' : Around}, Ev prog2 w A' V2 R' (eval (.Name "value" pos) (kindEnv s.heap.objs.size)) (Is v) := fun {_ _ _} => evNameL View.nsH rfl rfl rfl
  have hv0 : V2.p h₀ := hns
  have k0 : Keeps s { s with heap := h₀, toks := s.toks + 1 } := keeps_mk hk
  have GG : ∀ s', Keeps s s' → Gd K (fr R s s') := fun s' k => G.sub (sub_fr hs k)
  refine wpAny_execs_cons (wpAny_If ?_)
  refine (evTest (b := decide (r.ty = "NoneType")) hN evNone fun a b R2 h2 p1 p2 => by cases p1; cases p2; exact ev_isNone hv).into (R := R) hv0 k0 (Nat.succ_pos _) fun b s1 k1 t1 v1 p1 => ?_
  cases p1.here
  by_cases h1 : r.ty = "NoneType"
  · rw [if_pos (by simpa using h1)]
    have : r = .none := by cases r <;> first | rfl | (simp [Raw.ty] at h1; done)
    subst this
    refine wpAny_execs_cons (wpAny_Return_some ?_)
    refine (evTup2 (V := V2) evStr (evList evArgs0 (by rintro vs h rfl; exact Nat.zero_le _))).into (R := R) v1 k1 t1 fun a s2 k2 t2 _ p => ?_
    refine hQ a s2 k2 fun g z => ?_
    obtain ⟨t, u, v', rfl, ht, ⟨tk, rfl, htk⟩, ⟨l, vs, rfl, hl, rfl⟩⟩ := p g z
    exact ⟨t, tk, _, rfl, ht, htk, l, [], rfl, hl, .nil⟩
  rw [if_neg (by simpa using h1)]
  refine wpAny_execs_nil (wpAny_execs_cons (wpAny_If ?_))
  have hI : ∀ {T : String} {x : PySem.Str} {p1 p2 p3 p4 : Pos} {R' : Heap} {A' : Around}, Gd K R' → (T = "int" ∨ T = "str") → bootBuiltins x = some (.type T) → nsIn K mainGlobals x = some none → x ≠ "__name__" → (kindEnv s.heap.objs.size).kindOf x = some .globalImplicit → (x == ("__debug__" : PySem.Str)) = false →
      Ev prog2 w A' V2 R' (isTrue (.Call (.Name "isinstance" p1) [.Name "value" p2, .Name x p3] [] p4) (kindEnv s.heap.objs.size) (eval (.Call (.Name "isinstance" p1) [.Name "value" p2, .Name x p3] [] p4) (kindEnv s.heap.objs.size))) (Is (decide (r.ty = T))) := by
    intro T x p1 p2 p3 p4 R' A' G' hT hb hn hx hk hd
    refine evTestV (evCallB (evNameB G' (Y.nB "isinstance" (by simp)) boot_isinstance (by decide) rfl rfl rfl rfl) (evA2 hN (evNameB G' hn hb hx rfl rfl rfl hk hd)) ?_)
    intro vs R1 hR1 p; cases p
    exact ev_isi_ty (G'.sub hR1).k hv hT
  refine (hI (GG s1 k1) (.inl rfl) boot_int (Y.nB "int" (by simp)) (by decide) rfl (by decide)).into (R := R) v1 k1 t1 fun b s2 k2 t2 v2 p2 => ?_
  cases p2.here
  by_cases h2 : r.ty = "int"
  · rw [if_pos (by simpa using h2)]
    refine wpAny_execs_cons (wpAny_Return_some ?_)
    refine (evTup2 (V := V2) evStr hN).into (R := R) v2 k2 t2 fun a s3 k3 t3 _ p => ?_
    refine hQ a s3 k3 fun g z => ?_
    obtain ⟨t, u, v', rfl, ht, ⟨tk, rfl, htk⟩, rfl⟩ := p g z
    cases hv <;> first | (simp [Raw.ty] at h2; done) | exact ⟨t, tk, _, rfl, ht, htk, _, rfl⟩
  rw [if_neg (by simpa using h2)]
  refine wpAny_execs_nil (wpAny_execs_cons (wpAny_Return_some ?_))
  have hS := fun {R' : Heap} {A' : Around} {p1 p2 p3 p4 : Pos} (G' : Gd K R') => hI (R' := R') (A' := A') (p1 := p1) (p2 := p2) (p3 := p3) (p4 := p4) G' (.inr rfl) boot_str (Y.nB "str" (by simp)) (by decide) rfl (by decide)
  refine (evTup2 (V := V2) (P1 := IsS (kindS r)) (P2 := fun v h => KeyAt (keyI r) v h) (evIfExp (hS (GG s2 k2)) ?a ?b) (evIfExp (hS (GG s2 k2)) ?c ?d)).into (R := R) v2 k2 t2 fun a s3 k3 t3 _ p => ?_
  case a => intro q; cases hv <;> first | (simp [Raw.ty] at q; done) | exact evStr
  case b => intro q; cases hv <;> first | (simp [Raw.ty] at q; done) | (simp [Raw.ty] at h1; done) | (simp [Raw.ty] at h2; done) | exact evStr
  case c =>
    intro q
    cases hv <;> first | (simp [Raw.ty] at q; done) | skip
    rename_i x t htx
    refine (evComp1 (n := x.cps.size) (P := SignAt x) (PX := Is (.str x t)) (fun _ => true) (fun j v h => IsI ((x.cps[j]?.getD 0 : Nat) : Int) v h) rfl (by decide) rfl (by decide) rfl hN ?hI2 ?hz2 ?ht2 ?he2).mono ?fin2
    case hI2 => rintro xv R1 h1 rfl; exact it_str (rm.deeper _).handled
    case hz2 => rw [sizeLine_eq]; have e : x.length = x.cps.size := rfl; have := hsm; simp only [Raw.small] at this; omega
    case ht2 => intro C i v mc R1 h1 hi hP hv; exact Ev.of_look fun _ _ _ _ h => wpAny_pure h
    case he2 =>
      rintro C2 j u mc2 R2 h2 hj ⟨ch, u', hch, rfl⟩ hu _
      refine evCallB (evNameB ((GG s2 k2).sub h2) (Y.nB "ord" (by simp)) boot_ord (by decide) rfl rfl rfl rfl) (evA1 (evCL hu)) ?_
      intro vs R3 h3 p; cases p
      rw [hch]; exact ev_ord
    case fin2 =>
      rintro a R' hR ⟨l, ys, rfl, hl, hp⟩
      refine ⟨l, ys, rfl, hl, ?_⟩
      have := ints_of_paired (f := fun j => ((x.cps[j]?.getD 0 : Nat) : Int)) hp
      rw [filter_all, map_cps] at this
      exact this
  case d =>
    intro q
    cases hv <;> first | (simp [Raw.ty] at h1; done) | (simp [Raw.ty] at h2; done) | (simp [Raw.ty] at q; done) | skip
    refine evCallT (evNameB (GG s2 k2) (Y.nB "list" (by simp)) boot_list (by decide) rfl rfl rfl rfl) (evA1 hN) ?_
    intro vs R1 hR1 p; cases p
    exact ev_list_bytes (rm.deeper _).handled hsm
  refine hQ a s3 k3 fun g z => ?_
  obtain ⟨t, u, v', rfl, ht, ⟨tk, rfl, htk⟩, hm⟩ := p g z
  refine ⟨t, tk, _, rfl, ht, htk, ?_⟩
  cases hv <;> first | (simp [Raw.ty] at h1; done) | (simp [Raw.ty] at h2; done) | exact hm
end
end Mine

/-! E2 -/
namespace Mine

section
variable {prog : Program} {w : World} {A : Around} {V : View} {R : Heap} {env : Env} {P P1 P2 : Value → Heap → Prop}
theorem evBoolAnd {e1 e2 : Expr} {pos : Pos} {b c : Bool} (h1 : Ev prog w A V R (eval e1 env) (Is (.bool b))) (h2 : b = true → Ev prog w A V R (eval e2 env) (Is (.bool c))) :
    Ev prog w A V R (eval (.BoolOp .And [e1, e2] pos) env) (Is (.bool (b && c))) := fun Q E s hs hv ht hq =>
  BoolOp_and (h1.use hs hv ht fun a s1 k1 t1 p1 => by
    cases p1
    refine wpAny_truthy_bool ?_
    cases b with
    | false => rw [if_neg (by simp)]; exact hq _ s1 k1 t1 upIs
    | true => rw [if_pos rfl]; exact BoolOp_one ((h2 rfl).use (hs.trans (keeps_sub k1)) (View.keeps hv k1) t1 fun b s2 k2 t2 p2 => by cases p2; exact hq _ s2 (keeps_trans k1 k2) t2 upIs))
theorem evNotV {x : Expr} {pos : Pos} {b : Bool} (h : Ev prog w A V R (eval x env) (Is (.bool b))) : Ev prog w A V R (eval (.UnaryOp .Not x pos) env) (Is (.bool (!b))) := fun Q E s hs hv ht hq =>
  UnaryOp_ (h.use hs hv ht fun a s1 k1 t1 p1 => by cases p1; exact not_of (wpAny_truthy_bool (hq _ s1 k1 t1 upIs)))
theorem ev_eqS {x y : PySem.Str} {t u : Tok} : Ev prog w A V R (compareOp .Eq (.str x t) (.str y u)) (Is (.bool (x.cps.toList == y.cps.toList))) := Ev.of_look fun _ _ _ _ h => PySem.P.eq_str h
theorem ev_addL {l b : Addr} {xs ys : List Value} (hl : R.IsList l xs.toArray) (hb : R.IsList b ys.toArray) (hz : xs.length + ys.length ≤ 1000) : Ev prog w A V R (binaryOp .Add (.ref l) (.ref b)) (IsL (xs ++ ys)) := Ev.mk fun Q E s hs _ ht hQ => by
  obtain ⟨⟨cls, dd, data, sl⟩, ho, hc, n, hd⟩ := isList_sub hl hs
  obtain ⟨⟨cls2, dd2, data2, sl2⟩, ho2, hc2, n2, hd2⟩ := isList_sub hb hs
  simp only at hc hd hc2 hd2
  subst hc hd hc2 hd2
  have e : xs.toArray ++ ys.toArray = (xs ++ ys).toArray := by simp
  refine concat_meets ⟨_, ho, rfl⟩ ⟨_, ho2, rfl⟩ noFill_list_add seq_list_add PySem.F.slot_list_add PySem.F.entry_list_add (PySem.F.args_list_add_2 _ _) (list_addW l b xs.toArray ys.toArray n n2 dd dd2 sl sl2 (by rw [sizeLine_eq]; simp; omega)) ⟨ho, ho2, ?_⟩
  rw [e]
  refine hQ _ _ (keeps_mk (tk := s.toks) ((Sub.refl _).push _)) fun g z => ⟨_, rfl, ?_⟩
  obtain ⟨o, ho, r⟩ := isList_push s.heap (xs ++ ys)
  exact ⟨o, z _ _ (fr_get.mpr ⟨ho, .inr (fresh_none _ (Nat.le_refl _))⟩), r⟩
theorem ev_mulL {l : Addr} {xs : List Value} {x : Int} {t : Tok} (hl : R.IsList l xs.toArray) (hz : xs.length * x.toNat ≤ 1000) (h0 : 0 ≤ x) (hk : x ≤ 1000) : Ev prog w A V R (binaryOp .Mult (.ref l) (.int x t)) (IsL (List.replicate x.toNat xs).flatten) := Ev.mk fun Q E s hs _ ht hQ => by
  obtain ⟨⟨cls, d, data, sl⟩, ho, hcl, n, hd⟩ := isList_sub hl hs
  simp only at hcl hd
  subst hcl hd
  have hsz' : xs.toArray.size * x.toNat ≤ 2 ^ 24 := by simp; omega
  refine wpAny_binaryOp_repeat_ref (T := "list") (U := "int") (by decide) ⟨_, ho, rfl⟩ (fun s' => typeIs_int s' x t) noFill_list_mul F.fills_int_mul F.slot_int_rmul repeat_list F.slot_int_index.lookup
    (call_meets F.slot_int_rmul (typeIs_int s x t) F.entry_int_rmul (F.args_int_rmul_2 _ _) (lm_int_rmul_list_any x t l xs.toArray n d sl)
      ⟨ho, rfl, ⟨_, ho, rfl⟩, call_meets F.slot_list_mul ⟨_, ho, rfl⟩ F.entry_list_mul (F.args_list_mul_2 _ _)
        (lm_list_mul_any l xs.toArray n d sl x t (by simp [Builtin.List.listFitsIndex]; omega) (by omega) (by simp [Builtin.List.listTooLong, sizeLine]; omega))
        ⟨ho, ?_⟩⟩)
  rw [listMul_foldl_if]
  have e : (List.replicate x.toNat xs.toArray.toList).flatten = (List.replicate x.toNat xs).flatten := by simp
  rw [e]
  refine hQ _ _ (keeps_mk (tk := s.toks) ((Sub.refl _).push _)) fun g z => ⟨_, rfl, ?_⟩
  obtain ⟨o, ho, r⟩ := isList_push s.heap (List.replicate x.toNat xs).flatten
  exact ⟨o, z _ _ (fr_get.mpr ⟨ho, .inr (fresh_none _ (Nat.le_refl _))⟩), r⟩

/-- two lists of the same answers -/
theorem told_eqAt {s : Shared} {o : Option Bool} {v u : Value} (hv : IsTold o v) (hu : IsTold o u) : PySem.SeqAt.EqAt A s v u true := by
  cases o with
  | some c =>
    have hv' : v = .bool c := hv
    have hu' : u = .bool c := hu
    subst hv' hu'
    exact PySem.SeqAt.EqAt.same _
  | none =>
    obtain ⟨t, rfl, _⟩ := hv
    obtain ⟨t', rfl, _⟩ := hu
    have h := PySem.SeqAt.EqAt.str_str (A := A) (s := s) "TypeError" t "TypeError" t'
    rwa [beq_self_eq_true] at h
theorem ev_ne_told {a b : Addr} {xs ys : List Value} {os : List (Option Bool)} (ha : R.IsList a xs.toArray) (hb : R.IsList b ys.toArray) (h1 : Paired IsTold os xs) (h2 : Paired IsTold os ys) (hu : A.units < cLine) :
    Ev prog w A V R (compareOp .NotEq (.ref a) (.ref b)) (Is (.bool false)) := Ev.of_look fun Q E s hs h => by
  obtain ⟨⟨cls, dd, data, sl⟩, ho, hc, n, hd⟩ := isList_sub ha hs
  obtain ⟨⟨cls2, dd2, data2, sl2⟩, ho2, hc2, n2, hd2⟩ := isList_sub hb hs
  simp only at hc hd hc2 hd2
  subst hc hd hc2 hd2
  have l1 := h1.length
  have l2 := h2.length
  have pg : ∀ {os : List (Option Bool)} {xs ys : List Value}, Paired IsTold os xs → Paired IsTold os ys → ∀ (j : Nat) (q1 : j < xs.length) (q2 : j < ys.length), ∃ o, IsTold o xs[j] ∧ IsTold o ys[j] := by
    intro os xs ys h1
    induction h1 generalizing ys with
    | nil => intro _ j q; simp at q
    | cons a b ih =>
      intro h2 j q1 q2
      cases h2 with
      | cons a' b' =>
        cases j with
        | zero => exact ⟨_, a, a'⟩
        | succ j => exact ih b' j (by simpa using q1) (by simpa using q2)
  refine richCompare_meets_room (op := .NotEq) ⟨_, ho, rfl⟩ ⟨_, ho2, rfl⟩ PySem.F.slot_list_ne PySem.F.entry_list_ne (PySem.F.args_list_ne_2 _ _) (PySem.SeqAt.list_neAt a b _ _ n n2 dd dd2 sl sl2 (by simp; omega) (fun _ => true))
      ⟨ho, ho2, fun j h3 h4 => ?_, show Value.bool _ ≠ Value.notImplemented ∧ Q (.bool _) s from ⟨(fun x => nomatch x), by rw [List.all_eq_true.mpr fun _ _ => rfl]; exact h⟩⟩ hu
  obtain ⟨o, p1, p2⟩ := pg h1 h2 j (by simpa using h3) (by simpa using h4)
  have := told_eqAt (A := A.in1) (s := s) p1 p2
  simpa using this
end

theorem kind_ty (r r' : Raw) : ((kindS r).cps.toList == (kindS r').cps.toList) = decide (r.ty = r'.ty) := by cases r <;> cases r' <;> kernel_rfl
theorem kind_none (r : Raw) : ((kindS r).cps.toList != (PySem.Str.ofString "none").cps.toList) = decide (r.ty ≠ "NoneType") := by cases r <;> kernel_rfl
theorem rawEq_ne {r r' : Raw} (h : r.ty ≠ r'.ty) : rawEq r r' = false := by cases r <;> cases r' <;> first | rfl | exact absurd rfl h
theorem rawB_ne {op : CmpOp} {r r' : Raw} (h : r.ty ≠ r'.ty) (ho : isEq op = false) : rawB op r r' = none := by
  cases r <;> cases r' <;> first | exact absurd rfl h | simp [rawB, ho]

section
variable {w : World} {A : Around} {V : View} {R : Heap}
/-- how the two keys compare -/
theorem ev_mine {prog : Program} {op : CmpOp} {r r' : Raw} {v u : Value} {c : Bool} (ho : isOrd op = true) (hv : MineP r v R) (hu : MineP r' u R) (ht : r.ty = r'.ty) (hb : rawB op r r' = some c) (hA : A.units + 64 < cLine) : Ev prog w A V R (compareOp op v u) (Is (.bool c)) := by
  have lists : ∀ {x y : List Int}, KeyAt x v R → KeyAt y u R → lexE op x y = c → Ev prog w A V R (compareOp op v u) (Is (.bool c)) := by
    rintro x y ⟨l, us, rfl, hl, hi⟩ ⟨l', us', rfl, hl', hi'⟩ rfl
    cases op <;> first | (cases ho; done) | skip
    · exact ev_eqL hl hl' hi hi' hA
    · exact ev_lt_ints hl hl' hi hi' (by omega)
    · exact ev_le_ints hl hl' hi hi' (by omega)
    · exact ev_gt_ints hl hl' hi hi' (by omega)
    · exact ev_ge_ints hl hl' hi hi' (by omega)
  cases r <;> cases r' <;> first | (simp only [Raw.ty, String.reduceEq] at ht; done) | skip
  · obtain ⟨t, rfl⟩ := hv
    obtain ⟨t', rfl⟩ := hu
    rename_i n n'
    cases hb
    cases op <;> first | (cases ho; done) | skip
    · exact Ev.of_look fun _ _ _ _ h => PySem.P.eq_int (by rw [show (n == n') = intE .Eq n n' from by simp [intE, BEq.beq]]; exact h)
    · exact Ev.of_look fun _ _ _ _ h => PySem.P.lt_int h
    · exact Ev.of_look fun _ _ _ _ h => PySem.P.le_int h
    · exact Ev.of_look fun _ _ _ _ h => PySem.P.gt_int h
    · exact Ev.of_look fun _ _ _ _ h => PySem.P.ge_int h
  · cases hb; exact lists hv hu rfl
  · cases op <;> first | (cases ho; done) | (cases hb; done) | skip
    cases hb; exact lists hv hu rfl
  · cases hb; exact lists hv hu rfl
end
end Mine

/-! E3 -/
namespace Mine

def forBody : Stmt → List Stmt
  | .For _ _ b _ _ => b
  | _ => []
def iBody : List Stmt := forBody ((bodyOf lawD).getD 3 (.Pass default))
def jBody : List Stmt := forBody (iBody.getD 0 (.Pass default))

theorem upd_same {m : MS} {x : PySem.Str} {v : Value} : upd m x v x = some v := if_pos rfl
theorem upd_ne {m : MS} {x y : PySem.Str} {v : Value} (h : y ≠ x) : upd m x v y = m y := if_neg h

section
variable {prog : Program} {w : World} {A : Around} {K : Frag} {R : Heap} {L fa : Addr} {cd : Value} {m cm mc : MS} {W : View} {scope : Scope} {cl : List (PySem.Str × Addr)} {C : Addr}
/-- names in the law's own frame -/
theorem evLL {x : PySem.Str} {pos : Pos} {v : Value} (hv : m x = some v) (hl : (lawEnv L fa cd).kindOf x = some .local := by rfl) (hd : (x == ("__debug__" : PySem.Str)) = false := by decide) :
    Ev prog w A (fv (lawEnv L fa cd) m cm W) R (eval (.Name x pos) (lawEnv L fa cd)) (Is v) := evNameL (fun h q => q.1) hv rfl hl hd
theorem evLC {x : PySem.Str} {pos : Pos} {v : Value} {c : Addr} (hv : cm x = some v) (hl : (lawEnv L fa cd).kindOf x = some .cell := by rfl) (hx : (lawEnv L fa cd).cells.lookup x = some c := by rfl) (hd : (x == ("__debug__" : PySem.Str)) = false := by decide) :
    Ev prog w A (fv (lawEnv L fa cd) m cm W) R (eval (.Name x pos) (lawEnv L fa cd)) (Is v) := evNameC (fun h q => hv ▸ q.2.1 x c hx) rfl hl hx hd
theorem evCC {x : PySem.Str} {pos : Pos} {v : Value} {c : Addr} (hv : cm x = some v) (hk : (compEnvC scope cl C (lawEnv L fa cd)).scope.kind = .function := by rfl) (hl : (compEnvC scope cl C (lawEnv L fa cd)).kindOf x = some .cell := by rfl)
    (hx : (compEnvC scope cl C (lawEnv L fa cd)).cells.lookup x = some c := by rfl) (hx' : (lawEnv L fa cd).cells.lookup x = some c := by rfl) (hd : (x == ("__debug__" : PySem.Str)) = false := by decide) :
    Ev prog w A ((fv (lawEnv L fa cd) m cm W).and (View.ns C mc)) R (eval (.Name x pos) (compEnvC scope cl C (lawEnv L fa cd))) (Is v) := evNameC (fun h q => hv ▸ q.1.2.1 x c hx') hk hl hx hd
end

theorem rawB_same {r r' : Raw} (h : r.ty = r'.ty) (h2 : r.ty ≠ "NoneType") (op : CmpOp) : ∃ c, rawB op r r' = some c := by
  cases r <;> cases r' <;> first | (simp only [Raw.ty, String.reduceEq] at h; done) | (simp only [Raw.ty, ne_eq, not_true_eq_false] at h2; done) | exact ⟨_, rfl⟩
theorem rawB_nn {r r' : Raw} (h : r.ty = r'.ty) (h2 : r.ty = "NoneType") {op : CmpOp} (ho : isEq op = false) : rawB op r r' = none := by
  cases r <;> cases r' <;> first | (simp only [Raw.ty, String.reduceEq] at h; done) | (simp only [Raw.ty, String.reduceEq] at h2; done) | simp [rawB, ho]

/-- the two kinds and keys, as the law holds them -/
structure Two (R : Heap) (m : MS) (r r' : Raw) : Prop where
  kind : ∃ t, m "kind" = some (.str (kindS r) t)
  mine : ∃ v, m "mine" = some v ∧ MineP r v R
  other : ∃ t, m "other" = some (.str (kindS r') t)
  its : ∃ v, m "its" = some v ∧ MineP r' v R
theorem Two.sub {R R' : Heap} {m : MS} {r r' : Raw} (x : Two R m r r') (s : Sub R R') : Two R' m r r' :=
  { x with mine := let ⟨v, a, b⟩ := x.mine; ⟨v, a, b.sub s⟩, its := let ⟨v, a, b⟩ := x.its; ⟨v, a, b.sub s⟩ }
theorem Two.set {R : Heap} {m : MS} {r r' : Raw} {y : PySem.Str} {v : Value} (x : Two R m r r') (h1 : PySem.Str.ofString "kind" ≠ y) (h2 : PySem.Str.ofString "mine" ≠ y) (h3 : PySem.Str.ofString "other" ≠ y) (h4 : PySem.Str.ofString "its" ≠ y) : Two R (upd m y v) r r' where
  kind := let ⟨t, e⟩ := x.kind; ⟨t, (upd_ne h1).trans e⟩
  mine := let ⟨t, e, q⟩ := x.mine; ⟨t, (upd_ne h2).trans e, q⟩
  other := let ⟨t, e⟩ := x.other; ⟨t, (upd_ne h3).trans e⟩
  its := let ⟨t, e, q⟩ := x.its; ⟨t, (upd_ne h4).trans e, q⟩
def dueO (r r' : Raw) : List (Option Bool) := [askB .Eq r r', askB .NotEq r r', askB .Lt r r', askB .LtE r r', askB .GtE r r', askB .Gt r r']
def DueP (r r' : Raw) : Value → Heap → Prop := fun a h => ∃ l vs, a = .ref l ∧ h.IsList l vs.toArray ∧ Paired IsTold (dueO r r') vs

section
variable {w : World} {A : Around} {s₁ s : Shared} {B R : Heap} {L fa : Addr} {cd : Value} {off wf : List Addr} {W : View} {m cm : MS} {r r' : Raw} {Q : Flow → Shared → Prop} {E : Value → Shared → Prop}

theorem ev_kk {p1 p2 p3 : Pos} (T2 : Two R m r r') : Ev prog2 w A (fv (lawEnv L fa cd) m cm W) R (eval (.Compare (.Name "kind" p1) [.Eq] [.Name "other" p2] p3) (lawEnv L fa cd)) (Is (.bool (decide (r.ty = r'.ty)))) := by
  obtain ⟨t, e⟩ := T2.kind
  obtain ⟨t', e'⟩ := T2.other
  refine evCmp (evLL e) (evLL e') ?_
  rintro a b R2 h2 rfl rfl
  rw [← kind_ty]; exact ev_eqS
theorem ev_mm {op : CmpOp} {c : Bool} {p1 p2 p3 : Pos} (T2 : Two R m r r') (ho : isOrd op = true) (ht : r.ty = r'.ty) (hb : rawB op r r' = some c) (hA : A.units + 64 < cLine) (hm : behindInMarks op (.Name "its" p2) = false := by rfl) :
    Ev prog2 w A (fv (lawEnv L fa cd) m cm W) R (eval (.Compare (.Name "mine" p1) [op] [.Name "its" p2] p3) (lawEnv L fa cd)) (Is (.bool c)) := by
  obtain ⟨v, e, q⟩ := T2.mine
  obtain ⟨v', e', q'⟩ := T2.its
  refine evCmp (evLL e) (evLL e') ?_ hm
  rintro a b R2 h2 rfl rfl
  exact ev_mine ho (q.sub h2) (q'.sub h2) ht hb hA

theorem body_due (f : FS s₁ B (lawEnv L fa cd) off wf W R m cm s) (T2 : Two R m r r') (hA : A.units + 64 < cLine) {rest : List Stmt}
    (hQ : ∀ s' R' m' v, FS s₁ B (lawEnv L fa cd) off wf W R' m' cm s' → Sub R R' → m' "due" = some v → DueP r r' v R' → m' "held" = m "held" → m' "chains" = m "chains" → wpAny (model prog2 w) A (execs rest (lawEnv L fa cd)) Q E s') :
    wpAny (model prog2 w) A (execs ((jBody.drop 3).take 3 ++ rest) (lawEnv L fa cd)) Q E s := by
  have hsame : (decide (r.ty = r'.ty) && rawEq r r') = rawEq r r' := by
    by_cases h : r.ty = r'.ty
    · simp [h]
    · simp [h, rawEq_ne h]
  refine wpAny_execs_cons (f.assignL (P := Is (.bool (rawEq r r'))) ?_ rfl ?_)
  · rw [← hsame]
    exact evBoolAnd (ev_kk T2) fun h => ev_mm T2 rfl (by simpa using h) (rawEq_some r r') hA
  rintro v s1 R1 f1 hR1 rfl
  have T1 := (T2.sub hR1).set (y := "same") (v := .bool (rawEq r r')) (by decide) (by decide) (by decide) (by decide)
  have hsm : upd m "same" (.bool (rawEq r r')) "same" = some (.bool (rawEq r r')) := upd_same
  generalize hm1 : upd m "same" (.bool (rawEq r r')) = m1 at f1 T1 hsm
  have hh1 : m1 "held" = m "held" := by rw [← hm1]; exact upd_ne (by decide)
  have hc1 : m1 "chains" = m "chains" := by rw [← hm1]; exact upd_ne (by decide)
  refine wpAny_execs_cons (f1.assignL (P := fun a h => ∃ l vs, a = .ref l ∧ h.IsList l vs.toArray ∧ Paired IsTold [some (rawEq r r'), some (!rawEq r r'), none, none, none, none] vs) ?_ rfl ?_)
  · refine evBin (evList (evArgsC (evLL hsm) (evArgsC (evNotV (evLL hsm)) evArgs0)) ?_) (evBin (evList (evArgsC evStr evArgs0) ?_) evInt ?_ (P := fun a h => ∃ t : Tok, 0 < t ∧ IsL [.str "TypeError" t, .str "TypeError" t, .str "TypeError" t, .str "TypeError" t] a h)) ?_
    · rintro vs h ⟨_, _, rfl, _, _, _, rfl, _, rfl⟩; rw [sizeLine_eq]; simp
    · rintro vs h ⟨_, _, rfl, _, rfl⟩; rw [sizeLine_eq]; simp
    · rintro a b R2 h2 ⟨l, _, rfl, hl, _, _, rfl, ⟨t, rfl, ht⟩, rfl⟩ ⟨t2, rfl, _⟩
      exact (ev_mulL (x := 4) hl (by simp) (by omega) (by omega)).mono fun a R' _ z => ⟨t, ht, z⟩
    · rintro a b R2 h2 ⟨l, _, rfl, hl, _, _, rfl, rfl, _, _, rfl, rfl, rfl⟩ ⟨t, ht, l2, rfl, hl2⟩
      refine (ev_addL hl hl2 (by simp)).mono fun a R' _ z => ?_
      obtain ⟨l3, rfl, hl3⟩ := z
      exact ⟨l3, _, rfl, hl3, .cons rfl (.cons rfl (.cons ⟨t, rfl, ht⟩ (.cons ⟨t, rfl, ht⟩ (.cons ⟨t, rfl, ht⟩ (.cons ⟨t, rfl, ht⟩ .nil)))))⟩
  rintro v s2 R2 f2 hR2 hdue
  have T22 := (T1.sub hR2).set (y := "due") (v := v) (by decide) (by decide) (by decide) (by decide)
  have hsm2 : upd m1 "due" v "same" = some (.bool (rawEq r r')) := (upd_ne (by decide)).trans hsm
  have hd2 : upd m1 "due" v "due" = some v := upd_same
  have hh2 : upd m1 "due" v "held" = m "held" := (upd_ne (by decide)).trans hh1
  have hc2 : upd m1 "due" v "chains" = m "chains" := (upd_ne (by decide)).trans hc1
  generalize hm2 : upd m1 "due" v = m2 at f2 T22 hsm2 hd2 hh2 hc2
  have hR12 := hR1.trans hR2
  refine wpAny_execs_cons (f2.test (b := decide (r.ty = r'.ty) && (decide (r.ty ≠ "NoneType") && true)) ?_ ?_)
  · refine evAndN (evAnd1 ?_ fun _ => evAnd1 ?_ fun _ => evAnd0)
    · obtain ⟨t, e⟩ := T22.kind
      obtain ⟨t', e'⟩ := T22.other
      refine evTest (evLL e) (evLL e') ?_
      rintro a b R2 h2 rfl rfl
      rw [← kind_ty]; exact ev_eqS
    · obtain ⟨t, e⟩ := T22.kind
      refine evTest (evLL e) evStr ?_
      rintro a b R2 h2 rfl ⟨t', rfl, _⟩
      rw [← kind_none]; exact ev_neS
  intro s3 R3 f3 hR3
  have hR13 := hR12.trans hR3
  by_cases hb : r.ty = r'.ty ∧ r.ty ≠ "NoneType"
  · rw [if_pos (by rw [decide_eq_true hb.1, decide_eq_true hb.2]; rfl)]
    have T3 := T22.sub hR3
    have nn := rawB_same hb.1 hb.2
    obtain ⟨c1, e1⟩ := nn .Lt
    obtain ⟨c2, e2⟩ := nn .LtE
    obtain ⟨c3, e3⟩ := nn .GtE
    obtain ⟨c4, e4⟩ := nn .Gt
    refine wpAny_execs_cons (f3.assignL (P := DueP r r') ?_ rfl ?_)
    · refine (evList (evArgsC (evLL hsm2) (evArgsC (evNotV (evLL hsm2)) (evArgsC (ev_mm T3 rfl hb.1 e1 hA) (evArgsC (ev_mm T3 rfl hb.1 e2 hA) (evArgsC (ev_mm T3 rfl hb.1 e3 hA) (evArgsC (ev_mm T3 rfl hb.1 e4 hA) evArgs0)))))) ?_).mono ?_
      · rintro vs h ⟨_, _, rfl, _, _, _, rfl, _, _, _, rfl, _, _, _, rfl, _, _, _, rfl, _, _, _, rfl, _, rfl⟩; rw [sizeLine_eq]; simp
      · rintro a R' _ ⟨l, _, rfl, hl, _, _, rfl, rfl, _, _, rfl, rfl, _, _, rfl, rfl, _, _, rfl, rfl, _, _, rfl, rfl, _, _, rfl, rfl, rfl⟩
        refine ⟨l, _, rfl, hl, ?_⟩
        have d : dueO r r' = [some (rawEq r r'), some (!rawEq r r'), some c1, some c2, some c3, some c4] := by
          simp only [dueO, askB, e1, e2, e3, e4, rawEq_some]
        rw [d]
        exact .cons rfl (.cons rfl (.cons rfl (.cons rfl (.cons rfl (.cons rfl .nil)))))
    rintro v4 s4 R4 f4 hR4 hdue4
    exact wpAny_execs_nil (hQ s4 R4 _ v4 f4 (hR13.trans hR4) upd_same hdue4 ((upd_ne (by decide)).trans hh2) ((upd_ne (by decide)).trans hc2))
  · rw [if_neg (by
      intro z
      simp only [Bool.and_eq_true, decide_eq_true_eq, and_true] at z
      exact hb ⟨z.1, z.2⟩)]
    refine wpAny_execs_nil (hQ s3 R3 m2 v f3 hR13 hd2 ?_ hh2 hc2)
    obtain ⟨l, vs, rfl, hl, hp⟩ := hdue
    refine ⟨l, vs, rfl, isList_sub hl hR3, ?_⟩
    have nn : ∀ op, isEq op = false → rawB op r r' = none := by
      intro op ho
      by_cases h : r.ty = r'.ty
      · exact rawB_nn h (Classical.byContradiction fun q => hb ⟨h, q⟩) ho
      · exact rawB_ne h ho
    have d : dueO r r' = [some (rawEq r r'), some (!rawEq r r'), none, none, none, none] := by
      simp only [dueO, askB, nn .Lt rfl, nn .LtE rfl, nn .GtE rfl, nn .Gt rfl, rawEq_some]
    rw [d]; exact hp
end
end Mine

/-! E4 -/
namespace Mine

/-- the row and what its things hold -/
structure Cx (R : Heap) (n : Nat) (dr dh : Addr) (rows helds : List Value) : Prop where
  lr : R.IsList dr rows.toArray
  lh : R.IsList dh helds.toArray
  nr : rows.length = n
  nh : helds.length = n
  few : n < 100
  one : ∀ i, i < n → ∃ a v r d, rows[i]? = some a ∧ helds[i]? = some v ∧ Nest R d a r ∧ d ≤ 6 ∧ r.At v ∧ r.small
theorem Cx.sub {R R' : Heap} {n : Nat} {dr dh : Addr} {rows helds : List Value} (x : Cx R n dr dh rows helds) (s : Sub R R') : Cx R' n dr dh rows helds :=
  { x with lr := isList_sub x.lr s, lh := isList_sub x.lh s, one := fun i h => let ⟨a, v, r, d, e1, e2, e3, e4⟩ := x.one i h; ⟨a, v, r, d, e1, e2, e3.sub s, e4⟩ }

section
variable {w : World} {A : Around} {K : Frag} {s₁ s : Shared} {B R : Heap} {L fa : Addr} {off wf : List Addr} {WV : Array Value → View} {m cm : MS} {ps : Array Value}
  {dr dh : Addr} {rows helds : List Value} {i j n : Nat} {a b : Value} {d e : Nat} {r r' : Raw} {Q : Flow → Shared → Prop} {E : Value → Shared → Prop}

theorem body_told (Y : KQ K) (Z : KN K) (T : KT K) (f : FS s₁ B (lawEnv L fa (.ref 115)) off wf (WV ps) R m cm s) (H : LamG K R) (TW : TabW WV off wf) (hF : ¬ Frame (lawEnv L fa (.ref 115)) 113) (TR : TabR R ps)
    (rm : Room A 20) (hA : A.frames = some [lawEnv L fa (.ref 115)]) (P : Pair2 R cm dr rows i j a b d e r r') {v : Value} (hd : m "due" = some v) (hdue : DueP r r' v R)
    (hQ : ∀ s' R' ps' m', FS s₁ B (lawEnv L fa (.ref 115)) off wf (WV ps') R' m' cm s' → Sub R R' → TabR R' ps' → m' "held" = m "held" → m' "chains" = m "chains" → Q .next s') :
    wpAny (model prog2 w) A (execs (jBody.drop 6) (lawEnv L fa (.ref 115))) Q E s := by
  refine wpAny_execs_cons (wpAny_Assign_Name (wpAny_List (wpAny_items_cons ?_)) rfl)
  refine told_one Y Z T f H TW hF TR rm hA rfl P fun v1 s1 R1 ps1 f1 hR1 TR1 h1 => wpAny_items_cons ?_
  refine told_one Y Z T f1 (H.sub hR1) TW hF TR1 rm hA rfl (P.sub hR1) fun v2 s2 R2 ps2 f2 hR2' TR2 h2_told => wpAny_items_cons ?_
  have hR2 := hR1.trans hR2'
  refine told_one Y Z T f2 (H.sub hR2) TW hF TR2 rm hA rfl (P.sub hR2) fun v3 s3 R3 ps3 f3 hR3' TR3 h3 => wpAny_items_cons ?_
  have hR3 := hR2.trans hR3'
  refine told_one Y Z T f3 (H.sub hR3) TW hF TR3 rm hA rfl (P.sub hR3) fun v4 s4 R4 ps4 f4 hR4' TR4 h4 => wpAny_items_cons ?_
  have hR4 := hR3.trans hR4'
  refine told_one Y Z T f4 (H.sub hR4) TW hF TR4 rm hA rfl (P.sub hR4) fun v5 s5 R5 ps5 f5 hR5' TR5 h5 => wpAny_items_cons ?_
  have hR5 := hR4.trans hR5'
  refine told_one Y Z T f5 (H.sub hR5) TW hF TR5 rm hA rfl (P.sub hR5) fun v6 s6 R6 ps6 f6 hR6' TR6 h6 => wpAny_items_nil ⟨?_, ?_⟩
  · rw [sizeLine_eq]; simp
  have hR6 := hR5.trans hR6'
  have k : Keeps s6 { s6 with heap := s6.heap.push { cls := .type "list", data := .seq [v1, v2, v3, v4, v5, v6].toArray } } := keeps_mk (tk := s6.toks) ((Sub.refl _).push _)
  have f7 := f6.step k f6.tok
  have hR7' := sub_fr f6.sub k
  have hl : (fr R6 s6 { s6 with heap := s6.heap.push { cls := .type "list", data := .seq [v1, v2, v3, v4, v5, v6].toArray } }).IsList s6.heap.objs.size [v1, v2, v3, v4, v5, v6].toArray := by
    obtain ⟨o, ho, q⟩ := isList_push s6.heap [v1, v2, v3, v4, v5, v6]
    exact ⟨o, fr_get.mpr ⟨ho, .inr (fresh_none _ (Nat.le_refl _))⟩, q⟩
  have hR7 := hR6.trans hR7'
  refine f7.storeL rfl fun s8 f8 => ?_
  obtain ⟨l, vs, rfl, hl2, hp⟩ := hdue
  refine wpAny_execs_cons (f8.test (b := false) ?_ ?_)
  · refine evTest (evLL upd_same) (evLL ((upd_ne (by decide)).trans hd)) ?_
    rintro a b R2 h2 rfl rfl
    exact ev_ne_told (isList_sub hl h2) (isList_sub hl2 (hR7.trans h2)) (.cons h1 (.cons h2_told (.cons h3 (.cons h4 (.cons h5 (.cons h6 .nil)))))) hp rm.u
  intro s9 R9 f9 hR9
  simp only [Bool.false_eq_true, if_false]
  exact wpAny_execs_nil (wpAny_execs_nil (hQ s9 R9 ps6 _ f9 (hR7.trans hR9) ((TR6.sub hR7').sub hR9) (upd_ne (by decide)) (upd_ne (by decide))))

theorem Nest.isi {V : View} {h : Heap} {v : Value} (Y : KQ K) (X : K.In h) (x : Nest h d v r) : Ev prog2 w A V h (call (.builtin "isinstance") [v, .ref 88]) (Is (.bool (decide (d ≠ 0)))) := by
  cases x with
  | raw e => exact ev_isi_no Y X e.plain
  | wrap q _ => exact ev_isi_yes Y X q

theorem j_body (Y : KQ K) (Z : KN K) (T : KT K) (f : FS s₁ B (lawEnv L fa (.ref 115)) off wf (WV ps) R m cm s) (H : LamG K R) (TW : TabW WV off wf) (hF : ¬ Frame (lawEnv L fa (.ref 115)) 113) (TR : TabR R ps)
    (rm : Room A 20) (hA : A.frames = some [lawEnv L fa (.ref 115)]) (c : Cx R n dr dh rows helds) (hi : i < n) (hj : j < n) (hci : ∃ t, cm "i" = some (.int i t)) (hcj : ∃ t, cm "j" = some (.int j t)) (hr : cm "row" = some (.ref dr)) (hh : m "held" = some (.ref dh))
    (hQ : ∀ s' R' ps' m', FS s₁ B (lawEnv L fa (.ref 115)) off wf (WV ps') R' m' cm s' → Sub R R' → TabR R' ps' → m' "held" = m "held" → m' "chains" = m "chains" → Q .next s' ∧ Q .cont s') :
    wpAny (model prog2 w) A (execs jBody (lawEnv L fa (.ref 115))) Q E s := by
  obtain ⟨a, v, r, d, ea, ev, na, hd, hv, hsm⟩ := c.one i hi
  obtain ⟨b, v', r', e, eb, ev', nb, he, hv', hsm'⟩ := c.one j hj
  obtain ⟨ti, hci⟩ := hci
  obtain ⟨tj, hcj⟩ := hcj
  have hfew := c.few
  have hnr := c.nr
  have hnh := c.nh
  have hu : A.units + 64 < cLine := by have := rm.units; omega
  refine wpAny_execs_cons (f.test (b := !decide (d ≠ 0)) ?_ ?_)
  · refine evNot (evTestV (evCallB (evNameB H.G (Y.nB "isinstance" (by simp)) boot_isinstance (by decide) rfl rfl rfl rfl) (evA2 (v := a) (v' := .ref 88) ?_ (evNameG H.G Y.nQ rfl rfl rfl)) ?_))
    · refine evSub (evLC hr) (evLC hci) ?_
      rintro x y R2 h2 rfl rfl; exact ev_at (isList_sub c.lr h2) ea (by omega)
    · intro vs R1 h1 p; cases p
      exact (na.sub h1).isi Y (H.G.sub h1).k
  intro s1 R1 f1 hR1
  by_cases h0 : d = 0
  · rw [if_pos (by simp [h0])]
    exact wpAny_execs_cons (wpAny_Continue (hQ s1 R1 ps m f1 hR1 (TR.sub hR1) rfl rfl).2)
  rw [if_neg (by simp [h0])]
  refine wpAny_execs_nil ?_
  have kd : ∀ {x : PySem.Str} {p1 p2 p3 p4 p5 : Pos} {k : Nat} {tk : Tok} {u : Value} {ru : Raw} {R' : Heap} {m' : MS}, Sub R R' → m' "held" = some (.ref dh) → cm x = some (.int k tk) → helds[k]? = some u → ru.At u → ru.small →
      (∀ (A' : Around) (R'' : Heap) (p : Pos), Ev prog2 w A' (fv (lawEnv L fa (.ref 115)) m' cm (WV ps)) R'' (eval (.Name x p) (lawEnv L fa (.ref 115))) (Is (.int k tk))) →
      (hse : starEach [.Subscript (.Name "held" p2) (.Name x p3) p4] (lawEnv L fa (.ref 115)) = [(false, eval (.Subscript (.Name "held" p2) (.Name x p3) p4) (lawEnv L fa (.ref 115)))]) →
      (hsb : subscripted (.Name x p3) false (.ref dh) (.int k tk) = operate [.ref dh, .int k tk] (getItem (.ref dh) (.int k tk))) →
      Ev prog2 w A (fv (lawEnv L fa (.ref 115)) m' cm (WV ps)) R' (eval (.Call (.Name "_law_kind" p1) [.Subscript (.Name "held" p2) (.Name x p3) p4] [] p5) (lawEnv L fa (.ref 115))) (KindP ru) := by
    intro x p1 p2 p3 p4 p5 k tk u ru R' m' hR' hm' hcx hu hru hsru hN hse hsb
    refine evCallK (f := .ref 104) (H.G.sub hR').k T.kindK (evNameG (H.G.sub hR') T.kindN rfl rfl rfl) (evA1 (v := u) ?_ hse) ?_ hse rfl
    · refine evSub (evLL hm') (hN _ _ _) ?_
      rintro x y R2 h2 rfl rfl; exact ev_at (isList_sub (c.sub hR').lh h2) hu (by omega) hsb
    · intro vs R1 h1 p; cases p
      exact kind_call Y T ((H.G.sub hR').sub h1) (rm.le (by omega)) hru hsru
  refine wpAny_execs_cons (Assign_Tuple (f1.ev (kd hR1 hh hci ev hv hsm (fun _ _ _ => evLC hci) rfl rfl) ?_))
  rintro _ s2 R2 f2 hR2 ⟨t, ks, mv, rfl, ht, hks, hmv⟩
  refine f2.pair rfl rm.handled ht (.l rfl) (.l rfl) ?_
  intro s3 R3 f3 hR3
  have hR13 := (hR1.trans hR2).trans hR3
  refine wpAny_execs_cons (Assign_Tuple (f3.ev (kd hR13 (((upd_ne (by decide)).trans (upd_ne (by decide))).trans hh) hcj ev' hv' hsm' (fun _ _ _ => evLC hcj) rfl rfl) ?_))
  rintro _ s4 R4 f4 hR4 ⟨t', ks', mv', rfl, ht', hks', hmv'⟩
  refine f4.pair rfl rm.handled ht' (.l rfl) (.l rfl) ?_
  intro s5 R5 f5 hR5
  have hR15 := (hR13.trans hR4).trans hR5
  have T2 : Two R5 (upd (upd (upd (upd m "kind" (.str (kindS r) ks)) "mine" mv) "other" (.str (kindS r') ks')) "its" mv') r r' :=
    { kind := ⟨ks, rfl⟩, mine := ⟨mv, rfl, hmv.sub ((hR3.trans hR4).trans hR5)⟩, other := ⟨ks', rfl⟩, its := ⟨mv', rfl, hmv'.sub hR5⟩ }
  have mh : upd (upd (upd (upd m "kind" (.str (kindS r) ks)) "mine" mv) "other" (.str (kindS r') ks')) "its" mv' "held" = m "held" := rfl
  have mc : upd (upd (upd (upd m "kind" (.str (kindS r) ks)) "mine" mv) "other" (.str (kindS r') ks')) "its" mv' "chains" = m "chains" := rfl
  refine body_due (rest := jBody.drop 6) f5 T2 hu ?_
  intro s6 R6 m6 vd f6 hR6 hd6 hdue hh6 hc6
  have hR16 := hR15.trans hR6
  have hna : Nest R6 (d - 1 + 1) a r := by
    have : d - 1 + 1 = d := by omega
    rw [this]; exact na.sub hR16
  have P : Pair2 R6 cm dr rows i j a b (d - 1) e r r' :=
    { ci := ⟨ti, hci⟩, cj := ⟨tj, hcj⟩, cr := hr, list := isList_sub c.lr hR16, few := by omega, ga := ea, gb := eb, na := hna, nb := nb.sub hR16, d6 := by omega, e6 := he }
  exact body_told Y Z T f6 (H.sub hR16) TW hF (TR.sub hR16) rm hA P hd6 hdue fun s7 R7 ps7 m7 f7 hR7 TR7 hh7 hc7 => (hQ s7 R7 ps7 m7 f7 (hR16.trans hR7) TR7 (hh7.trans (hh6.trans mh)) (hc7.trans (hc6.trans mc))).1
end
end Mine

/-! E5 -/
namespace Mine

section
variable {prog : Program} {w : World} {A : Around} {K : Frag} {V : View} {R : Heap} {env : Env}
/-- `range(len(x))` -/
theorem ev_rl {x : PySem.Str} {p1 p2 p3 p4 p5 : Pos} {d : Addr} {vs : List Value} (Y : KQ K) (G : Gd K R) (hN : Ev prog w A V R (eval (.Name x p3) env) (Is (.ref d))) (hl : R.IsList d vs.toArray) (hz : vs.length < 1000)
    (hg : env.globals = mainGlobals) (hb : env.builtins = builtinsNs) (hk : env.scope.kind = .function) (h1 : env.kindOf "range" = some .globalImplicit) (h2 : env.kindOf "len" = some .globalImplicit)
    (hse : starEach [.Name x p3] env = [(false, eval (.Name x p3) env)] := by rfl)
    (hse2 : starEach [.Call (.Name "len" p2) [.Name x p3] [] p4] env = [(false, eval (.Call (.Name "len" p2) [.Name x p3] [] p4) env)] := by rfl)
    : Ev prog w A V R (eval (.Call (.Name "range" p1) [.Call (.Name "len" p2) [.Name x p3] [] p4] [] p5) env) (IsR 0 vs.length) := by
  refine evCallT (evNameB G (Y.nB "range" (by simp)) boot_range (by decide) hg hb hk h1) (evArgsC (P1 := IsI vs.length) ?_ evArgs0 hse2) ?_ hse2 rfl
  · refine evCallB (evNameB G (Y.nB "len" (by simp)) boot_len (by decide) hg hb hk h2) (evA1 hN hse) ?_ hse rfl
    intro vs' R1 hR1 p; cases p
    exact ev_len (isList_sub hl hR1) (by omega)
  · rintro vs' R1 hR1 ⟨v, vs2, rfl, ⟨t, rfl, _⟩, e⟩
    cases e
    exact ev_range1
theorem it_rl {v : Value} {n : Nat} (hh : A.handled = none) (hr : IsR 0 n v R) (hn : n < 1000) : Iters prog w A R v n (fun i v => ∃ t, v = .int i t) := by
  have h := it_range (prog := prog) (w := w) (n := n) hh hr (by decide) (by decide) (by omega) (by omega) (by split <;> omega)
  have e : (fun (i : Nat) (v : Value) => ∃ t, v = Value.int (0 + (i : Int)) t) = fun i v => ∃ t, v = .int i t := by funext i v; simp
  rw [e] at h; exact h
theorem ev_sub {a b : Int} {t u : Tok} : Ev prog w A V R (binaryOp .Sub (.int a t) (.int b u)) (IsI (a - b)) := fun Q E s _ _ ht hQ => PySem.P.sub_int (hQ _ _ keeps_tok (Nat.succ_pos _) (upI ht))
theorem evTests1 {e : Expr} {b : Bool} (x : Ev prog w A V R (isTrue e env (eval e env)) (Is b)) : Ev prog w A V R (testsOf [e] env) (Is b) := fun Q E s hs hv ht hq => by
  unfold testsOf
  rw [List.forIn_cons, if_pos rfl]
  refine wpAny_bind (wpAny_bind (x.use hs hv ht fun a s' k t p => ?_))
  cases p
  refine wpAny_pure ?_
  dsimp only
  rw [List.forIn_nil]
  exact wpAny_pure (hq _ s' k t upIs)
end

theorem TabW.and {WV : Array Value → View} {off wf offx fpx : List Addr} {Wx : View} (t : TabW WV off wf) (hx : Only Wx fpx) (hd : ∀ a ∈ off, a ∉ fpx) : TabW (fun ps => (WV ps).and Wx) (offx ++ off) (fpx ++ wf) where
  off := List.mem_append_right _ t.off
  get := fun ps h p => t.get ps h p.1
  set := fun ps ps' h h' p k e => ⟨t.set ps ps' h h' p.1 (fun a ha hne o q => k a (List.mem_append_right _ ha) hne o q) e, hx h h' (fun a ha o q => k a (List.mem_append_left _ ha) (fun z => hd 113 t.off (z ▸ ha)) o q) p.2⟩
  only := fun ps => only_and (t.only ps) hx

/-- a finished chain -/
def ChainOk (R : Heap) (c : Value) : Prop := ∃ (l : Addr) (vs : List Value), c = .ref l ∧ R.IsList l vs.toArray ∧ vs.length < 100 ∧ ∀ k, k + 1 < vs.length → ∃ q u, vs[k + 1]? = some (.ref q) ∧ vs[k]? = some u ∧ QN R q u ∧ handedIn u = true ∧ Selfsame u
theorem ChainOk.sub {R R' : Heap} {c : Value} (x : ChainOk R c) (s : Sub R R') : ChainOk R' c :=
  let ⟨l, vs, e1, e2, e3, e4⟩ := x
  ⟨l, vs, e1, isList_sub e2 s, e3, fun k hk => let ⟨q, u, a1, a2, a3, a4⟩ := e4 k hk; ⟨q, u, a1, a2, a3.sub s, a4⟩⟩

section
variable {w : World} {A : Around} {K : Frag} {s₁ s : Shared} {B R : Heap} {L fa : Addr} {off wf : List Addr} {WV : Array Value → View} {m cm : MS} {ps : Array Value}
  {dr dh dc : Addr} {rows helds chains : List Value} {i n : Nat} {Q : Flow → Shared → Prop} {E : Value → Shared → Prop}

theorem j_loop (Y : KQ K) (Z : KN K) (T : KT K) (f : FS s₁ B (lawEnv L fa (.ref 115)) off wf (WV ps) R m cm s) (H : LamG K R) (TW : TabW WV off wf) (hF : ¬ Frame (lawEnv L fa (.ref 115)) 113) (TR : TabR R ps)
    (rm : Room A 20) (hA : A.frames = some [lawEnv L fa (.ref 115)]) (c : Cx R n dr dh rows helds) (hi : i < n) (hci : ∃ t, cm "i" = some (.int i t)) (hr : cm "row" = some (.ref dr)) (hh : m "held" = some (.ref dh))
    (hQ : ∀ s' R' ps' m' cm', FS s₁ B (lawEnv L fa (.ref 115)) off wf (WV ps') R' m' cm' s' → Sub R R' → TabR R' ps' → m' "held" = m "held" → m' "chains" = m "chains" → cm' "row" = some (.ref dr) → Q .next s') :
    wpAny (model prog2 w) A (exec (iBody.getD 0 (.Pass default)) (lawEnv L fa (.ref 115))) Q E s := by
  have hnr := c.nr
  have hfew := c.few
  refine f.forIter2 (ι := Array Value) (W := WV) (n := n) (P := fun i v => ∃ t, v = .int i t) (PX := IsR 0 rows.length)
    (J := fun _ ps R m' cm' => TabR R ps ∧ m' "held" = m "held" ∧ m' "chains" = m "chains" ∧ (∃ t, cm' "i" = some (.int i t)) ∧ cm' "row" = some (.ref dr))
    (D := fun ps R m' cm' => TabR R ps ∧ m' "held" = m "held" ∧ m' "chains" = m "chains" ∧ cm' "row" = some (.ref dr)) (T := fun v m m' cm cm' => m' = m ∧ cm' = upd cm "j" v)
    (ev_rl Y H.G (evLC hr) c.lr (by omega) rfl rfl rfl rfl rfl) ?hI TW.only ?hasg ?hJ ⟨TR, rfl, rfl, hci, hr⟩ ?hbody ?hend ?hdone
  case hI =>
    intro xv R1 h1 hx
    rw [hnr] at hx; exact it_rl rm.handled hx (by omega)
  case hasg =>
    intro off' wf' W' R' m' cm' s' j v f' hR' hP Q' E' h
    exact f'.bindN rfl (.c rfl rfl) fun s'' f'' => h s'' R' _ _ f'' (Sub.refl _) ⟨rfl, rfl⟩
  case hJ => rintro j z R' R'' m' cm' hs ⟨h1, h2⟩; exact ⟨h1.sub hs, h2⟩
  case hbody =>
    rintro Wx offx fpx z j v R2 ma cma m2 cm2 s2 hj ⟨tj, rfl⟩ ⟨TR2, hh2, hc2, ⟨ti, hi2⟩, hr2⟩ ⟨rfl, rfl⟩ hR2 hx hoff f2 Q' E' h hb
    refine j_body (WV := fun ps => (WV ps).and Wx) Y Z T f2 (H.sub hR2) (TW.and hx hoff) hF TR2 rm hA (c.sub hR2) hi hj ⟨ti, (upd_ne (by decide)).trans hi2⟩ ⟨tj, upd_same⟩ ((upd_ne (by decide)).trans hr2) (hh2.trans hh) ?_
    intro s3 R3 ps3 m3 f3 hR3 TR3 hh3 hc3
    exact h s3 ps3 R3 m3 _ f3 hR3 ⟨TR3, hh3.trans hh2, hc3.trans hc2, ⟨ti, (upd_ne (by decide)).trans hi2⟩, (upd_ne (by decide)).trans hr2⟩
  case hend => rintro z R' m' cm' ⟨h1, h2, h3, h4, h5⟩; exact ⟨h1, h2, h3, h5⟩
  case hdone =>
    rintro z R2 m2 cm2 s2 f2 hR2 ⟨h1, h2, h3, h5⟩
    exact hQ s2 R2 z m2 cm2 f2 hR2 h1 h2 h3 h5

theorem i_loop (Y : KQ K) (Z : KN K) (T : KT K) (f : FS s₁ B (lawEnv L fa (.ref 115)) off wf (WV ps) R m cm s) (H : LamG K R) (TW : TabW WV off wf) (hF : ¬ Frame (lawEnv L fa (.ref 115)) 113) (TR : TabR R ps)
    (rm : Room A 20) (hA : A.frames = some [lawEnv L fa (.ref 115)]) (c : Cx R n dr dh rows helds) (hr : cm "row" = some (.ref dr)) (hh : m "held" = some (.ref dh))
    (hQ : ∀ s' R' ps' m' cm', FS s₁ B (lawEnv L fa (.ref 115)) off wf (WV ps') R' m' cm' s' → Sub R R' → m' "chains" = m "chains" → Q .next s') :
    wpAny (model prog2 w) A (exec ((bodyOf lawD).getD 3 (.Pass default)) (lawEnv L fa (.ref 115))) Q E s := by
  have hnr := c.nr
  have hfew := c.few
  refine f.forIter (ι := Array Value) (W := WV) (n := n) (P := fun i v => ∃ t, v = .int i t) (PX := IsR 0 rows.length)
    (J := fun _ ps R m' cm' => TabR R ps ∧ m' "held" = m "held" ∧ m' "chains" = m "chains" ∧ cm' "row" = some (.ref dr)) (T := fun v m m' cm cm' => m' = m ∧ cm' = upd cm "i" v)
    (ev_rl Y H.G (evLC hr) c.lr (by omega) rfl rfl rfl rfl rfl) ?hI TW.only ?hasg ?hJ ⟨TR, rfl, rfl, hr⟩ ?hbody ?hdone
  case hI =>
    intro xv R1 h1 hx
    rw [hnr] at hx; exact it_rl rm.handled hx (by omega)
  case hasg =>
    intro off' wf' W' R' m' cm' s' j v f' hR' hP Q' E' h
    exact f'.bindN rfl (.c rfl rfl) fun s'' f'' => h s'' R' _ _ f'' (Sub.refl _) ⟨rfl, rfl⟩
  case hJ => rintro j z R' R'' m' cm' hs ⟨h1, h2⟩; exact ⟨h1.sub hs, h2⟩
  case hbody =>
    rintro Wx offx fpx z i v R2 ma cma m2 cm2 s2 hi ⟨ti, rfl⟩ ⟨TR2, hh2, hc2, hr2⟩ ⟨rfl, rfl⟩ hR2 hx hoff f2 Q' E' h
    refine wpAny_execs_cons (j_loop (WV := fun ps => (WV ps).and Wx) Y Z T f2 (H.sub hR2) (TW.and hx hoff) hF TR2 rm hA (c.sub hR2) hi ⟨ti, upd_same⟩ ((upd_ne (by decide)).trans hr2) (hh2.trans hh) ?_)
    intro s3 R3 ps3 m3 cm3 f3 hR3 TR3 hh3 hc3 hr3
    exact wpAny_execs_nil (h s3 ps3 R3 m3 _ f3 hR3 ⟨TR3, hh3.trans hh2, hc3.trans hc2, hr3⟩)
  case hdone =>
    rintro z R2 m2 cm2 s2 f2 hR2 ⟨h1, h2, h3, h5⟩
    exact hQ s2 R2 z m2 cm2 f2 hR2 h3

/-- behind all of it each holds the very thing that it was given -/
theorem last_loop {W : View} (Y : KQ K) (f : FS s₁ B (lawEnv L fa (.ref 115)) off wf W R m cm s) (G : Gd K R) (rm : Room A 4) (hc : m "chains" = some (.ref dc)) (hl : R.IsList dc chains.toArray) (hok : ∀ c ∈ chains, ChainOk R c)
    (hQ : ∀ s' R' cm', FS s₁ B (lawEnv L fa (.ref 115)) off wf W R' m cm' s' → Sub R R' → Q .next s') :
    wpAny (model prog2 w) A (exec ((bodyOf lawD).getD 4 (.Pass default)) (lawEnv L fa (.ref 115))) Q E s := by
  refine f.forIter (ι := Unit) (W := fun _ => W) (z0 := ()) (n := chains.length) (P := fun i v => chains[i]? = some v) (PX := Is (.ref dc)) (J := fun _ _ _ m' _ => m' = m) (T := fun v m m' cm cm' => m' = m ∧ cm' = upd cm "chain" v)
    (evLL hc) ?hI (fun _ => f.only) ?hasg ?hJ rfl ?hbody ?hdone
  case hI => rintro xv R1 h1 rfl; exact it_list rm.handled (isList_sub hl h1)
  case hasg =>
    intro off' wf' W' R' m' cm' s' j v f' hR' hP Q' E' h
    exact f'.bindN rfl (.c rfl rfl) fun s'' f'' => h s'' R' _ _ f'' (Sub.refl _) ⟨rfl, rfl⟩
  case hJ => intro j z R' R'' m' cm' hs h1; exact h1
  case hbody =>
    rintro Wx offx fpx z i v R2 ma cma m2 cm2 s2 hi hv rfl ⟨rfl, rfl⟩ hR2 hx hoff f2 Q' E' h
    obtain ⟨l, vs, rfl, hvl, hfew, hch⟩ := (hok v (List.mem_of_getElem? hv)).sub hR2
    have G2 := G.sub hR2
    refine wpAny_execs_cons (f2.test (b := false) ?_ ?_)
    · refine evTest (P2 := IsL []) (evComp1 (n := vs.length - 1) (P := fun i v => ∃ t, v = .int (1 + i) t) (PX := IsR 1 vs.length) (fun _ => false) (fun _ _ _ => True) rfl (by decide) rfl (by decide) rfl ?hit ?hI2 ?hz2 ?ht2 ?he2) ((evList evArgs0 (by rintro vs h rfl; exact Nat.zero_le _)).mono ?_) ?_
      case hit =>
        refine evCallT (evNameB G2 (Y.nB "range" (by simp)) boot_range (by decide) rfl rfl rfl rfl) (evArgsC evInt (evArgsC (P1 := IsI vs.length) ?_ evArgs0)) ?_
        · refine evCallB (evNameB G2 (Y.nB "len" (by simp)) boot_len (by decide) rfl rfl rfl rfl) (evA1 (evLC upd_same)) ?_
          intro vs' R1 hR1 p; cases p
          exact ev_len (isList_sub hvl hR1) (by omega)
        · rintro vs' R1 hR1 ⟨_, _, rfl, ⟨t, rfl, _⟩, _, _, rfl, ⟨t', rfl, _⟩, rfl⟩
          exact ev_range2
      case hI2 =>
        intro xv R1 h1 hr
        exact it_range rm.handled hr (by decide) (by decide) (by omega) (by omega) (by split <;> omega)
      case hz2 => rw [sizeLine_eq]; omega
      case ht2 =>
        rintro C k u mc R1 h1 hk ⟨t, rfl⟩ hu
        obtain ⟨q, u, e1, e2, hq, hh, hss⟩ := hch k (by omega)
        have ek : (1 + (k : Int)).toNat = k + 1 := by omega
        have e1' : vs[(1 + (k : Int)).toNat]? = some (.ref q) := by rw [ek]; exact e1
        refine evTests1 (evTest (P1 := Is u) (P2 := Is u) ?_ ?_ ?_)
        · refine evAttr (P1 := Is (.ref q)) (evSub (evCC upd_same) (evCL hu) ?_) ?_
          · rintro x y R3 h3 rfl rfl
            exact ev_item (isList_sub hvl (h1.trans h3)) (by omega) e1' (by omega)
          · rintro x R3 h3 rfl
            exact ev_text Y (G2.sub (h1.trans h3)).k (hq.sub (h1.trans h3)) hh
        · refine evSub (evCC upd_same) (evBin (P := IsI k) (evCL hu) evInt ?_) ?_
          · rintro x y R3 h3 rfl ⟨t', rfl, _⟩
            have e : (1 + (k : Int)) - 1 = k := by omega
            have := ev_sub (prog := prog2) (w := w) (A := A) (V := (fv (lawEnv L fa (.ref 115)) m2 (upd cma "chain" (.ref l)) (W.and Wx)).and (View.ns C mc)) (R := R3) (a := 1 + (k : Int)) (b := 1) (t := t) (u := t')
            rw [e] at this; exact this
          · rintro x y R3 h3 rfl ⟨t', rfl, _⟩
            exact ev_at (isList_sub hvl (h1.trans h3)) e2 (by omega)
        · rintro x y R3 h3 rfl rfl
          exact ev_is_not hss
      case he2 => intro C k u mc R1 h1 hk hP hm hf; cases hf
      · rintro a R' _ ⟨l', vs', rfl, hl', rfl⟩; exact ⟨l', rfl, hl'⟩
      · rintro a b R3 h3 ⟨l1, ys, rfl, hl1, hp⟩ ⟨l2, rfl, hl2⟩
        have : ys = [] := by
          have := hp.length
          rw [List.filter_eq_nil_iff.mpr (by simp)] at this
          exact List.eq_nil_of_length_eq_zero this.symm
        subst this
        exact ev_ne_nil hl1 hl2 rm.u
    intro s3 R3 f3 hR3
    simp only [Bool.false_eq_true, if_false]
    exact wpAny_execs_nil (wpAny_execs_nil (h s3 () R3 _ _ f3 hR3 rfl))
  case hdone =>
    rintro z R2 m2 cm2 s2 f2 hR2 rfl
    exact hQ s2 R2 cm2 f2 hR2
end
end Mine

/-! By1 -/
namespace Mine
section
variable {prog : Program} {w : World} {A : Around} {E : Value → Shared → Prop} {s : Shared}

/-- nothing left to take: the bytes are made, with the next token -/
theorem by_end {RR : Result → Shared → Prop} {l I S : Addr} {xs : Array Value} {b : Array UInt8} {i : Nat} (hh : A.handled = none) (hIS : I ≠ S) (hl : s.heap.IsList l xs) (hit : s.heap.IsListIter I l i) (hi : xs.size ≤ i) (hb : b.size ≤ sizeLine)
    (hS : s.heap.get? S = some { cls := .type "bytearray", data := .bytearray b })
    (hR : ∀ h', (∀ c o, c ≠ I → s.heap.get? c = some o → h'.get? c = some o) → RR (.ok (.ret (.bytes b s.toks))) { s with heap := h', toks := s.toks + 1 }) :
    codeAny (model prog w) A (.builtin "bytes.__new__.loop" ⟨[.type "bytes", .ref I, .ref S], []⟩) RR s := by
  refine codeAny_builtin F.bm_entry_loop ?_
  rw [Around.under_plainId F.bm_plain_loop _]
  show wpAny _ A.in1 (pyNext (.ref I) >>= _) _ _ s
  refine wpAny_bind (wpAny_pyNext_list_end hh hit hl (by simpa using hi) fun h' he => ?_)
  have hS' : h'.get? S = some { cls := .type "bytearray", data := .bytearray b } := he S _ (Ne.symm hIS) hS
  refine wpAny_bind ?_
  unfold Builtin.Bytes.payload Builtin.Bytes.payload?
  refine wpAny_bind (wpAny_bind (wpAny_load hS' ?_))
  refine wpAny_pure (wpAny_pure ?_)
  refine wpAny_bind (wpAny_mkBytes ?_ hb)
  show wpAny _ _ (if (Value.type "bytes" == Value.type "bytes") = true then _ else _) _ _ _
  refine bm_if_true (by decide) ?_
  first
    | exact wpAny_pure (hR h' fun b o hb e => he b o hb e)
    | exact wpAny_bind (wpAny_pure (wpAny_pure (hR h' fun b o hb e => he b o hb e)))

/-- one number is taken -/
theorem by_item {RR : Result → Shared → Prop} {l I S : Addr} {xs : Array Value} {b : Array UInt8} {i : Nat} {n : Int} {t : Tok} (hIS : I ≠ S) (hlI : l ≠ I) (hlS : l ≠ S) (hl : s.heap.IsList l xs) (hit : s.heap.IsListIter I l i) (hx : xs[i]? = some (.int n t)) (h0 : 0 ≤ n) (h1 : n < 256) (hb : b.size < sizeLine)
    (hS : s.heap.get? S = some { cls := .type "bytearray", data := .bytearray b })
    (hR : ∀ h', h'.IsList l xs → h'.IsListIter I l (i + 1) → h'.get? S = some { cls := .type "bytearray", data := .bytearray (b.push n.toNat.toUInt8) } → (∀ c o, c ≠ I → c ≠ S → s.heap.get? c = some o → h'.get? c = some o) →
      codeAny (model prog w) A (.builtin "bytes.__new__.loop" ⟨[.type "bytes", .ref I, .ref S], []⟩) RR { s with heap := h' }) :
    codeAny (model prog w) A (.builtin "bytes.__new__.loop" ⟨[.type "bytes", .ref I, .ref S], []⟩) RR s := by
  refine codeAny_builtin F.bm_entry_loop ?_
  rw [Around.under_plainId F.bm_plain_loop _]
  show wpAny _ A.in1 (pyNext (.ref I) >>= _) _ _ s
  refine wpAny_bind (wpAny_pyNext_list_item (x := .int n t) hit hl hx fun h' hit' hs => ?_)
  have hS' : h'.get? S = some { cls := .type "bytearray", data := .bytearray b } := (hs.2 S (Ne.symm hIS)).trans hS
  refine wpAny_bind (wpAny_holding (wpAny_of_eq (rfl : asIndex (.int n t) = pure n) ?_))
  refine wpAny_bind (wpAny_letGo ?_)
  refine bm_if_false (by simp only [Bool.or_eq_false_iff, decide_eq_false_iff_not]; omega) ?_
  refine wpAny_bind ?_
  show wpAny _ _ (updateBytearray S (·.push n.toNat.toUInt8)) _ _ _
  unfold updateBytearray
  refine wpAny_bind (wpAny_load hS' ?_)
  show wpAny _ _ (update S (Obj.mapBytearray (·.push n.toNat.toUInt8)) >>= fun _ => lookBehind S) _ _ _
  refine wpAny_bind (wpAny_update hS' ?_)
  have hS₂ : (h'.update S (Obj.mapBytearray (·.push n.toNat.toUInt8))).get? S = some { cls := .type "bytearray", data := .bytearray (b.push n.toNat.toUInt8) } := Heap.get?_update_self (Obj.mapBytearray (·.push n.toNat.toUInt8)) hS' rfl
  refine wpAny_lookBehind hS₂ ?_ ?_
  · show (if (b.push n.toNat.toUInt8).size > sizeLine then some "bytearray:memory" else none) = none
    rw [if_neg]; rw [Array.size_push]; omega
  · refine wpAny_pure ⟨plainId_quiet F.bm_plain_loop _, hR _ ?_ ?_ hS₂ fun c o hI hS e => ?_⟩
    · exact (hl.extBut hs.extBut hlI).extBut (Heap.SameBut.update ..).extBut hlS
    · exact hit'.extBut (Heap.SameBut.update ..).extBut hIS
    · exact (Heap.get?_update_other _ _ (Ne.symm hS)).trans (hs.extBut c o hI e)

theorem new_one {l : Addr} {n : Int} {t : Tok} {Q : Value → Shared → Prop} (hh : A.handled = none) (hl : s.heap.IsList l #[.int n t]) (h0 : 0 ≤ n) (h1 : n < 256)
    (hQ : ∀ h', Sub s.heap h' → Q (.bytes #[n.toNat.toUInt8] s.toks) { s with heap := h', toks := s.toks + 1 }) :
    codeAny (model prog w) A (.call (.builtin "bytes.__new__") ⟨[.type "bytes", .ref l], []⟩) (wants Q E) s := by
  refine codeAny_of_tree ?_
  show wpAny _ A.in1 (do checkBuiltinCall "bytes.__new__" ⟨[.type "bytes", .ref l], []⟩; again (.builtin "bytes.__new__" ⟨[.type "bytes", .ref l], []⟩)) _ _ s
  refine wpAny_bind (wpAny_of_eq (F.bm_newCall _) (wpAny_pure ⟨plainId_quiet F.bm_plain _, codeAny_builtin F.bm_entry ?_⟩))
  rw [Around.under_plainId F.bm_plain _]
  have hT : s.TypeIs (.ref l) "list" := hl.typeIs
  obtain ⟨ol, hol, hoc, nl, hod⟩ := id hl
  unfold Builtin.«bytes.__new__»
  refine wpAny_bind (wpAny_of_eq (a := true) rfl (bm_if_false rfl (wpAny_bind (wpAny_of_eq F.bm_sub (bm_if_false rfl ?_)))))
  refine wpAny_bind (wpAny_of_eq (F.bm_bind _) (wpAny_bind (wpAny_of_eq (a := ()) rfl (wpAny_bind (wpAny_of_eq (a := ()) rfl (bm_if_false rfl ?_))))))
  refine wpAny_bind (wpAny_specialOf hT F.bm_no_bytes (wpAny_bind (wpAny_bind ?_)))
  show wpAny _ _ (load l >>= _) _ _ _
  refine wpAny_bind (wpAny_load hol ?_)
  rw [hod]
  refine wpAny_pure (wpAny_pure (bm_if_false rfl (wpAny_bind (wpAny_specialOf hT F.bm_no_index (bm_if_true rfl ?_)))))
  first
    | show wpAny _ _ (Builtin.Bytes.buffer? "bytes.__new__" (.ref l) true >>= _) _ _ _
    | (refine wpAny_bind ?_; show wpAny _ _ (Builtin.Bytes.buffer? "bytes.__new__" (.ref l) true >>= _) _ _ _)
  refine wpAny_bind ?_
  unfold Builtin.Bytes.buffer?
  refine wpAny_bind (wpAny_specialOf hT F.bm_no_buffer (wpAny_bind (wpAny_specialOf hT F.bm_no_buffer (wpAny_pure ?_))))
  refine wpAny_bind (wpAny_tryCatch (wpAny_pyIter_list hl ?_))
  have hl₁ : (s.heap.push { cls := .type "list_iterator", data := .fields #[.ref l, .int 0 0] }).IsList l #[.int n t] := hl.push _
  have hT₁ : ({ s with heap := s.heap.push { cls := .type "list_iterator", data := .fields #[.ref l, .int 0 0] } } : Shared).TypeIs (.ref l) "list" := Heap.IsList.typeIs (s := { s with heap := s.heap.push { cls := .type "list_iterator", data := .fields #[.ref l, .int 0 0] } }) hl₁
  refine wpAny_bind (wpAny_holding ?_)
  unfold Builtin.Bytes.lengthHint
  refine wpAny_bind (wpAny_specialOf hT₁ slot_list_len.lookup ?_)
  dsimp only
  rw [F.bm_split]
  dsimp only
  refine wpAny_bind (wpAny_isInstance hT₁ F.bm_sub_list (bm_if_false rfl (bm_if_true (by decide +kernel) (wpAny_pure (wpAny_bind ?_)))))
  unfold Builtin.Bytes.newBytearray
  refine wpAny_newObj_type ?_ (Nat.zero_le _)
  have hI : ((s.heap.push { cls := .type "list_iterator", data := .fields #[.ref l, .int 0 0] }).push { cls := .type "bytearray", data := .bytearray #[] }).IsListIter s.heap.objs.size l 0 :=
    ⟨_, Heap.get?_push_of_some _ (Heap.get?_push_size _ rfl), rfl, rfl⟩
  have hlt : l < s.heap.objs.size := Heap.lt_size hol
  have hsz : (s.heap.push { cls := .type "list_iterator", data := .fields #[.ref l, .int 0 0] }).objs.size = s.heap.objs.size + 1 := Heap.size_push _ _
  have ne1 : s.heap.objs.size ≠ (s.heap.push { cls := .type "list_iterator", data := .fields #[.ref l, .int 0 0] }).objs.size := by rw [hsz]; exact Nat.ne_of_lt (Nat.lt_succ_self _)
  have ne2 : l ≠ (s.heap.push { cls := .type "list_iterator", data := .fields #[.ref l, .int 0 0] }).objs.size := by rw [hsz]; exact Nat.ne_of_lt (Nat.lt_succ_of_lt hlt)
  have main : codeAny (model prog w) A (.builtin "bytes.__new__.loop" ⟨[.type "bytes", .ref s.heap.objs.size, .ref (s.heap.push { cls := .type "list_iterator", data := .fields #[.ref l, .int 0 0] }).objs.size], []⟩) (wants Q E)
      { s with heap := (s.heap.push { cls := .type "list_iterator", data := .fields #[.ref l, .int 0 0] }).push { cls := .type "bytearray", data := .bytearray #[] } } := by
    refine by_item (i := 0) (n := n) (t := t) ne1 (Nat.ne_of_lt hlt) ne2 (hl₁.push _) hI rfl h0 h1 (by rw [sizeLine_eq]; decide) (Heap.get?_push_size _ rfl) fun h' a1 a2 a3 a4 => ?_
    refine by_end (i := 1) hh ne1 a1 a2 (Nat.le_refl _) (by rw [sizeLine_eq]; exact (by decide : (1 : Nat) ≤ 16777216)) a3 fun h2 a5 => hQ h2 fun c o e => ?_
    have hc := Heap.lt_size e
    exact a5 c o (Nat.ne_of_lt hc) (a4 c o (Nat.ne_of_lt hc) (by rw [hsz]; exact Nat.ne_of_lt (Nat.lt_succ_of_lt hc)) (Heap.get?_push_of_some _ (Heap.get?_push_of_some _ e)))
  first
    | exact wpAny_pure ⟨plainId_quiet F.bm_plain_loop _, main⟩
    | exact wpAny_pure (wpAny_pure ⟨plainId_quiet F.bm_plain_loop _, main⟩)

theorem bytes_one {l : Addr} {n : Int} {t : Tok} {Q : Value → Shared → Prop} (hh : A.handled = none) (hl : s.heap.IsList l #[.int n t]) (h0 : 0 ≤ n) (h1 : n < 256)
    (hQ : ∀ h', Sub s.heap h' → Q (.bytes #[n.toNat.toUInt8] s.toks) { s with heap := h', toks := s.toks + 1 }) : wpAny (model prog w) A (call (.type "bytes") [.ref l]) Q E s := by
  refine callType_codes (Q₁ := fun obj s₁ => s₁.TypeIs obj "bytes" ∧ Q obj s₁) F.bm_called (F.bm_typeCall _) F.entry_object_init (new_one hh hl h0 h1 fun h' hk => ⟨PySem.W.typeIs_bytes _ _ _, hQ h' hk⟩) fun obj s₁ h₁ => ?_
  exact ⟨h₁.1, F.args_object_init_2 obj _, object_init_meets F.bm_called.init.lookup F.bm_called.made (by decide) prog w A.in1 _ s₁ ⟨h₁.1, rfl, h₁.2⟩⟩
end

section
variable {prog : Program} {w : World} {A : Around} {V : View} {R : Heap} {env : Env}
def IsB (b : Array UInt8) : Value → Heap → Prop := fun a _ => ∃ t, a = .bytes b t ∧ 0 < t
theorem ev_bytes_one {l : Addr} {n : Int} {t : Tok} (hh : A.handled = none) (hl : R.IsList l #[.int n t]) (h0 : 0 ≤ n) (h1 : n < 256) : Ev prog w A V R (call (.type "bytes") [.ref l]) (IsB #[n.toNat.toUInt8]) := fun Q E s hs _ ht hQ =>
  bytes_one hh (isList_sub hl hs) h0 h1 fun h' hk => hQ _ _ (keeps_mk hk) (Nat.succ_pos _) fun _ _ => ⟨_, rfl, ht⟩
theorem ev_addB {b c : Array UInt8} {t u : Tok} (hz : b.size + c.size ≤ 1000) (ht : 0 < t) (hu : 0 < u) : Ev prog w A V R (binaryOp .Add (.bytes b t) (.bytes c u)) (IsB (b ++ c)) := Ev.mk fun Q E s hs _ htk hQ => by
  refine concat_gives (typeIs_bytes s b t) (typeIs_bytes s c u) KBy.noFill_bytes_add KBy.seq_bytes_add FB.slot_bytes_add FB.entry_bytes_add (FB.args_bytes_add_2 _ _) (KBy.gives_bytes_add (KBy.tooLong_not (by omega))) ?_
  by_cases hb : b.isEmpty = true
  · rw [if_pos hb]
    have e : b = #[] := Array.isEmpty_iff.1 hb
    rw [e, Array.empty_append] at hQ
    exact hQ _ s (keeps_refl s) fun _ _ => ⟨_, rfl, hu⟩
  · rw [if_neg hb]
    by_cases hc : c.isEmpty = true
    · rw [if_pos hc]
      have e : c = #[] := Array.isEmpty_iff.1 hc
      rw [e, Array.append_empty] at hQ
      exact hQ _ s (keeps_refl s) fun _ _ => ⟨_, rfl, ht⟩
    · rw [if_neg hc]
      exact ⟨by rw [Array.size_append, sizeLine_eq]; omega, hQ _ _ keeps_tok fun _ _ => ⟨_, rfl, htk⟩⟩
end
end Mine

/-! F1 -/
namespace Mine

def rowEnv (L : Addr) : Env := callEnv rowFd L 99
def rowLoop : List Stmt := forBody ((bodyOf rowD).getD 1 (.Pass default))
theorem frame_row {L a : Addr} : Frame (rowEnv L) a ↔ a = L := by
  constructor
  · rintro (h | ⟨x, h⟩)
    · exact h
    · exact absurd h (by show ¬ (List.lookup x [] = some a); simp)
  · intro h; exact .inl h

section
variable {prog : Program} {w : World} {A : Around} {V W : View} {R : Heap} {L : Addr} {m cm : MS}
theorem evNF {x : PySem.Str} {pos : Pos} {v : Value} (hv : m x = some v) (hl : (rowEnv L).kindOf x = some .local := by rfl) (hd : (x == ("__debug__" : PySem.Str)) = false := by decide) :
    Ev prog w A (fv (rowEnv L) m cm W) R (eval (.Name x pos) (rowEnv L)) (Is v) := evNameL (fun h q => q.1) hv rfl hl hd
theorem evNeg1 {env : Env} {k : Nat} {p q : Pos} : Ev prog w A V R (eval (.UnaryOp .USub (.Constant (.int 1) k p) q) env) (IsI (-1)) := fun Q E s hs hv ht hq =>
  wpAny_UnaryOp (wpAny_Constant_int (PySem.P.neg_int (hq _ _ keeps_tok (Nat.succ_pos _) (upI (Nat.succ_pos _)))))
theorem evBytes {env : Env} {b : List UInt8} {k : Nat} {pos : Pos} : Ev prog w A V R (eval (.Constant (.bytes b) k pos) env) (IsB b.toArray) := fun _ _ s _ _ ht hq => Constant_bytes (hq _ _ keeps_tok (Nat.succ_pos _) fun _ _ => ⟨_, rfl, ht⟩)
/-- `x[-1]` of a list that is being watched -/
theorem evLast {x : PySem.Str} {p1 p2 p3 p4 : Pos} {D : Addr} {xs : List Value} {v : Value} {k : Nat} (hm : m x = some (.ref D)) (hpl : ∀ h, W.p h → h.PlainList D xs.toArray) (hz : xs.length < 1000) (hx : xs.getLast? = some v) (hl : (rowEnv L).kindOf x = some .local := by rfl) (hd : (x == ("__debug__" : PySem.Str)) = false := by decide) :
    Ev prog w A (fv (rowEnv L) m cm W) R (eval (.Subscript (.Name x p1) (.UnaryOp .USub (.Constant (.int 1) k p2) p3) p4) (rowEnv L)) (Is v) :=
  Ev.whole (P0 := fun a => a = v) fun g hg hv => by
    refine evSub (evNF hm hl hd) evNeg1 ?_
    rintro a b R2 h2 rfl ⟨t, rfl, _⟩
    exact ev_last (isList_sub (hpl g hv.2.2).isList h2) hx (by omega)
end

theorem execs_one {M : Model} {A : Around} {st : Stmt} {env : Env} {Q : Flow → Shared → Prop} {E : Value → Shared → Prop} {s : Shared} (h : wpAny M A (exec st env) Q E s) : wpAny M A (execs [st] env) Q E s :=
  wpAny_execs_cons (wpAny_mono h (fun f s' q => by
    cases f with
    | next => exact wpAny_execs_nil q
    | _ => exact q) fun _ _ e => e)
theorem fm {r : Int} {k : Int} (hk : 0 < k) : 0 ≤ r.fmod k ∧ r.fmod k < k := ⟨Int.fmod_nonneg_of_pos _ hk, Int.fmod_lt_of_pos _ hk⟩
def StrOf (x : PySem.Str) (v : Value) : Prop := ∃ t, v = .str x t ∧ 0 < t
def code2 (p : Int) : Int := if p < 55296 then p else p + 2048
theorem code2_ok {p : Int} (h0 : 0 ≤ p) (h1 : p < 1112064) : 0 ≤ code2 p ∧ code2 p ≤ 1114111 := by unfold code2; split <;> omega

section
variable {w : World} {A : Around} {K : Frag} {s₁ s : Shared} {B R : Heap} {L dh : Addr} {off wf : List Addr} {W : View} {m cm : MS} {zs : List Value} {Q : Flow → Shared → Prop} {E : Value → Shared → Prop}

/-- one of four texts, by a number's remainder -/
theorem ev_pick4 {prog : Program} {V : View} {env : Env} {a b c d : PySem.Str} {k1 k2 k3 k4 : Nat} {p1 p2 p3 p4 lp sp : Pos} {ie : Expr} {n : Int} (hn : Ev prog w A V R (eval ie env) (IsI n)) (h0 : 0 ≤ n) (h4 : n < 4) (ha : a.length ≤ 40) (hb : b.length ≤ 40) (hc : c.length ≤ 40) (hd : d.length ≤ 40)
    (hse : starEach [.Constant (.str a) k1 p1, .Constant (.str b) k2 p2, .Constant (.str c) k3 p3, .Constant (.str d) k4 p4] env = [(false, eval (.Constant (.str a) k1 p1) env), (false, eval (.Constant (.str b) k2 p2) env), (false, eval (.Constant (.str c) k3 p3) env), (false, eval (.Constant (.str d) k4 p4) env)] := by rfl)
    (hs : ∀ (l : Addr) (t : Tok), subscripted ie false (.ref l) (.int n t) = operate [.ref l, .int n t] (getItem (.ref l) (.int n t)) := by intro _ _; rfl) :
    Ev prog w A V R (eval (.Subscript (.List [.Constant (.str a) k1 p1, .Constant (.str b) k2 p2, .Constant (.str c) k3 p3, .Constant (.str d) k4 p4] lp) ie sp) env) (fun v _ => ∃ x : PySem.Str, x.length ≤ 40 ∧ StrOf x v) := by
  refine evSub (evList (evArgsC evStr (evArgsC evStr (evArgsC evStr (evArgsC evStr evArgs0)))) ?_) hn ?_
  · rintro vs h ⟨_, _, rfl, _, _, _, rfl, _, _, _, rfl, _, _, _, rfl, _, rfl⟩; rw [sizeLine_eq]; simp
  · rintro x y R2 h2 ⟨l, _, rfl, hl, _, _, rfl, ⟨t1, rfl, q1⟩, _, _, rfl, ⟨t2, rfl, q2⟩, _, _, rfl, ⟨t3, rfl, q3⟩, _, _, rfl, ⟨t4, rfl, q4⟩, rfl⟩ ⟨t, rfl, _⟩
    have : n = 0 ∨ n = 1 ∨ n = 2 ∨ n = 3 := by omega
    rcases this with rfl | rfl | rfl | rfl
    · exact (ev_item hl (by omega) rfl (by simp) (hs _ _)).mono fun v _ _ e => ⟨_, ha, t1, e, q1⟩
    · exact (ev_item hl (by omega) rfl (by simp) (hs _ _)).mono fun v _ _ e => ⟨_, hb, t2, e, q2⟩
    · exact (ev_item hl (by omega) rfl (by simp) (hs _ _)).mono fun v _ _ e => ⟨_, hc, t3, e, q3⟩
    · exact (ev_item hl (by omega) rfl (by simp) (hs _ _)).mono fun v _ _ e => ⟨_, hd, t4, e, q4⟩

theorem row_value {k r : Int} {tk tr tp : Tok} (Y : KQ K) (G : Gd K R) (rm : Room A 3) (f : FS s₁ B (rowEnv L) off wf W R m cm s) (hk : m "kind" = some (.int k tk)) (hr : m "rest" = some (.int r tr)) (htr : 0 < tr) (hp : m "point" = some (.int ((r.fdiv 2).fmod 1112064) tp)) (htp : 0 < tp)
    (hh : m "held" = some (.ref dh)) (hpl : ∀ h, W.p h → h.PlainList dh zs.toArray) (hz : zs.length < 100) (hzs : ∀ v ∈ zs, ∃ r : Raw, r.At v ∧ r.small)
    (hQ : ∀ s' R' m' v (ra : Raw), FS s₁ B (rowEnv L) off wf W R' m' cm s' → Sub R R' → m' "value" = some v → ra.At v → ra.small → (∀ x, x ≠ PySem.Str.ofString "value" → m' x = m x) → Q .next s') :
    wpAny (model prog2 w) A (exec (rowLoop.getD 4 (.Pass default)) (rowEnv L)) Q E s := by
  have hc := code2_ok (fm (r := r.fdiv 2) (k := 1112064) (by decide)).1 (fm (r := r.fdiv 2) (k := 1112064) (by decide)).2
  have one : ∀ {e : Expr} {px pos : Pos} {P : Value → Heap → Prop} {s' : Shared} {R' : Heap}, FS s₁ B (rowEnv L) off wf W R' m cm s' → Sub R R' → Ev prog2 w A (fv (rowEnv L) m cm W) R' (eval e (rowEnv L)) P → (∀ v h, P v h → ∃ ra : Raw, ra.At v ∧ ra.small) →
      swapsWith e (some (.Name "value" px)) pos.line (rowEnv L) = pure false → wpAny (model prog2 w) A (execs [.Assign [.Name "value" px] e pos] (rowEnv L)) Q E s' := by
    intro e px pos P s' R' f' hR' x hx hs
    refine execs_one (f'.assignL x rfl (fun v s2 R2 f2 hR2 p => ?_) rfl hs)
    obtain ⟨ra, h1, h2⟩ := hx _ _ p
    exact (hQ s2 R2 _ v ra f2 (hR'.trans hR2) upd_same h1 h2 fun x hx => upd_ne hx)
  refine f.test (b := (k == 4) && ((!zs.isEmpty) && true)) ?_ ?_
  · refine evAndN (evAnd1 (evTest (evNF hk) evInt ?_) fun _ => evAnd1 ?_ fun _ => evAnd0)
    · rintro a b R2 h2 rfl ⟨t, rfl, _⟩; exact ev_eqI
    · refine Ev.whole (P0 := fun a => a = !zs.isEmpty) fun g hg hv => ?_
      refine evTest (P2 := IsL []) (evNF hh) ((evList evArgs0 (by rintro vs h rfl; exact Nat.zero_le _)).mono ?_) ?_
      · rintro a R' _ ⟨l', vs', rfl, hl', rfl⟩; exact ⟨l', rfl, hl'⟩
      · rintro a b R2 h2 rfl ⟨l2, rfl, hl2⟩
        exact ev_ne_nil (isList_sub (hpl g hv.2.2).isList h2) hl2 rm.u
  intro s1 R1 f1 hR1
  cases hb : (k == 4) && ((!zs.isEmpty) && true) with
  | true =>
    rw [if_pos rfl]
    have hne : zs ≠ [] := by
      intro e; subst e; simp at hb
    obtain ⟨v, hv⟩ : ∃ v, zs.getLast? = some v := ⟨zs.getLast hne, List.getLast?_eq_some_getLast hne⟩
    obtain ⟨ra, h1, h2⟩ := hzs v (List.mem_of_getLast? hv)
    exact one f1 hR1 (evLast hh hpl (by omega) hv) (fun v' h e => by cases e; exact ⟨ra, h1, h2⟩) rfl
  | false =>
  simp only [Bool.false_eq_true, if_false]
  refine execs_one (f1.test (b := k == 1) (evTest (evNF hk) evInt ?_) ?_)
  · rintro a b R2 h2 rfl ⟨t, rfl, _⟩; exact ev_eqI
  intro s2 R2 f2 hR2
  have hR12 := hR1.trans hR2
  have G2 := G.sub hR12
  cases hb1 : k == 1 with
  | true =>
    rw [if_pos rfl]
    refine wpAny_execs_cons (f2.assignL (P := IsS ⟨#[(code2 ((r.fdiv 2).fmod 1112064)).toNat]⟩) ?_ rfl ?_)
    · refine evCallB (evNameB G2 (Y.nB "chr" (by simp)) boot_chr (by decide) rfl rfl rfl rfl) (evArgsC (P1 := IsI (code2 ((r.fdiv 2).fmod 1112064))) ?_ evArgs0) ?_
      · refine evIfExp (b := decide ((r.fdiv 2).fmod 1112064 < 55296)) (evTest (evNF hp) evInt ?_) (fun hb => ?_) (fun hb => ?_)
        · rintro a b R2 h2 rfl ⟨t2, rfl, _⟩; exact ev_ltI
        · refine (evNF hp).mono ?_
          rintro a R' _ rfl
          refine ⟨tp, ?_, htp⟩
          unfold code2; rw [if_pos (by simpa using hb)]
        · refine evBin (evNF hp) evInt ?_
          rintro a b R2 h2 rfl ⟨t2, rfl, _⟩
          have e : code2 ((r.fdiv 2).fmod 1112064) = (r.fdiv 2).fmod 1112064 + 2048 := by unfold code2; rw [if_neg (by simpa using hb)]
          rw [e]; exact ev_add
      · rintro vs R1 h1 ⟨v, vs', rfl, ⟨t2, rfl, _⟩, h3⟩
        cases h3
        exact ev_chr hc.1 hc.2
    rintro v s3 R3 f3 hR3 ⟨t, rfl, ht⟩
    have hr3 : upd m "value" (.str ⟨#[(code2 ((r.fdiv 2).fmod 1112064)).toNat]⟩ t) "rest" = some (.int r tr) := (upd_ne (by decide)).trans hr
    refine execs_one (f3.test (b := r.fmod 2 == 0) (evTest (P1 := IsI (r.fmod 2)) (evBin (evNF hr3) evInt ?_) evInt ?_) ?_)
    · rintro a b R2 h2 rfl ⟨t2, rfl, _⟩; exact ev_mod (by decide)
    · rintro a b R2 h2 ⟨t3, rfl, _⟩ ⟨t2, rfl, _⟩; exact ev_eqI
    intro s4 R4 f4 hR4
    cases hb2 : r.fmod 2 == 0 with
    | false =>
      simp only [Bool.false_eq_true, if_false]
      exact wpAny_execs_nil (hQ s4 R4 _ _ (.str ⟨#[(code2 ((r.fdiv 2).fmod 1112064)).toNat]⟩) f4 ((hR12.trans hR3).trans hR4) upd_same (.str ht) (by show (1 : Nat) ≤ 100; decide) fun x hx => upd_ne hx)
    | true =>
      rw [if_pos rfl]
      refine execs_one (f4.assignL (P := fun v _ => ∃ x : PySem.Str, x.length ≤ 80 ∧ StrOf x v) ?_ rfl ?_)
      · refine evBin (ev_pick4 (n := (r.fdiv 2).fmod 4) ?_ (fm (by decide)).1 (fm (by decide)).2 (by decide) (by decide) (by decide) (by decide)) (ev_pick4 (n := (r.fdiv 8).fmod 4) ?_ (fm (by decide)).1 (fm (by decide)).2 (by decide) (by decide) (by decide) (by decide)) ?_
        · refine evBin (P1 := IsI (r.fdiv 2)) (evBin (evNF hr3) evInt ?_) evInt ?_
          · rintro a b R2 h2 rfl ⟨t2, rfl, _⟩; exact ev_div (by decide) (by decide)
          · rintro a b R2 h2 ⟨t2, rfl, _⟩ ⟨t3, rfl, _⟩; exact ev_mod (by decide)
        · refine evBin (P1 := IsI (r.fdiv 8)) (evBin (evNF hr3) evInt ?_) evInt ?_
          · rintro a b R2 h2 rfl ⟨t2, rfl, _⟩; exact ev_div (by decide) (by decide)
          · rintro a b R2 h2 ⟨t2, rfl, _⟩ ⟨t3, rfl, _⟩; exact ev_mod (by decide)
        · rintro a b R2 h2 ⟨x, hx, t2, rfl, ht2⟩ ⟨y, hy, t3, rfl, ht3⟩
          refine (ev_addS (by omega) ht2 ht3).mono fun v R' _ q => ⟨x ++ y, ?_, q⟩
          rw [show (x ++ y).length = x.length + y.length from Str.length_append ..]; omega
      rintro v s5 R5 f5 hR5 ⟨x, hx, t5, rfl, ht5⟩
      exact (hQ s5 R5 _ _ (.str x) f5 (((hR12.trans hR3).trans hR4).trans hR5) upd_same (.str ht5) (by show x.length ≤ 100; omega) fun x hx => (upd_ne hx).trans (upd_ne hx))
  | false =>
  simp only [Bool.false_eq_true, if_false]
  refine execs_one (f2.test (b := k == 2) (evTest (evNF hk) evInt ?_) ?_)
  · rintro a b R2 h2 rfl ⟨t, rfl, _⟩; exact ev_eqI
  intro s3 R3 f3 hR3
  have hR13 := hR12.trans hR3
  cases hb2 : k == 2 with
  | true =>
    rw [if_pos rfl]
    exact one f3 hR13 evNone (fun v' h e => by cases e; exact ⟨.none, .none, trivial⟩) rfl
  | false =>
  simp only [Bool.false_eq_true, if_false]
  refine execs_one (f3.test (b := k == 3) (evTest (evNF hk) evInt ?_) ?_)
  · rintro a b R2 h2 rfl ⟨t, rfl, _⟩; exact ev_eqI
  intro s4 R4 f4 hR4
  have hR14 := hR13.trans hR4
  have G4 := G.sub hR14
  cases hb3 : k == 3 with
  | true =>
    rw [if_pos rfl]
    refine one (P := fun v _ => ∃ b : Array UInt8, b.size ≤ 2 ∧ ∃ t, v = .bytes b t ∧ 0 < t) f4 hR14 ?_ (fun v' h q => ?_) rfl
    · refine evBin (P1 := IsB #[(r.fmod 256).toNat.toUInt8]) (P2 := fun v _ => ∃ b : Array UInt8, b.size ≤ 1 ∧ ∃ t, v = .bytes b t ∧ 0 < t) ?_ ?_ ?_
      · refine evCallT (evNameB G4 (Y.nB "bytes" (by simp)) boot_bytes (by decide) rfl rfl rfl rfl) (evArgsC (P1 := fun a h => ∃ l t, a = .ref l ∧ h.IsList l #[.int (r.fmod 256) t]) ((evList (evArgsC (P1 := IsI (r.fmod 256)) (evBin (evNF hr) evInt ?_) evArgs0) ?_).mono ?_) evArgs0) ?_
        · rintro a b R2 h2 rfl ⟨t2, rfl, _⟩; exact ev_mod (by decide)
        · rintro vs h ⟨_, _, rfl, _, rfl⟩; rw [sizeLine_eq]; simp
        · rintro a R' _ ⟨l, _, rfl, hl, _, _, rfl, ⟨t, rfl, _⟩, rfl⟩; exact ⟨l, t, rfl, hl⟩
        · rintro vs R1 h1 ⟨v, vs', rfl, ⟨l, t2, rfl, hl⟩, h3⟩
          cases h3
          exact ev_bytes_one rm.handled hl (fm (by decide)).1 (fm (by decide)).2
      · refine evSub (P2 := IsI ((r.fdiv 256).fmod 2)) (evList (evArgsC evBytes (evArgsC evBytes evArgs0)) ?_) (evBin (P1 := IsI (r.fdiv 256)) (evBin (evNF hr) evInt ?_) evInt ?_) ?_
        · rintro vs h ⟨_, _, rfl, _, _, _, rfl, _, rfl⟩; rw [sizeLine_eq]; simp
        · rintro a b R2 h2 rfl ⟨t2, rfl, _⟩; exact ev_div (by decide) (by decide)
        · rintro a b R2 h2 ⟨t2, rfl, _⟩ ⟨t3, rfl, _⟩; exact ev_mod (by decide)
        · rintro x y R2 h2 ⟨l, _, rfl, hl, _, _, rfl, ⟨t1, rfl, q1⟩, _, _, rfl, ⟨t2, rfl, q2⟩, rfl⟩ ⟨t, rfl, _⟩
          have hf := fm (r := r.fdiv 256) (k := 2) (by decide)
          have : (r.fdiv 256).fmod 2 = 0 ∨ (r.fdiv 256).fmod 2 = 1 := by omega
          rcases this with e | e <;> rw [e]
          · exact (ev_item hl (by omega) rfl (by simp)).mono fun v _ _ e => ⟨_, by simp, t1, e, q1⟩
          · exact (ev_item hl (by omega) rfl (by simp)).mono fun v _ _ e => ⟨_, by simp, t2, e, q2⟩
      · rintro a b R2 h2 ⟨t, rfl, ht⟩ ⟨b', hb', t', rfl, ht'⟩
        refine (ev_addB (by simp; omega) ht ht').mono fun v R' _ q => ⟨_, ?_, q⟩
        rw [Array.size_append]; simp; omega
    · obtain ⟨b, hb, t, rfl, ht⟩ := q
      exact ⟨.bytes b, .bytes ht, by show b.size ≤ 100; omega⟩
  | false =>
  simp only [Bool.false_eq_true, if_false]
  exact one f4 hR14 (evNF hr) (fun v' h e => by cases e; exact ⟨.int r, .int htr, trivial⟩) rfl
end
end Mine

/-! F2 -/
namespace Mine

/-- a chain: a plain thing, then qualified names, each of the one before -/
inductive Chn (h : Heap) (r : Raw) : Nat → List Value → Value → Prop
  | one {v : Value} : r.At v → Chn h r 0 [v] v
  | more {d : Nat} {vs : List Value} {u : Value} {q : Addr} : Chn h r d vs u → QN h q u → Chn h r (d + 1) (vs ++ [.ref q]) (.ref q)
section
variable {h h' : Heap} {r : Raw} {d : Nat} {vs : List Value} {u : Value}
theorem Chn.sub (x : Chn h r d vs u) (s : Sub h h') : Chn h' r d vs u := by
  induction x with
  | one e => exact .one e
  | more _ q ih => exact .more ih (q.sub s)
theorem Chn.len (x : Chn h r d vs u) : vs.length = d + 1 := by
  induction x with
  | one e => rfl
  | more _ q ih => simp [ih]
theorem Chn.last (x : Chn h r d vs u) : vs.getLast? = some u := by
  cases x with
  | one e => rfl
  | more _ q => simp
theorem Chn.nest (x : Chn h r d vs u) : Nest h d u r := by
  induction x with
  | one e => exact .raw e
  | more _ q ih => exact .wrap q ih
theorem Raw.At.self {v : Value} (x : r.At v) : Selfsame v := by
  cases x with
  | int ht => exact .inr (.inr (.inl ⟨_, _, rfl, ht⟩))
  | str ht => exact .inr (.inl ⟨_, _, rfl, ht⟩)
  | none => exact .inr (.inr (.inr (.inr rfl)))
  | bytes ht => exact .inr (.inr (.inr (.inl ⟨_, _, rfl, ht⟩)))
theorem Chn.self (x : Chn h r d vs u) : Selfsame u := by
  cases x with
  | one e => exact e.self
  | more _ q => exact .inl ⟨_, rfl⟩
theorem Chn.holds (x : Chn h r d vs u) : ∀ k, k + 1 < vs.length → ∃ q u, vs[k + 1]? = some (.ref q) ∧ vs[k]? = some u ∧ QN h q u ∧ handedIn u = true ∧ Selfsame u := by
  induction x with
  | one e => intro k hk; simp at hk
  | more y q ih =>
    rename_i d vs u q'
    intro k hk
    have hl := y.len
    have hlast := y.last
    rw [List.getLast?_eq_getElem?] at hlast
    simp only [List.length_append, List.length_cons, List.length_nil] at hk
    by_cases hk' : k + 1 < vs.length
    · obtain ⟨q2, u2, e1, e2, r2⟩ := ih k hk'
      exact ⟨q2, u2, (List.getElem?_append_left hk').trans e1, (List.getElem?_append_left (by omega)).trans e2, r2⟩
    · have hk2 : k + 1 = vs.length := by omega
      have hk3 : k = vs.length - 1 := by omega
      refine ⟨q', u, ?_, ?_, q, y.nest.handed, y.self⟩
      · rw [hk2]; simp
      · rw [List.getElem?_append_left (by omega), hk3]; exact hlast
end
/-- what a place of the row holds, and its chain -/
def Entry (R : Heap) (v c : Value) : Prop := ∃ (r : Raw) (d : Nat) (l : Addr) (vs : List Value) (u : Value), r.At v ∧ r.small ∧ c = .ref l ∧ R.IsList l vs.toArray ∧ Chn R r d vs u ∧ d ≤ 6
theorem Entry.sub {R R' : Heap} {v c : Value} (x : Entry R v c) (s : Sub R R') : Entry R' v c := let ⟨r, d, l, vs, u, e1, e2, e3, e4, e5, e6⟩ := x; ⟨r, d, l, vs, u, e1, e2, e3, isList_sub e4 s, e5.sub s, e6⟩
theorem paired_mono {α β : Type} {F G : α → β → Prop} (h : ∀ a b, F a b → G a b) : ∀ {l : List α} {r : List β}, Paired F l r → Paired G l r
  | _, _, .nil => .nil
  | _, _, .cons a b => .cons (h _ _ a) (paired_mono h b)
theorem paired_snoc {α β : Type} {F : α → β → Prop} {a : α} {b : β} (h : F a b) : ∀ {l : List α} {r : List β}, Paired F l r → Paired F (l ++ [a]) (r ++ [b])
  | _, _, .nil => .cons h .nil
  | _, _, .cons x y => .cons x (paired_snoc h y)

def Wc (dc dh : Addr) (z : List Value × List Value) : View := (PLv dc z.1).and (PLv dh z.2)
theorem only_Wc {dc dh : Addr} (z : List Value × List Value) : Only (Wc dc dh z) [dh, dc] := fun h h' q p =>
  ⟨let ⟨n, e⟩ := p.1; ⟨n, q dc (by simp) _ e⟩, let ⟨n, e⟩ := p.2; ⟨n, q dh (by simp) _ e⟩⟩

section
variable {w : World} {A : Around} {K : Frag} {s₁ s : Shared} {B R : Heap} {L dc C : Addr} {off wf : List Addr} {W : View} {m cm : MS} {cs : List Value} {Q : Flow → Shared → Prop} {E : Value → Shared → Prop} {r : Raw} {v : Value}

theorem turn_loop {x : Int} {tx : Tok} (Y : KQ K) (G : Gd K R) (rm : Room A 3) (f : FS s₁ B (rowEnv L) (C :: off) (C :: wf) (W.and (PLv C [v])) R m cm s) (nF : ¬ Frame (rowEnv L) C) (nW : C ∉ wf) (hW : Only W wf) (hx : m "x" = some (.int x tx)) (hc : m "chains" = some (.ref dc))
    (hpl : ∀ h, W.p h → h.PlainList dc (cs ++ [Value.ref C]).toArray) (hz : cs.length < 100) (hv : r.At v)
    (hQ : ∀ s' R' m' vs d u, FS s₁ B (rowEnv L) (C :: off) (C :: wf) (W.and (PLv C vs)) R' m' cm s' → Sub R R' → Chn R' r d vs u → d ≤ 6 → (∀ x, x ≠ PySem.Str.ofString "turn" → m' x = m x) → Q .next s') :
    wpAny (model prog2 w) A (exec (rowLoop.getD 7 (.Pass default)) (rowEnv L)) Q E s := by
  have h7 := fm (r := x.fdiv 5) (k := 7) (by decide)
  refine f.forIter (ι := List Value) (W := fun xs => W.and (PLv C xs)) (n := ((x.fdiv 5).fmod 7).toNat) (P := fun i v => ∃ t, v = .int i t) (PX := IsR 0 ((x.fdiv 5).fmod 7))
    (J := fun i xs R m' cm' => cm' = cm ∧ (∃ u, Chn R r i xs u) ∧ ∀ x, x ≠ PySem.Str.ofString "turn" → m' x = m x) (T := fun v m m' cm cm' => cm' = cm ∧ m' = upd m "turn" v) ?hit ?hI (fun _ => only_and hW only_PLv) ?hasg ?hJ ⟨rfl, ⟨v, .one hv⟩, fun _ _ => rfl⟩ ?hbody ?hdone
  case hit =>
    refine evCallT (evNameB G (Y.nB "range" (by simp)) boot_range (by decide) rfl rfl rfl rfl) (evArgsC (P1 := IsI ((x.fdiv 5).fmod 7)) (evBin (P1 := IsI (x.fdiv 5)) (evBin (evNF hx) evInt ?_) evInt ?_) evArgs0) ?_
    · rintro a b R2 h2 rfl ⟨t2, rfl, _⟩; exact ev_div (by decide) (by decide)
    · rintro a b R2 h2 ⟨t2, rfl, _⟩ ⟨t3, rfl, _⟩; exact ev_mod (by decide)
    · rintro vs' R1 hR1 ⟨v, vs2, rfl, ⟨t, rfl, _⟩, e⟩
      cases e
      exact ev_range1
  case hI =>
    intro xv R1 h1 hr
    have e : (((x.fdiv 5).fmod 7).toNat : Int) = (x.fdiv 5).fmod 7 := Int.toNat_of_nonneg h7.1
    rw [← e] at hr
    exact it_rl rm.handled hr (by omega)
  case hasg =>
    intro off' wf' W' R' m' cm' s' j v f' hR' hP Q' E' h
    exact f'.bindN rfl (.l rfl) fun s'' f'' => h s'' R' _ _ f'' (Sub.refl _) ⟨rfl, rfl⟩
  case hJ => rintro j z R' R'' m' cm' hs ⟨h0, ⟨u, h1⟩, h2⟩; exact ⟨h0, ⟨u, h1.sub hs⟩, h2⟩
  case hbody =>
    rintro Wx offx fpx xs i v' R2 ma cma m2 cm2 s2 hi ⟨t, rfl⟩ ⟨rfl, ⟨u, hch⟩, hm⟩ ⟨rfl, rfl⟩ hR2 hxo hoff f2 Q' E' h
    have hm2 : ∀ y, y ≠ PySem.Str.ofString "turn" → upd ma "turn" (.int i t) y = m y := fun y hy => (upd_ne hy).trans (hm y hy)
    have hc2 : upd ma "turn" (.int i t) "chains" = some (.ref dc) := (hm2 _ (by decide)).trans hc
    have hlen := hch.len
    have lastC : (cs ++ [Value.ref C]).getLast? = some (.ref C) := by simp
    have G2 := G.sub hR2
    refine execs_one (f2.appendE (D := C) (xs := xs) (P := fun a h => ∃ q, a = .ref q ∧ QN h q u) (W' := fun v => (W.and (PLv C (xs ++ [v]))).and Wx) (by simp) nF (evLast hc2 (fun h p => hpl h p.1.1) (by simp; omega) lastC) (by rw [sizeLine_eq]; omega) (fun h p => p.1.2)
      (fun v => only_and (only_and hW only_PLv) hxo) (fun v h h' p hs hp => ⟨⟨hW h h' (fun a ha o q => (hs.2 a (fun e => nW (e ▸ ha))).trans q) p.1.1, hp⟩, hxo h h' (fun a ha o q => (hs.2 a (fun e => hoff C (by simp) (e ▸ ha))).trans q) p.2⟩) ?_ ?_)
    · refine evCallK (f := .ref 88) G2.k Y.keep (evNameG G2 Y.nQ rfl rfl rfl) (evA1 (v := u) ?_) ?_
      · refine Ev.whole (P0 := fun a => a = u) fun g hg hv => ?_
        have lc : g.IsList C xs.toArray := hv.2.2.1.2.isList
        refine evSub (P1 := Is (.ref C)) (evLast hc2 (fun h p => hpl h p.1.1) (by simp; omega) lastC) evNeg1 ?_
        rintro a b R3 h3 rfl ⟨t', rfl, _⟩
        exact ev_last (isList_sub lc h3) hch.last (by omega)
      · intro vs R1 h1 p; cases p
        exact make1 Y (G2.sub h1) (rm.le (by omega))
    · rintro _ s3 R3 f3 hR3 ⟨q, rfl, hq⟩
      exact h s3 _ R3 _ _ f3 hR3 ⟨rfl, ⟨.ref q, .more (hch.sub hR3) hq⟩, hm2⟩
  case hdone =>
    rintro xs R2 m2 cm2 s2 f2 hR2 ⟨rfl, ⟨u, hch⟩, hm⟩
    exact hQ s2 R2 m2 xs _ u f2 hR2 hch (by omega) hm
end
end Mine

/-! F3 -/
namespace Mine

section
variable {w : World} {A : Around} {K : Frag} {s₁ s : Shared} {B R : Heap} {L dc dh : Addr} {offx fpx : List Addr} {Wx : View} {m cm : MS} {z : List Value × List Value} {Q : Flow → Shared → Prop} {E : Value → Shared → Prop}

structure RowH (L dc dh : Addr) (fpx : List Addr) (Wx : View) (R : Heap) (m : MS) (z : List Value × List Value) : Prop where
  ne : dc ≠ dh
  nc : dc ≠ L
  nh : dh ≠ L
  hx : Only Wx fpx
  off : ∀ a ∈ [dh, dc], a ∉ fpx
  mc : m "chains" = some (.ref dc)
  mh : m "held" = some (.ref dh)
  p : Paired (Entry R) z.2 z.1
  len : z.2.length ≤ 24
theorem RowH.l1 (r : RowH L dc dh fpx Wx R m z) : z.1.length = z.2.length := r.p.length.symm
theorem RowH.held (r : RowH L dc dh fpx Wx R m z) : ∀ v ∈ z.2, ∃ r : Raw, r.At v ∧ r.small := by
  have p := r.p
  intro v hv
  generalize z.1 = cs at p
  generalize z.2 = hs at p hv
  induction p with
  | nil => cases hv
  | cons a b ih =>
    rcases List.mem_cons.mp hv with rfl | q
    · obtain ⟨r, d, l, vs, u, e1, e2, _⟩ := a; exact ⟨r, e1, e2⟩
    · exact ih q

theorem row_turn {x : Int} {tx : Tok} (Y : KQ K) (G : Gd K R) (rm : Room A 3) (f : FS s₁ B (rowEnv L) (offx ++ [dh, dc]) (fpx ++ [dh, dc]) ((Wc dc dh z).and Wx) R m cm s) (H : RowH L dc dh fpx Wx R m z) (hmx : m "x" = some (.int x tx))
    (hQ : ∀ s' z' R' m', FS s₁ B (rowEnv L) (offx ++ [dh, dc]) (fpx ++ [dh, dc]) ((Wc dc dh z').and Wx) R' m' cm s' → Sub R R' → m' "chains" = some (.ref dc) → m' "held" = some (.ref dh) → Paired (Entry R') z'.2 z'.1 → z'.2.length = z.2.length + 1 → z'.2.length ≤ 24 → Q .next s')
    (hB : ∀ s' R', FS s₁ B (rowEnv L) (offx ++ [dh, dc]) (fpx ++ [dh, dc]) ((Wc dc dh z).and Wx) R' m cm s' → Sub R R' → z.2.length = 24 → Q .brk s') :
    wpAny (model prog2 w) A (execs rowLoop (rowEnv L)) Q E s := by
  have hl1 := H.l1
  have hlen := H.len
  have plh : ∀ h, ((Wc dc dh z).and Wx).p h → h.PlainList dh z.2.toArray := fun h p => p.1.2
  refine wpAny_execs_cons (f.test (b := (z.2.length : Int) == 24) ?_ ?_)
  · refine Ev.whole (P0 := fun a => a = ((z.2.length : Int) == 24)) fun g hg hv => ?_
    refine evTest (P1 := IsI z.2.length) (evCallB (evNameB (G.sub hg) (Y.nB "len" (by simp)) boot_len (by decide) rfl rfl rfl rfl) (evA1 (evNF H.mh)) ?_) evInt ?_
    · intro vs' R1 hR1 p; cases p
      exact ev_len (isList_sub (plh g hv.2.2).isList hR1) (by omega)
    · rintro a b R2 h2 ⟨t, rfl, _⟩ ⟨t2, rfl, _⟩; exact ev_eqI
  intro s1 R1 f1 hR1
  cases hb : (z.2.length : Int) == 24 with
  | true =>
    rw [if_pos rfl]
    exact wpAny_execs_cons (wpAny_Break (hB s1 R1 f1 hR1 (by have := eq_of_beq hb; omega)))
  | false =>
  simp only [Bool.false_eq_true, if_false]
  have h24 : z.2.length < 24 := by have : ¬ (z.2.length : Int) = 24 := by simpa using hb
                                   omega
  refine wpAny_execs_nil ?_
  refine wpAny_execs_cons (f1.assignL (P := IsI (x.fmod 5)) (evBin (evNF hmx) evInt ?_) rfl ?_)
  · rintro a b R2 h2 rfl ⟨t2, rfl, _⟩; exact ev_mod (by decide)
  rintro _ s2 R2 f2 hR2 ⟨tk, rfl, htk⟩
  refine wpAny_execs_cons (f2.assignL (P := IsI (x.fdiv 35)) (evBin (evNF (v := .int x tx) ((upd_ne (by decide)).trans hmx)) evInt ?_) rfl ?_)
  · rintro a b R2 h2 rfl ⟨t2, rfl, _⟩; exact ev_div (by decide) (by decide)
  rintro _ s3 R3 f3 hR3 ⟨tr, rfl, htr⟩
  refine wpAny_execs_cons (f3.assignL (P := IsI (((x.fdiv 35).fdiv 2).fmod 1112064)) (evBin (P1 := IsI ((x.fdiv 35).fdiv 2)) (evBin (evNF (v := .int (x.fdiv 35) tr) upd_same) evInt ?_) evInt ?_) rfl ?_)
  · rintro a b R2 h2 rfl ⟨t2, rfl, _⟩; exact ev_div (by decide) (by decide)
  · rintro a b R2 h2 ⟨t3, rfl, _⟩ ⟨t2, rfl, _⟩; exact ev_mod (by decide)
  rintro _ s4 R4 f4 hR4 ⟨tp, rfl, htp⟩
  have hR14 := ((hR1.trans hR2).trans hR3).trans hR4
  have m4 : ∀ y, y ≠ PySem.Str.ofString "kind" → y ≠ PySem.Str.ofString "rest" → y ≠ PySem.Str.ofString "point" → upd (upd (upd m "kind" (.int (x.fmod 5) tk)) "rest" (.int (x.fdiv 35) tr)) "point" (.int (((x.fdiv 35).fdiv 2).fmod 1112064) tp) y = m y :=
    fun y h1 h2 h3 => ((upd_ne h3).trans (upd_ne h2)).trans (upd_ne h1)
  refine wpAny_execs_cons (row_value (k := x.fmod 5) (r := x.fdiv 35) (zs := z.2) Y (G.sub hR14) rm f4 (tk := tk) (tr := tr) (tp := tp) rfl rfl htr rfl htp ((m4 _ (by decide) (by decide) (by decide)).trans H.mh) plh (by omega) H.held ?_)
  intro s5 R5 m5 v ra f5 hR5 hv5 hat hsm hm5
  have hR15 := hR14.trans hR5
  have mh5 : m5 "held" = some (.ref dh) := (hm5 _ (by decide)).trans ((m4 _ (by decide) (by decide) (by decide)).trans H.mh)
  have mc5 : m5 "chains" = some (.ref dc) := (hm5 _ (by decide)).trans ((m4 _ (by decide) (by decide) (by decide)).trans H.mc)
  have mx5 : m5 "x" = some (.int x tx) := (hm5 _ (by decide)).trans ((m4 _ (by decide) (by decide) (by decide)).trans hmx)
  -- held.append(value)
  refine wpAny_execs_cons (f5.appendE (D := dh) (xs := z.2) (P := Is v) (W' := fun v => (Wc dc dh (z.1, z.2 ++ [v])).and Wx) (by simp) (fun q => H.nh (frame_row.mp q)) (evNF mh5) (by rw [sizeLine_eq]; omega) plh (fun v => only_and (only_Wc _) H.hx)
    (fun v h h' p hs hp => ⟨⟨plain_same p.1.1 hs H.ne, hp⟩, H.hx h h' (fun a ha o q => (hs.2 a (fun e => H.off dh (by simp) (e ▸ ha))).trans q) p.2⟩) (evNF hv5) ?_)
  rintro v6 s6 R6 f6 hR6 e6
  have e6' : v = v6 := e6.symm
  subst e6'
  have hR16 := hR15.trans hR6
  -- chains.append([value])
  refine wpAny_execs_cons (f6.appendNew (D := dc) (xs := z.1) (PL := Is [v]) (W' := fun c => (Wc dc dh (z.1 ++ [c], z.2 ++ [v])).and Wx) (by simp) (fun q => H.nc (frame_row.mp q)) (evNF mc5) (by rw [sizeLine_eq]; omega) (fun h p => p.1.1) (fun v => only_and (only_Wc _) H.hx)
    (fun c h h' p hs hp => ⟨⟨hp, plain_same p.1.2 hs H.ne.symm⟩, H.hx h h' (fun a ha o q => (hs.2 a (fun e => H.off dc (by simp) (e ▸ ha))).trans q) p.2⟩) (evA1 (evNF hv5)) (by rintro vs h rfl; rw [sizeLine_eq]; simp) ?_)
  rintro C _ s7 R7 nF nO nW f7 hR7 rfl
  have hR17 := hR16.trans hR7
  refine execs_one (turn_loop (W := (Wc dc dh (z.1 ++ [Value.ref C], z.2 ++ [v])).and Wx) (cs := z.1) Y (G.sub hR17) rm f7 nF nW (only_and (only_Wc _) H.hx) mx5 mc5 (fun h p => p.1.1) (by omega) hat ?_)
  intro s8 R8 m8 vs d u f8 hR8 hch hd hm8
  have hR18 := hR17.trans hR8
  obtain ⟨R9, f9, hR9, hl9⟩ := f8.freeze (D := C) (xs := vs.toArray) (off' := offx ++ [dh, dc]) (wf' := fpx ++ [dh, dc]) (W' := (Wc dc dh (z.1 ++ [Value.ref C], z.2 ++ [v])).and Wx) (by simp) nF (fun a ha => ⟨.tail _ ha, fun e => nO (e ▸ ha)⟩) (fun a ha => .tail _ ha) (only_and (only_Wc _) H.hx) f8.view.1 f8.view.2.isList
  refine hQ s8 (z.1 ++ [Value.ref C], z.2 ++ [v]) R9 m8 f9 (hR18.trans hR9) ((hm8 _ (by decide)).trans mc5) ((hm8 _ (by decide)).trans mh5) ?_ (by simp) (by simp; omega)
  exact paired_snoc ⟨ra, d, C, vs, u, hat, hsm, rfl, hl9, hch.sub hR9, hd⟩ (paired_mono (fun _ _ q => q.sub (hR18.trans hR9)) H.p)
end
end Mine

/-! F4 -/
namespace Mine

/-- what `_law_row` hands back -/
def RowP : Value → Heap → Prop := fun a h => ∃ (t dc dh : Addr) (cs hs : List Value), a = .ref t ∧ h.IsTuple t #[.ref dc, .ref dh] ∧ h.IsList dc cs.toArray ∧ h.IsList dh hs.toArray ∧ Paired (Entry h) hs cs ∧ hs.length ≤ 25 ∧ 1 ≤ hs.length
theorem ints_mem : ∀ {vs : List Value} {ns : List Int}, IntsAre vs ns → ∀ {i : Nat} {v : Value}, vs[i]? = some v → ∃ n t, v = .int n t
  | _, _, .nil, i, v, h => by simp at h
  | _, _, .cons n t h', 0, v, h => by simp at h; exact ⟨n, t, h.symm⟩
  | _, _, .cons n t h', i + 1, v, h => ints_mem h' (i := i) (by simpa using h)
theorem FS.twoLists {prog : Program} {w : World} {A : Around} {s₁ s : Shared} {B R : Heap} {env : Env} {off wf : List Addr} {W : View} {m cm : MS} {x y : PySem.Str} {px py tp vp l1 l2 pos : Pos} {k k2 : Nat} {Q : Flow → Shared → Prop} {E : Value → Shared → Prop}
    (f : FS s₁ B env off wf W R m cm s) (hk : env.scope.kind = .function) (hh : A.handled = none) (lx : env.kindOf x = some .local) (ly : env.kindOf y = some .local)
    (h : ∀ dc dh s' R', ¬ Frame env dc → ¬ Frame env dh → dc ≠ dh → FS s₁ B env (dh :: dc :: off) (dh :: dc :: wf) ((W.and (PLv dc [])).and (PLv dh [])) R' (upd (upd m y (.ref dh)) x (.ref dc)) cm s' → Sub R R' → Q .next s')
    (hs : swapsWithSole [.Tuple [.Name x px, .Name y py] k tp] (.Tuple [.List [] l1, .List [] l2] k2 vp) pos.line env = pure false) (hw : swappedStores [.Tuple [.Name x px, .Name y py] k tp] (.Tuple [.List [] l1, .List [] l2] k2 vp) env = pure (some [x, y])) :
    wpAny (model prog w) A (exec (.Assign [.Tuple [.Name x px, .Name y py] k tp] (.Tuple [.List [] l1, .List [] l2] k2 vp) pos) env) Q E s := by
  refine Assign_Tuple_swapped (names := [x, y]) ?_ hs hw
  refine wpAny_Tuple (wpAny_items_cons (wpAny_List (wpAny_items_nil ⟨Nat.zero_le _, wpAny_items_cons (wpAny_List (wpAny_items_nil ⟨Nat.zero_le _, wpAny_items_nil ⟨by rw [sizeLine_eq]; simp, ?_⟩⟩))⟩)))
  obtain ⟨nF1, nO1, nW1, f1⟩ := f.pushList []
  obtain ⟨nF2, nO2, nW2, f2⟩ := f1.pushList []
  have hne : s.heap.objs.size ≠ (s.heap.push { cls := .type "list", data := .seq ([] : List Value).toArray }).objs.size := fun z => nO2 (z ▸ .head _)
  generalize s.heap.objs.size = dc at *
  generalize (s.heap.push { cls := .type "list", data := .seq ([] : List Value).toArray }).objs.size = dh at *
  revert f2
  generalize ({ s with heap := (s.heap.push { cls := .type "list", data := .seq ([] : List Value).toArray }).push { cls := .type "list", data := .seq ([] : List Value).toArray } } : Shared) = s2
  intro f2
  have kk : Keeps s2 { s2 with heap := s2.heap.push { cls := .type "tuple", data := .seq [Value.ref dc, .ref dh].toArray } } := keeps_mk (tk := s2.toks) ((Sub.refl _).push _)
  have f3 := f2.step kk f2.tok
  have ht : (fr R s2 { s2 with heap := s2.heap.push { cls := .type "tuple", data := .seq [Value.ref dc, .ref dh].toArray } }).IsTuple s2.heap.objs.size #[.ref dc, .ref dh] :=
    ⟨_, fr_get.mpr ⟨isTup_push s2.heap [.ref dc, .ref dh], .inr (fresh_none _ (Nat.le_refl _))⟩, rfl, 0, rfl⟩
  exact f3.pairSwapped hk hh ht (.l ly) (.l lx) fun s4 R4 f4 hR4 => h dc dh s4 R4 nF1 nF2 hne f4 ((sub_fr f2.sub kk).trans hR4)

section
variable {w : World} {A : Around} {K : Frag} {R : Heap}

theorem row_call {l : Addr} {vs : List Value} {ns : List Int} (Y : KQ K) (T : KT K) (rm : Room A 4) {Q : Value → Shared → Prop} {E : Value → Shared → Prop} {s : Shared} (hs : Sub R s.heap) (G : Gd K R) (hl : R.IsList l vs.toArray) (hi : IntsAre vs ns) (hn : 1 ≤ ns.length)
    (hQ : ∀ a s', Keeps s s' → 0 < s'.toks → Up RowP a (fr R s s') → Q a s') : wpAny (model prog2 w) A (call (.ref 99) [.ref l]) Q E s := by
  obtain ⟨⟨oc, od, sl, e3⟩, e4⟩ := T.rowF
  have G0 := G.sub hs
  refine wpAny_call (codeAny_call_def (binds := [("script", .ref l)]) rm.d (G0.k _ _ e3) rfl G0.lim (codeRec_of G0.k e4) rfl (BindsTo.of_eq rfl) (by decide) (locs rfl) ?_)
  intro h₀ hns hk
  have hnL : s.heap.get? s.heap.objs.size = none := fresh_none _ (Nat.le_refl _)
  have rm' : Room (A.deeper (rowEnv s.heap.objs.size)) 3 := rm.deeper _
  have f0 : FS s R (rowEnv s.heap.objs.size) [] [] View.any R (fun x => List.lookup x [(PySem.Str.ofString "script", Value.ref l)].reverse) (fun _ => none) { s with heap := h₀, toks := s.toks + [(PySem.Str.ofString "script", Value.ref l)].length } :=
    { keep := keeps_mk hk
      tok := Nat.succ_pos _
      sub := hs.trans hk
      base := fun b o e => .inl (by rw [e]; rfl)
      ap := ⟨fun x c e => absurd e (by show ¬ (List.lookup x [] = some c); simp), fun x y c e => absurd e (by show ¬ (List.lookup x [] = some c); simp)⟩
      fns := hns
      cells := fun x c e => absurd e (by show ¬ (List.lookup x [] = some c); simp)
      offF := fun a h => by
        rw [frame_row.mp h]
        exact ⟨fresh_off hs (Nat.le_refl _), hnL, by simp⟩
      offW := fun a h => by simp at h
      liveW := fun a h => by simp at h
      only := fun _ _ _ _ => trivial
      view := trivial }
  show wpAny (model prog2 w) (A.deeper (rowEnv s.heap.objs.size)) (execs (bodyOf rowD) (rowEnv s.heap.objs.size)) _ _ _
  generalize hL : s.heap.objs.size = L at *
  refine wpAny_execs_cons (f0.twoLists rfl rm'.handled rfl rfl ?_ (by kernel_rfl) (by kernel_rfl))
  intro dc dh s1 R1 nFc nFh hne f1 hR1
  have nc : dc ≠ L := fun z => nFc (frame_row.mpr z)
  have nh : dh ≠ L := fun z => nFh (frame_row.mpr z)
  have f1' : FS s R (rowEnv L) [dh, dc] [dh, dc] (Wc dc dh ([], [])) R1 (upd (upd (fun x => List.lookup x [(PySem.Str.ofString "script", Value.ref l)].reverse) "held" (.ref dh)) "chains" (.ref dc)) (fun _ => none) s1 :=
    { f1 with only := only_Wc _, view := ⟨f1.view.1.2, f1.view.2⟩ }
  have hvl : vs.length = ns.length := hi.length
  refine wpAny_execs_cons ?_
  refine f1'.forIter2 (ι := List Value × List Value) (W := Wc dc dh) (z0 := ([], [])) (n := vs.length) (P := fun i v => vs[i]? = some v) (PX := Is (.ref l))
    (J := fun i z R m _ => m "chains" = some (.ref dc) ∧ m "held" = some (.ref dh) ∧ Paired (Entry R) z.2 z.1 ∧ z.2.length ≤ 24 ∧ (0 < i → 0 < z.2.length))
    (D := fun z R m _ => m "chains" = some (.ref dc) ∧ m "held" = some (.ref dh) ∧ Paired (Entry R) z.2 z.1 ∧ z.2.length ≤ 24 ∧ 0 < z.2.length)
    (T := fun v m m' cm cm' => m' = upd m "x" v) (evNF rfl) ?hI only_Wc ?hasg ?hJ ?h0 ?hbody ?hend ?hdone
  case hI =>
    rintro xv R2 h2 rfl
    exact it_list rm'.handled (isList_sub hl (hR1.trans h2))
  case hasg =>
    intro off' wf' W' R m cm s i v f hR hP Q E h
    exact f.bindN rfl (.l rfl) fun s' f' => h s' R _ _ f' (Sub.refl _) rfl
  case hJ =>
    rintro i z R R' m cm hR ⟨h1, h2, h3, h4⟩
    exact ⟨h1, h2, paired_mono (fun _ _ q => q.sub hR) h3, h4⟩
  case h0 => exact ⟨rfl, rfl, .nil, by simp, by simp⟩
  case hbody =>
    rintro Wx offx fpx z i v R2 ma cma m cm s2 i_lt hP ⟨h1, h2, h3, h4, h5⟩ rfl hR hx hoff f Q E h hb
    obtain ⟨nn, t, rfl⟩ : ∃ nn t, v = .int nn t := ints_mem hi hP
    have m1 : upd ma "x" (.int nn t) "chains" = some (.ref dc) := (upd_ne (by decide)).trans h1
    have m2 : upd ma "x" (.int nn t) "held" = some (.ref dh) := (upd_ne (by decide)).trans h2
    refine row_turn Y (G.sub (hR1.trans hR)) rm' f ⟨hne, nc, nh, hx, hoff, m1, m2, h3, h4⟩ upd_same ?_ ?_
    · intro s' z' R' m' f' hR' q1 q2 q3 q4 q5
      exact (h s' z' R' m' cm f' hR' ⟨q1, q2, q3, q5, fun _ => by omega⟩).1
    · intro s' R' f' hR' q
      exact hb s' z R' _ cm f' hR' ⟨m1, m2, paired_mono (fun _ _ q => q.sub hR') h3, h4, by omega⟩
  case hend =>
    rintro z R m cm ⟨h1, h2, h3, h4, h5⟩
    exact ⟨h1, h2, h3, h4, h5 (by omega)⟩
  case hdone =>
    rintro z R2 m cm s3 f hR ⟨h1, h2, h3, h4, h5⟩
    have hl1 := h3.length
    have hnz : z.2 ≠ [] := List.length_pos_iff.mp h5
    obtain ⟨v, hv⟩ : ∃ v, z.2.getLast? = some v := ⟨z.2.getLast hnz, List.getLast?_eq_some_getLast hnz⟩
    obtain ⟨ra, hat, hsm⟩ := RowH.held (L := L) (fpx := []) (Wx := View.any) ⟨hne, nc, nh, fun _ _ _ _ => trivial, fun _ _ => by simp, h1, h2, h3, h4⟩ v (List.mem_of_getLast? hv)
    have GG := G.sub (hR1.trans hR)
    -- held.append(held[-1])
    refine wpAny_execs_cons (f.appendE (D := dh) (xs := z.2) (P := Is v) (W' := fun v => Wc dc dh (z.1, z.2 ++ [v])) (by simp) nFh (evNF h2) (by rw [sizeLine_eq]; omega) (fun h p => p.2) (fun v => only_Wc _)
      (fun v h h' p hs hp => ⟨plain_same p.1 hs hne, hp⟩) (evLast h2 (fun h p => p.2) (by omega) hv) ?_)
    rintro v4 s4 R4 f4 hR4 e4
    have e4' : v = v4 := e4.symm
    subst e4'
    have lastv : (z.2 ++ [v]).getLast? = some v := by simp
    have el : ∀ (p1 p2 p3 p4 : Pos) (k : Nat) (R' : Heap), Ev prog2 w (A.deeper (rowEnv L)) (fv (rowEnv L) m cm (Wc dc dh (z.1, z.2 ++ [v]))) R' (eval (.Subscript (.Name "held" p1) (.UnaryOp .USub (.Constant (.int 1) k p2) p3) p4) (rowEnv L)) (Is v) :=
      fun p1 p2 p3 p4 k R' => evLast h2 (fun h p => p.2) (by simp; omega) lastv
    -- chains.append([held[-1], QName(held[-1])])
    refine wpAny_execs_cons (f4.appendE (D := dc) (xs := z.1) (P := fun a h => ∃ l q, a = .ref l ∧ h.IsList l [v, .ref q].toArray ∧ QN h q v) (W' := fun c => Wc dc dh (z.1 ++ [c], z.2 ++ [v])) (by simp) nFc (evNF h1) (by rw [sizeLine_eq]; omega) (fun h p => p.1) (fun v => only_Wc _)
      (fun v h h' p hs hp => ⟨hp, plain_same p.2 hs hne.symm⟩) ((evList (evArgsC (el _ _ _ _ _ _) (evArgsC (P1 := fun a h => ∃ q, a = .ref q ∧ QN h q v) ?_ evArgs0)) ?_).mono ?_) ?_)
    · refine evCallK (f := .ref 88) (GG.sub hR4).k Y.keep (evNameG (GG.sub hR4) Y.nQ rfl rfl rfl) (evA1 (el _ _ _ _ _ _)) ?_
      intro vs R1 h1 p; cases p
      exact make1 Y ((GG.sub hR4).sub h1) (rm'.le (by omega))
    · rintro vs h ⟨_, _, rfl, _, _, _, rfl, _, rfl⟩; rw [sizeLine_eq]; simp
    · rintro a R' _ ⟨l, _, rfl, hl, _, _, rfl, rfl, _, _, rfl, ⟨q, rfl, hq⟩, rfl⟩; exact ⟨l, q, rfl, hl, hq⟩
    rintro _ s5 R5 f5 hR5 ⟨lc, q, rfl, hlc, hq⟩
    refine execs_one (wpAny_Return_some ?_)
    refine f5.ev (evTuple (evA2 (evNF h1) (evNF h2)) ?_) ?_
    · rintro vs h rfl; rw [sizeLine_eq]; simp
    rintro _ s6 R6 f6 hR6 ⟨t, _, rfl, ht, rfl⟩
    refine hQ _ s6 f6.keep f6.tok fun g zz => ?_
    have hout : Sub R6 g := f6.out.trans zz
    have lr : s6.heap.IsList dc (z.1 ++ [Value.ref lc]).toArray := f6.view.1.isList
    have lh : s6.heap.IsList dh (z.2 ++ [v]).toArray := f6.view.2.isList
    have new : ∀ a ∈ [dh, dc], ∀ o, s6.heap.get? a = some o → g.get? a = some o := fun a ha o e => zz _ _ (fr_get.mpr ⟨e, .inr (f6.offW a ha).2.1⟩)
    refine ⟨t, dc, dh, z.1 ++ [Value.ref lc], z.2 ++ [v], rfl, ⟨_, hout _ _ ht, rfl, 0, rfl⟩, lr.at (new dc (by simp)), lh.at (new dh (by simp)), ?_, by simp; omega, by simp⟩
    refine paired_snoc ?_ (paired_mono (fun _ _ q => q.sub ((hR4.trans hR5).trans (hR6.trans hout))) h3)
    exact ⟨ra, 1, lc, [v, .ref q], .ref q, hat, hsm, rfl, isList_sub hlc (hR6.trans hout), .more (vs := [v]) (.one hat) (hq.sub (hR6.trans hout)), by omega⟩
end
end Mine

/-! G1 -/
namespace Mine

theorem paired_at {α β : Type} {F : α → β → Prop} : ∀ {l : List α} {r : List β}, Paired F l r → ∀ {i : Nat} {b : β}, r[i]? = some b → ∃ a, l[i]? = some a ∧ F a b
  | _, _, .nil, i, b, h => by simp at h
  | _, _, .cons a b, 0, c, h => by simp at h; subst h; exact ⟨_, rfl, a⟩
  | _, _, .cons a b, i + 1, c, h => paired_at b (i := i) (by simpa using h)
theorem paired_to {α β : Type} {F : α → β → Prop} : ∀ {l : List α} {r : List β}, Paired F l r → ∀ {i : Nat} {a : α}, l[i]? = some a → ∃ b, r[i]? = some b ∧ F a b
  | _, _, .nil, i, b, h => by simp at h
  | _, _, .cons a b, 0, c, h => by simp at h; subst h; exact ⟨_, rfl, a⟩
  | _, _, .cons a b, i + 1, c, h => paired_to b (i := i) (by simpa using h)

section
variable {w : World} {A : Around} {K : Frag} {s₁ s : Shared} {B R : Heap} {L fa : Addr} {off wf : List Addr} {WV : Array Value → View} {m cm : MS} {ps : Array Value} {tk : Nat} {Q : Flow → Shared → Prop} {E : Value → Shared → Prop}

theorem law_two {l : Addr} {vs : List Value} {ns : List Int} (Y : KQ K) (Z : KN K) (T : KT K) (rm : Room A 20) (hA : A.frames = some [lawEnv L fa (.ref 115)]) (f : FS s₁ B (lawEnv L fa (.ref 115)) off wf (WV ps) R m cm { s with toks := tk }) (H : LamG K R) (TW : TabW WV off wf) (hF : ¬ Frame (lawEnv L fa (.ref 115)) 113) (TR : TabR R ps)
    (hm : m "script" = some (.ref l)) (hl : R.IsList l vs.toArray) (hi : IntsAre vs ns) (h1 : 1 ≤ ns.length)
    (hQ : ∀ s' R' ps' m' cm', FS s₁ B (lawEnv L fa (.ref 115)) off wf (WV ps') R' m' cm' s' → Q (.ret (.bool true)) s') : wpAny (model prog2 w) A (execs ((bodyOf lawD).drop 1) (lawEnv L fa (.ref 115))) Q E s := by
  have G := H.G
  refine wpAny_execs_cons (Assign_Tuple ?_)
  obtain ⟨mg, hmg⟩ := G.g
  have hsub : Sub R s.heap := f.sub
  have hfns : s.heap.Ns (lawEnv L fa (.ref 115)).locals m := f.fns
  refine wpAny_Call_NameR (Calls.Name_function_global rfl rfl (Calls.loadGlobal_global (env := lawEnv L fa (.ref 115)) (ns_sub hmg hsub) (mg_of G.k hmg T.rowN) ?_) (by decide))
  refine callWith_K G.k T.rowK (wpAny_items_cons (wpAny_Name (wpAny_loadName_local rfl rfl hfns hm (wpAny_items_nil ⟨G.k.keeps hsub, ?_⟩)) (by decide)) rfl)
  refine row_call Y T (rm.le (by omega)) hsub G hl hi h1 ?_
  intro a s1 k1 t1 hP
  have f1 := f.later k1 t1
  have hR1 := sub_fr hsub k1
  obtain ⟨t, dc, dh, cs, hs, rfl, ht, hc, hh, hp, h25, hpos⟩ := hP.here
  refine f1.pair rfl rm.handled ht (.l rfl) (.l rfl) ?_
  intro s2 R2 f2 hR2
  have hR12 := hR1.trans hR2
  have hlen := hp.length
  have hc2 := isList_sub hc hR2
  have hh2 := isList_sub hh hR2
  have hp2 : Paired (Entry R2) hs cs := paired_mono (fun _ _ q => q.sub hR2) hp
  refine wpAny_execs_cons (f2.assignC (evComp1 (n := cs.length) (P := fun i v => cs[i]? = some v) (PX := Is (.ref dc)) (fun _ => true)
    (fun i y h => ∃ (r : Raw) (d : Nat) (v : Value), hs[i]? = some v ∧ Nest h d y r ∧ d ≤ 6 ∧ r.At v ∧ r.small) rfl (by decide) rfl (by decide) rfl (evLL rfl) ?hI ?hz ?ht ?he) rfl rfl rfl ?_)
  case hI => rintro xv R3 h3 rfl; exact it_list rm.handled (isList_sub hc2 h3)
  case hz => rw [sizeLine_eq]; omega
  case ht => intro C i v mc R3 h3 hi hP hv; exact Ev.of_look fun _ _ _ _ h => wpAny_pure h
  case he =>
    rintro C i c mc R3 h3 hi hP hu _
    obtain ⟨v, hv, r, d, lc, vs', u, hat, hsm, rfl, hlc, hch, hd⟩ := paired_at hp2 hP
    have hl' := hch.len
    refine evSub (evCL hu) evNeg1 ?_
    rintro a b R4 h4 rfl ⟨t', rfl, _⟩
    exact (ev_last (isList_sub hlc (h3.trans h4)) hch.last (by omega)).mono fun y R' hR' e => by
      cases e
      exact ⟨r, d, v, hv, hch.nest.sub ((h3.trans h4).trans hR'), hd, hat, hsm⟩
  rintro _ s3 R3 f3 hR3 ⟨dr, ys, rfl, hys, hpr⟩
  rw [filter_all] at hpr
  have hyl := hpr.length
  rw [List.length_range] at hyl
  have hR13 := hR12.trans hR3
  have hp3 : Paired (Entry R3) hs cs := paired_mono (fun _ _ q => q.sub hR3) hp2
  have c : Cx R3 cs.length dr dh ys hs :=
    { lr := hys, lh := isList_sub hh2 hR3, nr := hyl.symm, nh := hlen, few := by omega
      one := fun i hi => by
        obtain ⟨y, ey, r, d, v, ev, q⟩ := paired_to hpr (i := i) (a := i) (by simp [hi])
        exact ⟨y, v, r, d, ey, ev, q⟩ }
  have m3 : upd (upd m "chains" (.ref dc)) "held" (.ref dh) "held" = some (.ref dh) := upd_same
  have m3c : upd (upd m "chains" (.ref dc)) "held" (.ref dh) "chains" = some (.ref dc) := rfl
  refine wpAny_execs_cons (i_loop Y Z T f3 (H.sub hR13) TW hF (TR.sub hR13) rm hA c upd_same m3 ?_)
  intro s4 R4 ps4 m4 cm4 f4 hR4 hc4
  refine wpAny_execs_cons (last_loop (chains := cs) Y f4 (G.sub (hR13.trans hR4)) (rm.le (by omega)) (hc4.trans m3c) (isList_sub hc2 (hR3.trans hR4)) (fun c' hc' => ?_) ?_)
  · obtain ⟨i, hi⟩ := List.getElem?_of_mem hc'
    obtain ⟨v, hv, r, d, lc, vs', u, hat, hsm, rfl, hlc, hch, hd⟩ := paired_at hp3 hi
    have hl' := hch.len
    exact ChainOk.sub ⟨lc, vs', rfl, hlc, by omega, hch.holds⟩ hR4
  intro s5 R5 cm5 f5 hR5
  refine execs_one (wpAny_Return_some (f5.ev evBool ?_))
  rintro _ s6 R6 f6 hR6 rfl
  exact hQ s6 R6 ps4 _ _ f6

theorem ev_mul9 {prog : Program} {V : View} {b : Nat} {t u : Tok} (hb : b < 100) : Ev prog w A V R (binaryOp .Mult (.int 9 t) (.int b u)) (IsI (9 * b)) := fun Q E s _ _ ht hQ => PySem.P.mul_int (hQ _ _ keeps_tok (Nat.succ_pos _) (upI ht)) (by mul_fits)

theorem law_body {l : Addr} {vs : List Value} {ns : List Int} (Y : KQ K) (Z : KN K) (T : KT K) (rm : Room A 20) (hA : A.frames = some [lawEnv L fa (.ref 115)]) (f : FS s₁ B (lawEnv L fa (.ref 115)) off wf (WV ps) R m cm { s with toks := tk }) (H : LamG K R) (TW : TabW WV off wf) (hF : ¬ Frame (lawEnv L fa (.ref 115)) 113) (TR : TabR R ps)
    (hm : m "script" = some (.ref l)) (hl : R.IsList l vs.toArray) (hi : IntsAre vs ns)
    (hQ : ∀ s' R' ps' m' cm', FS s₁ B (lawEnv L fa (.ref 115)) off wf (WV ps') R' m' cm' s' → Q (.ret (.bool true)) s') : wpAny (model prog2 w) A (execs (bodyOf lawD) (lawEnv L fa (.ref 115))) Q E s := by
  have G := H.G
  obtain ⟨mg, hmg⟩ := G.g
  obtain ⟨mb, hmb, hbl⟩ := G.b
  have hsub : Sub R s.heap := f.sub
  have hfns : s.heap.Ns (lawEnv L fa (.ref 115)).locals m := f.fns
  refine wpAny_execs_cons (wpAny_If (wpAny_isTrue_Compare1 (wpAny_Name (wpAny_loadName_local rfl rfl hfns hm (wpAny_List (wpAny_items_nil ⟨Nat.zero_le _, ?_⟩))) (by decide))))
  have k0 : Keeps s { s with heap := s.heap.push { cls := .type "list", data := .seq ([] : List Value).toArray } } := keeps_mk (tk := s.toks) ((Sub.refl _).push _)
  have f0 : FS s₁ B (lawEnv L fa (.ref 115)) off wf (WV ps) R m cm { s with heap := s.heap.push { cls := .type "list", data := .seq ([] : List Value).toArray }, toks := tk } := f.grow (keeps_mk (s := { s with toks := tk }) (tk := tk) ((Sub.refl _).push _)) f.tok
  refine ke_eq_ints (isList_sub (isList_sub hl hsub) (keeps_sub k0)) (isList_push _ []) hi .nil (by have := rm.units; omega) (wpAny_truthy_bool ?_)
  cases ns with
  | cons n ns' =>
    rw [if_neg (by simp)]
    refine wpAny_execs_nil ?_
    exact law_two (tk := tk) Y Z T rm hA f0 H TW hF TR hm hl hi (by simp) hQ
  | nil =>
    rw [if_pos (by simp)]
    refine execs_one ?_
    refine FS.assignComp1 (tk0 := tk) (n := 24) (P := fun i v => ∃ t, v = .int i t) (PX := IsR 0 24) (fun _ => true) (fun i y h => IsI (9 * (i : Int)) y h) f0 rfl (by decide) rfl (by decide) rfl rfl rfl ?hit ?hI ?hz ?ht ?he ?_ (by kernel_rfl)
    case hit =>
      intro Q' E' hq
      refine wpAny_Call_NameR (Calls.Name_function_global rfl rfl (Calls.loadGlobal_builtin (env := lawEnv L fa (.ref 115)) (ns_sub hmg f0.sub) (mg_none_of G.k hmg (Y.nB "range" (by simp))) (ns_sub hmb f0.sub) ((hbl "range" (by decide)).trans boot_range) ?_) (by decide))
      refine PyProof.Rows.callWith_type1 (wpAny_items_cons (wpAny_Constant_int (wpAny_items_nil ?_)) rfl) rfl rfl
      exact (ev_range1 (V := View.any) (R := R)) Q' E' _ f0.sub trivial (Nat.succ_pos _) fun a s' k t p => hq a s' (keeps_trans keeps_tok k) t p
    case hI =>
      intro xv R1 h1 hr
      exact it_rl rm.handled hr (by omega)
    case hz => rw [sizeLine_eq]; omega
    case ht => intro C i v mc R3 h3 hi hP hv; exact Ev.of_look fun _ _ _ _ h => wpAny_pure h
    case he =>
      rintro C i v mc R3 h3 hi ⟨t, rfl⟩ hu _
      refine evBin evInt (evCL hu) ?_
      rintro a b R4 h4 ⟨t', rfl, _⟩ rfl
      exact ev_mul9 (by omega)
    intro D s1 R1 ys f1 hR1 hl1 hpr
    rw [filter_all] at hpr
    refine law_two (tk := s1.toks) (ns := (List.range 24).map fun i : Nat => 9 * (i : Int)) Y Z T rm hA f1 (H.sub hR1) TW hF (TR.sub hR1) upd_same hl1 (ints_of_paired hpr) (by simp) hQ
end
end Mine

/-! G2 -/
namespace Mine

theorem caller_room2 (env : Env) : Room (callerA.deeper env) 20 := ⟨rfl, by show callerA.depth + 1 + 20 < recursionLimit; decide, by show callerA.units + 3 + 8 * 20 < cLine; decide⟩
theorem caller_frames (env : Env) : (callerA.deeper env).frames = some [env] := Around.frames_deeper rfl

theorem lamg {K : Frag} {p : Program} {lo : List PySem.Str} {mean : ExcName → Option Value} {mg mb : PySem.Str → Option Value} {h : Heap} (T : Top p lo mean mg mb h) (X : K.In h) (C : CodeHd h 115 113) (h0 : h.get? 113 = none) : LamG K h where
  G := ⟨X, ⟨mg, T.g⟩, ⟨mb, T.b, T.builtins⟩, T.nolimit⟩
  C := C
  b := by
    obtain ⟨bm, ob, b1, b2, b3, b4, b5, b6⟩ := T.bmain
    refine ⟨mg, T.g, bm, ob, b1, b2, fun q => ?_, fun q => ?_, b3, b4, b5, b6⟩
    · obtain ⟨o, es, ep, e, hd, _⟩ := T.g
      rw [q, e] at b3; cases b3; rw [hd] at b6; cases b6
    · rw [q, h0] at b3; cases b3

section
variable {L fa : Addr} {cd : Value} {x : PySem.Str} {c : Addr}
theorem law_look (h : (lawEnv L fa cd).cells.lookup x = some c) : (x = "row" ∧ c = L + 1 + 1 + 1 + 1) ∨ (x = "j" ∧ c = L + 1 + 1 + 1) ∨ (x = "i" ∧ c = L + 1 + 1) ∨ (x = "chain" ∧ c = L + 1) := by
  rw [law_cells] at h
  simp only [List.lookup] at h
  repeat' split at h
  all_goals first
    | (cases h; done)
    | (rename_i e; cases h; simp only [beq_iff_eq] at e; simp [e])

theorem frame_big {a : Addr} (h : Frame (lawEnv L fa cd) a) : L ≤ a := by
  rcases h with rfl | ⟨x, h⟩
  · exact Nat.le_refl _
  · rcases law_look h with ⟨_, rfl⟩ | ⟨_, rfl⟩ | ⟨_, rfl⟩ | ⟨_, rfl⟩
    · exact Nat.le_add_right L 4
    · exact Nat.le_add_right L 3
    · exact Nat.le_add_right L 2
    · exact Nat.le_add_right L 1

theorem finish2 {s₁ : Shared} {h₁ gh : Heap} {m cm : MS} {tk : Nat} {w3 w2 w1 w0 : Obj} (F : Fr gh L h₁ m)
    (N : News gh L h₁ [(L + 1 + 1 + 1 + 1, w3), (L + 1 + 1 + 1, w2), (L + 1 + 1, w1), (L + 1, w0), (113, tabObj #[])]) (hL : 113 < L)
    (d3 : w3.data = .cell (cm "row")) (d2 : w2.data = .cell (cm "j")) (d1 : w1.data = .cell (cm "i")) (d0 : w0.data = .cell (cm "chain")) :
    FS { s₁ with heap := gh } gh (lawEnv L fa cd) [113] [113] (tabV #[]) gh m cm { ({ s₁ with heap := h₁, toks := tk } : Shared) with toks := 1 } :=
  have new : ∀ a, Frame (lawEnv L fa cd) a → gh.get? a = none := fun a h => fresh_none _ (Nat.le_trans F.above (frame_big h))
  have tab := N (113, tabObj #[]) (by simp)
  { keep := ⟨h₁, 1, rfl, F.keep⟩
    tok := Nat.one_pos
    sub := F.keep
    base := fun b o e => .inl (by rw [e]; rfl)
    ap := ⟨fun x c h => by
        show c ≠ L
        rcases law_look h with ⟨_, rfl⟩ | ⟨_, rfl⟩ | ⟨_, rfl⟩ | ⟨_, rfl⟩ <;> exact Nat.ne_of_gt (by omega),
      fun x y c h h' => by
        rcases law_look h with ⟨rfl, rfl⟩ | ⟨rfl, rfl⟩ | ⟨rfl, rfl⟩ | ⟨rfl, rfl⟩ <;>
        rcases law_look h' with ⟨rfl, e⟩ | ⟨rfl, e⟩ | ⟨rfl, e⟩ | ⟨rfl, e⟩ <;> first | rfl | exact absurd e (Nat.ne_of_gt (by omega)) | exact absurd e (Nat.ne_of_lt (by omega))⟩
    fns := F.ns
    cells := fun x c h => by
      rcases law_look h with ⟨rfl, rfl⟩ | ⟨rfl, rfl⟩ | ⟨rfl, rfl⟩ | ⟨rfl, rfl⟩
      · exact ⟨w3, (N (_, w3) (by simp)).1, d3⟩
      · exact ⟨w2, (N (_, w2) (by simp)).1, d2⟩
      · exact ⟨w1, (N (_, w1) (by simp)).1, d1⟩
      · exact ⟨w0, (N (_, w0) (by simp)).1, d0⟩
    offF := fun a h => ⟨new a h, new a h, fun q => by
      have h1 := frame_big h
      have h2 : a = 113 := by simpa using q
      exact absurd (h2 ▸ h1) (Nat.not_le.mpr hL)⟩
    offW := fun a h => by
      have h2 : a = 113 := by simpa using h
      subst h2
      exact ⟨tab.2.2, tab.2.2, by show (h₁.get? 113).isSome = true; rw [tab.1]; rfl⟩
    liveW := fun a h => by
      have h2 : a = 113 := by simpa using h
      subst h2
      show (h₁.get? 113).isSome = true; rw [tab.1]; rfl
    only := fun h h' q z => q 113 (by simp) _ z
    view := tab.1 }
end
theorem no_tab {gh h₁ : Heap} {L : Addr} {a b c d : Addr × Obj} (N : News gh L h₁ [a, b, c, d, (113, tabObj #[])]) : gh.get? 113 = none := (N (113, tabObj #[]) (by simp)).2.2
theorem tab_w : TabW tabV [113] [113] where
  off := by simp
  get := fun ps h p => p
  set := fun ps ps' h h' p k e => e
  only := fun ps h h' q z => q 113 (by simp) _ z
theorem tab_r (R : Heap) : TabR R #[] := ⟨trivial, fun pos c e => by cases e⟩
theorem no_frame {L fa : Addr} {cd : Value} (hL : 113 < L) : ¬ Frame (lawEnv L fa cd) 113 := fun h => absurd (frame_big h) (Nat.not_le.mpr hL)

theorem end2 {c : ClaimW} {cl} {mean} {args} {s₁ s' : Shared} {gh R : Heap} {L fa : Addr} {cd : Value} {ps : Array Value} {m cm : MS} (f : FS { s₁ with heap := gh } gh (lawEnv L fa cd) [113] [113] (tabV ps) R m cm s') (hL : gh.objs.size ≤ L) (hg : s₁.gens = #[])
    (h1 : ∀ cls, c.raises args cls = false) (h2 : c.post args (.bool true) args = true) :
    GoodW c cl mean args { s₁ with heap := gh } (.ok (.ret (.bool true))) s' ∧ GrownAll [(115, 113)] s'.heap := by
  refine ⟨?_, ⟨ps, f.view⟩, trivial⟩
  have hn : s'.heap.Ns L m := f.fns
  obtain ⟨h, tk, rfl, e⟩ := f.keep
  exact goodW_bool (m := m) (L := L) ⟨hn, e, hL⟩ hg h1 h2
end Mine

/-! Hd02 -/
namespace Mine
set_option maxRecDepth 100000 in
set_option maxHeartbeats 8000000 in
open_top hd for PySem.Challenge.rw_dn0281_02
end Mine

/-! KB1 -/
namespace Mine
theorem kq2 (P : Params) : KQ (Mine.hd.heap_39 P) where
  nQ := by kernel_rfl
  nB := by intro x hx; simp only [List.mem_cons, List.not_mem_nil, or_false] at hx; rcases hx with rfl | rfl | rfl | rfl | rfl | rfl | rfl | rfl | rfl | rfl | rfl <;> kernel_rfl
  keep := by kernel_rfl
  makes := by kernel_rfl
  init := by kernel_rfl
  initFn := by kernel_rfl
  plainG := by kernel_rfl
  sa := by kernel_rfl
  over := by kernel_rfl
  taker := by kernel_rfl
  text := by kernel_rfl
  hasDict := by kernel_rfl
  clsA := by kernel_rfl
  clsG := by kernel_rfl
  clsT := by kernel_rfl
  mro := by kernel_rfl
  cmp := by
    intro op h
    cases op <;> first | (cases h; done) | exact ⟨by kernel_rfl, by kernel_rfl, ⟨⟨.type "function", none, #[], by kernel_rfl⟩, by kernel_rfl⟩⟩
  sub := by intro x hx; simp only [List.mem_cons, List.not_mem_nil, or_false] at hx; rcases hx with rfl | rfl | rfl | rfl <;> exact ⟨by kernel_rfl, by kernel_rfl⟩
  mroT := by intro x hx; simp only [List.mem_cons, List.not_mem_nil, or_false] at hx; rcases hx with rfl | rfl | rfl | rfl <;> kernel_rfl
  kitQ := by kernel_rfl
  strF := ⟨by kernel_rfl, by kernel_rfl, ⟨.type "function", none, #[], by kernel_rfl⟩, by kernel_rfl⟩
  initF := ⟨⟨.type "function", none, #[], by kernel_rfl⟩, by kernel_rfl⟩
  dflt := ⟨.type "tuple", none, #[], by kernel_rfl⟩
end Mine

/-! KB2 -/
namespace Mine
theorem kt2 (P : Params) : KT (Mine.hd.heap_39 P) where
  rowN := by kernel_rfl
  rowK := by kernel_rfl
  rowF := ⟨⟨.type "function", none, #[], by kernel_rfl⟩, by kernel_rfl⟩
  kindN := by kernel_rfl
  kindK := by kernel_rfl
  kindF := ⟨⟨.type "function", none, #[], by kernel_rfl⟩, by kernel_rfl⟩
  toldN := by kernel_rfl
  toldK := by kernel_rfl
  toldF := ⟨⟨.type "function", none, #[], by kernel_rfl⟩, by kernel_rfl⟩
theorem kn2 (P : Params) : KN (Mine.hd.heap_39 P) where
  ne := by kernel_rfl
end Mine

/-! Fin2 -/
set_option maxRecDepth 100000 in
set_option maxHeartbeats 8000000 in
theorem PySem.Challenge.cw_dn0281_02_holds : PySem.Challenge.rw_dn0281_02.Holds := by
  refine Mine.hd ?_
  w_strict (k_go0; (refine Mine.law_body (WV := Mine.tabV) (ps := #[]) (off := [113]) (wf := [113]) (Mine.kq2 _) (Mine.kn2 _) (Mine.kt2 _) (Mine.caller_room2 _) (Mine.caller_frames _) (Mine.finish2 (by assumption) (by assumption) (by assumption) (by assumption) (by assumption) (by assumption) (by assumption)) (Mine.lamg (by assumption) (by assumption) (by assumption) ?_) Mine.tab_w (Mine.no_frame (by assumption)) (Mine.tab_r _) rfl (by assumption) (by assumption) ?_); (· exact Mine.no_tab (by assumption)); (intro s' R' ps' m' cm' f; refine Mine.end2 f ?_ (by assumption) (raisesW_false ?_) ?_; (· exact Fr.above (by assumption)); (· wrow_none_raised); (· wrow_post)))
