import PyProof.Rows.All
import Wide.All
import OpenK.AllK
import Wide.FinOn
import KE.KSortAsk
import KE.KCallOwn
import PyProof.Rows.SortRev
import Lean
import PySem.Challenge.RW_dn0281_01
open PySem PySem.W PyProof.Rows
set_option Elab.async false
set_option linter.unusedVariables false
set_option maxRecDepth 100000

/-! Fw1 -/
namespace Mine

/-! ## heaps that only grow -/
def Sub (R h : Heap) : Prop := ∀ b o, R.get? b = some o → h.get? b = some o
theorem Sub.refl (h : Heap) : Sub h h := fun _ _ e => e
theorem Sub.trans {a b c : Heap} (x : Sub a b) (y : Sub b c) : Sub a c := fun p o e => y p o (x p o e)
theorem Sub.push {a b : Heap} (x : Sub a b) (o : Obj) : Sub a (b.push o) := fun p q e => Heap.get?_push_of_some o (x p q e)

theorem keeps_sub {s s' : Shared} (k : Keeps s s') : Sub s.heap s'.heap := by
  obtain ⟨h, tk, rfl, e⟩ := k; exact e
theorem keeps_refl (s : Shared) : Keeps s s := ⟨s.heap, s.toks, rfl, fun _ _ e => e⟩
theorem keeps_trans {s s' s'' : Shared} (k : Keeps s s') (k' : Keeps s' s'') : Keeps s s'' := by
  obtain ⟨h, tk, rfl, e⟩ := k
  obtain ⟨h', tk', rfl, e'⟩ := k'
  exact ⟨h', tk', rfl, fun b o q => e' b o (e b o q)⟩
theorem keeps_mk {s : Shared} {h : Heap} {tk : Nat} (x : Sub s.heap h) : Keeps s { s with heap := h, toks := tk } := ⟨h, tk, rfl, x⟩
theorem keeps_tok {s : Shared} {tk : Nat} : Keeps s { s with toks := tk } := ⟨s.heap, tk, rfl, fun _ _ e => e⟩

/-! ## the part of a heap that a reading code may speak of: what it was given, and what it made -/
def only (h : Heap) (p : Addr → Bool) : Heap := ⟨h.objs.mapIdx fun i o => if p i then o else { cls := .none, data := .freed }, h.life⟩
theorem only_get (h : Heap) (p : Addr → Bool) (b : Addr) : (only h p).get? b = if p b then h.get? b else none := by
  unfold only Heap.get?
  simp only [Array.getElem?_mapIdx]
  cases e : h.objs[b]? with
  | none => simp
  | some o =>
    simp only [Option.map_some]
    cases hp : p b with
    | true => simp
    | false => simp
def fr (R : Heap) (s s' : Shared) : Heap := only s'.heap fun b => (R.get? b).isSome || (s.heap.get? b).isNone
theorem fr_get {R : Heap} {s s' : Shared} {b : Addr} {o : Obj} : (fr R s s').get? b = some o ↔ s'.heap.get? b = some o ∧ ((R.get? b).isSome = true ∨ s.heap.get? b = none) := by
  unfold fr
  rw [only_get]
  by_cases h : ((R.get? b).isSome || (s.heap.get? b).isNone) = true
  · rw [if_pos h]
    have h' : (R.get? b).isSome = true ∨ s.heap.get? b = none := by simpa using h
    exact ⟨fun e => ⟨e, h'⟩, fun e => e.1⟩
  · rw [if_neg h]
    have h' : ¬ ((R.get? b).isSome = true ∨ s.heap.get? b = none) := by simpa using h
    exact ⟨fun e => (by cases e), fun e => absurd e.2 h'⟩
theorem fr_sub {R : Heap} {s s' : Shared} : Sub (fr R s s') s'.heap := fun _ _ e => (fr_get.mp e).1
theorem sub_fr {R : Heap} {s s' : Shared} (hs : Sub R s.heap) (k : Keeps s s') : Sub R (fr R s s') := fun b o e => fr_get.mpr ⟨keeps_sub k _ _ (hs _ _ e), .inl (by rw [e]; rfl)⟩
theorem fr_mono {R R' : Heap} {s s' : Shared} (h : Sub R R') : Sub (fr R s s') (fr R' s s') := fun b o e => by
  obtain ⟨h1, h2⟩ := fr_get.mp e
  refine fr_get.mpr ⟨h1, h2.imp (fun q => ?_) id⟩
  obtain ⟨o', ho⟩ := Option.isSome_iff_exists.mp q
  rw [h _ _ ho]; rfl
theorem fr_trans {R : Heap} {s s' s'' : Shared} (k : Keeps s s') : Sub (fr (fr R s s') s' s'') (fr R s s'') := fun b o e => by
  obtain ⟨h1, h2⟩ := fr_get.mp e
  refine fr_get.mpr ⟨h1, ?_⟩
  rcases h2 with q | q
  · obtain ⟨o', ho⟩ := Option.isSome_iff_exists.mp q
    exact (fr_get.mp ho).2
  · refine .inr ?_
    cases e' : s.heap.get? b with
    | none => rfl
    | some o' => rw [keeps_sub k _ _ e'] at q; cases q
theorem fr_self {s s' : Shared} : Sub s'.heap (fr s.heap s s') := fun b o e => fr_get.mpr ⟨e, by cases h : s.heap.get? b <;> simp⟩
theorem fr_new {R : Heap} {s s' : Shared} {b : Addr} {o : Obj} (h : s'.heap.get? b = some o) (hb : s.heap.objs.size ≤ b) : (fr R s s').get? b = some o :=
  fr_get.mpr ⟨h, .inr (by cases e : s.heap.get? b with | none => rfl | some o' => exact absurd (Heap.lt_size e) (Nat.not_lt.mpr hb))⟩

def Up {α : Type} (P : α → Heap → Prop) (a : α) (h : Heap) : Prop := ∀ h', Sub h h' → P a h'
theorem Up.here {α : Type} {P : α → Heap → Prop} {a : α} {h : Heap} (x : Up P a h) : P a h := x h (Sub.refl h)
theorem Up.sub {α : Type} {P : α → Heap → Prop} {a : α} {h h' : Heap} (x : Up P a h) (s : Sub h h') : Up P a h' := fun g z => x g (s.trans z)

/-- what the code reads of its own variables: stable while nothing is stored -/
structure View where
  p : Heap → Prop
  up : ∀ h h', Sub h h' → p h → p h'
def View.any : View := ⟨fun _ => True, fun _ _ _ h => h⟩
def View.ns (L : Addr) (m : PySem.Str → Option Value) : View := ⟨fun h => h.Ns L m, fun _ _ s h => h.keeps s⟩
theorem View.nsH {L : Addr} {m : PySem.Str → Option Value} : ∀ h, (View.ns L m).p h → h.Ns L m := fun _ z => z
def View.cell (c : Addr) (v : Value) : View := ⟨fun h => h.IsCell c (some v), fun _ _ s h => h.keeps s⟩
def View.and (V W : View) : View := ⟨fun h => V.p h ∧ W.p h, fun _ _ s h => ⟨V.up _ _ s h.1, W.up _ _ s h.2⟩⟩

/-- `t` comes back with a value and only adds to the heap; `P` speaks of the value, of `R` and of what was made -/
def Ev (prog : Program) (w : World) (A : Around) (V : View) (R : Heap) {α : Type} (t : Sem α) (P : α → Heap → Prop) : Prop :=
  ∀ (Q : α → Shared → Prop) (E : Value → Shared → Prop) (s : Shared), Sub R s.heap → V.p s.heap → 0 < s.toks → (∀ a s', Keeps s s' → 0 < s'.toks → Up P a (fr R s s') → Q a s') → wpAny (model prog w) A t Q E s

theorem wpAny_pos {α : Type} {M : Model} {A : Around} {t : Sem α} {Q : α → Shared → Prop} {E : Value → Shared → Prop} {s : Shared} (ht : 0 < s.toks) (h : wpAny M A t (fun a s' => 0 < s'.toks → Q a s') E s) : wpAny M A t Q E s :=
  wpAny_mono (wpAny_toks_of (n := 1) ht h) (fun _ _ q => q.2 q.1) fun _ _ e => e.2
theorem Ev.mk {prog : Program} {w : World} {A : Around} {V : View} {R : Heap} {α : Type} {t : Sem α} {P : α → Heap → Prop}
    (h : ∀ (Q : α → Shared → Prop) (E : Value → Shared → Prop) (s : Shared), Sub R s.heap → V.p s.heap → 0 < s.toks → (∀ a s', Keeps s s' → Up P a (fr R s s') → Q a s') → wpAny (model prog w) A t Q E s) : Ev prog w A V R t P :=
  fun Q E s hs hv ht hq => wpAny_pos ht (h _ E s hs hv ht fun a s' k p t => hq a s' k t p)

def Is {α : Type} (v : α) : α → Heap → Prop := fun a _ => a = v
def IsI (n : Int) : Value → Heap → Prop := fun a _ => ∃ t, a = .int n t ∧ 0 < t
def IsS (x : PySem.Str) : Value → Heap → Prop := fun a _ => ∃ t, a = .str x t ∧ 0 < t
theorem upIs {α : Type} {v : α} {h : Heap} : Up (Is v) v h := fun _ _ => rfl
theorem upI {n : Int} {t : Tok} {h : Heap} (ht : 0 < t) : Up (IsI n) (.int n t) h := fun _ _ => ⟨t, rfl, ht⟩
theorem upS {x : PySem.Str} {t : Tok} {h : Heap} (ht : 0 < t) : Up (IsS x) (.str x t) h := fun _ _ => ⟨t, rfl, ht⟩

section
variable {prog : Program} {w : World} {A : Around} {V : View} {R R' : Heap} {α β : Type} {t : Sem α} {f : α → Sem β} {P P' : α → Heap → Prop} {P2 : β → Heap → Prop}

theorem View.keeps {s s' : Shared} (hv : V.p s.heap) (k : Keeps s s') : V.p s'.heap := V.up _ _ (keeps_sub k) hv
theorem Ev.use {Q : α → Shared → Prop} {E : Value → Shared → Prop} {s : Shared} (x : Ev prog w A V R t P) (hs : Sub R s.heap) (hv : V.p s.heap) (ht : 0 < s.toks) (h : ∀ a s', Keeps s s' → 0 < s'.toks → P a s'.heap → Q a s') : wpAny (model prog w) A t Q E s :=
  x Q E s hs hv ht fun a s' k t p => h a s' k t (p _ fr_sub)
theorem Ev.here {Q : α → Shared → Prop} {E : Value → Shared → Prop} {s : Shared} (x : Ev prog w A V s.heap t P) (hv : V.p s.heap) (ht : 0 < s.toks) (h : ∀ a s', Keeps s s' → 0 < s'.toks → P a s'.heap → Q a s') : wpAny (model prog w) A t Q E s := x.use (Sub.refl _) hv ht h
theorem Ev.sub (x : Ev prog w A V R t P) (hs : Sub R R') : Ev prog w A V R' t P := fun Q E s h hv ht hq => x Q E s (hs.trans h) hv ht fun a s' k t p => hq a s' k t (p.sub (fr_mono hs))
theorem Ev.view {W : View} (x : Ev prog w A V R t P) (h : ∀ g, W.p g → V.p g) : Ev prog w A W R t P := fun Q E s hs hv ht hq => x Q E s hs (h _ hv) ht hq
/-- one stage, then another -/
theorem Ev.then {Q : α → Shared → Prop} {E : Value → Shared → Prop} {s s1 : Shared} (x : Ev prog w A V (fr R s s1) t P) (hv : V.p s.heap) (k : Keeps s s1) (ht : 0 < s1.toks) (h : ∀ a s', Keeps s s' → 0 < s'.toks → Up P a (fr R s s') → Q a s') : wpAny (model prog w) A t Q E s1 :=
  x Q E s1 fr_sub (View.keeps hv k) ht fun a s' k' t' p => h a s' (keeps_trans k k') t' (p.sub (fr_trans k))
theorem Ev.bind (x : Ev prog w A V R t P) (y : ∀ a R', Sub R R' → P a R' → Ev prog w A V R' (f a) P2) : Ev prog w A V R (t >>= f) P2 :=
  fun Q E s hs hv ht hq => wpAny_bind (x _ E s hs hv ht fun a s' k t' p => (y a _ (sub_fr hs k) p.here).then hv k t' hq)
theorem Ev.pure {a : α} (h : ∀ R', Sub R R' → P a R') : Ev prog w A V R (Pure.pure a) P := fun _ _ s hs _ ht hq => wpAny_pure (hq a s (keeps_refl s) ht fun g z => h g ((sub_fr hs (keeps_refl s)).trans z))
theorem Ev.mono (x : Ev prog w A V R t P) (h : ∀ a R', Sub R R' → P a R' → P' a R') : Ev prog w A V R t P' :=
  fun Q E s hs hv ht hq => x Q E s hs hv ht fun a s' k t' p => hq a s' k t' fun g z => h a g ((sub_fr hs k).trans z) (p g z)
theorem Ev.holding {vs : List Value} (x : Ev prog w A V R t P) : Ev prog w A V R (PySem.holding vs t) P := fun Q E s hs hv ht hq => wpAny_holding (x Q E s hs hv ht hq)
theorem Ev.onRaise {k : Value → Sem Unit} (x : Ev prog w A V R t P) : Ev prog w A V R (t.onRaise k) P := fun Q _ s hs hv ht hq => wpAny_onRaise (x Q _ s hs hv ht hq)
theorem Ev.of_look {v : α} (h : ∀ (Q : α → Shared → Prop) (E : Value → Shared → Prop) (s : Shared), Sub R s.heap → Q v s → wpAny (model prog w) A t Q E s) : Ev prog w A V R t (Is v) :=
  fun Q E s hs _ ht hq => h Q E s hs (hq v s (keeps_refl s) ht upIs)
theorem Ev.of_view {v : α} (h : ∀ (Q : α → Shared → Prop) (E : Value → Shared → Prop) (s : Shared), V.p s.heap → Q v s → wpAny (model prog w) A t Q E s) : Ev prog w A V R t (Is v) :=
  fun Q E s _ hv ht hq => h Q E s hv (hq v s (keeps_refl s) ht upIs)
theorem Ev.looks {v : α} (x : Looks (model prog w) R t v) : Ev prog w A V R t (Is v) := fun Q E s hs _ ht hq => x A Q E s hs (hq v s (keeps_refl s) ht upIs)
theorem Ev.of_in1 (x : Ev prog w A.in1 V R t P) : Ev prog w A V R t P := fun Q E s hs hv ht hq => wpAny_of_in1 (x Q E s hs hv ht hq)
theorem Ev.eq {t' : Sem α} (e : t' = t) (x : Ev prog w A V R t P) : Ev prog w A V R t' P := e ▸ x
end

/-! ## keeping facts -/
theorem isList_sub {R h : Heap} {l : Addr} {xs : Array Value} (x : R.IsList l xs) (s : Sub R h) : h.IsList l xs := let ⟨o, ho, r⟩ := x; ⟨o, s _ _ ho, r⟩
theorem ns_sub {R h : Heap} {l : Addr} {m : PySem.Str → Option Value} (x : R.Ns l m) (s : Sub R h) : h.Ns l m := x.keeps s
theorem cell_sub {R h : Heap} {c : Addr} {v : Option Value} (x : R.IsCell c v) (s : Sub R h) : h.IsCell c v := x.keeps s
theorem fresh_none (h : Heap) {a : Addr} (ha : h.objs.size ≤ a) : h.get? a = none := by
  cases e : h.get? a with
  | none => rfl
  | some o => exact absurd (Heap.lt_size e) (Nat.not_lt.mpr ha)
theorem fresh_off {R h : Heap} (s : Sub R h) {a : Addr} (ha : h.objs.size ≤ a) : R.get? a = none := by
  cases e : R.get? a with
  | none => rfl
  | some o => exact absurd (Heap.lt_size (s _ _ e)) (Nat.not_lt.mpr ha)

/-! ## room for calls -/
structure Room (A : Around) (k : Nat) : Prop where
  handled : A.handled = none
  depth : A.depth + k < recursionLimit
  units : A.units + 8 * k < cLine
theorem Room.le {A : Around} {k j : Nat} (r : Room A k) (h : j ≤ k) : Room A j := ⟨r.handled, by have := r.depth; omega, by have := r.units; omega⟩
theorem Room.deeper {A : Around} {k : Nat} (r : Room A (k + 1)) (env : Env) : Room (A.deeper env) k :=
  ⟨r.handled, by have := r.depth; show A.depth + 1 + k < _; omega, by have := r.units; show A.units + 3 + 8 * k < _; omega⟩
theorem Room.in1 {A : Around} {k : Nat} (r : Room A (k + 1)) : Room A.in1 k := ⟨r.handled, by have := r.depth; show A.depth + k < _; omega, by have := r.units; show A.units + 1 + 8 * k < _; omega⟩
theorem Room.d {A : Around} {k : Nat} (r : Room A k) : A.depth < recursionLimit := by have := r.depth; omega
theorem Room.u {A : Around} {k : Nat} (r : Room A k) : A.units < cLine := by have := r.units; omega
theorem Room.make {A : Around} {k : Nat} (r : Room A (k + 1)) (C : Addr) (rest : List Value) (kw : List (PySem.Str × Value)) : Room (A.under (.builtin "type.__call__" ⟨.ref C :: rest, kw⟩)) k := by
  have h1 : (Code.builtin "type.__call__" ⟨.ref C :: rest, kw⟩).weight = 1 := by kernel_rfl
  have h2 : (Code.builtin "type.__call__" ⟨.ref C :: rest, kw⟩).cUnits = 1 := by kernel_rfl
  refine ⟨r.handled, ?_, ?_⟩
  · have := r.depth; show A.depth + _ + k < _; rw [h1]; omega
  · have := r.units; show A.units + _ + 8 * k < _; rw [h2]; omega

end Mine

/-! Fw2 -/
namespace Mine

/-- the ground: what every heap of the call holds -/
structure Gd (K : Frag) (h : Heap) : Prop where
  k : K.In h
  g : ∃ mg, h.Ns mainGlobals mg
  b : ∃ mb, h.Ns builtinsNs mb ∧ ∀ x : PySem.Str, x ≠ "__name__" → mb x = bootBuiltins x
  lim : h.NoLimit
theorem Gd.sub {K : Frag} {h h' : Heap} (G : Gd K h) (s : Sub h h') : Gd K h' where
  k := G.k.keeps s
  g := let ⟨mg, x⟩ := G.g; ⟨mg, x.keeps s⟩
  b := let ⟨mb, x, y⟩ := G.b; ⟨mb, x.keeps s, y⟩
  lim := G.lim.keeps s

theorem size_of_sub {h h' : Heap} {a : Addr} {o : Obj} (s : Sub h h') (e : h.get? a = some o) : a < h'.objs.size := Heap.lt_size (s _ _ e)

/-- what a list is in a heap -/
def IsL (xs : List Value) : Value → Heap → Prop := fun a h => ∃ l, a = .ref l ∧ h.IsList l xs.toArray
theorem IsL.sub {xs : List Value} {a : Value} {h h' : Heap} (x : IsL xs a h) (s : Sub h h') : IsL xs a h' := let ⟨l, e, q⟩ := x; ⟨l, e, isList_sub q s⟩

section
variable {prog : Program} {w : World} {A : Around} {V : View} {R : Heap} {env : Env} {P P1 P2 : Value → Heap → Prop}

theorem evNameL {x : PySem.Str} {pos : Pos} {m : PySem.Str → Option Value} {v : Value} (hn : ∀ h, V.p h → h.Ns env.locals m) (hv : m x = some v) (hk : env.scope.kind = .function) (hl : env.kindOf x = some .local)
    (hd : (x == ("__debug__" : PySem.Str)) = false := by decide) : Ev prog w A V R (eval (.Name x pos) env) (Is v) :=
  Ev.of_view fun _ _ _ hs h => wpAny_Name (wpAny_loadName_local hk hl (hn _ hs) hv h) hd
theorem evNameC {x : PySem.Str} {pos : Pos} {c : Addr} {v : Value} (hc : ∀ h, V.p h → h.IsCell c (some v)) (hk : env.scope.kind = .function) (hl : env.kindOf x = some .cell) (hx : env.cells.lookup x = some c)
    (hd : (x == ("__debug__" : PySem.Str)) = false := by decide) : Ev prog w A V R (eval (.Name x pos) env) (Is v) :=
  Ev.of_view fun _ _ _ hs h => wpAny_Name (wpAny_loadName_cell hk hl hx (hc _ hs) h) hd
theorem evNameF {x : PySem.Str} {pos : Pos} {c : Addr} {v : Value} (hc : ∀ h, V.p h → h.IsCell c (some v)) (hk : env.scope.kind = .function) (hl : env.kindOf x = some .free) (hx : env.cells.lookup x = some c)
    (hd : (x == ("__debug__" : PySem.Str)) = false := by decide) (hq : (x == ("__classdict__" : PySem.Str)) = false := by decide) : Ev prog w A V R (eval (.Name x pos) env) (Is v) :=
  Ev.of_view fun _ _ _ hs h => wpAny_Name (wpAny_loadName_free hk hl hx (hc _ hs) h hq) hd
theorem evNameG {K : Frag} {x : PySem.Str} {pos : Pos} {v : Value} (G : Gd K R) (e : nsIn K mainGlobals x = some (some v)) (hg : env.globals = mainGlobals) (hk : env.scope.kind = .function) (hl : env.kindOf x = some .globalImplicit)
    (hd : (x == ("__debug__" : PySem.Str)) = false := by decide) : Ev prog w A V R (eval (.Name x pos) env) (Is v) :=
  Ev.of_look fun _ _ _ hs h => by
    obtain ⟨mg, hm⟩ := G.g
    exact Calls.Name_function_global hk hl (Calls.loadGlobal_global (env := env) (by rw [hg]; exact ns_sub hm hs) (mg_of G.k hm e) h) hd
theorem evNameB {K : Frag} {x : PySem.Str} {pos : Pos} {v : Value} (G : Gd K R) (e : nsIn K mainGlobals x = some none) (hv : bootBuiltins x = some v) (hn : x ≠ "__name__") (hg : env.globals = mainGlobals) (hb : env.builtins = builtinsNs)
    (hk : env.scope.kind = .function) (hl : env.kindOf x = some .globalImplicit)
    (hd : (x == ("__debug__" : PySem.Str)) = false := by decide) : Ev prog w A V R (eval (.Name x pos) env) (Is v) :=
  Ev.of_look fun _ _ _ hs h => by
    obtain ⟨mg, hm⟩ := G.g
    obtain ⟨mb, hmb, hbl⟩ := G.b
    exact Calls.Name_function_global hk hl (Calls.loadGlobal_builtin (env := env) (by rw [hg]; exact ns_sub hm hs) (mg_none_of G.k hm e) (by rw [hb]; exact ns_sub hmb hs) ((hbl x hn).trans hv) h) hd

theorem evInt {i : Int} {k : Nat} {pos : Pos} : Ev prog w A V R (eval (.Constant (.int i) k pos) env) (IsI i) := fun _ _ s _ _ ht hq => wpAny_Constant_int (hq _ _ keeps_tok (Nat.succ_pos _) (upI ht))
theorem evStr {x : PySem.Str} {k : Nat} {pos : Pos} : Ev prog w A V R (eval (.Constant (.str x) k pos) env) (IsS x) := fun _ _ s _ _ ht hq => wpAny_Constant_str (hq _ _ keeps_tok (Nat.succ_pos _) (upS ht))

/-- two stages in a row: both values, spoken of at the later heap -/
theorem ev2 {α β : Type} {t : Sem α} {u : Sem β} {P1 : α → Heap → Prop} {P2 : β → Heap → Prop} {Q : α → β → Shared → Prop} {E : Value → Shared → Prop} {s : Shared} (x : Ev prog w A V R t P1) (y : Ev prog w A V R u P2) (hs : Sub R s.heap) (hv : V.p s.heap) (ht : 0 < s.toks)
    (h : ∀ a b s2, Keeps s s2 → 0 < s2.toks → Up P1 a (fr R s s2) → Up P2 b (fr R s s2) → Q a b s2) : wpAny (model prog w) A t (fun a s1 => wpAny (model prog w) A u (fun b s2 => Q a b s2) E s1) E s :=
  x _ _ s hs hv ht fun a s1 k1 t1 p1 => (y.sub (sub_fr hs k1)) _ _ s1 fr_sub (View.keeps hv k1) t1 fun b s2 k2 t2 p2 => h a b s2 (keeps_trans k1 k2) t2
    (p1.sub fun q o e => by
      obtain ⟨e1, e2⟩ := fr_get.mp e
      exact fr_get.mpr ⟨keeps_sub k2 _ _ e1, e2⟩) (p2.sub (fr_trans k1))

theorem evBin {l r : Expr} {op : Operator} {pos : Pos} (x : Ev prog w A V R (eval l env) P1) (y : Ev prog w A V R (eval r env) P2)
    (z : ∀ a b R2, Sub R R2 → P1 a R2 → P2 b R2 → Ev prog w A V R2 (binaryOp op a b) P) : Ev prog w A V R (eval (.BinOp l op r pos) env) P :=
  fun Q E s hs hv ht hq => wpAny_BinOp (ev2 x y hs hv ht fun a b s2 k2 t2 p1 p2 => (z a b _ (sub_fr hs k2) p1.here p2.here).then hv k2 t2 hq)

theorem evCmp {l r : Expr} {op : CmpOp} {pos : Pos} (x : Ev prog w A V R (eval l env) P1) (y : Ev prog w A V R (eval r env) P2)
    (z : ∀ a b R2, Sub R R2 → P1 a R2 → P2 b R2 → Ev prog w A V R2 (compareOp op a b) P) (hm : behindInMarks op r = false := by rfl) : Ev prog w A V R (eval (.Compare l [op] [r] pos) env) P :=
  fun Q E s hs hv ht hq => wpAny_Compare1 (ev2 x y hs hv ht fun a b s2 k2 t2 p1 p2 => (z a b _ (sub_fr hs k2) p1.here p2.here).then hv k2 t2 hq) hm

theorem ev_truthy_bool {b : Bool} : Ev prog w A V R (truthy (.bool b)) (Is b) := Ev.of_look fun _ _ _ _ h => wpAny_truthy_bool h

/-- a test by one comparison -/
theorem evTest {l r : Expr} {op : CmpOp} {pos : Pos} {whole : Sem Value} {b : Bool} (x : Ev prog w A V R (eval l env) P1) (y : Ev prog w A V R (eval r env) P2)
    (z : ∀ a b' R2, Sub R R2 → P1 a R2 → P2 b' R2 → Ev prog w A V R2 (compareOp op a b') (Is (.bool b))) (hm : behindInMarks op r = false := by rfl) :
    Ev prog w A V R (isTrue (.Compare l [op] [r] pos) env whole) (Is b) :=
  fun Q E s hs hv ht hq => wpAny_isTrue_Compare1 (ev2 x y hs hv ht fun a b s2 k2 t2 p1 p2 => (z a b _ (sub_fr hs k2) p1.here p2.here).then hv k2 t2 fun c s3 k3 t3 p3 => by
      cases p3.here; exact wpAny_truthy_bool (hq _ s3 k3 t3 upIs)) hm
theorem evNot {x : Expr} {pos : Pos} {whole : Sem Value} {b : Bool} (h : Ev prog w A V R (isTrue x env (eval x env)) (Is b)) : Ev prog w A V R (isTrue (.UnaryOp .Not x pos) env whole) (Is (!b)) :=
  fun Q E s hs hv ht hq => wpAny_isTrue_Not (h.use hs hv ht fun a s1 k1 t1 p1 => by cases p1; exact hq _ s1 k1 t1 upIs)
theorem evTestV {e : Expr} {b : Bool} {whole : Sem Value} (h : Ev prog w A V R whole (Is (.bool b))) (he : isTrue e env whole = (whole >>= fun v => standAt e.pos >>= fun _ => holding [v] (truthy v)) := by rfl) :
    Ev prog w A V R (isTrue e env whole) (Is b) :=
  fun Q E s hs hv ht hq => wpAny_isTrue_value (h.use hs hv ht fun a s1 k1 t1 p1 => by cases p1; exact wpAny_truthy_bool (hq _ s1 k1 t1 upIs)) he
theorem evAndN {pos : Pos} {whole : Sem Value} {vs : List Expr} {b : Bool} (h : Ev prog w A V R (allTrue .And vs env) (Is b)) : Ev prog w A V R (isTrue (.BoolOp .And vs pos) env whole) (Is b) :=
  fun Q E s hs hv ht hq => wpAny_isTrue_BoolOp (h Q E s hs hv ht hq)
theorem evOrN {pos : Pos} {whole : Sem Value} {vs : List Expr} {b : Bool} (h : Ev prog w A V R (allTrue .Or vs env) (Is b)) : Ev prog w A V R (isTrue (.BoolOp .Or vs pos) env whole) (Is b) :=
  fun Q E s hs hv ht hq => wpAny_isTrue_BoolOp (h Q E s hs hv ht hq)
theorem evAnd0 : Ev prog w A V R (allTrue .And [] env) (Is true) := Ev.of_look fun _ _ _ _ h => wpAny_allTrue_And_nil h
theorem evOr0 : Ev prog w A V R (allTrue .Or [] env) (Is false) := Ev.of_look fun _ _ _ _ h => wpAny_allTrue_Or_nil h
theorem evAnd1 {x : Expr} {rest : List Expr} {b c : Bool} (h : Ev prog w A V R (isTrue x env (eval x env)) (Is b)) (h2 : b = true → Ev prog w A V R (allTrue .And rest env) (Is c)) :
    Ev prog w A V R (allTrue .And (x :: rest) env) (Is (b && c)) :=
  fun Q E s hs hv ht hq => wpAny_allTrue_And_cons (h.use hs hv ht fun a s1 k1 t1 p1 => by
    cases p1
    cases b with
    | false => rw [if_neg (by simp)]; exact hq _ s1 k1 t1 upIs
    | true => rw [if_pos rfl]; exact (h2 rfl).use (hs.trans (keeps_sub k1)) (View.keeps hv k1) t1 fun b s2 k2 t2 p2 => by cases p2; exact hq _ s2 (keeps_trans k1 k2) t2 upIs)
theorem evOr1 {x : Expr} {rest : List Expr} {b c : Bool} (h : Ev prog w A V R (isTrue x env (eval x env)) (Is b)) (h2 : b = false → Ev prog w A V R (allTrue .Or rest env) (Is c)) :
    Ev prog w A V R (allTrue .Or (x :: rest) env) (Is (b || c)) :=
  fun Q E s hs hv ht hq => wpAny_allTrue_Or_cons (h.use hs hv ht fun a s1 k1 t1 p1 => by
    cases p1
    cases b with
    | true => rw [if_pos rfl]; exact hq _ s1 k1 t1 upIs
    | false => rw [if_neg (by simp)]; exact (h2 rfl).use (hs.trans (keeps_sub k1)) (View.keeps hv k1) t1 fun b s2 k2 t2 p2 => by cases p2; exact hq _ s2 (keeps_trans k1 k2) t2 upIs)
theorem evIfExp {t a o : Expr} {pos : Pos} {b : Bool} (h : Ev prog w A V R (isTrue t env (eval t env)) (Is b)) (h1 : b = true → Ev prog w A V R (eval a env) P) (h2 : b = false → Ev prog w A V R (eval o env) P) :
    Ev prog w A V R (eval (.IfExp t a o pos) env) P :=
  fun Q E s hs hv ht hq => wpAny_IfExp (h _ _ s hs hv ht fun x s1 k1 t1 p1 => by
    cases p1.here
    cases b with
    | true => rw [if_pos rfl]; exact ((h1 rfl).sub (sub_fr hs k1)).then hv k1 t1 hq
    | false => rw [if_neg (by simp)]; exact ((h2 rfl).sub (sub_fr hs k1)).then hv k1 t1 hq)

/-! argument lists -/
theorem evArgs0 {pos : Pos} : Ev prog w A V R (spliced (backTo pos (starEach [] env))) (Is []) := Ev.of_look fun _ _ _ _ h => wpAny_items_nil h
def ConsP (P1 : Value → Heap → Prop) (PL : List Value → Heap → Prop) : List Value → Heap → Prop := fun l h => ∃ v vs, l = v :: vs ∧ P1 v h ∧ PL vs h
theorem evArgsC {pos : Pos} {e : Expr} {rest : List Expr} {PL : List Value → Heap → Prop} (x : Ev prog w A V R (eval e env) P1) (y : Ev prog w A V R (spliced (backTo pos (starEach rest env))) PL)
    (he : starEach (e :: rest) env = (false, eval e env) :: starEach rest env := by rfl) :
    Ev prog w A V R (spliced (backTo pos (starEach (e :: rest) env))) (ConsP P1 PL) :=
  fun Q E s hs hv ht hq => wpAny_items_cons (ev2 x y hs hv ht fun a vs s2 k2 t2 p1 p2 => hq _ s2 k2 t2 fun g z => ⟨_, _, rfl, p1 g z, p2 g z⟩) he
theorem evA1 {pos : Pos} {e : Expr} {v : Value} (x : Ev prog w A V R (eval e env) (Is v)) (he : starEach [e] env = [(false, eval e env)] := by rfl) : Ev prog w A V R (spliced (backTo pos (starEach [e] env))) (Is [v]) :=
  (evArgsC x evArgs0 he).mono fun a R' _ ⟨_, _, h1, h2, h3⟩ => by cases h1; cases h2; cases h3; exact rfl
theorem evA2 {pos : Pos} {e e' : Expr} {v v' : Value} (x : Ev prog w A V R (eval e env) (Is v)) (y : Ev prog w A V R (eval e' env) (Is v')) (he : starEach [e, e'] env = [(false, eval e env), (false, eval e' env)] := by rfl)
    (he' : starEach [e'] env = [(false, eval e' env)] := by rfl) : Ev prog w A V R (spliced (backTo pos (starEach [e, e'] env))) (Is [v, v']) :=
  (evArgsC x (evA1 y he') (he.trans (by rw [he']))).mono fun a R' _ ⟨_, _, h1, h2, h3⟩ => by cases h1; cases h2; cases h3; exact rfl

theorem isList_push (h : Heap) (vs : List Value) : (h.push { cls := .type "list", data := .seq vs.toArray }).IsList h.objs.size vs.toArray := ⟨_, Heap.get?_push_size _ rfl, rfl, _, rfl⟩
/-- a list display: the items, then a new list -/
theorem evList {elts : List Expr} {pos : Pos} {PL : List Value → Heap → Prop} (x : Ev prog w A V R (spliced (backTo pos (starEach elts env))) PL) (hsz : ∀ vs h, PL vs h → vs.length ≤ sizeLine) :
    Ev prog w A V R (eval (.List elts pos) env) (fun a h => ∃ l vs, a = .ref l ∧ h.IsList l vs.toArray ∧ PL vs h) :=
  fun Q E s hs hv ht hq => wpAny_List (x _ _ s hs hv ht fun vs s1 k1 t1 p1 => ⟨hsz _ _ p1.here, by
    have k2 : Keeps s1 { s1 with heap := s1.heap.push { cls := .type "list", data := .seq vs.toArray } } := keeps_mk (tk := s1.toks) ((Sub.refl _).push _)
    have hb : s.heap.get? s1.heap.objs.size = none := fresh_off (keeps_sub k1) (Nat.le_refl _)
    refine hq _ _ (keeps_trans k1 k2) t1 fun g z => ⟨_, vs, rfl, ?_, p1 g fun b o e => z _ _ ?_⟩
    · obtain ⟨o, h1, h2⟩ := isList_push s1.heap vs
      exact ⟨o, z _ _ (fr_get.mpr ⟨h1, .inr hb⟩), h2⟩
    · obtain ⟨e1, e2⟩ := fr_get.mp e
      exact fr_get.mpr ⟨keeps_sub k2 _ _ e1, e2⟩⟩)
theorem isTup_push (h : Heap) (vs : List Value) : (h.push { cls := .type "tuple", data := .seq vs.toArray }).get? h.objs.size = some { cls := .type "tuple", data := .seq vs.toArray } := Heap.get?_push_size _ rfl
theorem evTuple {elts : List Expr} {k : Nat} {pos : Pos} {PL : List Value → Heap → Prop} (x : Ev prog w A V R (spliced (backTo pos (starEach elts env))) PL) (hsz : ∀ vs h, PL vs h → vs.length ≤ sizeLine) :
    Ev prog w A V R (eval (.Tuple elts k pos) env) (fun a h => ∃ l vs, a = .ref l ∧ h.get? l = some { cls := .type "tuple", data := .seq vs.toArray } ∧ PL vs h) :=
  fun Q E s hs hv ht hq => wpAny_Tuple (x _ _ s hs hv ht fun vs s1 k1 t1 p1 => ⟨hsz _ _ p1.here, by
    have k2 : Keeps s1 { s1 with heap := s1.heap.push { cls := .type "tuple", data := .seq vs.toArray } } := keeps_mk (tk := s1.toks) ((Sub.refl _).push _)
    have hb : s.heap.get? s1.heap.objs.size = none := fresh_off (keeps_sub k1) (Nat.le_refl _)
    refine hq _ _ (keeps_trans k1 k2) t1 fun g z => ⟨_, vs, rfl, ?_, p1 g fun b o e => z _ _ ?_⟩
    · exact z _ _ (fr_get.mpr ⟨isTup_push s1.heap vs, .inr hb⟩)
    · obtain ⟨e1, e2⟩ := fr_get.mp e
      exact fr_get.mpr ⟨keeps_sub k2 _ _ e1, e2⟩⟩)

/-! calls of built-ins by name -/
theorem evCallB {x : PySem.Str} {xp pos : Pos} {e : Expr} {rest : List Expr} {id : String} {PL : List Value → Heap → Prop} (hf : Ev prog w A V R (eval (.Name x xp) env) (Is (.builtin id)))
    (ha : Ev prog w A V R (spliced (backTo pos (starEach (e :: rest) env))) PL)
    (hc : ∀ vs R1, Sub R R1 → PL vs R1 → Ev prog w A V R1 (call (.builtin id) vs) P)
    (he : starEach (e :: rest) env = (false, eval e env) :: starEach rest env := by rfl) (hr : ((backTo pos (starEach rest env)).any fun x => x.fst) = false := by rfl) :
    Ev prog w A V R (eval (.Call (.Name x xp) (e :: rest) [] pos) env) P :=
  fun Q E s hs hv ht hq => wpAny_Call_NameR (hf _ _ s hs hv ht fun f s1 k1 t1 p1 => by
    cases p1.here
    exact PyProof.Rows.callWith_builtin1 ((ha.sub (sub_fr hs k1)).then hv k1 t1 fun vs s2 k2 t2 p2 => (hc _ _ (sub_fr hs k2) p2.here).then hv k2 t2 hq) he hr)
theorem evCallT {x : PySem.Str} {xp pos : Pos} {e : Expr} {rest : List Expr} {T : String} {PL : List Value → Heap → Prop} (hf : Ev prog w A V R (eval (.Name x xp) env) (Is (.type T)))
    (ha : Ev prog w A V R (spliced (backTo pos (starEach (e :: rest) env))) PL)
    (hc : ∀ vs R1, Sub R R1 → PL vs R1 → Ev prog w A V R1 (call (.type T) vs) P)
    (he : starEach (e :: rest) env = (false, eval e env) :: starEach rest env := by rfl) (hr : ((backTo pos (starEach rest env)).any fun x => x.fst) = false := by rfl) :
    Ev prog w A V R (eval (.Call (.Name x xp) (e :: rest) [] pos) env) P :=
  fun Q E s hs hv ht hq => wpAny_Call_NameR (hf _ _ s hs hv ht fun f s1 k1 t1 p1 => by
    cases p1.here
    exact PyProof.Rows.callWith_type1 ((ha.sub (sub_fr hs k1)).then hv k1 t1 fun vs s2 k2 t2 p2 => (hc _ _ (sub_fr hs k2) p2.here).then hv k2 t2 hq) he hr)
/-- a def or a class of the text, called by its name -/
theorem evCallK {K : Frag} {x : PySem.Str} {xp pos : Pos} {e : Expr} {rest : List Expr} {f : Value} {PL : List Value → Heap → Prop} (X : K.In R) (hk : keepIn K f = true) (hf : Ev prog w A V R (eval (.Name x xp) env) (Is f))
    (ha : Ev prog w A V R (spliced (backTo pos (starEach (e :: rest) env))) PL)
    (hc : ∀ vs R1, Sub R R1 → PL vs R1 → Ev prog w A V R1 (call f vs) P)
    (he : starEach (e :: rest) env = (false, eval e env) :: starEach rest env := by rfl) (hr : ((backTo pos (starEach rest env)).any fun x => x.fst) = false := by rfl) :
    Ev prog w A V R (eval (.Call (.Name x xp) (e :: rest) [] pos) env) P :=
  fun Q E s hs hv ht hq => wpAny_Call_NameR (hf _ _ s hs hv ht fun f s1 k1 t1 p1 => by
    cases p1.here
    refine callWith_K X hk ((ha.sub (sub_fr hs k1)).then hv k1 t1 fun vs s2 k2 t2 p2 => ⟨X.keeps (hs.trans (keeps_sub k2)), ?_⟩) he hr
    exact (hc _ _ (sub_fr hs k2) p2.here).then hv k2 t2 hq)

theorem evSub {v i : Expr} {pos : Pos} (x : Ev prog w A V R (eval v env) P1) (y : Ev prog w A V R (eval i env) P2)
    (z : ∀ a b R2, Sub R R2 → P1 a R2 → P2 b R2 → Ev prog w A V R2 (subscriptTail v i a b) P) : Ev prog w A V R (eval (.Subscript v i pos) env) P :=
  fun Q E s hs hv ht hq => Subscript_ (ev2 x y hs hv ht fun a b s2 k2 t2 p1 p2 => (z a b _ (sub_fr hs k2) p1.here p2.here).then hv k2 t2 hq)
theorem evAttr {v : Expr} {a : PySem.Str} {pos : Pos} (x : Ev prog w A V R (eval v env) P1) (z : ∀ o R1, Sub R R1 → P1 o R1 → Ev prog w A V R1 (getAttr o a true) P)
    (he : eval (.Attribute v a pos) env = (eval v env >>= fun o => standAt pos.atName >>= fun _ => holding [o] (getAttr o a true) >>= fun r => letTemporaryGo v o r >>= fun _ => pure r) := by rfl) : Ev prog w A V R (eval (.Attribute v a pos) env) P :=
  fun Q E s hs hv ht hq => Attribute_any_ (x _ _ s hs hv ht fun a s1 k1 t1 p1 => (z _ _ (sub_fr hs k1) p1.here).then hv k1 t1 hq) he
end

end Mine

/-! Q1 -/
namespace Mine

/-! ## the text's defs, read off the program -/
def prog1 : Program := PySem.Challenge.pw_dn0281_01
def defIn (n : PySem.Str) (b : List Stmt) : Stmt := (b.find? (isADef n)).getD (.Pass default)
def clsBody (n : PySem.Str) : List Stmt → List Stmt
  | [] => []
  | .ClassDef m _ _ b _ _ _ _ _ _ _ :: r => if m == n then b else clsBody n r
  | _ :: r => clsBody n r
def bodyOf : Stmt → List Stmt
  | .FunctionDef _ _ b _ _ _ _ _ _ _ => b
  | _ => []
def argsOf : Stmt → Arguments
  | .FunctionDef _ a _ _ _ _ _ _ _ _ => a
  | _ => default
def scopeOf : Stmt → Scope
  | .FunctionDef _ _ _ _ _ _ s _ _ _ => s
  | _ => default
def meth (n : PySem.Str) : Stmt := defIn n (clsBody "QName" prog1.main.body)
def fdOf (d : Stmt) (name qual : PySem.Str) (dV pm cd : Value) : FuncData :=
  { name := name, qualname := qual, params := argsOf d, body := .stmts (bodyOf d), scope := scopeOf d, globals := mainGlobals, closure := [], defaults := dV, kwdefaults := .none, pyModule := pm, code := cd }

structure FnK (K : Frag) (f : Addr) (fd : FuncData) : Prop where
  at_ : ∃ oc od sl, K.lookup f = some ⟨oc, od, .func fd, sl⟩
  code : codeIn K fd.code fd.qualname = true
def mName : CmpOp → PySem.Str := fun op => (cmpInfo op).2.1
def fAddr : CmpOp → Addr
  | .Eq => 85 | .Lt => 64 | .LtE => 57 | .Gt => 78 | .GtE => 71 | _ => 0
def cAddr : CmpOp → Addr
  | .Eq => 84 | .Lt => 63 | .LtE => 56 | .Gt => 77 | .GtE => 70 | _ => 0
def cmpFd (op : CmpOp) : FuncData := fdOf (meth (mName op)) (mName op) (PySem.Str.ofString "QName." ++ mName op) .none (.str "cpy313.xml.etree.ElementTree" 187) (.ref (cAddr op))
def isOrd : CmpOp → Bool
  | .Eq | .Lt | .LtE | .Gt | .GtE => true
  | _ => false

/-- what is known of the class in the written heap -/
structure KQ (K : Frag) : Prop where
  nQ : nsIn K mainGlobals "QName" = some (some (.ref 88))
  nB : ∀ x ∈ (["isinstance", "len", "range", "list", "str", "ord", "chr", "sorted", "min", "max"] : List PySem.Str), nsIn K mainGlobals x = some none
  keep : keepIn K (.ref 88) = true
  makes : makesIn K 88 = true
  init : findIn K (.ref 88) "__init__" = some (some (.ref 29))
  initFn : typeIn K (.ref 29) = some (.type "function")
  plainG : plainGet K 88 "__class__" = true
  sa : findIn K (.ref 88) "__setattr__" = some (some (.builtin "object.__setattr__"))
  over : plainOver K 88 = true
  taker : takerIn K 88 "text" = some none
  text : findIn K (.ref 88) "text" = some none
  hasDict : hasDictIn K 88 = true
  clsA : findIn K (.ref 88) "__class__" = some (some (.builtin "object.__class__"))
  clsG : specialIn K (.builtin "object.__class__") "__get__" = some (some (.builtin "getset_descriptor.__get__"))
  clsT : takesIn K (.builtin "object.__class__") = some true
  mro : mroIn K 88 (.type "object") = some true
  cmp : ∀ op, isOrd op = true → findIn K (.ref 88) (mName op) = some (some (.ref (fAddr op))) ∧ isFn K (.ref (fAddr op)) = true ∧ FnK K (fAddr op) (cmpFd op)
  sub : ∀ T ∈ ["str", "int", "NoneType", "bytes"], subIn K (.type T) (.ref 88) = some false ∧ kitOne K (.type T) (.ref 88) = some false
  mroT : ∀ T ∈ ["str", "int", "NoneType", "bytes"], mroIn K 88 (.type T) = some false
  kitQ : kitOne K (.ref 88) (.ref 88) = some true
  strF : findIn K (.ref 88) "__str__" = some (some (.ref 36)) ∧ typeIn K (.ref 36) = some (.type "function") ∧ FnK K 36 (fdOf (meth "__str__") "__str__" "QName.__str__" .none (.str "cpy313.xml.etree.ElementTree" 187) (.ref 35))
  initF : FnK K 29 (fdOf (meth "__init__") "__init__" "QName.__init__" (.ref 22) (.str "cpy313.xml.etree.ElementTree" 187) (.ref 28))
  dflt : ∃ oc od sl, K.lookup 22 = some ⟨oc, od, .seq #[.none] 0, sl⟩

/-- a qualified name at `q` that holds `v` -/
def QN (h : Heap) (q : Addr) (v : Value) : Prop := ∃ d od, h.get? q = some (instObj 88 d) ∧ h.get? d = some od ∧ lookIn "text" od = some (some v)
theorem QN.sub {h h' : Heap} {q : Addr} {v : Value} (x : QN h q v) (s : Sub h h') : QN h' q v := let ⟨d, od, a, b, c⟩ := x; ⟨d, od, s _ _ a, s _ _ b, c⟩
theorem QN.inst {h : Heap} {q : Addr} {v : Value} (x : QN h q v) : ∃ d od, InstAt h q (instObj 88 d) 88 (some od) ∧ lookIn "text" od = some (some v) :=
  let ⟨d, od, a, b, c⟩ := x; ⟨d, od, ⟨a, rfl, rfl, b⟩, c⟩

section
variable {prog : Program} {w : World} {A : Around} {V : View} {R : Heap} {K : Frag} {q : Addr} {v : Value}

theorem findText (Y : KQ K) {od : Obj} (h : lookIn "text" od = some (some v)) : findObj K 88 (some od) "text" = some (.value v) := by
  obtain ⟨cd, hc, hd⟩ := any_some Y.hasDict
  unfold findObj
  rw [hc, Y.text]
  simp only [Option.bind_some, W.ownOf, hd, if_true, h]

theorem ev_text {ex : Bool} (Y : KQ K) (X : K.In R) (hq : QN R q v) (hh : handedIn v = true) : Ev prog w A V R (getAttr (.ref q) "text" ex) (Is v) := Ev.mk fun Q E s hs _ _ hQ => by
  obtain ⟨d, od, I, ht⟩ := (hq.sub hs).inst
  exact get_value (X.keeps hs) I (beq_iff_eq.mp (Bool.and_eq_true_iff.mp Y.plainG).1) (findText Y ht) hh (hQ _ _ keeps_tok upIs)

/-- the values that stand in the row -/
inductive Plainly : Value → String → Prop
  | str (x : PySem.Str) (t : Tok) : Plainly (.str x t) "str"
  | int (n : Int) (t : Tok) : Plainly (.int n t) "int"
  | none : Plainly .none "NoneType"
  | bytes (b : Array UInt8) (t : Tok) : Plainly (.bytes b t) "bytes"
theorem Plainly.kit {T : String} (p : Plainly v T) : KitX K v (.type T) (fun _ => True) := by cases p <;> first | exact kitx_str | exact kitx_int | exact kitx_none | exact kitx_bytes
theorem Plainly.mem {T : String} (p : Plainly v T) : T ∈ ["str", "int", "NoneType", "bytes"] := by cases p <;> simp
theorem Plainly.ty {T : String} (p : Plainly v T) {M : Model} {h : Heap} : Looks M h (typeOf v) (.type T) := by cases p <;> exact Looks.of_pure rfl
theorem Plainly.noLoader {T : String} (p : Plainly v T) : v ≠ .builtin "__main__.__loader__#opaque" := by cases p <;> (intro e; cases e)
theorem Plainly.handed {T : String} (p : Plainly v T) : handedIn v = true := by cases p <;> rfl

theorem ev_isi_no {T : String} (Y : KQ K) (X : K.In R) (p : Plainly v T) : Ev prog w A V R (call (.builtin "isinstance") [v, .ref 88]) (Is (.bool false)) := Ev.mk fun Q E s hs _ _ hQ =>
  kia_one p.kit (X.keeps hs) trivial (Y.sub T p.mem).2 p.noLoader fun tk => hQ _ _ keeps_tok upIs
theorem ev_isi_yes (Y : KQ K) (X : K.In R) (hq : QN R q v) : Ev prog w A V R (call (.builtin "isinstance") [.ref q, .ref 88]) (Is (.bool true)) := Ev.mk fun Q E s hs _ _ hQ => by
  obtain ⟨d, od, I, ht⟩ := (hq.sub hs).inst
  exact kia_one (kitx_own Y.plainG Y.hasDict Y.clsA Y.clsG Y.clsT Y.mro) (X.keeps hs) I Y.kitQ (by intro e; cases e) fun tk => hQ _ _ keeps_tok upIs
end

/-- what the second of two compared things counts as: a qualified name's own text, any other thing itself -/
inductive Held (h : Heap) : Value → Value → Prop
  | q {a : Addr} {v : Value} : QN h a v → Held h (.ref a) v
  | p {v : Value} {T : String} : Plainly v T → Held h v v
theorem Held.sub {h h' : Heap} {a b : Value} (x : Held h a b) (s : Sub h h') : Held h' a b := by
  cases x with
  | q e => exact .q (e.sub s)
  | p e => exact .p e

end Mine

/-! Q2 -/
namespace Mine

def cmpEnv (op : CmpOp) (L : Addr) : Env := callEnv (cmpFd op) L (fAddr op)

section
variable {w : World} {A : Around} {K : Frag} {q : Addr} {v u b : Value} {s : Shared} {Q : Value → Shared → Prop} {E : Value → Shared → Prop}

theorem boot_isinstance : bootBuiltins "isinstance" = some (.builtin "isinstance") := by decide +kernel

/-- one of the five comparing methods: what it gives is what comparing the held things gives -/
theorem cmpFn {op : CmpOp} (ho : isOrd op = true) (Y : KQ K) (G : Gd K s.heap) (hq : QN s.heap q v) (hv : handedIn v = true) (hb : Held s.heap b u) (hu : handedIn u = true) (hroom : A.depth < recursionLimit)
    (h : ∀ s', Keeps s s' → 0 < s'.toks → wpAny (model prog1 w) (A.deeper (cmpEnv op s.heap.objs.size)) (compareOp op v u) Q
      (fun e s'' => wpAny (model prog1 w) (A.deeper (cmpEnv op s.heap.objs.size)) (leaving (cmpEnv op s.heap.objs.size) e) (fun _ s3 => E e s3) (fun e' s3 => E e' s3) s'') s') :
    wpAny (model prog1 w) A (call (.ref (fAddr op)) [.ref q, b]) Q E s := by
  obtain ⟨e1, e2, ⟨oc, od, sl, e3⟩, e4⟩ := Y.cmp op ho
  have nI := Y.nB "isinstance" (by simp)
  cases op <;> first | (cases ho; done) | skip
  all_goals
    refine wpAny_call (codeAny_call_def (binds := [("self", .ref q), ("other", b)]) hroom (G.k _ _ e3) rfl G.lim (codeRec_of G.k e4) rfl (BindsTo.of_eq rfl) (by decide) (locs rfl) ?_)
    intro h₀ hns hk
    have G' : Gd K h₀ := G.sub hk
    let V : View := View.ns s.heap.objs.size (fun x => List.lookup x [(PySem.Str.ofString "self", Value.ref q), (PySem.Str.ofString "other", b)].reverse)
    have hv0 : V.p h₀ := hns
    have hn : ∀ h, V.p h → h.Ns s.heap.objs.size (fun x => List.lookup x [(PySem.Str.ofString "self", Value.ref q), (PySem.Str.ofString "other", b)].reverse) := fun h z => z
    refine wpAny_execs_cons (wpAny_If ?_)
    cases hb with
    | q hqb =>
      refine (evTestV (b := true) (evCallB (evNameB G' nI boot_isinstance (by decide) rfl rfl rfl rfl) (evA2 (evNameL (V := V) hn rfl rfl rfl) (evNameG G' Y.nQ rfl rfl rfl)) ?z3)).here hv0 (Nat.succ_pos _) ?_
      case z3 => intro vs R1 hs p; cases p; exact ev_isi_yes Y (G'.sub hs).k ((hqb.sub hk).sub hs)
      intro a s' k' t' p; cases p
      rw [if_pos rfl]
      refine wpAny_execs_cons (wpAny_Return_some (wpAny_Compare1 ?_ rfl))
      have k1 : Sub h₀ s'.heap := keeps_sub k'
      refine (evAttr (evNameL (V := V) hn rfl rfl rfl) (fun o R1 h1 p => by cases p; exact ev_text Y (G'.sub (k1.trans h1)).k (((hq.sub hk).sub k1).sub h1) hv) (P := Is v)).here (V.up _ _ k1 hv0) t' ?_
      intro a s2 k2 t2 p; cases p
      have k3 : Sub h₀ s2.heap := k1.trans (keeps_sub k2)
      refine (evAttr (evNameL (V := V) hn rfl rfl rfl) (fun o R1 h1 p => by cases p; exact ev_text Y (G'.sub (k3.trans h1)).k (((hqb.sub hk).sub k3).sub h1) hu) (P := Is u)).here (V.up _ _ k3 hv0) t2 ?_
      intro a s3 k4 t3 p; cases p
      refine wpAny_mono (h s3 (keeps_trans (keeps_mk hk) (keeps_trans k' (keeps_trans k2 k4))) t3) (fun r s4 z => ?_) fun _ _ z => z
      exact z
    | p hpb =>
      refine (evTestV (b := false) (evCallB (evNameB G' nI boot_isinstance (by decide) rfl rfl rfl rfl) (evA2 (evNameL (V := V) hn rfl rfl rfl) (evNameG G' Y.nQ rfl rfl rfl)) ?z3)).here hv0 (Nat.succ_pos _) ?_
      case z3 => intro vs R1 hs p; cases p; exact ev_isi_no Y (G'.sub hs).k hpb
      intro a s' k' t' p; cases p
      rw [if_neg (by decide)]
      refine wpAny_execs_nil ?_
      refine wpAny_execs_cons (wpAny_Return_some (wpAny_Compare1 ?_ rfl))
      have k1 : Sub h₀ s'.heap := keeps_sub k'
      refine (evAttr (evNameL (V := V) hn rfl rfl rfl) (fun o R1 h1 p => by cases p; exact ev_text Y (G'.sub (k1.trans h1)).k (((hq.sub hk).sub k1).sub h1) hv) (P := Is v)).here (V.up _ _ k1 hv0) t' ?_
      intro a s2 k2 t2 p; cases p
      have k3 : Sub h₀ s2.heap := k1.trans (keeps_sub k2)
      refine (evNameL (V := V) hn rfl rfl rfl).here (V.up _ _ k3 hv0) t2 ?_
      intro a s3 k4 t3 p; cases p
      refine wpAny_mono (h s3 (keeps_trans (keeps_mk hk) (keeps_trans k' (keeps_trans k2 k4))) t3) (fun r s4 z => ?_) fun _ _ z => z
      exact z
end
end Mine

/-! Q3 -/
namespace Mine

def refl : CmpOp → CmpOp
  | .Lt => .Gt | .LtE => .GtE | .Gt => .Lt | .GtE => .LtE | o => o
theorem refl_ord {op : CmpOp} (h : isOrd op = true) : isOrd (refl op) = true := by cases op <;> first | rfl | cases h
theorem refl_name {op : CmpOp} (h : isOrd op = true) : (cmpInfo op).2.2 = mName (refl op) := by cases op <;> first | rfl | cases h

section
variable {w : World} {A : Around} {K : Frag} {q : Addr} {v u a b tb : Value} {s : Shared} {Q : Value → Shared → Prop} {E : Value → Shared → Prop}

theorem held_type {h : Heap} {M : Model} (Y : KQ K) (hb : Held h b u) : ∃ tb, Looks M h (typeOf b) tb ∧ notFirst K 88 tb = true := by
  cases hb with
  | q x => obtain ⟨d, od, I, _⟩ := x.inst; exact ⟨.ref 88, I.type, by simp [notFirst]⟩
  | p x => exact ⟨_, x.ty, by simp [notFirst, (Y.sub _ x.mem).1]⟩

/-- a qualified name on the left -/
theorem richQ {op : CmpOp} (ho : isOrd op = true) (Y : KQ K) (G : Gd K s.heap) (hu : A.units < cLine) (hq : QN s.heap q v) (hb : Held s.heap b u)
    (h : wpAny (model prog1 w) A (call (.ref (fAddr op)) [.ref q, b]) (W.CmpBack Q) E s) : wpAny (model prog1 w) A (richCompare op (.ref q) b) Q E s := by
  obtain ⟨d, od, I, _⟩ := hq.inst
  obtain ⟨e1, e2, _⟩ := Y.cmp op ho
  have own : wpAny (model prog1 w) A (tryCompare (.ref q) (mName op) b) (fun r s' => ∃ v, r = some v ∧ Q v s') E s := by
    unfold tryCompare
    refine wpAny_bind (ifBound_K G.k I e1 e2 (wpAny_mono h (fun v s' hv => ?_) fun _ _ e => e))
    cases v <;> first | exact hv.elim | exact wpAny_pure ⟨_, rfl, hv⟩
  have fin : ∀ (t : Option Value → Sem Value), (∀ v s', Q v s' → wpAny (model prog1 w) A (t (some v)) Q E s') → wpAny (model prog1 w) A (tryCompare (.ref q) (mName op) b >>= t) Q E s := fun t ht =>
    wpAny_bind (wpAny_mono own (fun r s' z => by obtain ⟨v, rfl, hv⟩ := z; exact ht v s' hv) fun _ _ e => e)
  unfold richCompare
  simp only [oneThing_ref]
  refine wpAny_holding (wpAny_bind (wpAny_cRoomFor hu ?_))
  cases hb with
  | q x =>
    obtain ⟨d', od', I', _⟩ := x.inst
    refine wpAny_bind (I.type.here (wpAny_bind (I'.type.here ?_)))
    rw [if_neg (show ¬ ((Value.ref 88 != Value.ref 88) = true) from by decide)]
    first
      | exact fin _ fun v s' hv => wpAny_pure hv
      | (refine wpAny_bind (wpAny_pure ?_); simp only [Bool.false_eq_true, if_false]; exact fin _ fun v s' hv => wpAny_pure hv)
  | p x =>
    rename_i T
    refine wpAny_bind (I.type.here (wpAny_bind (x.ty.here ?_)))
    rw [if_pos (show (Value.ref 88 != Value.type T) = true from rfl)]
    refine wpAny_bind ((looks_subIn G.k (Y.sub T x.mem).1).here ?_)
    simp only [Bool.false_eq_true, if_false]
    exact fin _ fun v s' hv => wpAny_pure hv

/-- a plain thing on the left whose own method declines, a qualified name on the right -/
theorem richP {op : CmpOp} {T : String} (ho : isOrd op = true) (Y : KQ K) (G : Gd K s.heap) (hu : A.units < cLine) (hq : QN s.heap q v) (p : Plainly a T) {id : String} (S : Slot T (cmpInfo op).2.1 id)
    (hT : s.TypeIs a T)
    (hd : wpAny (model prog1 w) A (call (.builtin id) [a, .ref q]) (fun v s' => v = .notImplemented ∧ s' = s) E s)
    (h : wpAny (model prog1 w) A (call (.ref (fAddr (refl op))) [.ref q, a]) (W.CmpBack Q) E s) : wpAny (model prog1 w) A (richCompare op a (.ref q)) Q E s := by
  obtain ⟨d, od, I, _⟩ := hq.inst
  obtain ⟨e1, e2, _⟩ := Y.cmp _ (refl_ord ho)
  have two : wpAny (model prog1 w) A (tryCompare (.ref q) (cmpInfo op).2.2 a) (fun r s' => ∃ v, r = some v ∧ Q v s') E s := by
    unfold tryCompare
    rw [refl_name ho]
    refine wpAny_bind (ifBound_K G.k I e1 e2 (wpAny_mono h (fun v s' hv => ?_) fun _ _ e => e))
    cases v <;> first | exact hv.elim | exact wpAny_pure ⟨_, rfl, hv⟩
  have hne : (Value.type T != Value.ref 88) = true := rfl
  unfold richCompare
  simp only [hT.oneThing_none]
  refine wpAny_holding (wpAny_bind (wpAny_cRoomFor hu ?_))
  refine wpAny_bind (p.ty.here (wpAny_bind (I.type.here ?_)))
  rw [if_pos hne]
  refine wpAny_bind ((looks_mroIn G.k (Y.mroT T p.mem)).here ?_)
  simp only [Bool.false_eq_true, if_false]
  refine wpAny_bind (wpAny_tryCompare_declines hT S (wpAny_mono hd (fun v s' z => ?_) fun _ _ e => e))
  obtain ⟨z1, rfl⟩ := z
  refine ⟨z1, ?_⟩
  simp only [Bool.not_false, if_true]
  refine wpAny_bind (wpAny_mono two (fun r s' z => ?_) fun _ _ e => e)
  obtain ⟨v, rfl, hq⟩ := z
  exact wpAny_pure hq
end

/-! ## the row's items: a text, or a qualified name of a text -/
def Item (h : Heap) (r : Value) (x : PySem.Str) : Prop := (∃ t, r = .str x t ∧ 0 < t) ∨ ∃ q t, r = .ref q ∧ QN h q (.str x t)
theorem Item.sub {h h' : Heap} {r : Value} {x : PySem.Str} (i : Item h r x) (s : Sub h h') : Item h' r x := i.imp id fun ⟨q, t, e, z⟩ => ⟨q, t, e, z.sub s⟩

def cmpB : CmpOp → List Nat → List Nat → Bool
  | .Eq, a, b => a == b
  | .Lt, a, b => a < b
  | .LtE, a, b => !(b < a)
  | .Gt, a, b => b < a
  | .GtE, a, b => !(a < b)
  | _, _, _ => false
theorem cmpB_refl {op : CmpOp} (h : isOrd op = true) (a b : List Nat) : cmpB (refl op) b a = cmpB op a b := by
  cases op <;> first | (cases h; done) | rfl | skip
  show (b == a) = (a == b)
  exact Bool.beq_comm ..

section
variable {w : World} {A : Around} {V : View} {K : Frag} {R : Heap} {x y : PySem.Str} {t u : Tok} {q : Addr}

theorem ev_cmp_ss {prog : Program} {op : CmpOp} (ho : isOrd op = true) : Ev prog w A V R (compareOp op (.str x t) (.str y u)) (Is (.bool (cmpB op x.cps.toList y.cps.toList))) := by
  cases op <;> first | (cases ho; done) | skip
  · exact Ev.of_look fun _ _ _ _ h => PySem.P.eq_str h
  · exact Ev.of_look fun _ _ _ _ h => PySem.P.lt_str h
  · exact Ev.of_look fun _ _ _ _ h => PySem.P.le_str h
  · exact Ev.of_look fun _ _ _ _ h => PySem.P.gt_str h
  · exact Ev.of_look fun _ _ _ _ h => PySem.P.ge_str h

theorem rich_eq_cmp {op : CmpOp} (h : isOrd op = true) (a b : Value) : compareOp op a b = richCompare op a b := by cases op <;> first | rfl | cases h

theorem str_declines {prog : Program} {op : CmpOp} {s : Shared} {E : Value → Shared → Prop} (ho : isOrd op = true) {d : Addr} (hq : s.heap.get? q = some (instObj 88 d)) :
    ∃ id, Slot "str" (cmpInfo op).2.1 id ∧ wpAny (model prog w) A (call (.builtin id) [.str x t, .ref q]) (fun v s' => v = .notImplemented ∧ s' = s) E s := by
  have key : ∀ (m : String) (f : List Nat → List Nat → Bool) (P : PySem.Fin → Shared → Prop) (A' : Around), P (.done (.ret .notImplemented)) s → wpAny (model prog w) A' (Builtin.Str.strCompare m f ⟨[.str x t, .ref q], []⟩) P E s := by
    intro m f P A' hP
    unfold Builtin.Str.strCompare
    refine wpAny_bind (m := Builtin.Str.strSlot m 1 _) (wpAny_pure (a := (Value.str x t, x, [Value.ref q])) ?_)
    refine wpAny_bind (wpAny_bind (wpAny_load hq (wpAny_pure ?_)))
    exact wpAny_bind (wpAny_rule (wpAny_pure hP))
  cases op <;> first | (cases ho; done) | skip
  · exact ⟨_, PySem.F.slot_str_eq, wpAny_call_entry PySem.F.slot_str_eq (typeIs_str s x t) PySem.F.entry_str_eq (key _ _ _ _ ⟨_, rfl, rfl, rfl⟩) (PySem.F.args_str_eq_2 _ _)⟩
  · exact ⟨_, PySem.F.slot_str_lt, wpAny_call_entry PySem.F.slot_str_lt (typeIs_str s x t) PySem.F.entry_str_lt (key _ _ _ _ ⟨_, rfl, rfl, rfl⟩) (PySem.F.args_str_lt_2 _ _)⟩
  · exact ⟨_, PySem.F.slot_str_le, wpAny_call_entry PySem.F.slot_str_le (typeIs_str s x t) PySem.F.entry_str_le (key _ _ _ _ ⟨_, rfl, rfl, rfl⟩) (PySem.F.args_str_le_2 _ _)⟩
  · exact ⟨_, PySem.F.slot_str_gt, wpAny_call_entry PySem.F.slot_str_gt (typeIs_str s x t) PySem.F.entry_str_gt (key _ _ _ _ ⟨_, rfl, rfl, rfl⟩) (PySem.F.args_str_gt_2 _ _)⟩
  · exact ⟨_, PySem.F.slot_str_ge, wpAny_call_entry PySem.F.slot_str_ge (typeIs_str s x t) PySem.F.entry_str_ge (key _ _ _ _ ⟨_, rfl, rfl, rfl⟩) (PySem.F.args_str_ge_2 _ _)⟩

theorem ev_fn {op : CmpOp} {b : Value} (ho : isOrd op = true) (Y : KQ K) (G : Gd K R) (rm : Room A 1) (hq : QN R q (.str x t)) (hb : Held R b (.str y u)) :
    Ev prog1 w A V R (call (.ref (fAddr op)) [.ref q, b]) (Is (.bool (cmpB op x.cps.toList y.cps.toList))) := Ev.mk fun Q E s hs hv ht hQ =>
  cmpFn ho Y (G.sub hs) (hq.sub hs) rfl (hb.sub hs) rfl rm.d fun s' k t' => (ev_cmp_ss (V := View.any) ho).here trivial t' fun c s3 k3 t3 p3 => by cases p3; exact hQ _ _ (keeps_trans k k3) upIs

theorem ev_rich {op : CmpOp} {a b : Value} (ho : isOrd op = true) (Y : KQ K) (G : Gd K R) (rm : Room A 1) (ha : Item R a x) (hb : Item R b y) :
    Ev prog1 w A V R (richCompare op a b) (Is (.bool (cmpB op x.cps.toList y.cps.toList))) := by
  rcases ha with ⟨t, rfl, _⟩ | ⟨q, t, rfl, hq⟩
  · rcases hb with ⟨u, rfl, _⟩ | ⟨q, u, rfl, hq⟩
    · rw [← rich_eq_cmp ho]; exact ev_cmp_ss ho
    · refine Ev.mk fun Q E s hs hv ht hQ => ?_
      obtain ⟨d, od, h1, _⟩ := hq.sub hs
      obtain ⟨id, S, hd⟩ := str_declines (prog := prog1) (w := w) (A := A) (x := x) (t := t) (E := E) ho h1
      refine richP ho Y (G.sub hs) rm.u (hq.sub hs) (.str x t) S (typeIs_str s x t) hd ?_
      refine (ev_fn (refl_ord ho) Y G rm hq (.p (.str x t))).use hs hv ht fun a s' k t' p => ?_
      cases p
      show Q (.bool (cmpB (refl op) y.cps.toList x.cps.toList)) s'
      rw [cmpB_refl ho]
      exact hQ _ _ k upIs
  · refine Ev.mk fun Q E s hs hv ht hQ => ?_
    have hb' : ∃ u, Held R b (.str y u) := by
      rcases hb with ⟨u, rfl, _⟩ | ⟨q, u, rfl, hq⟩
      · exact ⟨u, .p (.str _ _)⟩
      · exact ⟨u, .q hq⟩
    obtain ⟨u, hb'⟩ := hb'
    refine richQ ho Y (G.sub hs) rm.u (hq.sub hs) (hb'.sub hs) ?_
    refine (ev_fn ho Y G rm hq hb').use hs hv ht fun a s' k t' p => ?_
    cases p
    exact hQ _ _ k upIs
end

end Mine

/-! Q4 -/
namespace Mine

section
variable {w : World} {A : Around} {K : Frag} {q d : Addr} {v : Value} {s : Shared} {E : Value → Shared → Prop}

/-- `self.text = v` for a name just made -/
theorem setText {Q : Unit → Shared → Prop} (Y : KQ K) (X : K.In s.heap) (hq : s.heap.get? q = some (instObj 88 d)) (hd : s.heap.get? d = some emptyDict)
    (h : ∀ h' od, Heap.SameBut d s.heap h' → h'.get? d = some od → lookIn "text" od = some (some v) → ∀ tk, Q () { s with heap := h', toks := tk }) :
    wpAny (model prog1 w) A (setAttr (.ref q) "text" v) Q E s := by
  have I : InstAt s.heap q (instObj 88 d) 88 (some emptyDict) := ⟨hq, rfl, rfl, hd⟩
  refine set_plain X I Y.sa ?_
  refine osa_open (s := { s with toks := s.toks + 1 }) X I Y.over Y.taker fun b => ?_
  obtain ⟨cd, hc, hd'⟩ := any_some Y.hasDict
  dsimp only
  refine wpAny_bind (wpAny_pure (wpAny_bind (wpAny_bind (wpAny_loadPart hq (wpAny_bind (looks_clsIn X hc _ _ _ _ (fun _ _ e => e) ?_))))))
  rw [hd']
  refine wpAny_pure (a := some d) (wpAny_bind (wpAny_pure (wpAny_bind ?_)))
  unfold nsSet
  refine wpAny_bind (wpAny_bind (wpAny_askSetting (wpAny_pure (wpAny_bind (wpAny_mkText (wpAny_bind (wpAny_loadPart hd ?_)))))))
  dsimp only
  rw [aRefKeyMayBeTheName_at]
  rw [if_neg (by simp)]
  generalize (if (PySem.Str.ofString "text").cps.isEmpty = true then 0 else reduceHash ((model prog1 w).w.params.strHash (PySem.Str.ofString "text").cps)) = hsh
  have D' := Heap.get?_update_self (h := s.heap) (Obj.putName "text" hsh (.str "text" (s.toks + 1)) v) hd rfl
  refine wpAny_updatePart (o := emptyDict) hd ?_
  refine wpAny_bind (wpAny_lookBehind D' (by exact pastItsLine_dict (show 1 ≤ sizeLine + 1 by rw [sizeLine_eq]; omega)) ?_)
  exact wpAny_pure (h _ _ (Heap.SameBut.update ..) D' rfl _)
end
end Mine

/-! Q5 -/
namespace Mine

def initFd : FuncData := fdOf (meth "__init__") "__init__" "QName.__init__" (.ref 22) (.str "cpy313.xml.etree.ElementTree" 187) (.ref 28)
def initEnv (L : Addr) : Env := callEnv initFd L 29

section
variable {w : World} {A : Around} {K : Frag} {q d : Addr} {v : Value} {s : Shared} {V : View} {R : Heap}

/-- behind the test: the store -/
theorem init_store {Q : Flow → Shared → Prop} {E : Value → Shared → Prop} {L : Addr} {m : PySem.Str → Option Value} (Y : KQ K) (X : K.In s.heap) (ht : 0 < s.toks) (hn : s.heap.Ns L m) (hs : m "self" = some (.ref q)) (hv : m "text_or_uri" = some v)
    (hq : s.heap.get? q = some (instObj 88 d)) (hd : s.heap.get? d = some emptyDict)
    (h : ∀ h' tk od, Heap.ExtBut d s.heap h' → h'.get? q = some (instObj 88 d) → h'.get? d = some od → lookIn "text" od = some (some v) → Q .next { s with heap := h', toks := tk }) :
    wpAny (model prog1 w) A (execs ((bodyOf (meth "__init__")).drop 1) (initEnv L)) Q E s := by
  have hqd : q ≠ d := by rintro rfl; rw [hq] at hd; cases hd
  refine wpAny_execs_cons (plainObj_wpAny_Assign_Attribute ?_ rfl)
  refine (evNameL (View.nsH (L := L) (m := m)) hv rfl rfl).here hn ht fun a s1 k1 t1p p => ?_
  cases p
  obtain ⟨h1, t1, rfl, k1⟩ := k1
  refine (evNameL (View.nsH (L := L) (m := m)) hs rfl rfl).here (ns_sub hn k1) t1p fun a s2 k2 t2p p => ?_
  cases p
  obtain ⟨h2, t2, rfl, k2⟩ := k2
  have k3 : Sub s.heap h2 := Sub.trans k1 k2
  refine setText Y (X.keeps k3) (k3 _ _ hq) (k3 _ _ hd) fun h' od e1 e2 e3 tk => ?_
  exact wpAny_execs_nil (h h' tk od (fun b o hb e => e1.extBut b o hb (k3 _ _ e)) (e1.extBut _ _ hqd (k3 _ _ hq)) e2 e3)

/-- the call of the class with one thing -/
theorem make1 (Y : KQ K) (G : Gd K R) (rm : Room A 2) : Ev prog1 w A V R (call (.ref 88) [v]) (fun a h => ∃ q, a = .ref q ∧ QN h q v) := Ev.mk fun Q E s hs _ _ hQ => by
  obtain ⟨h, g, dr, t, os⟩ := s
  have G1 : Gd K h := G.sub hs
  refine wpAny_call (make_core (makes_of G1.k Y.makes) (looks_findIn G1.k Y.init) (fun self => bind_fn G1.k self Y.initFn) (.inl rfl) ?_)
  have k0 : Sub h ((h.push emptyDict).push (instObj 88 h.objs.size)) := ((Sub.refl h).push _).push _
  have G2 := G1.sub k0
  have hd0 : ((h.push emptyDict).push (instObj 88 h.objs.size)).get? h.objs.size = some emptyDict := by heap_get
  have hq0 : ((h.push emptyDict).push (instObj 88 h.objs.size)).get? (h.objs.size + 1) = some (instObj 88 h.objs.size) := by heap_get
  obtain ⟨⟨oc, od, sl, e3⟩, e4⟩ := Y.initF
  obtain ⟨oc', od', sl', e5⟩ := Y.dflt
  refine codeAny_call_def (binds := [("self", .ref (h.objs.size + 1)), ("text_or_uri", v), ("tag", .none)]) (rm.make 88 [v] []).d (G2.k _ _ e3) rfl G2.lim (codeRec_of G2.k e4) rfl (binds_K G2.k rfl e5 rfl rfl rfl) (by decide) (locs rfl) ?_
  intro h₀ hns hk
  refine wpAny_execs_cons (wpAny_If (wpAny_isTrue_value ?_ rfl))
  refine (evNameL View.nsH rfl rfl rfl).here hns (Nat.succ_pos _) fun a s1 k1 t1p p => ?_
  cases p
  obtain ⟨h1, t1, rfl, k1⟩ := k1
  refine truthy_none ?_
  rw [if_neg (by decide)]
  refine wpAny_execs_nil ?_
  have k2 : Sub ((h.push emptyDict).push (instObj 88 h.objs.size)) h1 := Sub.trans hk k1
  refine init_store Y (G2.sub k2).k t1p (ns_sub hns k1) rfl rfl (k2 _ _ hq0) (k2 _ _ hd0) fun h' tk od x y1 y2 y3 => ?_
  refine ⟨rfl, hQ _ _ (keeps_mk (s := ⟨h, g, dr, t, os⟩) fun b o e => x b o ?_ (k2 _ _ (k0 _ _ e))) fun g' z => ⟨_, rfl, h.objs.size, od, z _ _ ?_, z _ _ ?_, y3⟩⟩
  · exact Nat.ne_of_lt (Heap.lt_size e)
  · exact fr_get.mpr ⟨y1, .inr (fresh_none h (Nat.le_succ _))⟩
  · exact fr_get.mpr ⟨y2, .inr (fresh_none h (Nat.le_refl _))⟩
end
end Mine

/-! Q6 -/
namespace Mine

section
variable {prog : Program} {w : World} {A : Around} {V : View} {R : Heap} {env : Env} {x y : PySem.Str} {t u : Tok}

theorem evFmtS {value : Expr} {pos : Pos} (hx : x.length ≤ sizeLine) (ht : 0 < t) (h : Ev prog w A V R (eval value env) (Is (.str x t))) : Ev prog w A V R (eval (.FormattedValue value 115 none pos) env) (IsS x) := Ev.mk fun Q E s hs hv hp hQ => by
  refine wpAny_FormattedValue_s (h.use hs hv hp fun a s1 k1 t1 p => ?_)
  cases p
  show wpAny _ _ (habitSame _ _) _ _ _
  refine wpAny_habitSame_str ?_ ?_ hx
  · exact wpAny_formatField_str (hQ _ _ k1 (upS ht)) (hQ _ _ (keeps_trans k1 keeps_tok) (upS t1)) hx
  · exact wpAny_formatField_str (hQ _ _ (keeps_trans k1 keeps_tok) (upS t1)) (hQ _ _ (keeps_trans k1 (keeps_trans (keeps_tok (tk := s1.toks + 1)) keeps_tok)) (upS (Nat.succ_pos _))) hx

def mix (x y : PySem.Str) : PySem.Str := if y.length = 0 then x else PySem.Str.ofString "{" ++ x ++ PySem.Str.ofString "}" ++ y

theorem len_app (a b : PySem.Str) : (a ++ b).length = a.length + b.length := Str.length_append ..
end

section
variable {w : World} {A : Around} {V : View} {K : Frag} {R : Heap} {x y : PySem.Str} {t u : Tok}

theorem make2 (Y : KQ K) (G : Gd K R) (rm : Room A 2) (hx : x.length ≤ 1000) (hy : y.length ≤ 1000) (hxt : 0 < t) (hyt : 0 < u) : Ev prog1 w A V R (call (.ref 88) [.str x t, .str y u]) (fun a h => ∃ q t', a = .ref q ∧ QN h q (.str (mix x y) t')) := Ev.mk fun Q E s hs _ _ hQ => by
  obtain ⟨h, g, dr, tk0, os⟩ := s
  have G1 : Gd K h := G.sub hs
  refine wpAny_call (make_core (makes_of G1.k Y.makes) (looks_findIn G1.k Y.init) (fun self => bind_fn G1.k self Y.initFn) (.inl rfl) ?_)
  have k0 : Sub h ((h.push emptyDict).push (instObj 88 h.objs.size)) := ((Sub.refl h).push _).push _
  have G2 := G1.sub k0
  have hd0 : ((h.push emptyDict).push (instObj 88 h.objs.size)).get? h.objs.size = some emptyDict := by heap_get
  have hq0 : ((h.push emptyDict).push (instObj 88 h.objs.size)).get? (h.objs.size + 1) = some (instObj 88 h.objs.size) := by heap_get
  obtain ⟨⟨oc, od, sl, e3⟩, e4⟩ := Y.initF
  obtain ⟨oc', od', sl', e5⟩ := Y.dflt
  refine codeAny_call_def (binds := [("self", .ref (h.objs.size + 1)), ("text_or_uri", .str x t), ("tag", .str y u)]) (rm.make 88 [.str x t, .str y u] []).d (G2.k _ _ e3) rfl G2.lim (codeRec_of G2.k e4) rfl (binds_K G2.k rfl e5 rfl rfl rfl) (by decide) (locs rfl) ?_
  intro h₀ hns hk
  refine wpAny_execs_cons (wpAny_If (wpAny_isTrue_value ?_ rfl))
  refine (evNameL View.nsH rfl rfl rfl).here hns (Nat.succ_pos _) fun a s1 k1 t1p p => ?_
  cases p
  obtain ⟨h1, t1, rfl, k1⟩ := k1
  have hfit : ¬ ((y.length : Int) ≥ 2 ^ 63) := by omega
  refine PySem.P.truthy_str hfit ?_
  have k2 : Sub ((h.push emptyDict).push (instObj 88 h.objs.size)) h1 := Sub.trans hk k1
  have hnl : Heap.Ns h1 (initEnv (h.push emptyDict |>.push (instObj 88 h.objs.size)).objs.size).locals _ := ns_sub hns k1
  by_cases hz : y.length = 0
  · have e : ((y.length : Int) != 0) = false := by simp [hz]
    rw [e, if_neg (by decide)]
    refine wpAny_execs_nil ?_
    refine init_store Y (G2.sub k2).k (Nat.succ_pos _) hnl rfl rfl (k2 _ _ hq0) (k2 _ _ hd0) fun h' tk od x' y1 y2 y3 => ?_
    have hm : mix x y = x := by unfold mix; rw [if_pos hz]
    rw [← hm] at y3
    refine ⟨rfl, hQ _ _ (keeps_mk (s := ⟨h, g, dr, tk0, os⟩) fun b o e => x' b o ?_ (k2 _ _ (k0 _ _ e))) fun g' z => ⟨_, t, rfl, h.objs.size, od, z _ _ ?_, z _ _ ?_, y3⟩⟩
    · exact Nat.ne_of_lt (Heap.lt_size e)
    · exact fr_get.mpr ⟨y1, .inr (fresh_none h (Nat.le_succ _))⟩
    · exact fr_get.mpr ⟨y2, .inr (fresh_none h (Nat.le_refl _))⟩
  · have e : ((y.length : Int) != 0) = true := by simp; omega
    rw [e, if_pos rfl]
    have sz : ∀ n : Nat, n ≤ 3000 → n ≤ sizeLine := fun n hn => by rw [sizeLine_eq]; omega
    have e0 : ∀ z : PySem.Str, PySem.Str.empty ++ z = z := fun z => Str.empty_append z
    refine wpAny_execs_cons (wpAny_Assign_Name (wpAny_JoinedStr (Joins_cons ?_)) rfl)
    have l1 : (PySem.Str.ofString "{").length = 1 := by decide
    have l2 : (PySem.Str.ofString "}").length = 1 := by decide
    refine (evStr (V := View.any)).use (Sub.refl _) trivial (Nat.succ_pos _) fun a s2 k3 tp2 p => ?_
    obtain ⟨t2, rfl, _⟩ := p
    obtain ⟨h2, tk2, rfl, k3⟩ := k3
    refine ⟨_, _, rfl, by rw [e0, l1]; exact sz _ (by omega), Joins_cons ?_⟩
    refine (evFmtS (x := x) (t := t) (sz _ (by omega)) hxt (evNameL View.nsH rfl rfl rfl)).here (ns_sub hnl k3) tp2 fun a s3 k4 tp3 p => ?_
    obtain ⟨t3, rfl, _⟩ := p
    obtain ⟨h3, tk3, rfl, k4⟩ := k4
    refine ⟨_, _, rfl, by rw [e0, len_app, l1]; exact sz _ (by omega), Joins_cons ?_⟩
    refine (evStr (V := View.any)).use (Sub.refl _) trivial tp3 fun a s4 k5 tp4 p => ?_
    obtain ⟨t4, rfl, _⟩ := p
    obtain ⟨h4, tk4, rfl, k5⟩ := k5
    refine ⟨_, _, rfl, by rw [e0, len_app, len_app, l1, l2]; exact sz _ (by omega), Joins_cons ?_⟩
    have k6 : Sub h1 h4 := Sub.trans k3 (Sub.trans k4 k5)
    refine (evFmtS (x := y) (t := u) (sz _ (by omega)) hyt (evNameL View.nsH rfl rfl rfl)).here (ns_sub hnl k6) tp4 fun a s5 k7 tp5 p => ?_
    obtain ⟨t5, rfl, _⟩ := p
    obtain ⟨h5, tk5, rfl, k7⟩ := k7
    have lz : (PySem.Str.empty ++ PySem.Str.ofString "{" ++ x ++ PySem.Str.ofString "}" ++ y).length ≤ sizeLine := by
      rw [e0, len_app, len_app, len_app, l1, l2]; exact sz _ (by omega)
    refine ⟨_, _, rfl, lz, Joins_nil ⟨lz, ?_⟩⟩
    have k8 : Sub h1 h5 := Sub.trans k6 k7
    refine wpAny_storeName_local (m := _) rfl (ns_sub hnl k8) fun h6 hn6 hs6 => ?_
    refine wpAny_execs_nil ?_
    have ne1 : ∀ b : Nat, b < (h.push emptyDict |>.push (instObj 88 h.objs.size)).objs.size → b ≠ (initEnv (h.push emptyDict |>.push (instObj 88 h.objs.size)).objs.size).locals := fun b hb => Nat.ne_of_lt hb
    have up : ∀ b o, ((h.push emptyDict).push (instObj 88 h.objs.size)).get? b = some o → h6.get? b = some o := fun b o e => hs6.extBut b o (ne1 b (Heap.lt_size e)) (k8 _ _ (k2 _ _ e))
    refine init_store Y (G2.sub up).k (Nat.succ_pos _) hn6 rfl rfl (up _ _ hq0) (up _ _ hd0) fun h' tk od x' y1 y2 y3 => ?_
    have hm : mix x y = PySem.Str.ofString "{" ++ x ++ PySem.Str.ofString "}" ++ y := by unfold mix; rw [if_neg hz]
    rw [e0, ← hm] at y3
    refine ⟨rfl, hQ _ _ (keeps_mk (s := ⟨h, g, dr, tk0, os⟩) fun b o e => x' b o ?_ (up _ _ (k0 _ _ e))) fun g' z => ⟨_, _, rfl, h.objs.size, od, z _ _ ?_, z _ _ ?_, y3⟩⟩
    · exact Nat.ne_of_lt (Heap.lt_size e)
    · exact fr_get.mpr ⟨y1, .inr (fresh_none h (Nat.le_succ _))⟩
    · exact fr_get.mpr ⟨y2, .inr (fresh_none h (Nat.le_refl _))⟩
end
end Mine

/-! P1 -/
namespace Mine

/-! ## what can be walked over -/
/-- `x` gives, one after the other, `n` values, the `i`-th of them a `P i` -/
def Iters (prog : Program) (w : World) (A : Around) (R : Heap) (x : Value) (n : Nat) (P : Nat → Value → Prop) : Prop :=
  ∀ (Q : Value → Shared → Prop) (E : Value → Shared → Prop) (s : Shared), Sub R s.heap →
    (∀ I fp wr St s', Keeps s s' → Walks prog w A I fp wr n P St → St 0 s'.heap → (∀ b ∈ wr, s.heap.get? b = none) → (∀ b ∈ fp, ((R.get? b).isSome = true ∨ s.heap.get? b = none) ∧ b < s'.heap.objs.size) →
      (∀ i h, St i h → ∀ b ∈ fp, (h.get? b).isSome = true) → Q (.ref I) s') → wpAny (model prog w) A (pyIter x) Q E s

section
variable {prog : Program} {w : World} {A : Around} {V : View} {R : Heap}

theorem it_list {l : Addr} {xs : List Value} (hh : A.handled = none) (hl : R.IsList l xs.toArray) : Iters prog w A R (.ref l) xs.length (fun i v => xs[i]? = some v) := fun Q E s hs hQ => by
  have hl' := isList_sub hl hs
  obtain ⟨ol, hol, _⟩ := id hl
  have hne : l ≠ s.heap.objs.size := Nat.ne_of_lt (Heap.lt_size (hs _ _ hol))
  refine wpAny_pyIter_list hl' ?_
  have W := Walks.list (prog := prog) (w := w) hh s.heap.objs.size l hne xs.toArray
  have W' : Walks prog w A s.heap.objs.size [s.heap.objs.size, l] [s.heap.objs.size] xs.length (fun i v => xs[i]? = some v) (fun i h => h.IsListIter s.heap.objs.size l i ∧ h.IsList l xs.toArray) := by simpa using W
  refine hQ _ _ _ _ _ (keeps_mk (tk := s.toks) ((Sub.refl _).push _)) W' ⟨⟨_, Heap.get?_push_size _ rfl, rfl, rfl⟩, isList_sub hl' ((Sub.refl _).push _)⟩ ?_ ?_ ?_
  · intro b hb; rw [List.mem_singleton.mp hb]; exact fresh_none _ (Nat.le_refl _)
  · intro b hb
    simp only [List.mem_cons, List.not_mem_nil, or_false] at hb
    rcases hb with rfl | rfl
    · exact ⟨.inr (fresh_none _ (Nat.le_refl _)), by rw [Heap.size_push]; exact Nat.lt_succ_self _⟩
    · exact ⟨.inl (by rw [hol]; rfl), by rw [Heap.size_push]; exact Nat.lt_succ_of_lt (Heap.lt_size (hs _ _ hol))⟩
  · rintro i h ⟨⟨o, ho, _⟩, ⟨o', ho', _⟩⟩ b hb
    simp only [List.mem_cons, List.not_mem_nil, or_false] at hb
    rcases hb with rfl | rfl
    · rw [ho]; rfl
    · rw [ho']; rfl

theorem it_str {x : PySem.Str} {t : Tok} (hh : A.handled = none) : Iters prog w A R (.str x t) x.cps.size (SignAt x) := fun Q E s hs hQ => by
  have fin : ∀ (T : String) (o : Obj), o.isFreed = false → (s.heap.push o).IsStrIter s.heap.objs.size T x t 0 → Walks prog w A s.heap.objs.size [s.heap.objs.size] [s.heap.objs.size] x.cps.size (SignAt x) (fun i h => h.IsStrIter s.heap.objs.size T x t i) →
      Q (.ref s.heap.objs.size) { s with heap := s.heap.push o } := by
    intro T o hf hst W
    refine hQ _ _ _ _ _ (keeps_mk (tk := s.toks) ((Sub.refl _).push _)) W hst ?_ ?_ ?_
    · intro b hb; rw [List.mem_singleton.mp hb]; exact fresh_none _ (Nat.le_refl _)
    · intro b hb; rw [List.mem_singleton.mp hb]; exact ⟨.inr (fresh_none _ (Nat.le_refl _)), by rw [Heap.size_push]; exact Nat.lt_succ_self _⟩
    · rintro i h ⟨o, ho, _⟩ b hb
      rw [List.mem_singleton.mp hb, ho]; rfl
  cases ha : x.cps.all (· < 128)
  · exact wpAny_pyIter_wide ha (fin _ _ rfl ⟨_, Heap.get?_push_size _ rfl, rfl, rfl⟩ (Walks.strWide hh _ x t))
  · exact wpAny_pyIter_ascii ha (fin _ _ rfl ⟨_, Heap.get?_push_size _ rfl, rfl, rfl⟩ (Walks.strAscii hh _ x t))

/-- a range of the numbers `a`, `a + 1`, .. below `b` -/
def IsR (a b : Int) : Value → Heap → Prop := fun v h => ∃ r t u v', v = .ref r ∧ IsRange h r a b 1 t u v'
theorem it_range {a b : Int} {v : Value} {n : Nat} (hh : A.handled = none) (hr : IsR a b v R) (ha : -(2 ^ 62) ≤ a) (ha' : a < 2 ^ 62) (hb : -(2 ^ 62) ≤ b) (hb' : b < 2 ^ 62) (hn : (n : Int) = if a < b then b - a else 0) :
    Iters prog w A R v n (fun i v => ∃ t, v = .int (a + i) t) := fun Q E s hs hQ => by
  obtain ⟨r, t, u, v', rfl, hr⟩ := hr
  refine wpAny_pyIter_range (hs _ _ hr) (small_one ha ha' hb hb') ?_
  have W := Walks.range (prog := prog) (w := w) hh s.heap.objs.size a 1 n
  have hW : Walks prog w A s.heap.objs.size [s.heap.objs.size] [s.heap.objs.size] n (fun i v => ∃ t, v = .int (a + i) t) (fun i h => IsRangeIter h s.heap.objs.size (a + (i : Nat) * 1) ((n : Int) - (i : Nat)) 1) := by
    have e : (fun (i : Nat) (v : Value) => ∃ t, v = Value.int (a + (i : Int) * 1) t) = fun i v => ∃ t, v = .int (a + i) t := by funext i v; simp
    rw [← e]; exact W
  refine hQ _ _ _ _ _ (keeps_mk (tk := s.toks) ((Sub.refl _).push _)) hW ?_ ?_ ?_ ?_
  · have e : Builtin.Range.rangeSize a b 1 = (n : Int) - ((0 : Nat) : Int) := by rw [rangeSize_one, ← hn]; simp
    show Heap.get? _ _ = _
    have e2 : a + ((0 : Nat) : Int) * 1 = a := by simp
    rw [e2, ← e]
    exact Heap.get?_push_size _ rfl
  · intro b hb; rw [List.mem_singleton.mp hb]; exact fresh_none _ (Nat.le_refl _)
  · intro b hb; rw [List.mem_singleton.mp hb]; exact ⟨.inr (fresh_none _ (Nat.le_refl _)), by rw [Heap.size_push]; exact Nat.lt_succ_self _⟩
  · intro i h ho b hb
    rw [List.mem_singleton.mp hb, ho]; rfl

theorem ev_range1 {n : Int} {t : Tok} : Ev prog w A V R (call (.type "range") [.int n t]) (IsR 0 n) := Ev.mk fun Q E s hs _ ht hQ =>
  call_range_1 (hQ _ _ (keeps_mk ((Sub.refl _).push _)) fun g z => ⟨_, _, _, _, rfl, z _ _ (fr_get.mpr ⟨Heap.get?_push_size _ rfl, .inr (fresh_none _ (Nat.le_refl _))⟩)⟩)
theorem ev_range2 {a b : Int} {t u : Tok} : Ev prog w A V R (call (.type "range") [.int a t, .int b u]) (IsR a b) := Ev.mk fun Q E s hs _ ht hQ =>
  call_range_2 (hQ _ _ (keeps_mk ((Sub.refl _).push _)) fun g z => ⟨_, _, _, _, rfl, z _ _ (fr_get.mpr ⟨Heap.get?_push_size _ rfl, .inr (fresh_none _ (Nat.le_refl _))⟩)⟩)
theorem ev_len {l : Addr} {xs : List Value} (hl : R.IsList l xs.toArray) (hz : xs.length < 2 ^ 62) : Ev prog w A V R (call (.builtin "len") [.ref l]) (IsI xs.length) := Ev.mk fun Q E s hs _ ht hQ => by
  refine Calls.call_len_list (isList_sub hl hs) (by simp; omega) ?_
  have e : ((xs.toArray.size : Nat) : Int) = (xs.length : Int) := by simp
  rw [e]
  exact hQ _ _ keeps_tok (upI (Nat.succ_pos _))
end

end Mine

/-! P2 -/
namespace Mine

/-! ## within a comprehension -/
/-- a state within a comprehension: its variables at `C`, its list at `D`, and the part `R'` that facts speak of -/
structure CS (s₁ : Shared) (R₁ : Heap) (C D : Addr) (m : PySem.Str → Option Value) (ys : List Value) (R' : Heap) (s' : Shared) : Prop where
  keep : Keeps s₁ s'
  acc : s'.heap.PlainList D ys.toArray
  ns : s'.heap.Ns C m
  low : Sub R₁ R'
  sub : Sub R' s'.heap
  new : ∀ b o, R'.get? b = some o → (R₁.get? b).isSome = true ∨ s₁.heap.get? b = none
  offC : R'.get? C = none
  offD : R'.get? D = none
  tok : 0 < s'.toks

def CStep (J : (PySem.Str → Option Value) → Prop) (s₁ : Shared) (R₁ : Heap) (C D : Addr) (ys : List Value) (R' : Heap) (s' : Shared) (G : List Value → Heap → Prop) (s'' : Shared) : Prop :=
  ∃ m'' zs R'', J m'' ∧ CS s₁ R₁ C D m'' (ys ++ zs) R'' s'' ∧ Sub R' R'' ∧ (∀ b o, b ≠ C → b ≠ D → s'.heap.get? b = some o → s''.heap.get? b = some o) ∧
    (∀ b o, R''.get? b = some o → (R'.get? b).isSome = true ∨ s'.heap.get? b = none) ∧ Up G zs R''

section
variable {prog : Program} {w : World} {A : Around} {s s₁ : Shared} {R₁ R' : Heap} {C D I : Addr} {fp wr : List Addr} {n d : Nat} {P : Nat → Value → Prop} {St : Nat → Heap → Prop} {m : PySem.Str → Option Value} {ys : List Value}
  {elt : Expr} {gens : List Comprehension} {scope : Scope} {pos p0 px : Pos} {cenv : Env} {x : PySem.Str} {act : Sem Unit} {Rr : Result → Shared → Prop}

theorem isSome_sub {a b : Heap} {p : Addr} (s : Sub a b) (h : (a.get? p).isSome = true) : (b.get? p).isSome = true := by
  obtain ⟨o, ho⟩ := Option.isSome_iff_exists.mp h; rw [s _ _ ho]; rfl

theorem compLoop_run (J : (PySem.Str → Option Value) → Prop) (hJ0 : J m) (hJs : ∀ m' v, J m' → J (fun z => if z = x then some v else m' z)) (W : Walks prog w A I fp wr n P St) (hal : ∀ i h, St i h → ∀ b ∈ wr, (h.get? b).isSome = true) (hC : cenv.locals = C) (hx : cenv.kindOf x = some .local)
    (hp : (cenv.scope.kind == .class || (cenv.scope.kind == .module && cenv.locals != cenv.globals)) = false) (hCf : C ∉ fp) (hDf : D ∉ fp) (hDC : D ≠ C)
    (hshape : ∀ (Q : PySem.Fin → Shared → Prop) (E : Value → Shared → Prop) (s' : Shared), wpAny (model prog w) A (pyNext (.ref I)) (fun r s₂ => match r with
      | none => Q (.done .next) s₂
      | some v => wpAny (model prog w) A (assign (.Name x px) cenv v) (fun _ s₃ => wpAny (model prog w) A act (fun _ s₄ => Q (.again (.compLoop (.ListComp elt gens scope pos) d (.ref I) (.ref D) cenv)) s₄) E s₃) E s₂) E s' →
      wpAny (model prog w) A (compTurn (.ListComp elt gens scope pos) d (.ref I) (.ref D) cenv) Q E s')
    (G : Nat → List Value → Heap → Prop) (c0 : CS s₁ R₁ C D m ys R' s) (st : St 0 s.heap) (offw : ∀ b ∈ wr, R'.get? b = none) (hw1 : ∀ b ∈ wr, s₁.heap.get? b = none) (hC1 : s₁.heap.get? C = none)
    (turn : ∀ i v s' m' ys' R'', J m' → i < n → P i v → CS s₁ R₁ C D m' ys' R'' s' → Sub R' R'' → m' x = some v → (∃ zss, ys' = ys ++ zss.flatten ∧ Paired (fun i zs => Up (G i) zs R'') (List.range i) zss) →
      wpAny (model prog w) A act (fun _ s'' => CStep J s₁ R₁ C D ys' R'' s' (G i) s'') (fun _ _ => False) s')
    (fin : ∀ m' zss R'' s', J m' → CS s₁ R₁ C D m' (ys ++ zss.flatten) R'' s' → Sub R' R'' → (∀ b o, b ≠ C → b ≠ D → b ∉ wr → s.heap.get? b = some o → s'.heap.get? b = some o) →
      (∀ b o, R''.get? b = some o → (R'.get? b).isSome = true ∨ s.heap.get? b = none) → Paired (fun i zs => Up (G i) zs R'') (List.range n) zss → Rr (.ok .next) s') :
    codeAny (model prog w) A (.compLoop (.ListComp elt gens scope pos) d (.ref I) (.ref D) cenv) Rr s := by
  have hCw : C ∉ wr := fun h => hCf (W.sub _ h)
  have hDw : D ∉ wr := fun h => hDf (W.sub _ h)
  refine codeAny_loop rfl (fun k s' => ∃ i m' zss R'', k = n + 1 - i ∧ i ≤ n ∧ J m' ∧ CS s₁ R₁ C D m' (ys ++ zss.flatten) R'' s' ∧ St i s'.heap ∧ (∀ b ∈ wr, R''.get? b = none) ∧ Sub R' R'' ∧
      (∀ b o, b ≠ C → b ≠ D → b ∉ wr → s.heap.get? b = some o → s'.heap.get? b = some o) ∧ (∀ b o, R''.get? b = some o → (R'.get? b).isSome = true ∨ s.heap.get? b = none) ∧ Paired (fun i zs => Up (G i) zs R'') (List.range i) zss) ?_ (n + 1)
    ⟨0, m, [], R', rfl, Nat.zero_le _, hJ0, by simpa using c0, st, offw, Sub.refl _, fun _ _ _ _ _ e => e, fun b o e => .inl (by rw [e]; rfl), .nil⟩
  rintro k s' ⟨i, m', zss, R'', rfl, hi, hJ, c, hst, ho, hR, hext, hfresh, hpair⟩
  show wpAny _ A ((compTurn (.ListComp elt gens scope pos) d (.ref I) (.ref D) cenv).onRaise (fun x => do noteFrame x cenv; theTreesLotGoes x)) _ _ s'
  refine wpAny_onRaise (hshape _ _ _ (wpAny_pos c.tok ?_))
  by_cases hlt : i < n
  · refine W.item i _ _ _ hlt hst fun v h₁ tk₁ hP hst₁ hk₁ htk => ?_
    have hn₁ : h₁.Ns cenv.locals m' := by rw [hC]; exact c.ns.at' fun o e => hk₁ _ o hCw e
    refine wpAny_assign_Name (wpAny_storeName_local hx hn₁ (fun h₂ hn₂ hs₂ => ?_) hp)
    rw [hC] at hn₂ hs₂
    have up₂ : ∀ b o, b ≠ C → b ∉ wr → s'.heap.get? b = some o → h₂.get? b = some o := fun b o hbC hbw e => hs₂.extBut b o hbC (hk₁ b o hbw e)
    have hR₂ : Sub R'' h₂ := fun b o e => up₂ b o (fun z => by rw [z, c.offC] at e; cases e) (fun z => by rw [ho b z] at e; cases e) (c.sub _ _ e)
    have keep₂ : Keeps s₁ { s' with heap := h₂, toks := tk₁ + 1 } := by
      obtain ⟨h', tk', rfl, e⟩ := c.keep
      exact ⟨h₂, _, rfl, fun b o q => up₂ b o (fun z => by rw [z, hC1] at q; cases q) (fun z => by rw [hw1 b z] at q; cases q) (e _ _ q)⟩
    have c₂ : CS s₁ R₁ C D (fun z => if z = x then some v else m' z) (ys ++ zss.flatten) R'' { s' with heap := h₂, toks := tk₁ + 1 } :=
      ⟨keep₂, c.acc.at fun o e => up₂ D o hDC hDw e, hn₂, c.low, hR₂, c.new, c.offC, c.offD, Nat.succ_pos _⟩
    have hst₂ : St (i + 1) h₂ := W.frame _ _ _ hst₁ fun b hb o e => hs₂.extBut b o (fun z => hCf (z ▸ hb)) e
    refine wpAny_mono (turn i v _ _ _ _ (hJs _ _ hJ) hlt hP c₂ hR (by simp) ⟨zss, rfl, hpair⟩) (fun _ s₃ q => ?_) fun _ _ q => q.elim
    obtain ⟨m₃, zs, R₃, hJ₃, c₃, hR₃, hx₃, hf₃, hg₃⟩ := q
    have alive : ∀ b ∈ wr, (h₂.get? b).isSome = true := hal _ _ hst₂
    have off₃ : ∀ b ∈ wr, R₃.get? b = none := fun b hb => by
      cases e : R₃.get? b with
      | none => rfl
      | some o =>
        rcases hf₃ b o e with q | q
        · rw [ho b hb] at q; cases q
        · have := alive b hb; rw [show h₂.get? b = none from q] at this; cases this
    refine ⟨rfl, n + 1 - (i + 1), by omega, i + 1, m₃, zss ++ [zs], R₃, rfl, hlt, hJ₃, ?_, ?_, off₃, hR.trans hR₃, ?_, ?_, ?_⟩
    · have e : ys ++ (zss ++ [zs]).flatten = ys ++ zss.flatten ++ zs := by simp
      rw [e]; exact c₃
    · exact W.frame _ _ _ hst₂ fun b hb o e => hx₃ b o (fun z => hCf (z ▸ hb)) (fun z => hDf (z ▸ hb)) e
    · exact fun b o h1 h2 h3 e => hx₃ b o h1 h2 (up₂ b o h1 h3 (hext b o h1 h2 h3 e))
    · intro b o e
      rcases hf₃ b o e with q | q
      · obtain ⟨o', ho'⟩ := Option.isSome_iff_exists.mp q
        exact hfresh b o' ho'
      · by_cases hbC : b = C
        · exfalso; rw [hbC, c₃.offC] at e; cases e
        by_cases hbD : b = D
        · exfalso; rw [hbD, c₃.offD] at e; cases e
        by_cases hbw : b ∈ wr
        · rw [off₃ b hbw] at e; cases e
        refine .inr ?_
        cases e' : s.heap.get? b with
        | none => rfl
        | some o' => have := up₂ b o' hbC hbw (hext b o' hbC hbD hbw e'); rw [show h₂.get? b = none from q] at this; cases this
    · rw [List.range_succ]
      have mono : ∀ {l : List Nat} {z : List (List Value)}, Paired (fun i zs => Up (G i) zs R'') l z → Paired (fun i zs => Up (G i) zs R₃) l z := by
        intro l z h
        induction h with
        | nil => exact .nil
        | cons a b ih => exact .cons (a.sub hR₃) ih
      exact Paired.snoc (mono hpair) hg₃
  · have hin : i = n := by omega
    subst hin
    refine W.done _ _ _ hst fun h₁ tk₁ hk₁ htk => ?_
    refine fin m' zss R'' _ hJ ?_ hR ?_ hfresh hpair
    · obtain ⟨h', tk', rfl, e⟩ := c.keep
      exact ⟨⟨h₁, _, rfl, fun b o q => hk₁ b o (fun z => by rw [hw1 b z] at q; cases q) (e _ _ q)⟩, c.acc.at fun o e => hk₁ D o hDw e, c.ns.at' fun o e => hk₁ C o hCw e, c.low,
        fun b o e => hk₁ b o (fun z => by rw [ho b z] at e; cases e) (c.sub _ _ e), c.new, c.offC, c.offD, htk⟩
    · exact fun b o h1 h2 h3 e => hk₁ b o h3 (hext b o h1 h2 h3 e)
end

end Mine

/-! P3 -/
namespace Mine

def testsOf (ifs : List Expr) (env : Env) : Sem Bool := forIn ifs true fun c r => if r = true then do let ok ← isTrue c env (eval c env); pure (ForInStep.yield ok) else pure (ForInStep.yield r)
def emitAct (ifs : List Expr) (elt : Expr) (acc : Value) (env : Env) : Sem Unit :=
  testsOf ifs env >>= fun ok => if ok = true then (eval elt env >>= fun x => call (.builtin "list.append") [acc, x] >>= fun _ => pure ()) else pure ()

theorem emit_on {prog : Program} {w : World} {A : Around} {s : Shared} {elt : Expr} {ifs : List Expr} {acc : Value} {env : Env} {Q : PySem.Fin → Shared → Prop} {E : Value → Shared → Prop} {C : Code}
    (h : wpAny (model prog w) A (emitAct ifs elt acc env) (fun _ s₄ => Q (.again C) s₄) E s) :
    wpAny (model prog w) A (testsOf ifs env >>= fun ok => if ok = true then ((do let _ ← call (.builtin "list.append") [acc, ← eval elt env]) >>= fun _ => again C) else again C) Q E s := by
  intro Γ p hΓ
  have h' := h Γ p hΓ
  unfold emitAct at h'
  rw [Sem.wp_bind'] at h' ⊢
  refine Sem.wp_mono _ _ _ (fun ok p' s' q => ?_) (fun _ _ _ e => e) _ _ h'
  cases ok with
  | false => exact q
  | true =>
    simp only [if_true] at q ⊢
    rw [Sem.wp_bind']
    exact q
section
variable {prog : Program} {w : World} {A : Around} {s : Shared} {elt iter iter2 : Expr} {x y : PySem.Str} {px py : Pos} {ifs ifs0 : List Expr} {scope : Scope} {pos : Pos} {I D : Addr} {env : Env}
  {Q : PySem.Fin → Shared → Prop} {E : Value → Shared → Prop}

theorem shape1 (h : wpAny (model prog w) A (pyNext (.ref I)) (fun r s₂ => match r with
      | none => Q (.done .next) s₂
      | some v => wpAny (model prog w) A (assign (.Name x px) env v) (fun _ s₃ => wpAny (model prog w) A (emitAct ifs elt (.ref D) env) (fun _ s₄ => Q (.again (.compLoop (.ListComp elt [⟨.Name x px, iter, ifs, 0⟩] scope pos) 0 (.ref I) (.ref D) env)) s₄) E s₃) E s₂) E s) :
    wpAny (model prog w) A (compTurn (.ListComp elt [⟨.Name x px, iter, ifs, 0⟩] scope pos) 0 (.ref I) (.ref D) env) Q E s := by
  rw [compTurn_list]
  refine wpAny_bind (wpAny_standAt (wpAny_bind (wpAny_mono h (fun r s₁ h₁ => ?_) fun _ _ e => e)))
  cases r with
  | none => exact wpAny_pure h₁
  | some v =>
    refine wpAny_bind (wpAny_of_eq rfl (wpAny_bind (wpAny_mono h₁ (fun _ s₂ h₂ => ?_) fun _ _ e => e)))
    exact emit_on h₂

theorem shape2b (h : wpAny (model prog w) A (pyNext (.ref I)) (fun r s₂ => match r with
      | none => Q (.done .next) s₂
      | some v => wpAny (model prog w) A (assign (.Name y py) env v) (fun _ s₃ => wpAny (model prog w) A (emitAct ifs elt (.ref D) env) (fun _ s₄ => Q (.again (.compLoop (.ListComp elt [⟨.Name x px, iter, ifs0, 0⟩, ⟨.Name y py, iter2, ifs, 0⟩] scope pos) 1 (.ref I) (.ref D) env)) s₄) E s₃) E s₂) E s) :
    wpAny (model prog w) A (compTurn (.ListComp elt [⟨.Name x px, iter, ifs0, 0⟩, ⟨.Name y py, iter2, ifs, 0⟩] scope pos) 1 (.ref I) (.ref D) env) Q E s := by
  show wpAny _ _ (standAt iter2.pos >>= fun _ => pyNext (.ref I) >>= _) _ _ _
  refine wpAny_bind (wpAny_standAt (wpAny_bind (wpAny_mono h (fun r s₁ h₁ => ?_) fun _ _ e => e)))
  cases r with
  | none => exact wpAny_pure h₁
  | some v =>
    refine wpAny_bind (wpAny_of_eq rfl (wpAny_bind (wpAny_mono h₁ (fun _ s₂ h₂ => ?_) fun _ _ e => e)))
    exact emit_on h₂

def nestAct (e iter2 : Expr) (acc : Value) (env : Env) : Sem Unit :=
  eval iter2 env >>= fun x => standAt iter2.pos >>= fun _ => foldedSetIterable iter2 env x >>= fun x => holding [x] (pyIter x) >>= fun it2 => runOwn (.compStart e 1 it2 acc env) env >>= fun _ => pure ()
theorem shape2a (h : wpAny (model prog w) A (pyNext (.ref I)) (fun r s₂ => match r with
      | none => Q (.done .next) s₂
      | some v => wpAny (model prog w) A (assign (.Name x px) env v) (fun _ s₃ => wpAny (model prog w) A (nestAct (.ListComp elt [⟨.Name x px, iter, [], 0⟩, ⟨.Name y py, iter2, ifs, 0⟩] scope pos) iter2 (.ref D) env) (fun _ s₄ =>
          Q (.again (.compLoop (.ListComp elt [⟨.Name x px, iter, [], 0⟩, ⟨.Name y py, iter2, ifs, 0⟩] scope pos) 0 (.ref I) (.ref D) env)) s₄) E s₃) E s₂) E s) :
    wpAny (model prog w) A (compTurn (.ListComp elt [⟨.Name x px, iter, [], 0⟩, ⟨.Name y py, iter2, ifs, 0⟩] scope pos) 0 (.ref I) (.ref D) env) Q E s := by
  show wpAny _ _ (standAt iter.pos >>= fun _ => pyNext (.ref I) >>= _) _ _ _
  refine wpAny_bind (wpAny_standAt (wpAny_bind (wpAny_mono h (fun r s₁ h₁ => ?_) fun _ _ e => e)))
  cases r with
  | none => exact wpAny_pure h₁
  | some v =>
    refine wpAny_bind (wpAny_of_eq rfl (wpAny_bind (wpAny_mono h₁ (fun _ s₂ h₂ => ?_) fun _ _ e => e)))
    intro Γ p hΓ
    have h' := h₂ Γ p hΓ
    unfold nestAct at h'
    refine (?_ : Sem.wp _ _ (eval iter2 env >>= _) _ _ _ _)
    rw [Sem.wp_bind'] at h' ⊢
    refine Sem.wp_mono _ _ _ (fun xv p' s' q => ?_) (fun _ _ _ e => e) _ _ h'
    show Sem.wp _ _ (standAt iter2.pos >>= fun _ => foldedSetIterable iter2 env xv >>= fun z => holding [z] (pyIter z) >>= fun it2 =>
      runOwn (.compStart (.ListComp elt [⟨.Name x px, iter, [], 0⟩, ⟨.Name y py, iter2, ifs, 0⟩] scope pos) 1 it2 (.ref D) env) env >>= fun _ => again (.compLoop (.ListComp elt [⟨.Name x px, iter, [], 0⟩, ⟨.Name y py, iter2, ifs, 0⟩] scope pos) 0 (.ref I) (.ref D) env)) _ _ _ _
    simp only [Sem.wp_bind'] at q ⊢
    exact q

end
end Mine

/-! P4 -/
namespace Mine

section
variable {prog : Program} {w : World} {A : Around} {V : View} {s' s₁ : Shared} {R R₁ R'' : Heap} {C D : Addr} {m' : PySem.Str → Option Value} {ys' : List Value} {elt : Expr} {ifs : List Expr} {cenv : Env} {b : Bool} {F : Value → Heap → Prop}

theorem off_fr {R : Heap} {s s' : Shared} {a : Addr} (h : R.get? a = none) (ha : (s.heap.get? a).isSome = true) : (fr R s s').get? a = none := by
  cases e : (fr R s s').get? a with
  | none => rfl
  | some o =>
    rcases (fr_get.mp e).2 with q | q
    · rw [h] at q; cases q
    · rw [q] at ha; cases ha
theorem none_of_keeps {s s' : Shared} {a : Addr} (k : Keeps s s') (h : s'.heap.get? a = none) : s.heap.get? a = none := by
  cases e : s.heap.get? a with
  | none => rfl
  | some o => rw [keeps_sub k _ _ e] at h; cases h
theorem plainList_keeps {h h' : Heap} {D : Addr} {ys : Array Value} (x : h.PlainList D ys) (s : Sub h h') : h'.PlainList D ys := x.at fun o e => s _ _ e

theorem emit_step {J : (PySem.Str → Option Value) → Prop} (hJ : J m') (hV : V.p s'.heap) (c : CS s₁ R₁ C D m' ys' R'' s') (hDC : D ≠ C) (hD1 : s₁.heap.get? D = none) (hz : ys'.length ≤ sizeLine)
    (ht : Ev prog w A (V.and (View.ns C m')) R'' (testsOf ifs cenv) (Is b)) (he : b = true → Ev prog w A (V.and (View.ns C m')) R'' (eval elt cenv) F) :
    wpAny (model prog w) A (emitAct ifs elt (.ref D) cenv) (fun _ s'' => CStep J s₁ R₁ C D ys' R'' s' (fun zs h => if b = true then ∃ y, zs = [y] ∧ F y h else zs = []) s'') (fun _ _ => False) s' := by
  have hCal : ∀ s2, Keeps s' s2 → (s2.heap.get? C).isSome = true := fun s2 k => by
    obtain ⟨o, es, ep, ho, _⟩ := c.ns; rw [keeps_sub k _ _ ho]; rfl
  have hDal : ∀ s2, Keeps s' s2 → (s2.heap.get? D).isSome = true := fun s2 k => by
    obtain ⟨n, ho⟩ := c.acc; rw [keeps_sub k _ _ ho]; rfl
  unfold emitAct
  refine wpAny_bind (ht.use c.sub ⟨hV, c.ns⟩ c.tok fun ok s2 k2 t2 p2 => ?_)
  cases p2
  cases hb : b with
  | false =>
    simp only [Bool.false_eq_true, if_false]
    refine wpAny_pure ⟨m', [], R'', hJ, ?_, Sub.refl _, fun b o _ _ e => keeps_sub k2 _ _ e, fun b o e => .inl (by rw [e]; rfl), fun _ _ => rfl⟩
    rw [List.append_nil]
    exact ⟨keeps_trans c.keep k2, plainList_keeps c.acc (keeps_sub k2), ns_sub c.ns (keeps_sub k2), c.low, c.sub.trans (keeps_sub k2), c.new, c.offC, c.offD, t2⟩
  | true =>
    simp only [if_true]
    refine wpAny_bind (he hb _ _ s2 (c.sub.trans (keeps_sub k2)) ⟨V.up _ _ (keeps_sub k2) hV, ns_sub c.ns (keeps_sub k2)⟩ t2 fun y s3 k3 t3 p3 => ?_)
    have k23 := keeps_trans k2 k3
    have hz' : ys'.toArray.size ≤ sizeLine := by simpa using hz
    refine wpAny_bind (wpAny_list_append_plain (hsz := hz') (plainList_keeps c.acc (keeps_sub k23)) fun h4 hl4 hs4 => wpAny_pure ?_)
    have offC3 : (fr R'' s2 s3).get? C = none := off_fr c.offC (hCal s2 k2)
    have offD3 : (fr R'' s2 s3).get? D = none := off_fr c.offD (hDal s2 k2)
    refine ⟨m', [y], fr R'' s2 s3, hJ, ⟨?_, ?_, ?_, ?_, ?_, ?_, offC3, offD3, t3⟩, sub_fr (c.sub.trans (keeps_sub k2)) k3, ?_, ?_, ?_⟩
    · obtain ⟨h3, t3, rfl, e3⟩ := keeps_trans c.keep k23
      exact ⟨h4, _, rfl, fun b o e => hs4.extBut b o (fun z => by rw [z, hD1] at e; cases e) (e3 _ _ e)⟩
    · have e : (ys' ++ [y]).toArray = ys'.toArray.push y := by simp
      rw [e]; exact hl4
    · exact (ns_sub c.ns (keeps_sub k23)).sameBut hs4 hDC.symm
    · exact c.low.trans (sub_fr (c.sub.trans (keeps_sub k2)) k3)
    · exact fun b o e => hs4.extBut b o (fun z => by rw [z, offD3] at e; cases e) (fr_sub _ _ e)
    · intro b o e
      rcases (fr_get.mp e).2 with q | q
      · obtain ⟨o', ho'⟩ := Option.isSome_iff_exists.mp q
        exact c.new b o' ho'
      · exact .inr (none_of_keeps (keeps_trans c.keep k2) q)
    · exact fun b o h1 h2 e => hs4.extBut b o h2 (keeps_sub k23 _ _ e)
    · intro b o e
      rcases (fr_get.mp e).2 with q | q
      · exact .inl q
      · exact .inr (none_of_keeps k2 q)
    · exact fun g z => ⟨y, rfl, p3 g z⟩
end

theorem flat_paired {p : Nat → Bool} {F : Nat → Value → Heap → Prop} {h : Heap} : ∀ {l : List Nat} {zss : List (List Value)}, Paired (fun i zs => Up (fun zs h => if p i = true then ∃ y, zs = [y] ∧ F i y h else zs = []) zs h) l zss → ∀ g, Sub h g →
    Paired (fun i y => F i y g) (l.filter p) zss.flatten := by
  intro l zss hp g z
  induction hp with
  | nil => exact .nil
  | cons a b ih =>
    rename_i i zs l₁ l₂
    have a' := a g z
    dsimp only at a'
    by_cases hi : p i = true
    · rw [if_pos hi] at a'
      obtain ⟨y, rfl, hy⟩ := a'
      rw [List.filter_cons_of_pos hi]
      exact .cons hy ih
    · rw [if_neg hi] at a'
      subst a'
      rw [List.filter_cons_of_neg hi]
      exact ih
theorem flat_len {p : Nat → Bool} {F : Nat → Value → Heap → Prop} {h : Heap} {l : List Nat} {zss : List (List Value)} (hp : Paired (fun i zs => Up (fun zs h => if p i = true then ∃ y, zs = [y] ∧ F i y h else zs = []) zs h) l zss) : zss.flatten.length ≤ l.length := by
  induction hp with
  | nil => simp
  | cons a b ih =>
    rename_i i zs l₁ l₂
    have a' := a h (Sub.refl _)
    dsimp only at a'
    by_cases hi : p i = true
    · rw [if_pos hi] at a'
      obtain ⟨y, rfl, hy⟩ := a'
      rw [List.flatten_cons, List.length_append, List.length_singleton, List.length_cons]; omega
    · rw [if_neg hi] at a'
      subst a'
      rw [List.flatten_cons, List.length_append, List.length_nil, List.length_cons]; omega

end Mine

/-! P5 -/
namespace Mine

theorem paired_up {α : Type} {G : Nat → α → Heap → Prop} {h g : Heap} (hs : Sub h g) : ∀ {l : List Nat} {zss : List α}, Paired (fun i zs => Up (G i) zs h) l zss → Paired (fun i zs => G i zs g) l zss := by
  intro l zss hp
  induction hp with
  | nil => exact .nil
  | cons a b ih => exact .cons (a g hs) ih

section
variable {prog : Program} {w : World} {A : Around} {V : View} {R : Heap} {env : Env} {elt iter iter2 : Expr} {x y : PySem.Str} {px py pos : Pos} {ifs : List Expr} {scope : Scope} {cl : List (PySem.Str × Addr)} {PX : Value → Heap → Prop}

theorem codeAny_compStart {gens : List Comprehension} {d : Nat} {it acc : Value} {cenv : Env} {Rr : Result → Shared → Prop} {s : Shared} (hg : ((clausesOf (.ListComp elt gens scope pos))[d]?).elim false (·.is_async != 0) = false)
    (h0 : codeAny (model prog w) A (.compLoop (.ListComp elt gens scope pos) d it acc cenv) Rr s)
    (h : wpAny (model prog w) A (pyIter it) (fun it' s' => codeAny (model prog w) A (.compLoop (.ListComp elt gens scope pos) d it' acc cenv) Rr s') (fun _ _ => False) s) :
    codeAny (model prog w) A (.compStart (.ListComp elt gens scope pos) d it acc cenv) Rr s := by
  refine codeAny_of_tree ?_
  show wpAny _ A ((compStart (.ListComp elt gens scope pos) d it acc cenv).onRaise (fun x => do noteFrame x cenv; standAt theWindowsPlace)) _ _ s
  refine wpAny_onRaise ?_
  unfold compStart
  rw [hg]
  simp only [Bool.false_eq_true, if_false]
  refine wpAny_bind (wpAny_askSetting (wpAny_ite ?_))
  split
  · first
      | exact wpAny_bind (wpAny_pure (wpAny_pure (And.intro rfl h0)))
      | exact wpAny_pure (And.intro rfl h0)
  · refine wpAny_bind (wpAny_rule ?_)
    cases (clausesOf (.ListComp elt gens scope pos))[d]? with
    | none => exact wpAny_bind (wpAny_mono h (fun it' s' h' => wpAny_pure (And.intro rfl h')) fun _ _ z => z.elim)
    | some g => exact wpAny_bind (wpAny_standAt (wpAny_bind (wpAny_mono h (fun it' s' h' => wpAny_pure (And.intro rfl h')) fun _ _ z => z.elim)))

/-- `[elt for x in iter if ..]` -/
theorem evComp1 {n : Nat} {P : Nat → Value → Prop} (p : Nat → Bool) (F : Nat → Value → Heap → Prop) (hclos : closureFor scope env = pure cl) (hcell : ∀ z ∈ scope.names, z.2 ≠ .cell) (hkind : scope.kind = .function)
    (hnames : ∀ z ∈ scope.names, z.2 = .local → scope.names.lookup z.1 = some .local) (hx : scope.names.lookup x = some .local)
    (hit : Ev prog w A V R (eval iter env) PX) (hI : ∀ xv R1, Sub R R1 → PX xv R1 → Iters prog w A R1 xv n P) (hsz : n ≤ sizeLine)
    (ht : ∀ C i v m R1, Sub R R1 → i < n → P i v → m x = some v → Ev prog w A (V.and (View.ns C m)) R1 (testsOf ifs (compEnvC scope cl C env)) (Is (p i)))
    (he : ∀ C i v m R1, Sub R R1 → i < n → P i v → m x = some v → p i = true → Ev prog w A (V.and (View.ns C m)) R1 (eval elt (compEnvC scope cl C env)) (F i))
    (hs : ∀ z, foldedSetIterable iter env z = pure z := by intro _; rfl) :
    Ev prog w A V R (eval (.ListComp elt [⟨.Name x px, iter, ifs, 0⟩] scope pos) env) (fun a h => ∃ l ys, a = .ref l ∧ h.IsList l ys.toArray ∧ Paired (fun i y => F i y h) ((List.range n).filter p) ys) := Ev.mk fun Q E s hs0 hv0 ht0 hQ => by
  rw [eval_ListComp]
  refine wpAny_comprehension_free (use := none) rfl hs hclos hkind hnames (hit _ _ s hs0 hv0 ht0 fun xv s₁ k1 tp1 p1 => ?_)
  have hR1 : Sub (fr R s s₁) s₁.heap := fr_sub
  have hv1 : V.p s₁.heap := View.keeps hv0 k1
  refine wpAny_pos tp1 ?_
  refine hI xv _ (sub_fr hs0 k1) p1.here _ _ s₁ hR1 fun I fp wr St s₂ k2 W hst hwr hfp hal tp2 => ?_
  -- the list and the variables
  refine wpAny_newObj_type (wpAny_newFunctionEnv hcell (by intro z hz; simp at hz) (fun h₁ hns₁ hsb₁ => ?_) hkind)
  dsimp only at hns₁ hsb₁ ⊢
  generalize hH2 : s₂.heap.push { cls := .type "list", dict := none, data := .seq ([] : List Value).toArray } = H2 at hns₁ hsb₁ ⊢
  have hC : H2.objs.size = s₂.heap.objs.size + 1 := by rw [← hH2, Heap.size_push]
  have hDC : s₂.heap.objs.size ≠ H2.objs.size := by rw [hC]; exact Nat.ne_of_lt (Nat.lt_succ_self _)
  have old : Sub s₂.heap h₁ := fun b o e => hsb₁.extBut b o (by rw [hC]; exact Nat.ne_of_lt (Nat.lt_succ_of_lt (Heap.lt_size e))) (Heap.get?_push_of_some _ (hH2 ▸ Heap.get?_push_of_some _ e))
  have hacc : h₁.PlainList s₂.heap.objs.size #[] := ⟨_, hsb₁.extBut _ _ hDC (Heap.get?_push_of_some _ (hH2 ▸ Heap.get?_push_size _ rfl))⟩
  have hD2 : s₂.heap.get? s₂.heap.objs.size = none := fresh_none _ (Nat.le_refl _)
  have hC2 : s₂.heap.get? H2.objs.size = none := fresh_none _ (by rw [hC]; exact Nat.le_succ _)
  have k12 : Sub s₁.heap s₂.heap := keeps_sub k2
  have hD1 : s₁.heap.get? s₂.heap.objs.size = none := none_of_keeps k2 hD2
  have hC1 : s₁.heap.get? H2.objs.size = none := none_of_keeps k2 hC2
  have hCf : H2.objs.size ∉ fp := fun hm => by have := (hfp _ hm).2; rw [hC] at this; exact Nat.lt_irrefl _ (Nat.lt_of_succ_lt this)
  have hDf : s₂.heap.objs.size ∉ fp := fun hm => Nat.lt_irrefl _ (hfp _ hm).2
  have hRs : ∀ a, s₁.heap.get? a = none → (fr R s s₁).get? a = none := fun a ha => by
    cases e : (fr R s s₁).get? a with
    | none => rfl
    | some o => rw [hR1 _ _ e] at ha; cases ha
  have c0 : CS s₁ (fr R s s₁) H2.objs.size s₂.heap.objs.size (fun x => ([] : List (PySem.Str × Value)).reverse.lookup x) [] (fr R s s₁) { s₂ with heap := h₁, toks := s₂.toks + ([] : List (PySem.Str × Value)).length } := by
    refine ⟨?_, hacc, hns₁, Sub.refl _, fun b o e => old _ _ (k12 _ _ (hR1 _ _ e)), fun b o e => .inl (by rw [e]; rfl), hRs _ hC1, hRs _ hD1, tp2⟩
    obtain ⟨h2, t2, rfl, e2⟩ := k2
    exact ⟨h₁, _, rfl, fun b o e => old _ _ (e2 _ _ e)⟩
  have loop : ∀ s₃ : Shared, s₃ = { s₂ with heap := h₁, toks := s₂.toks + ([] : List (PySem.Str × Value)).length } →
      codeAny (model prog w) A (.compLoop (.ListComp elt [⟨.Name x px, iter, ifs, 0⟩] scope pos) 0 (.ref I) (.ref s₂.heap.objs.size) (compEnvC scope cl H2.objs.size env))
        (compPost (model prog w) A E none Q (.ref s₂.heap.objs.size) H2.objs.size) s₃ := by
    rintro s₃ rfl
    refine compLoop_run (fun _ => True) trivial (fun _ _ _ => trivial) (C := H2.objs.size) (D := s₂.heap.objs.size) (cenv := compEnvC scope cl H2.objs.size env) (x := x) (px := px) (act := emitAct ifs elt (.ref s₂.heap.objs.size) (compEnvC scope cl H2.objs.size env)) W (fun i h x b hb => hal i h x b (W.sub b hb)) rfl (lookup_relabel_local hx) (by simp [compEnvC, relabel, hkind])
      hCf hDf hDC (fun Q' E' s' h => shape1 h) (fun i zs h => if p i = true then ∃ y, zs = [y] ∧ F i y h else zs = []) c0 (W.frame _ _ _ hst fun b _ o e => old b o e)
      (fun b hb => hRs _ (hwr b hb)) hwr hC1 ?_ ?_
    · intro i v s' m' ys' R'' _ hi hP c hR hm hys
      have hz : ys'.length ≤ sizeLine := by
        obtain ⟨zss, rfl, hp⟩ := hys
        have := flat_len hp
        rw [List.length_range] at this
        rw [List.nil_append]; omega
      refine emit_step trivial (V.up _ _ (keeps_sub c.keep) hv1) c hDC hD1 hz (ht _ i v m' R'' ((sub_fr hs0 k1).trans c.low) hi hP hm) fun hpi => he _ i v m' R'' ((sub_fr hs0 k1).trans c.low) hi hP hm hpi
    · intro m' zss R'' s' _ c hR _ hfresh hp
      refine ⟨m', c.ns, fun h' hs' => ?_⟩
      have hk : Keeps s₁ { s' with heap := h' } := by
        obtain ⟨h3, t3, rfl, e3⟩ := c.keep
        exact ⟨h', _, rfl, fun b o e => hs'.extBut b o (fun z => by rw [z, hC1] at e; cases e) (e3 _ _ e)⟩
      refine hQ _ _ (keeps_trans k1 hk) fun g z => ?_
      have hRg : Sub R'' g := fun b o e => z _ _ (fr_get.mpr ⟨hs'.extBut b o (fun z => by rw [z, c.offC] at e; cases e) (c.sub _ _ e), by
        rcases c.new b o e with q | q
        · obtain ⟨o', ho'⟩ := Option.isSome_iff_exists.mp q
          exact (fr_get.mp ho').2
        · exact .inr (none_of_keeps k1 q)⟩)
      refine ⟨_, zss.flatten, rfl, ?_, flat_paired hp g hRg⟩
      have hl : h'.IsList s₂.heap.objs.size ([] ++ zss.flatten).toArray := (c.acc.at fun o e => hs'.extBut _ _ hDC e).isList
      rw [List.nil_append] at hl
      obtain ⟨o, ho, r⟩ := hl
      exact ⟨o, z _ _ (fr_get.mpr ⟨ho, .inr (none_of_keeps k1 hD1)⟩), r⟩
  exact codeAny_compStart_list (loop _ rfl) (W.self 0 _ _ _ (W.frame _ _ _ hst fun b _ o e => old b o e) (loop _ rfl))

/-- `[elt for x in iter for y in iter2 if ..]` -/
theorem comp2_raw {n n2 : Nat} {P P2 : Nat → Value → Prop} {PY : Value → Heap → Prop} (p : Nat → Nat → Bool) (F : Nat → Nat → Value → Heap → Prop) (hclos : closureFor scope env = pure cl) (hcell : ∀ z ∈ scope.names, z.2 ≠ .cell) (hkind : scope.kind = .function)
    (hnames : ∀ z ∈ scope.names, z.2 = .local → scope.names.lookup z.1 = some .local) (hx : scope.names.lookup x = some .local) (hy : scope.names.lookup y = some .local) (hxy : x ≠ y)
    (hit : Ev prog w A V R (eval iter env) PX) (hI : ∀ xv R1, Sub R R1 → PX xv R1 → Iters prog w A R1 xv n P) (hsz : n * n2 ≤ sizeLine)
    (hit2 : ∀ C i v m R1, Sub R R1 → i < n → P i v → m x = some v → Ev prog w A (V.and (View.ns C m)) R1 (eval iter2 (compEnvC scope cl C env)) PY)
    (hI2 : ∀ yv R1, Sub R R1 → PY yv R1 → Iters prog w A R1 yv n2 P2)
    (ht : ∀ C i v j u m R1, Sub R R1 → i < n → P i v → j < n2 → P2 j u → m x = some v → m y = some u → Ev prog w A (V.and (View.ns C m)) R1 (testsOf ifs (compEnvC scope cl C env)) (Is (p i j)))
    (he : ∀ C i v j u m R1, Sub R R1 → i < n → P i v → j < n2 → P2 j u → m x = some v → m y = some u → p i j = true → Ev prog w A (V.and (View.ns C m)) R1 (eval elt (compEnvC scope cl C env)) (F i j))
    (hs : ∀ z, foldedSetIterable iter env z = pure z := by intro _; rfl) (hs2 : ∀ C z, foldedSetIterable iter2 (compEnvC scope cl C env) z = pure z := by intro _ _; rfl)
    {use : Option (Value → Sem Unit)} {Q : Value → Shared → Prop} {E : Value → Shared → Prop} {s : Shared} {cpos : Pos} (hs0 : Sub R s.heap) (hv0 : V.p s.heap) (ht0 : 0 < s.toks)
    (hQ : ∀ r D C s' R'' zss m', s.heap.get? C = none → s.heap.get? D = none → D ≠ C → s'.heap.Ns C m' → Keeps s s' → 0 < s'.toks → Sub R R'' → Sub R'' s'.heap → R''.get? C = none → R''.get? D = none →
      (∀ b o, R''.get? b = some o → (R.get? b).isSome = true ∨ s.heap.get? b = none) → s'.heap.PlainList D (List.flatten zss).toArray →
      (∀ g, Sub R'' g → Paired (fun i zs => Paired (fun j y => F i j y g) ((List.range n2).filter (p i)) zs) (List.range n) zss) → compPost (model prog w) A E use Q (.ref D) C (.ok r) s') :
    wpAny (model prog w) A (comprehension (.ListComp elt [⟨.Name x px, iter, [], 0⟩, ⟨.Name y py, iter2, ifs, 0⟩] scope pos) scope env cpos (newList []) false (eval iter env) use) Q E s := by
  refine wpAny_comprehension_free (use := use) rfl hs hclos hkind hnames (hit _ _ s hs0 hv0 ht0 fun xv s₁ k1 tp1 p1 => ?_)
  have hR1 : Sub (fr R s s₁) s₁.heap := fr_sub
  have hv1 : V.p s₁.heap := View.keeps hv0 k1
  refine wpAny_pos tp1 ?_
  refine hI xv _ (sub_fr hs0 k1) p1.here _ _ s₁ hR1 fun I fp wr St s₂ k2 W hst hwr hfp hal tp2 => ?_
  refine wpAny_newObj_type (wpAny_newFunctionEnv hcell (by intro z hz; simp at hz) (fun h₁ hns₁ hsb₁ => ?_) hkind)
  dsimp only at hns₁ hsb₁ ⊢
  generalize hH2 : s₂.heap.push { cls := .type "list", dict := none, data := .seq ([] : List Value).toArray } = H2 at hns₁ hsb₁ ⊢
  have hC : H2.objs.size = s₂.heap.objs.size + 1 := by rw [← hH2, Heap.size_push]
  have hDC : s₂.heap.objs.size ≠ H2.objs.size := by rw [hC]; exact Nat.ne_of_lt (Nat.lt_succ_self _)
  have old : Sub s₂.heap h₁ := fun b o e => hsb₁.extBut b o (by rw [hC]; exact Nat.ne_of_lt (Nat.lt_succ_of_lt (Heap.lt_size e))) (Heap.get?_push_of_some _ (hH2 ▸ Heap.get?_push_of_some _ e))
  have hacc : h₁.PlainList s₂.heap.objs.size #[] := ⟨_, hsb₁.extBut _ _ hDC (Heap.get?_push_of_some _ (hH2 ▸ Heap.get?_push_size _ rfl))⟩
  have hD2 : s₂.heap.get? s₂.heap.objs.size = none := fresh_none _ (Nat.le_refl _)
  have hC2 : s₂.heap.get? H2.objs.size = none := fresh_none _ (by rw [hC]; exact Nat.le_succ _)
  have k12 : Sub s₁.heap s₂.heap := keeps_sub k2
  have hD1 : s₁.heap.get? s₂.heap.objs.size = none := none_of_keeps k2 hD2
  have hC1 : s₁.heap.get? H2.objs.size = none := none_of_keeps k2 hC2
  have hCf : H2.objs.size ∉ fp := fun hm => by have := (hfp _ hm).2; rw [hC] at this; exact Nat.lt_irrefl _ (Nat.lt_of_succ_lt this)
  have hDf : s₂.heap.objs.size ∉ fp := fun hm => Nat.lt_irrefl _ (hfp _ hm).2
  have hRs : ∀ a, s₁.heap.get? a = none → (fr R s s₁).get? a = none := fun a ha => by
    cases e : (fr R s s₁).get? a with
    | none => rfl
    | some o => rw [hR1 _ _ e] at ha; cases ha
  have c0 : CS s₁ (fr R s s₁) H2.objs.size s₂.heap.objs.size (fun x => ([] : List (PySem.Str × Value)).reverse.lookup x) [] (fr R s s₁) { s₂ with heap := h₁, toks := s₂.toks + ([] : List (PySem.Str × Value)).length } := by
    refine ⟨?_, hacc, hns₁, Sub.refl _, fun b o e => old _ _ (k12 _ _ (hR1 _ _ e)), fun b o e => .inl (by rw [e]; rfl), hRs _ hC1, hRs _ hD1, tp2⟩
    obtain ⟨h2, t2, rfl, e2⟩ := k2
    exact ⟨h₁, _, rfl, fun b o e => old _ _ (e2 _ _ e)⟩
  let G : Nat → List Value → Heap → Prop := fun i zs h => Paired (fun j y => F i j y h) ((List.range n2).filter (p i)) zs
  have plen : ∀ {l : List Nat} {zss : List (List Value)} {h : Heap}, Paired (fun i zs => Up (G i) zs h) l zss → zss.flatten.length ≤ l.length * n2 := by
    intro l zss h hp
    induction hp with
    | nil => simp
    | cons a b ih =>
      rename_i i zs l₁ l₂
      have ha := (a.here).length
      have hf : ((List.range n2).filter (p i)).length ≤ n2 := by
        have := List.length_filter_le (p i) (List.range n2); rwa [List.length_range] at this
      rw [List.flatten_cons, List.length_append, List.length_cons, Nat.succ_mul]
      omega
  have loop : ∀ s₃ : Shared, s₃ = { s₂ with heap := h₁, toks := s₂.toks + ([] : List (PySem.Str × Value)).length } →
      codeAny (model prog w) A (.compLoop (.ListComp elt [⟨.Name x px, iter, [], 0⟩, ⟨.Name y py, iter2, ifs, 0⟩] scope pos) 0 (.ref I) (.ref s₂.heap.objs.size) (compEnvC scope cl H2.objs.size env))
        (compPost (model prog w) A E use Q (.ref s₂.heap.objs.size) H2.objs.size) s₃ := by
    rintro s₃ rfl
    refine compLoop_run (fun _ => True) trivial (fun _ _ _ => trivial) (C := H2.objs.size) (D := s₂.heap.objs.size) (cenv := compEnvC scope cl H2.objs.size env) (x := x) (px := px)
      (act := nestAct (.ListComp elt [⟨.Name x px, iter, [], 0⟩, ⟨.Name y py, iter2, ifs, 0⟩] scope pos) iter2 (.ref s₂.heap.objs.size) (compEnvC scope cl H2.objs.size env)) W (fun i h x b hb => hal i h x b (W.sub b hb)) rfl (lookup_relabel_local hx) (by simp [compEnvC, relabel, hkind])
      hCf hDf hDC (fun Q' E' s' h => shape2a h) G c0 (W.frame _ _ _ hst fun b _ o e => old b o e)
      (fun b hb => hRs _ (hwr b hb)) hwr hC1 ?_ ?_
    · intro i v s' m' ys' R'' _ hi hP c hR hm hys
      have hRR := (sub_fr hs0 k1).trans c.low
      have hvs : V.p s'.heap := V.up _ _ (keeps_sub c.keep) hv1
      have hylen : ys'.length ≤ i * n2 := by
        obtain ⟨zss, rfl, hp⟩ := hys
        have := plen hp
        rw [List.length_range] at this
        rw [List.nil_append]; exact this
      have hiz : (i + 1) * n2 ≤ n * n2 := Nat.mul_le_mul_right _ hi
      have hCal : ∀ s2, Keeps s' s2 → (s2.heap.get? H2.objs.size).isSome = true := fun s2 k => by
        obtain ⟨o, es, ep, ho, _⟩ := c.ns; rw [keeps_sub k _ _ ho]; rfl
      have hDal : ∀ s2, Keeps s' s2 → (s2.heap.get? s₂.heap.objs.size).isSome = true := fun s2 k => by
        obtain ⟨n, ho⟩ := c.acc; rw [keeps_sub k _ _ ho]; rfl
      unfold nestAct
      refine wpAny_bind (hit2 H2.objs.size i v m' R'' hRR hi hP hm _ _ s' c.sub ⟨hvs, c.ns⟩ c.tok fun yv sa ka tpa pa => ?_)
      refine wpAny_bind (wpAny_standAt (wpAny_bind (wpAny_of_eq (hs2 _ _) (wpAny_bind (wpAny_holding ?_)))))
      have hRa : Sub R'' (fr R'' s' sa) := sub_fr c.sub ka
      refine wpAny_pos tpa ?_
      refine hI2 yv _ (hRR.trans hRa) pa.here _ _ sa fr_sub fun I2 fp2 wr2 St2 sb kb W2 hst2 hwr2 hfp2 hal2 tpb => ?_
      have kab := keeps_trans ka kb
      have ra : ∀ b o, (fr R'' s' sa).get? b = some o → ((fr R s s₁).get? b).isSome = true ∨ s₁.heap.get? b = none := fun b o e => by
        rcases (fr_get.mp e).2 with q | q
        · obtain ⟨o', ho'⟩ := Option.isSome_iff_exists.mp q
          exact c.new b o' ho'
        · exact .inr (none_of_keeps c.keep q)
      have offCa : (fr R'' s' sa).get? H2.objs.size = none := off_fr c.offC (hCal s' (keeps_refl _))
      have offDa : (fr R'' s' sa).get? s₂.heap.objs.size = none := off_fr c.offD (hDal s' (keeps_refl _))
      have cb : CS s₁ (fr R s s₁) H2.objs.size s₂.heap.objs.size m' ys' (fr R'' s' sa) sb :=
        ⟨keeps_trans c.keep kab, plainList_keeps c.acc (keeps_sub kab), ns_sub c.ns (keeps_sub kab), c.low.trans hRa, fr_sub.trans (keeps_sub kb), ra, offCa, offDa, tpb⟩
      have hCf2 : H2.objs.size ∉ fp2 := fun hm => by
        rcases (hfp2 _ hm).1 with q | q
        · rw [offCa] at q; cases q
        · have := hCal sa ka; rw [q] at this; cases this
      have hDf2 : s₂.heap.objs.size ∉ fp2 := fun hm => by
        rcases (hfp2 _ hm).1 with q | q
        · rw [offDa] at q; cases q
        · have := hDal sa ka; rw [q] at this; cases this
      have offw2 : ∀ b ∈ wr2, (fr R'' s' sa).get? b = none := fun b hb => by
        cases e : (fr R'' s' sa).get? b with
        | none => rfl
        | some o => have := hwr2 b hb; rw [fr_sub _ _ e] at this; cases this
      have inner : codeAny (model prog w) A (.compLoop (.ListComp elt [⟨.Name x px, iter, [], 0⟩, ⟨.Name y py, iter2, ifs, 0⟩] scope pos) 1 (.ref I2) (.ref s₂.heap.objs.size) (compEnvC scope cl H2.objs.size env))
          (fun r sr => match r with | .ok f => wpAny (model prog w) A (pure () : Sem Unit) (fun _ s'' => CStep (fun _ => True) s₁ (fr R s s₁) H2.objs.size s₂.heap.objs.size ys' R'' s' (G i) s'') (fun _ _ => False) sr | .error e => cameBackBy (model prog w) A (compEnvC scope cl H2.objs.size env) (fun _ _ => False) e sr) sb := by
        refine compLoop_run (fun mm => mm x = some v) hm (fun mm u hmm => by simp only [if_neg hxy]; exact hmm) (C := H2.objs.size) (D := s₂.heap.objs.size) (cenv := compEnvC scope cl H2.objs.size env) (x := y) (px := py)
          (act := emitAct ifs elt (.ref s₂.heap.objs.size) (compEnvC scope cl H2.objs.size env)) W2 (fun i h x b hb => hal2 i h x b (W2.sub b hb)) rfl (lookup_relabel_local hy) (by simp [compEnvC, relabel, hkind])
          hCf2 hDf2 hDC (fun Q' E' s' h => shape2b h) (fun j zs h => if p i j = true then ∃ y, zs = [y] ∧ F i j y h else zs = []) cb hst2 offw2 (fun b hb => none_of_keeps c.keep (none_of_keeps ka (hwr2 b hb))) hC1 ?_ ?_
        · intro j u s3 m3 ys3 R3 hm3 hj hPj c3 hR3 hmj hys3
          have hz : ys3.length ≤ sizeLine := by
            obtain ⟨zss, rfl, hp⟩ := hys3
            have := flat_len hp
            rw [List.length_range] at this
            rw [List.length_append]
            rw [Nat.succ_mul] at hiz
            omega
          have hR3' := (sub_fr hs0 k1).trans c3.low
          exact emit_step hm3 (V.up _ _ (keeps_sub c3.keep) hv1) c3 hDC hD1 hz (ht _ i v j u m3 R3 hR3' hi hP hj hPj hm3 hmj) fun hpi => he _ i v j u m3 R3 hR3' hi hP hj hPj hm3 hmj hpi
        · intro m3 zss R3 s3 hm3 c3 hR3 hx3 hf3 hp3
          refine wpAny_pure ⟨m3, zss.flatten, R3, trivial, c3, hRa.trans hR3, ?_, ?_, fun g z => flat_paired hp3 g z⟩
          · exact fun b o h1 h2 e => hx3 b o h1 h2 (fun hb => by have := hwr2 b hb; rw [keeps_sub ka _ _ e] at this; cases this) (keeps_sub kab _ _ e)
          · intro b o e
            rcases hf3 b o e with q | q
            · obtain ⟨o', ho'⟩ := Option.isSome_iff_exists.mp q
              exact (fr_get.mp ho').2
            · exact .inr (none_of_keeps kab q)
      refine wpAny_bind (wpAny_runOwn ?_)
      exact codeAny_compStart rfl inner (W2.self 0 _ _ _ hst2 inner)
    · intro m' zss R'' s' _ c hR _ hfresh hp
      refine hQ _ _ _ s' R'' zss m' (none_of_keeps k1 hC1) (none_of_keeps k1 hD1) hDC c.ns (keeps_trans k1 c.keep) c.tok ((sub_fr hs0 k1).trans c.low) c.sub c.offC c.offD (fun b o e => ?_) (by have := c.acc; rw [List.nil_append] at this; exact this) fun g hRg => paired_up (G := G) hRg hp
      rcases c.new b o e with q | q
      · obtain ⟨o', ho'⟩ := Option.isSome_iff_exists.mp q
        exact (fr_get.mp ho').2
      · exact .inr (none_of_keeps k1 q)
  exact codeAny_compStart_list (loop _ rfl) (W.self 0 _ _ _ (W.frame _ _ _ hst fun b _ o e => old b o e) (loop _ rfl))
end

end Mine

/-! P6 -/
namespace Mine
open AutoSeq1 (wpAny_loadPart')

/-! ## lists of numbers, compared -/
def szB : CmpOp → Nat → Nat → Bool
  | .Lt, m, n => decide (m < n)
  | .LtE, m, n => decide (m ≤ n)
  | .Gt, m, n => decide (m > n)
  | .GtE, m, n => decide (m ≥ n)
  | _, _, _ => false
def intB : CmpOp → Int → Int → Bool
  | .Lt, m, n => decide (m < n)
  | .LtE, m, n => decide (m ≤ n)
  | .Gt, m, n => decide (m > n)
  | .GtE, m, n => decide (m ≥ n)
  | _, _, _ => false
def lexB (op : CmpOp) : List Int → List Int → Bool
  | a :: as, b :: bs => if a == b then lexB op as bs else intB op a b
  | as, bs => szB op as.length bs.length

theorem szB_sub {op : CmpOp} {m n i : Nat} (hm : i ≤ m) (hn : i ≤ n) : szB op (m - i) (n - i) = szB op m n := by
  cases op <;> simp only [szB] <;> first | rfl | (apply decide_eq_decide.mpr; omega)
theorem lexB_end {op : CmpOp} {as bs : List Int} (h : as = [] ∨ bs = []) : lexB op as bs = szB op as.length bs.length := by
  rcases h with rfl | rfl
  · cases bs <;> rfl
  · cases as <;> rfl
theorem lexB_cons {op : CmpOp} {ns ms : List Int} {i : Nat} {a b : Int} (ha : ns[i]? = some a) (hb : ms[i]? = some b) : lexB op (ns.drop i) (ms.drop i) = if a == b then lexB op (ns.drop (i + 1)) (ms.drop (i + 1)) else intB op a b := by
  obtain ⟨h1, e1⟩ := List.getElem?_eq_some_iff.mp ha
  obtain ⟨h2, e2⟩ := List.getElem?_eq_some_iff.mp hb
  rw [List.drop_eq_getElem_cons h1, List.drop_eq_getElem_cons h2, e1, e2]
  rfl
theorem ints_get {vs : List Value} {ns : List Int} (h : IntsAre vs ns) {i : Nat} (hi : i < ns.length) : ∃ t, vs.toArray[((i : Nat) : Int).toNat]? = some (.int ns[i] t) := by
  obtain ⟨t, e⟩ := h.get i ns[i] (by simp [hi])
  exact ⟨t, by simpa using e⟩
theorem ints_none {vs : List Value} {ns : List Int} (h : IntsAre vs ns) {i : Nat} (hi : ns.length ≤ i) : vs.toArray[((i : Nat) : Int).toNat]? = none := by
  have := h.length
  simp; omega

open Builtin in
theorem lt_loop (l b : Addr) {xs ys : List Value} {ns ms : List Int} (hx : IntsAre xs ns) (hy : IntsAre ys ms) (n n2 : Nat) (dd dd2 : Option Addr) (sl sl2 : Array (Option Value)) (k : Nat) :
    ∀ i : Nat, ns.length - i = k → i ≤ ns.length → i ≤ ms.length → Meets (Builtin.«list.__eq__.loop» ⟨[.ref l, .ref b, rawInt i, rawInt 0], []⟩)
      (fun A R s => s.heap.get? l = some { cls := .type "list", dict := dd, data := .seq xs.toArray n, slots := sl } ∧ s.heap.get? b = some { cls := .type "list", dict := dd2, data := .seq ys.toArray n2, slots := sl2 } ∧
        R (.ok (.ret (.bool (lexB .Lt (ns.drop i) (ms.drop i))))) s) := by
  have e1 : xs.toArray.size = ns.length := by simp [hx.length]
  have e2 : ys.toArray.size = ms.length := by simp [hy.length]
  induction k with
  | zero =>
    intro i hk hi hj prog w A R s h
    obtain ⟨hp, g, d, tk, os⟩ := s; obtain ⟨hl, hb, h⟩ := h
    wp_walk using wpAny_loadPart' hl, wpAny_loadPart' hb
    rw [ints_none hx (by omega)]
    wp_walk using wpAny_loadPart' hl, wpAny_loadPart' hb
    rw [lexB_end (.inl (by simp; omega)), List.length_drop, List.length_drop, szB_sub hi hj, ← e1, ← e2] at h
    exact h
  | succ k ih =>
    intro i hk hi hj prog w A R s h
    obtain ⟨hp, g, d, tk, os⟩ := s; obtain ⟨hl, hb, h⟩ := h
    wp_walk using wpAny_loadPart' hl, wpAny_loadPart' hb
    have hi' : i < ns.length := by omega
    obtain ⟨t, ex⟩ := ints_get hx hi'
    by_cases hj' : i < ms.length
    · obtain ⟨u, ey⟩ := ints_get hy hj'
      rw [ex, ey]
      rw [lexB_cons (a := ns[i]) (b := ms[i]) (by simp) (by simp)] at h
      refine wpAny_bind (wpAny_eqBool_int ?_)
      have hc : ((i : Int) + 1) = ((i + 1 : Nat) : Int) := by push_cast; rfl
      cases hb' : ns[i] == ms[i] with
      | true =>
        rw [hb'] at h
        wp_walk
        rw [hc]
        exact ⟨plainId_quiet PySem.MeetsSeq3.plain_eq_loop _, codeAny_builtin PySem.MeetsSeq3.entry_eq_loop (by
          rw [Around.under_plainId PySem.MeetsSeq3.plain_eq_loop _]
          exact ih (i + 1) (by omega) (by omega) (by omega) prog w A R _ ⟨hl, hb, h⟩)⟩
      | false =>
        rw [hb'] at h
        wp_walk using wpAny_loadPart' hl, wpAny_loadPart' hb
        rw [ex, ey]
        refine wpAny_bind (PySem.P.lt_int ?_)
        exact wpAny_pure h
    · rw [ex, ints_none hy (by omega)]
      wp_walk using wpAny_loadPart' hl, wpAny_loadPart' hb
      rw [lexB_end (.inr (by simp; omega)), List.length_drop, List.length_drop, szB_sub hi hj, ← e1, ← e2] at h
      exact h

theorem lt_meets (l b : Addr) {xs ys : List Value} {ns ms : List Int} (hx : IntsAre xs ns) (hy : IntsAre ys ms) (n n2 : Nat) (dd dd2 : Option Addr) (sl sl2 : Array (Option Value)) :
    Meets (Builtin.«list.__lt__» ⟨[.ref l, .ref b], []⟩)
      (fun A R s => s.heap.get? l = some { cls := .type "list", dict := dd, data := .seq xs.toArray n, slots := sl } ∧ s.heap.get? b = some { cls := .type "list", dict := dd2, data := .seq ys.toArray n2, slots := sl2 } ∧
        R (.ok (.ret (.bool (lexB .Lt ns ms)))) s) := by
  intro prog w A R s h
  obtain ⟨hp, g, d, tk, os⟩ := s; obtain ⟨hl, hb, h⟩ := h
  have f3 := AutoSeq1.sub_list_list
  wp_walk using wpAny_loadPart' hl, wpAny_loadPart' hb
  exact ⟨plainId_quiet PySem.MeetsSeq3.plain_eq_loop _, codeAny_builtin PySem.MeetsSeq3.entry_eq_loop (by
    rw [Around.under_plainId PySem.MeetsSeq3.plain_eq_loop _]
    exact lt_loop l b hx hy n n2 dd dd2 sl sl2 _ 0 rfl (Nat.zero_le _) (Nat.zero_le _) prog w A R _ ⟨hl, hb, by simpa using h⟩)⟩
theorem ev_lt_ints {prog : Program} {w : World} {A : Around} {V : View} {R : Heap} {l b : Addr} {xs ys : List Value} {ns ms : List Int} (hl : R.IsList l xs.toArray) (hb : R.IsList b ys.toArray) (hx : IntsAre xs ns) (hy : IntsAre ys ms)
    (hu : A.units < cLine) : Ev prog w A V R (compareOp .Lt (.ref l) (.ref b)) (Is (.bool (lexB .Lt ns ms))) := Ev.of_look fun Q E s hs h => by
  obtain ⟨⟨cls, dd, data, sl⟩, ho, hc, n, hd⟩ := isList_sub hl hs
  obtain ⟨⟨cls2, dd2, data2, sl2⟩, ho2, hc2, n2, hd2⟩ := isList_sub hb hs
  simp only at hc hd hc2 hd2
  subst hc hd hc2 hd2
  exact richCompare_meets_room (op := .Lt) ⟨_, ho, rfl⟩ ⟨_, ho2, rfl⟩ PySem.F.slot_list_lt PySem.F.entry_list_lt (PySem.F.args_list_lt_2 _ _) (lt_meets l b hx hy n n2 dd dd2 sl sl2)
    ⟨ho, ho2, show Value.bool (lexB .Lt ns ms) ≠ Value.notImplemented ∧ Q (.bool (lexB .Lt ns ms)) s from ⟨(fun x => nomatch x), h⟩⟩ hu

open Builtin in
theorem le_loop (l b : Addr) {xs ys : List Value} {ns ms : List Int} (hx : IntsAre xs ns) (hy : IntsAre ys ms) (n n2 : Nat) (dd dd2 : Option Addr) (sl sl2 : Array (Option Value)) (k : Nat) :
    ∀ i : Nat, ns.length - i = k → i ≤ ns.length → i ≤ ms.length → Meets (Builtin.«list.__eq__.loop» ⟨[.ref l, .ref b, rawInt i, rawInt 1], []⟩)
      (fun A R s => s.heap.get? l = some { cls := .type "list", dict := dd, data := .seq xs.toArray n, slots := sl } ∧ s.heap.get? b = some { cls := .type "list", dict := dd2, data := .seq ys.toArray n2, slots := sl2 } ∧
        R (.ok (.ret (.bool (lexB .LtE (ns.drop i) (ms.drop i))))) s) := by
  have e1 : xs.toArray.size = ns.length := by simp [hx.length]
  have e2 : ys.toArray.size = ms.length := by simp [hy.length]
  induction k with
  | zero =>
    intro i hk hi hj prog w A R s h
    obtain ⟨hp, g, d, tk, os⟩ := s; obtain ⟨hl, hb, h⟩ := h
    wp_walk using wpAny_loadPart' hl, wpAny_loadPart' hb
    rw [ints_none hx (by omega)]
    wp_walk using wpAny_loadPart' hl, wpAny_loadPart' hb
    rw [lexB_end (.inl (by simp; omega)), List.length_drop, List.length_drop, szB_sub hi hj, ← e1, ← e2] at h
    exact h
  | succ k ih =>
    intro i hk hi hj prog w A R s h
    obtain ⟨hp, g, d, tk, os⟩ := s; obtain ⟨hl, hb, h⟩ := h
    wp_walk using wpAny_loadPart' hl, wpAny_loadPart' hb
    have hi' : i < ns.length := by omega
    obtain ⟨t, ex⟩ := ints_get hx hi'
    by_cases hj' : i < ms.length
    · obtain ⟨u, ey⟩ := ints_get hy hj'
      rw [ex, ey]
      rw [lexB_cons (a := ns[i]) (b := ms[i]) (by simp) (by simp)] at h
      refine wpAny_bind (wpAny_eqBool_int ?_)
      have hc : ((i : Int) + 1) = ((i + 1 : Nat) : Int) := by push_cast; rfl
      cases hb' : ns[i] == ms[i] with
      | true =>
        rw [hb'] at h
        wp_walk
        rw [hc]
        exact ⟨plainId_quiet PySem.MeetsSeq3.plain_eq_loop _, codeAny_builtin PySem.MeetsSeq3.entry_eq_loop (by
          rw [Around.under_plainId PySem.MeetsSeq3.plain_eq_loop _]
          exact ih (i + 1) (by omega) (by omega) (by omega) prog w A R _ ⟨hl, hb, h⟩)⟩
      | false =>
        rw [hb'] at h
        wp_walk using wpAny_loadPart' hl, wpAny_loadPart' hb
        rw [ex, ey]
        refine wpAny_bind (PySem.P.le_int ?_)
        exact wpAny_pure h
    · rw [ex, ints_none hy (by omega)]
      wp_walk using wpAny_loadPart' hl, wpAny_loadPart' hb
      rw [lexB_end (.inr (by simp; omega)), List.length_drop, List.length_drop, szB_sub hi hj, ← e1, ← e2] at h
      exact h

theorem le_meets (l b : Addr) {xs ys : List Value} {ns ms : List Int} (hx : IntsAre xs ns) (hy : IntsAre ys ms) (n n2 : Nat) (dd dd2 : Option Addr) (sl sl2 : Array (Option Value)) :
    Meets (Builtin.«list.__le__» ⟨[.ref l, .ref b], []⟩)
      (fun A R s => s.heap.get? l = some { cls := .type "list", dict := dd, data := .seq xs.toArray n, slots := sl } ∧ s.heap.get? b = some { cls := .type "list", dict := dd2, data := .seq ys.toArray n2, slots := sl2 } ∧
        R (.ok (.ret (.bool (lexB .LtE ns ms)))) s) := by
  intro prog w A R s h
  obtain ⟨hp, g, d, tk, os⟩ := s; obtain ⟨hl, hb, h⟩ := h
  have f3 := AutoSeq1.sub_list_list
  wp_walk using wpAny_loadPart' hl, wpAny_loadPart' hb
  exact ⟨plainId_quiet PySem.MeetsSeq3.plain_eq_loop _, codeAny_builtin PySem.MeetsSeq3.entry_eq_loop (by
    rw [Around.under_plainId PySem.MeetsSeq3.plain_eq_loop _]
    exact le_loop l b hx hy n n2 dd dd2 sl sl2 _ 0 rfl (Nat.zero_le _) (Nat.zero_le _) prog w A R _ ⟨hl, hb, by simpa using h⟩)⟩
theorem ev_le_ints {prog : Program} {w : World} {A : Around} {V : View} {R : Heap} {l b : Addr} {xs ys : List Value} {ns ms : List Int} (hl : R.IsList l xs.toArray) (hb : R.IsList b ys.toArray) (hx : IntsAre xs ns) (hy : IntsAre ys ms)
    (hu : A.units < cLine) : Ev prog w A V R (compareOp .LtE (.ref l) (.ref b)) (Is (.bool (lexB .LtE ns ms))) := Ev.of_look fun Q E s hs h => by
  obtain ⟨⟨cls, dd, data, sl⟩, ho, hc, n, hd⟩ := isList_sub hl hs
  obtain ⟨⟨cls2, dd2, data2, sl2⟩, ho2, hc2, n2, hd2⟩ := isList_sub hb hs
  simp only at hc hd hc2 hd2
  subst hc hd hc2 hd2
  exact richCompare_meets_room (op := .LtE) ⟨_, ho, rfl⟩ ⟨_, ho2, rfl⟩ PySem.F.slot_list_le PySem.F.entry_list_le (PySem.F.args_list_le_2 _ _) (le_meets l b hx hy n n2 dd dd2 sl sl2)
    ⟨ho, ho2, show Value.bool (lexB .LtE ns ms) ≠ Value.notImplemented ∧ Q (.bool (lexB .LtE ns ms)) s from ⟨(fun x => nomatch x), h⟩⟩ hu

open Builtin in
theorem gt_loop (l b : Addr) {xs ys : List Value} {ns ms : List Int} (hx : IntsAre xs ns) (hy : IntsAre ys ms) (n n2 : Nat) (dd dd2 : Option Addr) (sl sl2 : Array (Option Value)) (k : Nat) :
    ∀ i : Nat, ns.length - i = k → i ≤ ns.length → i ≤ ms.length → Meets (Builtin.«list.__eq__.loop» ⟨[.ref l, .ref b, rawInt i, rawInt 4], []⟩)
      (fun A R s => s.heap.get? l = some { cls := .type "list", dict := dd, data := .seq xs.toArray n, slots := sl } ∧ s.heap.get? b = some { cls := .type "list", dict := dd2, data := .seq ys.toArray n2, slots := sl2 } ∧
        R (.ok (.ret (.bool (lexB .Gt (ns.drop i) (ms.drop i))))) s) := by
  have e1 : xs.toArray.size = ns.length := by simp [hx.length]
  have e2 : ys.toArray.size = ms.length := by simp [hy.length]
  induction k with
  | zero =>
    intro i hk hi hj prog w A R s h
    obtain ⟨hp, g, d, tk, os⟩ := s; obtain ⟨hl, hb, h⟩ := h
    wp_walk using wpAny_loadPart' hl, wpAny_loadPart' hb
    rw [ints_none hx (by omega)]
    wp_walk using wpAny_loadPart' hl, wpAny_loadPart' hb
    rw [lexB_end (.inl (by simp; omega)), List.length_drop, List.length_drop, szB_sub hi hj, ← e1, ← e2] at h
    exact h
  | succ k ih =>
    intro i hk hi hj prog w A R s h
    obtain ⟨hp, g, d, tk, os⟩ := s; obtain ⟨hl, hb, h⟩ := h
    wp_walk using wpAny_loadPart' hl, wpAny_loadPart' hb
    have hi' : i < ns.length := by omega
    obtain ⟨t, ex⟩ := ints_get hx hi'
    by_cases hj' : i < ms.length
    · obtain ⟨u, ey⟩ := ints_get hy hj'
      rw [ex, ey]
      rw [lexB_cons (a := ns[i]) (b := ms[i]) (by simp) (by simp)] at h
      refine wpAny_bind (wpAny_eqBool_int ?_)
      have hc : ((i : Int) + 1) = ((i + 1 : Nat) : Int) := by push_cast; rfl
      cases hb' : ns[i] == ms[i] with
      | true =>
        rw [hb'] at h
        wp_walk
        rw [hc]
        exact ⟨plainId_quiet PySem.MeetsSeq3.plain_eq_loop _, codeAny_builtin PySem.MeetsSeq3.entry_eq_loop (by
          rw [Around.under_plainId PySem.MeetsSeq3.plain_eq_loop _]
          exact ih (i + 1) (by omega) (by omega) (by omega) prog w A R _ ⟨hl, hb, h⟩)⟩
      | false =>
        rw [hb'] at h
        wp_walk using wpAny_loadPart' hl, wpAny_loadPart' hb
        rw [ex, ey]
        refine wpAny_bind (PySem.P.gt_int ?_)
        exact wpAny_pure h
    · rw [ex, ints_none hy (by omega)]
      wp_walk using wpAny_loadPart' hl, wpAny_loadPart' hb
      rw [lexB_end (.inr (by simp; omega)), List.length_drop, List.length_drop, szB_sub hi hj, ← e1, ← e2] at h
      exact h

theorem gt_meets (l b : Addr) {xs ys : List Value} {ns ms : List Int} (hx : IntsAre xs ns) (hy : IntsAre ys ms) (n n2 : Nat) (dd dd2 : Option Addr) (sl sl2 : Array (Option Value)) :
    Meets (Builtin.«list.__gt__» ⟨[.ref l, .ref b], []⟩)
      (fun A R s => s.heap.get? l = some { cls := .type "list", dict := dd, data := .seq xs.toArray n, slots := sl } ∧ s.heap.get? b = some { cls := .type "list", dict := dd2, data := .seq ys.toArray n2, slots := sl2 } ∧
        R (.ok (.ret (.bool (lexB .Gt ns ms)))) s) := by
  intro prog w A R s h
  obtain ⟨hp, g, d, tk, os⟩ := s; obtain ⟨hl, hb, h⟩ := h
  have f3 := AutoSeq1.sub_list_list
  wp_walk using wpAny_loadPart' hl, wpAny_loadPart' hb
  exact ⟨plainId_quiet PySem.MeetsSeq3.plain_eq_loop _, codeAny_builtin PySem.MeetsSeq3.entry_eq_loop (by
    rw [Around.under_plainId PySem.MeetsSeq3.plain_eq_loop _]
    exact gt_loop l b hx hy n n2 dd dd2 sl sl2 _ 0 rfl (Nat.zero_le _) (Nat.zero_le _) prog w A R _ ⟨hl, hb, by simpa using h⟩)⟩
theorem ev_gt_ints {prog : Program} {w : World} {A : Around} {V : View} {R : Heap} {l b : Addr} {xs ys : List Value} {ns ms : List Int} (hl : R.IsList l xs.toArray) (hb : R.IsList b ys.toArray) (hx : IntsAre xs ns) (hy : IntsAre ys ms)
    (hu : A.units < cLine) : Ev prog w A V R (compareOp .Gt (.ref l) (.ref b)) (Is (.bool (lexB .Gt ns ms))) := Ev.of_look fun Q E s hs h => by
  obtain ⟨⟨cls, dd, data, sl⟩, ho, hc, n, hd⟩ := isList_sub hl hs
  obtain ⟨⟨cls2, dd2, data2, sl2⟩, ho2, hc2, n2, hd2⟩ := isList_sub hb hs
  simp only at hc hd hc2 hd2
  subst hc hd hc2 hd2
  exact richCompare_meets_room (op := .Gt) ⟨_, ho, rfl⟩ ⟨_, ho2, rfl⟩ PySem.F.slot_list_gt PySem.F.entry_list_gt (PySem.F.args_list_gt_2 _ _) (gt_meets l b hx hy n n2 dd dd2 sl sl2)
    ⟨ho, ho2, show Value.bool (lexB .Gt ns ms) ≠ Value.notImplemented ∧ Q (.bool (lexB .Gt ns ms)) s from ⟨(fun x => nomatch x), h⟩⟩ hu

open Builtin in
theorem ge_loop (l b : Addr) {xs ys : List Value} {ns ms : List Int} (hx : IntsAre xs ns) (hy : IntsAre ys ms) (n n2 : Nat) (dd dd2 : Option Addr) (sl sl2 : Array (Option Value)) (k : Nat) :
    ∀ i : Nat, ns.length - i = k → i ≤ ns.length → i ≤ ms.length → Meets (Builtin.«list.__eq__.loop» ⟨[.ref l, .ref b, rawInt i, rawInt 5], []⟩)
      (fun A R s => s.heap.get? l = some { cls := .type "list", dict := dd, data := .seq xs.toArray n, slots := sl } ∧ s.heap.get? b = some { cls := .type "list", dict := dd2, data := .seq ys.toArray n2, slots := sl2 } ∧
        R (.ok (.ret (.bool (lexB .GtE (ns.drop i) (ms.drop i))))) s) := by
  have e1 : xs.toArray.size = ns.length := by simp [hx.length]
  have e2 : ys.toArray.size = ms.length := by simp [hy.length]
  induction k with
  | zero =>
    intro i hk hi hj prog w A R s h
    obtain ⟨hp, g, d, tk, os⟩ := s; obtain ⟨hl, hb, h⟩ := h
    wp_walk using wpAny_loadPart' hl, wpAny_loadPart' hb
    rw [ints_none hx (by omega)]
    wp_walk using wpAny_loadPart' hl, wpAny_loadPart' hb
    rw [lexB_end (.inl (by simp; omega)), List.length_drop, List.length_drop, szB_sub hi hj, ← e1, ← e2] at h
    exact h
  | succ k ih =>
    intro i hk hi hj prog w A R s h
    obtain ⟨hp, g, d, tk, os⟩ := s; obtain ⟨hl, hb, h⟩ := h
    wp_walk using wpAny_loadPart' hl, wpAny_loadPart' hb
    have hi' : i < ns.length := by omega
    obtain ⟨t, ex⟩ := ints_get hx hi'
    by_cases hj' : i < ms.length
    · obtain ⟨u, ey⟩ := ints_get hy hj'
      rw [ex, ey]
      rw [lexB_cons (a := ns[i]) (b := ms[i]) (by simp) (by simp)] at h
      refine wpAny_bind (wpAny_eqBool_int ?_)
      have hc : ((i : Int) + 1) = ((i + 1 : Nat) : Int) := by push_cast; rfl
      cases hb' : ns[i] == ms[i] with
      | true =>
        rw [hb'] at h
        wp_walk
        rw [hc]
        exact ⟨plainId_quiet PySem.MeetsSeq3.plain_eq_loop _, codeAny_builtin PySem.MeetsSeq3.entry_eq_loop (by
          rw [Around.under_plainId PySem.MeetsSeq3.plain_eq_loop _]
          exact ih (i + 1) (by omega) (by omega) (by omega) prog w A R _ ⟨hl, hb, h⟩)⟩
      | false =>
        rw [hb'] at h
        wp_walk using wpAny_loadPart' hl, wpAny_loadPart' hb
        rw [ex, ey]
        refine wpAny_bind (PySem.P.ge_int ?_)
        exact wpAny_pure h
    · rw [ex, ints_none hy (by omega)]
      wp_walk using wpAny_loadPart' hl, wpAny_loadPart' hb
      rw [lexB_end (.inr (by simp; omega)), List.length_drop, List.length_drop, szB_sub hi hj, ← e1, ← e2] at h
      exact h

theorem ge_meets (l b : Addr) {xs ys : List Value} {ns ms : List Int} (hx : IntsAre xs ns) (hy : IntsAre ys ms) (n n2 : Nat) (dd dd2 : Option Addr) (sl sl2 : Array (Option Value)) :
    Meets (Builtin.«list.__ge__» ⟨[.ref l, .ref b], []⟩)
      (fun A R s => s.heap.get? l = some { cls := .type "list", dict := dd, data := .seq xs.toArray n, slots := sl } ∧ s.heap.get? b = some { cls := .type "list", dict := dd2, data := .seq ys.toArray n2, slots := sl2 } ∧
        R (.ok (.ret (.bool (lexB .GtE ns ms)))) s) := by
  intro prog w A R s h
  obtain ⟨hp, g, d, tk, os⟩ := s; obtain ⟨hl, hb, h⟩ := h
  have f3 := AutoSeq1.sub_list_list
  wp_walk using wpAny_loadPart' hl, wpAny_loadPart' hb
  exact ⟨plainId_quiet PySem.MeetsSeq3.plain_eq_loop _, codeAny_builtin PySem.MeetsSeq3.entry_eq_loop (by
    rw [Around.under_plainId PySem.MeetsSeq3.plain_eq_loop _]
    exact ge_loop l b hx hy n n2 dd dd2 sl sl2 _ 0 rfl (Nat.zero_le _) (Nat.zero_le _) prog w A R _ ⟨hl, hb, by simpa using h⟩)⟩
theorem ev_ge_ints {prog : Program} {w : World} {A : Around} {V : View} {R : Heap} {l b : Addr} {xs ys : List Value} {ns ms : List Int} (hl : R.IsList l xs.toArray) (hb : R.IsList b ys.toArray) (hx : IntsAre xs ns) (hy : IntsAre ys ms)
    (hu : A.units < cLine) : Ev prog w A V R (compareOp .GtE (.ref l) (.ref b)) (Is (.bool (lexB .GtE ns ms))) := Ev.of_look fun Q E s hs h => by
  obtain ⟨⟨cls, dd, data, sl⟩, ho, hc, n, hd⟩ := isList_sub hl hs
  obtain ⟨⟨cls2, dd2, data2, sl2⟩, ho2, hc2, n2, hd2⟩ := isList_sub hb hs
  simp only at hc hd hc2 hd2
  subst hc hd hc2 hd2
  exact richCompare_meets_room (op := .GtE) ⟨_, ho, rfl⟩ ⟨_, ho2, rfl⟩ PySem.F.slot_list_ge PySem.F.entry_list_ge (PySem.F.args_list_ge_2 _ _) (ge_meets l b hx hy n n2 dd dd2 sl sl2)
    ⟨ho, ho2, show Value.bool (lexB .GtE ns ms) ≠ Value.notImplemented ∧ Q (.bool (lexB .GtE ns ms)) s from ⟨(fun x => nomatch x), h⟩⟩ hu

end Mine

/-! P7 -/
namespace Mine

section
variable {prog : Program} {w : World} {A : Around} {V : View} {R : Heap} {env : Env} {P P1 P2 : Value → Heap → Prop}

/-! ### items -/
theorem ev_item {value slice : Expr} {l : Addr} {xs : List Value} {k : Int} {t : Tok} {v : Value} (hl : R.IsList l xs.toArray) (h0 : 0 ≤ k) (hx : xs[k.toNat]? = some v) (hz : xs.length < 2 ^ 62)
    (hs : subscripted slice false (.ref l) (.int k t) = operate [.ref l, .int k t] (getItem (.ref l) (.int k t)) := by rfl) :
    Ev prog w A V R (subscriptTail value slice (.ref l) (.int k t)) (Is v) := Ev.of_look fun Q E s hs' h => by
  have hl' := isList_sub hl hs'
  have hk : k < 2 ^ 63 := by
    have := (List.getElem?_eq_some_iff.mp hx).1
    omega
  exact subscriptTail_builtinR hl'.typeIs slot_list_getitem.lookup (wpAny_getItem_list hl' h0 hk (by simpa using hx) ⟨rfl, h⟩) hs
theorem ev_last {value slice : Expr} {l : Addr} {xs : List Value} {t : Tok} {v : Value} (hl : R.IsList l xs.toArray) (hx : xs.getLast? = some v) (hz : xs.length < 2 ^ 62)
    (hs : subscripted slice false (.ref l) (.int (-1) t) = operate [.ref l, .int (-1) t] (getItem (.ref l) (.int (-1) t)) := by rfl) :
    Ev prog w A V R (subscriptTail value slice (.ref l) (.int (-1) t)) (Is v) := Ev.of_look fun Q E s hs' h => by
  have hl' := isList_sub hl hs'
  have hne : xs ≠ [] := by rintro rfl; cases hx
  have hp : 0 < xs.length := List.length_pos_iff.mpr hne
  refine subscriptTail_builtinR hl'.typeIs slot_list_getitem.lookup (wpAny_getItem_list_neg hl' (by decide) (by simp; omega) (by decide) (x := v) ?_ ⟨rfl, h⟩) hs
  rw [List.getLast?_eq_getElem?] at hx
  have e : (-1 + (xs.toArray.size : Int)).toNat = xs.length - 1 := by simp; omega
  rw [e]
  simpa using hx

/-! ### numbers -/
theorem ev_mod {a b : Int} {t u : Tok} (hb : b ≠ 0) : Ev prog w A V R (binaryOp .Mod (.int a t) (.int b u)) (IsI (a.fmod b)) := fun Q E s hs _ ht hQ => mod_int hb (hQ _ _ keeps_tok (Nat.succ_pos _) (upI ht))
theorem ev_div {a b : Int} {t u : Tok} (hb : b ≠ 0) (hs : b.natAbs < 1073741824) : Ev prog w A V R (binaryOp .FloorDiv (.int a t) (.int b u)) (IsI (a.fdiv b)) := fun Q E s _ _ ht hQ =>
  floordiv_int hb (hQ _ _ keeps_tok (Nat.succ_pos _) (upI ht)) (.inl (PyProof.noPylong_small hs))
theorem ev_add {a b : Int} {t u : Tok} : Ev prog w A V R (binaryOp .Add (.int a t) (.int b u)) (IsI (a + b)) := fun Q E s _ _ ht hQ => PySem.P.add_int (hQ _ _ keeps_tok (Nat.succ_pos _) (upI ht))
theorem ev_eqI {a b : Int} {t u : Tok} : Ev prog w A V R (compareOp .Eq (.int a t) (.int b u)) (Is (.bool (a == b))) := Ev.of_look fun _ _ _ _ h => PySem.P.eq_int h
theorem ev_ltI {a b : Int} {t u : Tok} : Ev prog w A V R (compareOp .Lt (.int a t) (.int b u)) (Is (.bool (decide (a < b)))) := Ev.of_look fun _ _ _ _ h => PySem.P.lt_int h

/-! ### texts -/
theorem ev_chr {i : Int} {t : Tok} (h0 : 0 ≤ i) (h1 : i ≤ 1114111) : Ev prog w A V R (call (.builtin "chr") [.int i t]) (IsS ⟨#[i.toNat]⟩) := fun Q E s _ _ ht hQ => chr_of_range h0 h1 (hQ _ _ keeps_tok (Nat.succ_pos _) (upS ht))
theorem ev_ord {c : Nat} {t : Tok} : Ev prog w A V R (call (.builtin "ord") [.str ⟨#[c]⟩ t]) (IsI c) := fun Q E s _ _ ht hQ => PySem.P.ord_of_char (hQ _ _ keeps_tok (Nat.succ_pos _) (upI ht))
theorem nil_app {x y : PySem.Str} (h : x.length = 0) : x ++ y = y := by
  have h0 : x.cps = #[] := Array.eq_empty_of_size_eq_zero (by simpa [PySem.Str.length] using h)
  show PySem.Str.append x y = y
  cases y; simp [PySem.Str.append, h0]
theorem app_nil' {x y : PySem.Str} (h : y.length = 0) : x ++ y = x := by
  have h0 : y.cps = #[] := Array.eq_empty_of_size_eq_zero (by simpa [PySem.Str.length] using h)
  show PySem.Str.append x y = x
  cases x; simp [PySem.Str.append, h0]
theorem ev_addS {x y : PySem.Str} {t u : Tok} (hx : x.length + y.length ≤ 3000) (htx : 0 < t) (hty : 0 < u) : Ev prog w A V R (binaryOp .Add (.str x t) (.str y u)) (IsS (x ++ y)) := fun Q E s _ _ ht hQ => by
  refine PySem.P.add_str ?_
  by_cases h1 : x.length = 0
  · rw [if_pos (by simpa using h1)]
    refine hQ _ _ (keeps_refl s) ht ?_
    rw [nil_app h1]; exact upS hty
  · rw [if_neg (by simpa using h1)]
    by_cases h2 : y.length = 0
    · rw [if_pos (by simpa using h2)]
      refine hQ _ _ (keeps_refl s) ht ?_
      rw [app_nil' h2]; exact upS htx
    · rw [if_neg (by simpa using h2)]
      refine ⟨?_, hQ _ _ keeps_tok (Nat.succ_pos _) (upS ht)⟩
      rw [show (x ++ y).length = x.length + y.length from Str.length_append .., sizeLine_eq]; omega
theorem ev_neS {x y : PySem.Str} {t u : Tok} : Ev prog w A V R (compareOp .NotEq (.str x t) (.str y u)) (Is (.bool (x.cps.toList != y.cps.toList))) := Ev.of_look fun _ _ _ _ h => PySem.P.ne_str h

/-! ### lists of numbers -/
theorem ints_of_paired {f : Nat → Int} {h : Heap} : ∀ {l : List Nat} {ys : List Value}, Paired (fun i y => IsI (f i) y h) l ys → IntsAre ys (l.map f)
  | _, _, .nil => .nil
  | _, _, .cons a b => by obtain ⟨t, rfl, _⟩ := a; exact .cons _ t (ints_of_paired b)
theorem ev_eqL {a b : Addr} {xs ys : List Value} {ns ms : List Int} (ha : R.IsList a xs.toArray) (hb : R.IsList b ys.toArray) (hi : IntsAre xs ns) (hj : IntsAre ys ms) (hu : A.units + 64 < cLine) :
    Ev prog w A V R (compareOp .Eq (.ref a) (.ref b)) (Is (.bool (decide (ns = ms)))) := Ev.of_look fun _ _ _ hs h => ke_eq_ints (isList_sub ha hs) (isList_sub hb hs) hi hj hu h
theorem ev_neL {a b : Addr} {xs ys : List Value} {ns ms : List Int} (ha : R.IsList a xs.toArray) (hb : R.IsList b ys.toArray) (hi : IntsAre xs ns) (hj : IntsAre ys ms) (hu : A.units + 64 < cLine) :
    Ev prog w A V R (compareOp .NotEq (.ref a) (.ref b)) (Is (.bool (!decide (ns = ms)))) := Ev.of_look fun _ _ _ hs h => ke_ne_ints (isList_sub ha hs) (isList_sub hb hs) hi hj hu h
/-- a list of whatever against the empty list -/
theorem ev_ne_nil {a b : Addr} {xs : List Value} (ha : R.IsList a xs.toArray) (hb : R.IsList b ([] : List Value).toArray) (hu : A.units < cLine) :
    Ev prog w A V R (compareOp .NotEq (.ref a) (.ref b)) (Is (.bool (!xs.isEmpty))) := Ev.of_look fun Q E s hs h => by
  obtain ⟨⟨cls, dd, data, sl⟩, ho, hc, n, hd⟩ := isList_sub ha hs
  obtain ⟨⟨cls2, dd2, data2, sl2⟩, ho2, hc2, n2, hd2⟩ := isList_sub hb hs
  simp only at hc hd hc2 hd2
  subst hc hd hc2 hd2
  cases xs with
  | nil =>
    exact richCompare_meets_room (op := .NotEq) ⟨_, ho, rfl⟩ ⟨_, ho2, rfl⟩ PySem.F.slot_list_ne PySem.F.entry_list_ne (PySem.F.args_list_ne_2 _ _) (PySem.SeqAt.list_neAt a b _ _ n n2 dd dd2 sl sl2 rfl (fun _ => true))
      ⟨ho, ho2, fun j h1 => by simp at h1, show Value.bool _ ≠ Value.notImplemented ∧ Q (.bool _) s from ⟨(fun x => nomatch x), by simpa using h⟩⟩ hu
  | cons x r =>
    exact richCompare_meets_room (op := .NotEq) ⟨_, ho, rfl⟩ ⟨_, ho2, rfl⟩ PySem.F.slot_list_ne PySem.F.entry_list_ne (PySem.F.args_list_ne_2 _ _) (PySem.SeqAt.list_ne_lengthsAt a b _ _ n n2 dd dd2 sl sl2 (by simp))
      ⟨ho, ho2, show Value.bool true ≠ Value.notImplemented ∧ Q (.bool true) s from ⟨(fun x => nomatch x), by simpa using h⟩⟩ hu

/-- one thing is itself -/
def Selfsame (v : Value) : Prop := (∃ a, v = .ref a) ∨ (∃ x t, v = .str x t ∧ 0 < t) ∨ (∃ n t, v = .int n t ∧ 0 < t) ∨ (∃ b t, v = .bytes b t ∧ 0 < t) ∨ v = .none
theorem ev_is_not {v : Value} (h : Selfsame v) : Ev prog w A V R (compareOp .IsNot v v) (Is (.bool false)) := Ev.of_look fun Q E s _ hq => by
  have key : ∀ t : Tok, 0 < t → ∀ (b : Bool), isSame.created b t t = pure true := by
    intro t ht b
    have h0 : (t == 0) = false := by simpa using Nat.ne_of_gt ht
    unfold isSame.created
    simp [h0]
  have fin : ∀ {v : Value}, wpAny (model prog w) A (isSame v v) (fun b s' => b = true ∧ s' = s) E s → Q (.bool false) s → wpAny (model prog w) A (compareOp .IsNot v v) Q E s := by
    intro v e hq
    show wpAny _ _ (isSame v v >>= fun b => pure (Value.bool (!b))) _ _ _
    refine wpAny_bind (wpAny_mono e (fun b s' z => ?_) fun _ _ e => e)
    obtain ⟨rfl, rfl⟩ := z
    exact wpAny_pure hq
  rcases h with ⟨a, rfl⟩ | ⟨x, t, rfl, ht⟩ | ⟨n, t, rfl, ht⟩ | ⟨b, t, rfl, ht⟩ | rfl
  · exact wpAny_isNot_ref_self hq
  · refine fin ?_ hq
    show wpAny _ _ (isSame.created (x == x) t t) _ _ _
    rw [key t ht]; exact wpAny_pure ⟨rfl, rfl⟩
  · refine fin ?_ hq
    show wpAny _ _ (if (n == n && smallInt n) = true then isSame.cachedInt t t else isSame.created (n == n) t t) _ _ _
    split
    · have h0 : (t == 0) = false := by simpa using Nat.ne_of_gt ht
      unfold isSame.cachedInt
      simp only [h0, Bool.or_self, Bool.false_eq_true, if_false]
      exact wpAny_bind (wpAny_rule (wpAny_pure ⟨rfl, rfl⟩))
    · rw [key t ht]; exact wpAny_pure ⟨rfl, rfl⟩
  · refine fin ?_ hq
    show wpAny _ _ (isSame.created (b == b) t t) _ _ _
    rw [key t ht]; exact wpAny_pure ⟨rfl, rfl⟩
  · exact wpAny_isNot_self rfl hq
end

end Mine

/-! P8 -/
namespace Mine

section
variable {prog : Program} {w : World} {A : Around} {V : View} {R : Heap} {env : Env} {P P1 P2 : Value → Heap → Prop}

/-! ### slices -/
/-- `xs[:k]` -/
theorem ev_upto {value upper : Expr} {p pos : Pos} {xs : List Value} {k : Nat} (x : Ev prog w A V R (eval value env) (IsL xs)) (y : Ev prog w A V R (eval upper env) (fun a _ => ∃ t, a = .int (k : Int) t)) (hz : xs.length ≤ sizeLine)
    (ht : ∀ o r, letTemporaryGo value o r = pure () := by intro _ _; rfl) :
    Ev prog w A V R (eval (.Subscript value (.Slice none (some upper) none p) pos) env) (IsL (xs.take k)) := Ev.mk fun Q E s hs hv htk hQ => by
  refine wpAny_Subscript_list_slice (wpAny_mono (ev2 x y hs hv htk fun a b s2 k2 t2 p1 p2 => ?_) (fun a s1 h => wpAny_evalPart_none (wpAny_evalPart_some h)) fun _ _ e => e) ht
  obtain ⟨l, rfl, hl⟩ := p1 _ fr_sub
  obtain ⟨t, rfl⟩ := p2.here
  refine ⟨l, xs.toArray, none, some (k : Int), rfl, hl, by simpa using hz, .none, .int _ _, ?_⟩
  rw [slicePick_upto']
  have kk : Keeps s2 { s2 with heap := (s2.heap.push { cls := .type "slice", data := .fields #[.none, .int k t, .none] }).push { cls := .type "list", data := .seq (xs.toArray.toList.take k).toArray } } := keeps_mk (tk := s2.toks) (((Sub.refl _).push _).push _)
  refine hQ _ _ (keeps_trans k2 kk) fun g z => ⟨_, rfl, ?_⟩
  have e : xs.toArray.toList.take k = xs.take k := by simp
  rw [e] at z
  obtain ⟨o, ho, r⟩ := isList_push (s2.heap.push { cls := .type "slice", data := .fields #[.none, .int k t, .none] }) (xs.take k)
  rw [Heap.size_push] at ho
  refine ⟨o, z _ _ (fr_get.mpr ⟨ho, .inr ?_⟩), r⟩
  exact none_of_keeps k2 (fresh_none _ (Nat.le_succ _))

/-- `xs[::-1]` -/
theorem ev_rev {value : Expr} {p q1 q2 pos : Pos} {j : Nat} {xs : List Value} (x : Ev prog w A V R (eval value env) (IsL xs)) (hz : xs.length ≤ sizeLine)
    (ht : ∀ o r, letTemporaryGo value o r = pure () := by intro _ _; rfl) :
    Ev prog w A V R (eval (.Subscript value (.Slice none none (some (.UnaryOp .USub (.Constant (.int 1) j q1) q2)) p) pos) env) (IsL xs.reverse) := Ev.mk fun Q E s hs hv htk hQ => by
  refine wpAny_Subscript_Slice_step (T := "list") slot_list_getitem.lookup (x _ _ s hs hv htk fun a s2 k2 t2 p1 => ?_) ht
  refine wpAny_Slice (wpAny_evalPart_none (wpAny_evalPart_none (wpAny_evalPart_some ?_)))
  refine wpAny_UnaryOp (wpAny_Constant_int (PySem.P.neg_int ?_))
  obtain ⟨l, rfl, hl⟩ := p1 _ fr_sub
  have hl' : (s2.heap.push { cls := .type "slice", data := .fields #[.none, .none, .int (-1) (s2.toks + 1)] }).IsList l xs.toArray := hl.push _
  refine ⟨hl'.typeIs, ?_⟩
  refine wpAny_getItem_list_slice hl' (Heap.IsSliceOf.new ..) .none .none (.int _ _) (by decide) ?_ (by simpa using hz)
  rw [krv_pick]
  have e : xs.toArray.toList.reverse = xs.reverse := by simp
  rw [e]
  refine hQ _ _ (keeps_trans k2 (keeps_mk (s := s2) (((Sub.refl _).push _).push _))) fun g z => ⟨_, rfl, ?_⟩
  obtain ⟨o, ho, r⟩ := isList_push (s2.heap.push { cls := .type "slice", data := .fields #[.none, .none, .int (-1) (s2.toks + 1)] }) xs.reverse
  refine ⟨o, z _ _ (fr_get.mpr ⟨ho, .inr ?_⟩), r⟩
  rw [Heap.size_push]
  exact none_of_keeps k2 (fresh_none _ (Nat.le_succ _))

/-! ### keys: lists of lists of numbers -/
def KeyAt (T : List Int) : Value → Heap → Prop := fun v h => ∃ l us, v = .ref l ∧ h.IsList l us.toArray ∧ IntsAre us T
theorem KeyAt.sub {T : List Int} {v : Value} {h h' : Heap} (x : KeyAt T v h) (s : Sub h h') : KeyAt T v h' := let ⟨l, us, a, b, c⟩ := x; ⟨l, us, a, isList_sub b s, c⟩
theorem ints_uniq : ∀ {us : List Value} {ns ms : List Int}, IntsAre us ns → IntsAre us ms → ns = ms
  | _, _, _, .nil, .nil => rfl
  | _, _, _, .cons n t h, .cons _ _ h' => by rw [ints_uniq h h']
theorem KeyAt.uniq {T T' : List Int} {v : Value} {h : Heap} (x : KeyAt T v h) (y : KeyAt T' v h) : T = T' := by
  obtain ⟨l, us, rfl, ⟨o, ho, hc, n, hd⟩, hi⟩ := x
  obtain ⟨l', us', e, ⟨o', ho', hc', n', hd'⟩, hi'⟩ := y
  cases e
  rw [ho] at ho'
  cases ho'
  rw [hd] at hd'
  have : us = us' := by
    have h1 := (Data.seq.inj hd').1
    simpa using congrArg Array.toList h1
  subst this
  exact ints_uniq hi hi'

theorem ev_key_eq {a b : Value} {T T' : List Int} (ha : KeyAt T a R) (hb : KeyAt T' b R) (hu : A.units + 64 < cLine) : Ev prog w A V R (compareOp .Eq a b) (Is (.bool (decide (T = T')))) := by
  obtain ⟨l, us, rfl, hl, hi⟩ := ha
  obtain ⟨l', us', rfl, hl', hi'⟩ := hb
  exact ev_eqL hl hl' hi hi' hu

theorem key_eqAt {s : Shared} {a b : Value} {T T' : List Int} (ha : KeyAt T a s.heap) (hb : KeyAt T' b s.heap) (hu : A.units + 64 < cLine) : PySem.SeqAt.EqAt A s a b (decide (T = T')) := by
  by_cases hab : a = b
  · subst hab
    rw [ha.uniq hb, decide_eq_true rfl]
    exact PySem.SeqAt.EqAt.same _
  · obtain ⟨l, us, rfl, hl, hi⟩ := ha
    obtain ⟨l', us', rfl, hl', hi'⟩ := hb
    exact PySem.SeqAt.EqAt.of_refs (fun e => hab (by rw [e])) fun prog w E Q h => ke_eq_ints hl hl' hi hi' hu h

/-- `key not in [key, ..]` -/
theorem ev_key_notIn {l : Addr} {xs : List Value} {v : Value} {T : List Int} {Ts : List (List Int)} (hl : R.IsList l xs.toArray) (hv : KeyAt T v R) (hk : Paired (fun T v => KeyAt T v R) Ts xs) (hu : A.units + 72 < cLine) :
    Ev prog w A V R (compareOp .NotIn v (.ref l)) (Is (.bool (!decide (T ∈ Ts)))) := Ev.of_look fun Q E s hs hq => by
  classical
  have all : ∀ y ∈ xs, ∃ T', T' ∈ Ts ∧ KeyAt T' y s.heap := by
    intro y hy
    clear hq hl
    induction hk with
    | nil => cases hy
    | cons a b ih =>
      rcases List.mem_cons.mp hy with rfl | hy
      · exact ⟨_, List.mem_cons_self, a.sub hs⟩
      · obtain ⟨T', h1, h2⟩ := ih hy
        exact ⟨T', List.mem_cons_of_mem _ h1, h2⟩
  refine PySem.SeqAt.notIn_listAt (fun y => decide (KeyAt T y s.heap)) (isList_sub hl hs) (fun y hy => ?_) ?_
  · obtain ⟨T', h1, h2⟩ := all y (by simpa using hy)
    have : decide (KeyAt T y s.heap) = decide (T' = T) := by
      refine decide_eq_decide.mpr ⟨fun z => h2.uniq z, fun z => z ▸ h2⟩
    rw [this]
    exact key_eqAt (A := A.in1) h2 (hv.sub hs) (by show A.units + 1 + 64 < cLine; omega)
  · have : (xs.toArray.any fun y => decide (KeyAt T y s.heap)) = decide (T ∈ Ts) := by
      rw [List.any_toArray]
      clear hq hl all
      induction hk with
      | nil => simp
      | cons a b ih =>
        rename_i T1 v1 Ts1 xs1
        rw [List.any_cons, ih, Bool.eq_iff_iff]
        simp only [Bool.or_eq_true, decide_eq_true_eq, List.mem_cons]
        exact ⟨fun z => z.imp (fun z => z.uniq (a.sub hs)) id, fun z => z.imp (fun (z : T = T1) => by rw [z]; exact a.sub hs) id⟩
    rw [this]; exact hq
end

end Mine

/-! S1 -/
namespace Mine

/-! ## the sort's questions, answered by a weak order on the places -/
structure WOrd (lt : Nat → Nat → Bool) : Prop where
  irr : ∀ i, lt i i = false
  tr : ∀ i j k, lt i j = true → lt j k = true → lt i k = true
  neg : ∀ i j k, lt i k = true → lt i j = true ∨ lt j k = true
/-- the order with ties broken by place -/
def lt2 (lt : Nat → Nat → Bool) (i j : Nat) : Prop := lt i j = true ∨ (lt j i = false ∧ i < j)
section
variable {lt : Nat → Nat → Bool}
theorem WOrd.asym (O : WOrd lt) {i j : Nat} (h : lt i j = true) : lt j i = false := by
  cases e : lt j i with
  | false => rfl
  | true => have := O.tr _ _ _ h e; rw [O.irr] at this; cases this
theorem WOrd.ntr (O : WOrd lt) {i j k : Nat} (h : lt i j = false) (h' : lt j k = false) : lt i k = false := by
  cases e : lt i k with
  | false => rfl
  | true => rcases O.neg i j k e with q | q <;> simp_all
theorem WOrd.ltn (O : WOrd lt) {i j k : Nat} (h : lt i j = true) (h' : lt k j = false) : lt i k = true := by
  rcases O.neg i k j h with q | q
  · exact q
  · simp_all
theorem WOrd.nlt (O : WOrd lt) {i j k : Nat} (h : lt j i = false) (h' : lt j k = true) : lt i k = true := by
  rcases O.neg j i k h' with q | q
  · simp_all
  · exact q
theorem lt2.le (O : WOrd lt) {i j : Nat} (h : lt2 lt i j) : lt j i = false := h.elim (fun q => O.asym q) fun q => q.1
theorem lt2.trans (O : WOrd lt) {i j k : Nat} (h : lt2 lt i j) (h' : lt2 lt j k) : lt2 lt i k := by
  rcases h with h | ⟨h, hi⟩
  · exact .inl (O.ltn h (h'.le O))
  · rcases h' with h' | ⟨h', hj⟩
    · exact .inl (O.nlt h h')
    · exact .inr ⟨O.ntr h' h, Nat.lt_trans hi hj⟩
theorem lt2.irr (O : WOrd lt) {i : Nat} (h : lt2 lt i i) : False := by
  rcases h with h | ⟨_, h⟩
  · rw [O.irr] at h; cases h
  · exact Nat.lt_irrefl _ h

def hold (n : Nat) (lt : Nat → Nat → Bool) {α : Type} : KasT α → (α → Prop) → Prop
  | .ret a, Q => Q a
  | .ask i j k, Q => i < n ∧ j < n ∧ hold n lt (k (lt i j)) Q
theorem hold_bind {n : Nat} {α β : Type} {f : α → KasT β} {Q : β → Prop} : ∀ (t : KasT α), hold n lt t (fun a => hold n lt (f a) Q) → hold n lt (t.bind f) Q
  | .ret _, h => h
  | .ask i j k, h => ⟨h.1, h.2.1, hold_bind (k (lt i j)) h.2.2⟩
theorem hold_mono {n : Nat} {α : Type} {P Q : α → Prop} (hq : ∀ a, P a → Q a) : ∀ (t : KasT α), hold n lt t P → hold n lt t Q
  | .ret a, h => hq a h
  | .ask i j k, h => ⟨h.1, h.2.1, hold_mono hq (k (lt i j)) h.2.2⟩

def gp (p : Array Nat) (k : Nat) : Nat := p.getD k 0
theorem gp_of {p q : Array Nat} {k j : Nat} (h : p[k]? = q[j]?) : gp p k = gp q j := by
  show p.getD k 0 = q.getD j 0
  rw [Array.getD_eq_getD_getElem?, Array.getD_eq_getD_getElem?, h]
theorem gp_rev {p : Array Nat} {i j : Nat} (hj : j ≤ p.size) (k : Nat) : gp (kas_rev p i j) k = if i ≤ k ∧ k < j then gp p (i + j - 1 - k) else gp p k := by
  have h := getElem?_mirror_all (i := i) hj k
  split
  · rename_i hc; rw [if_pos hc] at h; exact gp_of h
  · rename_i hc; rw [if_neg hc] at h; exact gp_of h
theorem gp_bub {p : Array Nat} {k l : Nat} (hk : k < p.size) (hl : l ≤ k) (x : Nat) : gp (bubble p k (k - l)) x = if x = l then gp p k else if l < x ∧ x ≤ k then gp p (x - 1) else gp p x := by
  have h := getElem?_bubble hk (k - l) (Nat.sub_le _ _) x
  rw [show k - (k - l) = l from by omega] at h
  repeat' split
  · rename_i hc; rw [if_pos hc] at h; exact gp_of h
  · rename_i h1 h2; rw [if_neg h1, if_pos h2] at h; exact gp_of h
  · rename_i h1 h2; rw [if_neg h1, if_neg h2] at h; exact gp_of h

structure Inv (N : Nat) (p : Array Nat) (n : Nat) : Prop where
  size : p.size = N
  perm : p.toList.Perm (List.range N)
  le : n ≤ N
  tail : ∀ k, n ≤ k → k < N → gp p k = k
  head : ∀ k, k < n → gp p k < n
theorem Inv.bd {N n : Nat} {p : Array Nat} (h : Inv N p n) {k : Nat} (hk : k < N) : gp p k < N := by
  by_cases q : k < n
  · have := h.head k q; have := h.le; omega
  · rw [h.tail k (by omega) hk]; exact hk
theorem Inv.step {N n : Nat} {p : Array Nat} (h : Inv N p n) (hn : n < N) : Inv N p (n + 1) where
  size := h.size
  perm := h.perm
  le := hn
  tail := fun k hk hN => h.tail k (by omega) hN
  head := fun k hk => by
    by_cases q : k < n
    · have := h.head k q; omega
    · rw [show k = n from by omega, h.tail n (Nat.le_refl _) hn]; omega
theorem Inv.rev {N n i j : Nat} {p : Array Nat} (h : Inv N p n) (hj : j ≤ n) : Inv N (kas_rev p i j) n where
  size := (kas_rev_size i j).trans h.size
  perm := (Array.perm_iff_toList_perm.mp (mirror_perm _ _ _ _)).trans h.perm
  le := h.le
  tail := fun k hk hN => by rw [gp_rev (by have := h.size; have := h.le; omega), if_neg (by omega)]; exact h.tail k hk hN
  head := fun k hk => by
    rw [gp_rev (by have := h.size; have := h.le; omega)]
    split
    · exact h.head _ (by omega)
    · exact h.head _ hk

def UpTo (lt : Nat → Nat → Bool) (p : Array Nat) (n : Nat) : Prop := ∀ a b, a < b → b < n → lt2 lt (gp p a) (gp p b)
def DnTo (lt : Nat → Nat → Bool) (p : Array Nat) (n : Nat) : Prop := ∀ a b, a < b → b < n → lt2 lt (gp p b) (gp p a)
theorem DnTo.rev {p : Array Nat} {n : Nat} (h : DnTo lt p n) (hn : n ≤ p.size) : UpTo lt (kas_rev p 0 n) n := fun a b hab hb => by
  rw [gp_rev hn, gp_rev hn, if_pos ⟨by omega, by omega⟩, if_pos ⟨by omega, hb⟩]
  exact h _ _ (by omega) (by omega)

theorem asc_hold (O : WOrd lt) {N : Nat} {p : Array Nat} : ∀ (f a : Nat), Inv N p a → 1 ≤ a → a + f = N → UpTo lt p a →
    hold N lt (kas_asc p f a) fun m => a ≤ m ∧ Inv N p m ∧ UpTo lt p m ∧ (m < N → lt (gp p m) (gp p (m - 1)) = true)
  | 0, a, I, h1, hN, U => ⟨Nat.le_refl _, I, U, fun h => by omega⟩
  | f + 1, a, I, h1, hN, U => by
    refine ⟨I.bd (by omega), I.bd (by omega), ?_⟩
    cases e : lt (p.getD a 0) (p.getD (a - 1) 0) with
    | true => dsimp only; rw [if_pos rfl]; exact ⟨Nat.le_refl _, I, U, fun _ => e⟩
    | false =>
      dsimp only; rw [if_neg (by simp)]
      refine hold_mono (fun m h => ⟨by omega, h.2⟩) _ (asc_hold O f (a + 1) (I.step (by omega)) (by omega) (by omega) ?_)
      have q : lt2 lt (gp p (a - 1)) (gp p a) := .inr ⟨e, by rw [I.tail a (Nat.le_refl _) (by omega)]; exact I.head _ (by omega)⟩
      intro x y hxy hy
      by_cases hya : y < a
      · exact U x y hxy hya
      · obtain rfl : y = a := by omega
        by_cases hx : x = y - 1
        · rw [hx]; exact q
        · exact (U x (y - 1) (by omega) (by omega)).trans O q

structure DI (lt : Nat → Nat → Bool) (N : Nat) (p : Array Nat) (n q : Nat) : Prop where
  inv : Inv N p n
  qn : q + 1 ≤ n
  dn : DnTo lt p (n - (q + 1))
  less : ∀ x y, x < n - (q + 1) → n - (q + 1) ≤ y → y < n → lt (gp p y) (gp p x) = true
  same : ∀ x y, n - (q + 1) ≤ x → x < n → n - (q + 1) ≤ y → y < n → lt (gp p x) (gp p y) = false
  up : ∀ x y, n - (q + 1) ≤ x → x < y → y < n → gp p x < gp p y
theorem DI.flip (O : WOrd lt) {N n q : Nat} {p : Array Nat} (h : DI lt N p n q) : DnTo lt (kas_rev p (n - (q + 1)) n) n := fun a b hab hb => by
  have hz : n ≤ p.size := by have := h.inv.size; have := h.inv.le; omega
  have hq := h.qn
  rw [gp_rev hz, gp_rev hz]
  by_cases ha : n - (q + 1) ≤ a
  · rw [if_pos ⟨by omega, hb⟩, if_pos ⟨ha, by omega⟩]
    exact .inr ⟨h.same _ _ (by omega) (by omega) (by omega) (by omega), h.up _ _ (by omega) (by omega) (by omega)⟩
  · rw [if_neg (c := n - (q + 1) ≤ a ∧ a < n) (fun z => ha z.1)]
    split
    · exact .inl (h.less _ _ (by omega) (by omega) (by omega))
    · exact h.dn _ _ hab (by omega)
theorem rev_one {p : Array Nat} {n : Nat} (h : 1 ≤ n) : kas_rev p (n - 1) n = p := by
  unfold kas_rev
  rw [show (n - (n - 1)) / 2 = 0 from by omega]
  rfl
theorem dn_next (O : WOrd lt) {N n : Nat} {p : Array Nat} (I : Inv N p n) (hn : n < N) (D : DnTo lt p n) (h : ∀ x, x < n → lt n (gp p x) = true) : DI lt N p (n + 1) 0 where
  inv := I.step hn
  qn := by omega
  dn := fun a b hab hb => D a b hab (by omega)
  less := fun x y hx hy hyn => by rw [show y = n from by omega, I.tail n (Nat.le_refl _) hn]; exact h x (by omega)
  same := fun x y h1 h2 h3 h4 => by rw [show x = n from by omega, show y = n from by omega]; exact O.irr _
  up := fun x y h1 h2 h3 => by omega

theorem desc_hold (O : WOrd lt) {N : Nat} : ∀ (f : Nat) (p : Array Nat) (n q : Nat), DI lt N p n q → n + f = N → hold N lt (kas_desc f p n q) fun r => DI lt N r.1 r.2.1 r.2.2
  | 0, p, n, q, D, hN => D
  | f + 1, p, n, q, D, hN => by
    have hq := D.qn
    have hnn : gp p n = n := D.inv.tail n (Nat.le_refl _) (by omega)
    refine ⟨D.inv.bd (by omega), D.inv.bd (by omega), ?_⟩
    have hz : n ≤ p.size := by have := D.inv.size; have := D.inv.le; omega
    cases e : lt (p.getD n 0) (p.getD (n - 1) 0) with
    | true =>
      dsimp only; rw [if_pos rfl]
      have e' : lt n (gp p (n - 1)) = true := by have h0 := e; rw [show p.getD n 0 = n from hnn] at h0; exact h0
      have key : DI lt N (kas_rev p (n - (q + 1)) n) (n + 1) 0 := by
        refine dn_next O (D.inv.rev (Nat.le_refl _)) (by omega) (D.flip O) fun x hx => ?_
        rw [gp_rev hz]
        split
        · exact O.ltn e' (D.same _ _ (by omega) (by omega) (by omega) (by omega))
        · exact O.tr _ _ _ e' (D.less _ _ (by omega) (by omega) (by omega))
      by_cases hq0 : q > 0
      · rw [if_pos hq0]; exact desc_hold O f _ _ _ key (by omega)
      · rw [if_neg hq0]
        obtain rfl : q = 0 := by omega
        rw [show n - (0 + 1) = n - 1 from rfl, rev_one (by omega)] at key
        exact desc_hold O f _ _ _ key (by omega)
    | false =>
      dsimp only; rw [if_neg (by simp)]
      refine ⟨D.inv.bd (by omega), D.inv.bd (by omega), ?_⟩
      cases e2 : lt (p.getD (n - 1) 0) (p.getD n 0) with
      | true => dsimp only; rw [if_pos rfl]; exact D
      | false =>
        dsimp only; rw [if_neg (by simp)]
        have hb : n + 1 - (q + 1 + 1) = n - (q + 1) := by omega
        refine desc_hold O f _ _ _ ⟨D.inv.step (by omega), by omega, ?_, ?_, ?_, ?_⟩ (by omega)
        · rw [hb]; exact D.dn
        · rw [hb]
          intro x y hx hy hyn
          by_cases q' : y < n
          · exact D.less x y hx hy q'
          · obtain rfl : y = n := by omega
            exact O.nlt e2 (D.less x (y - 1) hx (by omega) (by omega))
        · rw [hb]
          intro x y h1 h2 h3 h4
          by_cases hx : x < n
          · by_cases hy : y < n
            · exact D.same x y h1 hx h3 hy
            · obtain rfl : y = n := by omega
              exact O.ntr (D.same x (y - 1) h1 hx (by omega) (by omega)) e2
          · obtain rfl : x = n := by omega
            by_cases hy : y < x
            · exact O.ntr e (D.same (x - 1) y (by omega) (by omega) h3 hy)
            · obtain rfl : y = x := by omega
              exact O.irr _
        · rw [hb]
          intro x y h1 h2 h3
          by_cases hy : y < n
          · exact D.up x y h1 h2 hy
          · obtain rfl : y = n := by omega
            rw [hnn]; exact D.inv.head _ h2

theorem tail3_hold (O : WOrd lt) {N n : Nat} {p : Array Nat} (I : Inv N p n) (h1 : 1 ≤ n) (D : DnTo lt p n) : hold N lt (kas_tail3 n N p) fun r => 1 ≤ r.1 ∧ Inv N r.2 r.1 ∧ UpTo lt r.2 r.1 := by
  unfold kas_tail3
  have hz : n ≤ p.size := by have := I.size; have := I.le; omega
  refine hold_bind _ (hold_mono (fun m h => ?_) _ (asc_hold O (N - n) n (I.rev (i := 0) (Nat.le_refl _)) h1 (by have := I.le; omega) (D.rev hz)))
  exact ⟨by show 1 ≤ m; omega, h.2.1, h.2.2.1⟩
theorem descPart_hold (O : WOrd lt) {N n : Nat} {p : Array Nat} (I : Inv N p n) (h1 : 1 ≤ n) (hN : n < N) (D : DnTo lt p n) (h : lt n (gp p (n - 1)) = true) :
    hold N lt (kas_descPart n N p) fun r => 1 ≤ r.1 ∧ Inv N r.2 r.1 ∧ UpTo lt r.2 r.1 := by
  unfold kas_descPart
  have D0 : DI lt N p (n + 1) 0 := dn_next O I hN D fun x hx => by
    by_cases q : x = n - 1
    · rw [q]; exact h
    · exact O.ltn h ((D x (n - 1) (by omega) (by omega)).le O)
  refine hold_bind _ (hold_mono (fun r D1 => ?_) _ (desc_hold O (N - (n + 1)) p (n + 1) 0 D0 (by omega)))
  have hq := D1.qn
  split
  · exact tail3_hold O (D1.inv.rev (Nat.le_refl _)) (by omega) (D1.flip O)
  · rename_i hq0
    have := D1.flip O
    rw [show r.2.2 = 0 from by omega, show r.2.1 - (0 + 1) = r.2.1 - 1 from rfl, rev_one (by omega)] at this
    exact tail3_hold O D1.inv (by omega) this

theorem gp_range {N k : Nat} (h : k < N) : gp (List.toArray (List.range N)) k = k := by simp [gp, h]
theorem inv_range {N n : Nat} (h : n ≤ N) : Inv N (List.toArray (List.range N)) n where
  size := by simp
  perm := List.Perm.refl _
  le := h
  tail := fun k _ hk => gp_range hk
  head := fun k hk => by rw [gp_range (by omega)]; exact hk
theorem count_hold (O : WOrd lt) {N : Nat} (hN : 2 ≤ N) : hold N lt (kas_count N (List.toArray (List.range N))) fun r => 1 ≤ r.1 ∧ Inv N r.2 r.1 ∧ UpTo lt r.2 r.1 := by
  unfold kas_count
  refine hold_bind _ (hold_mono (fun n h => ?_) _ (asc_hold O (N - 1) 1 (inv_range (by omega)) (by omega) (by omega) fun a b h1 h2 => by omega))
  obtain ⟨h1, I, U, hs⟩ := h
  split
  · rename_i e
    exact ⟨h1, I, U⟩
  · rename_i e
    have hn : n < N := by have := I.le; have : n ≠ N := by simpa using e
                          omega
    have hs' := hs hn
    rw [I.tail n (Nat.le_refl _) hn] at hs'
    split
    · rename_i h2
      refine ⟨I.bd (by omega), I.bd (by omega), ?_⟩
      cases e2 : lt (Array.getD (List.range N).toArray 0 0) (Array.getD (List.range N).toArray (n - 1) 0) with
      | true => dsimp only; rw [if_pos rfl]; exact ⟨h1, I, U⟩
      | false =>
        dsimp only; rw [if_neg (by simp)]
        have hz : n ≤ (List.range N).toArray.size := by rw [I.size]; omega
        have same : ∀ a b, a < n → b < n → lt (gp (List.range N).toArray a) (gp (List.range N).toArray b) = false := fun a b ha hb => by
          have x1 : lt (gp (List.range N).toArray a) (gp (List.range N).toArray 0) = false := by
            by_cases q : a = 0
            · rw [q]; exact O.irr _
            · exact (U 0 a (by omega) ha).le O
          have x2 : lt (gp (List.range N).toArray (n - 1)) (gp (List.range N).toArray b) = false := by
            by_cases q : b = n - 1
            · rw [q]; exact O.irr _
            · exact (U b (n - 1) (by omega) (by omega)).le O
          exact O.ntr (O.ntr x1 e2) x2
        refine descPart_hold O (I.rev (Nat.le_refl _)) h1 hn (fun a b hab hb => ?_) ?_
        · rw [gp_rev hz, gp_rev hz, if_pos ⟨by omega, by omega⟩, if_pos ⟨by omega, by omega⟩]
          refine .inr ⟨same _ _ (by omega) (by omega), ?_⟩
          rw [gp_range (by omega), gp_range (by omega)]; omega
        · rw [gp_rev hz, if_pos ⟨by omega, by omega⟩]
          exact O.ltn hs' (same _ _ (by omega) (by omega))
    · refine descPart_hold O I h1 hn (fun a b hab hb => by omega) hs'

theorem place_hold (O : WOrd lt) {N k : Nat} {p : Array Nat} (I : Inv N p k) (hk : k < N) (U : UpTo lt p k) : ∀ (f l r : Nat), l ≤ r → r ≤ k → r - l ≤ f → (∀ x, x < l → lt (gp p k) (gp p x) = false) → (∀ x, r ≤ x → x < k → lt (gp p k) (gp p x) = true) →
    hold N lt (kas_place p k f l r) fun l => l ≤ k ∧ (∀ x, x < l → lt (gp p k) (gp p x) = false) ∧ ∀ x, l ≤ x → x < k → lt (gp p k) (gp p x) = true
  | 0, l, r, h1, h2, h3, hl, hr => ⟨by omega, hl, fun x hx hxk => hr x (by omega) hxk⟩
  | f + 1, l, r, h1, h2, h3, hl, hr => by
    unfold kas_place
    split
    · exact ⟨by omega, hl, fun x hx hxk => hr x (by omega) hxk⟩
    · refine ⟨I.bd (by omega), I.bd (by omega), ?_⟩
      cases e : lt (p.getD k 0) (p.getD ((l + r) / 2) 0) with
      | true =>
        dsimp only; rw [if_pos rfl]
        refine place_hold O I hk U f _ _ (by omega) (by omega) (by omega) hl fun x hx hxk => ?_
        by_cases q : x = (l + r) / 2
        · rw [q]; exact e
        · exact O.ltn e ((U _ x (by omega) hxk).le O)
      | false =>
        dsimp only; rw [if_neg (by simp)]
        refine place_hold O I hk U f _ _ (by omega) (by omega) (by omega) (fun x hx => ?_) hr
        by_cases q : x = (l + r) / 2
        · rw [q]; exact e
        · exact O.ntr e ((U x ((l + r) / 2) (by omega) (by omega)).le O)

theorem bin_hold (O : WOrd lt) {N : Nat} : ∀ (f : Nat) (p : Array Nat) (k : Nat), Inv N p k → k + f = N → UpTo lt p k → hold N lt (kas_bin f p k) fun p' => Inv N p' N ∧ UpTo lt p' N
  | 0, p, k, I, hN, U => by
    obtain rfl : k = N := by omega
    exact ⟨I, U⟩
  | f + 1, p, k, I, hN, U => by
    unfold kas_bin
    have hkz : k < p.size := by rw [I.size]; omega
    have hkk : gp p k = k := I.tail k (Nat.le_refl _) (by omega)
    refine hold_bind _ (hold_mono (fun l h => ?_) _ (place_hold O I (by omega) U k 0 k (by omega) (Nat.le_refl _) (by omega) (fun x hx => by omega) fun x h1 h2 => by omega))
    obtain ⟨hl, h1, h2⟩ := h
    refine bin_hold O f _ (k + 1) ⟨(bubble_size _ _ _).trans I.size, (Array.perm_iff_toList_perm.mp (bubble_perm _ _ _)).trans I.perm, by omega, fun x hx hN' => ?_, fun x hx => ?_⟩ (by omega) fun a b hab hb => ?_
    · rw [gp_bub hkz hl, if_neg (by omega), if_neg (by omega)]; exact I.tail x (by omega) hN'
    · rw [gp_bub hkz hl]
      repeat' split
      · rw [hkk]; omega
      · have := I.head (x - 1) (by omega); omega
      · have := I.head x (by omega); omega
    · rw [gp_bub hkz hl, gp_bub hkz hl]
      by_cases hb1 : b = l
      · rw [if_pos hb1, if_neg (by omega), if_neg (by omega)]
        exact .inr ⟨h1 _ (by omega), by rw [hkk]; exact I.head _ (by omega)⟩
      · rw [if_neg hb1]
        by_cases ha1 : a = l
        · rw [if_pos ha1, if_pos ⟨by omega, by omega⟩]
          exact .inl (h2 _ (by omega) (by omega))
        · rw [if_neg ha1]
          by_cases hb2 : l < b ∧ b ≤ k
          · rw [if_pos hb2]
            split
            · exact U _ _ (by omega) (by omega)
            · exact U _ _ (by omega) (by omega)
          · rw [if_neg hb2, if_neg (by omega)]
            exact U _ _ hab (by omega)

theorem sort_hold (O : WOrd lt) {N : Nat} (hN : 2 ≤ N) : hold N lt (kas_sort N) fun p => p.toList.Perm (List.range N) ∧ p.toList.Pairwise (lt2 lt) := by
  unfold kas_sort
  refine hold_bind _ (hold_mono (fun r h => ?_) _ (count_hold O hN))
  obtain ⟨h1, I, U⟩ := h
  have fin : ∀ p, Inv N p N ∧ UpTo lt p N → p.toList.Perm (List.range N) ∧ p.toList.Pairwise (lt2 lt) := fun p ⟨I, U⟩ => ⟨I.perm, by
    rw [List.pairwise_iff_getElem]
    intro i j hi hj hij
    have hi' : i < p.size := by simpa using hi
    have hj' : j < p.size := by simpa using hj
    have := U i j hij (by rw [← I.size]; exact hj')
    simpa [gp, Array.getD, hi', hj'] using this⟩
  have hm : max r.1 1 = r.1 := by omega
  rw [hm]
  split
  · refine hold_mono fin _ (bin_hold O _ _ _ I (by omega) U)
  · refine fin _ ?_
    have : r.1 = N := by have := I.le; omega
    rw [this] at I U
    exact ⟨I, U⟩
end

end Mine

/-! S2 -/
namespace Mine

section
variable {prog : Program} {w : World} {A : Around} {V : View} {R : Heap} {κ : SortKind} {us vs : List Value} {lt : Nat → Nat → Bool}

theorem kas_of_hold {n : Nat} (hc : ∀ i j, i < n → j < n → Ev prog w A View.any R (keyLt' κ (us.getD i Value.none) (us.getD j Value.none)) (Is (lt i j))) {α : Type} {P : α → Prop} {G : α → Shared → Prop} :
    ∀ (t : KasT α), hold n lt t P → ∀ s : Shared, Sub R s.heap → 0 < s.toks → (∀ a s', P a → Keeps s s' → 0 < s'.toks → G a s') → t.kasWp (kas_cmp prog w A κ (pairsOf us)) G s
  | .ret a, h, s, hs, ht, hG => hG a s h (keeps_refl s) ht
  | .ask i j k, h, s, hs, ht, hG => by
    show wpAny _ _ (keyLt' κ (kas_item (pairsOf us) i).1 (kas_item (pairsOf us) j).1) _ _ _
    rw [kas_item_eq, kas_item_eq]
    refine (hc i j h.1 h.2.1).use hs trivial ht fun b s' k' t' p => ?_
    cases p
    exact kas_of_hold hc (k (lt i j)) h.2.2 s' (hs.trans (keeps_sub k')) t' fun a s'' pa ka ta => hG a s'' pa (keeps_trans k' ka) ta

theorem mapM_looks {M : Model} {s : Shared} {E : Value → Shared → Prop} {α β : Type} {f : α → Sem β} {r : α → β} : ∀ (l : List α) {Q : List β → Shared → Prop}, (∀ v ∈ l, ∀ (Q' : β → Shared → Prop), Q' (r v) s → wpAny M A (f v) Q' E s) → Q (l.map r) s → wpAny M A (l.mapM f) Q E s
  | [], _, _, h => by rw [List.mapM_nil]; exact wpAny_pure h
  | x :: l, Q, hf, h => by
    rw [List.mapM_cons]
    exact wpAny_bind (hf x (.head _) _ (wpAny_bind (mapM_looks l (Q := fun bs s' => wpAny M A (pure (r x :: bs)) Q E s') (fun v hv => hf v (.tail _ hv)) (wpAny_pure h))))

def Kd (T : Value → Value) (vs : List Value) (κ : SortKind) : Prop := κ = general' ∨ (κ = oneType' ∧ ∀ v ∈ vs, (T v == T (vs.getD 0 Value.none)) = true)
theorem kind_of {M : Model} {s : Shared} {E : Value → Shared → Prop} {T : Value → Value} {Q : SortKind → Shared → Prop} (h2 : 2 ≤ vs.length) (hT : ∀ v ∈ vs, Looks M s.heap (typeOf v) (T v)) (hT1 : ∀ v ∈ vs, (T v != Value.type "tuple") = true) (h : ∀ κ, Kd T vs κ → Q κ s) :
    wpAny M A (keyKind' vs.toArray) Q E s := by
  obtain ⟨v₁, v₂, rest, rfl⟩ : ∃ v₁ v₂ rest, vs = v₁ :: v₂ :: rest := by
    match vs, h2 with
    | [], h2 => simp at h2
    | [_], h2 => simp at h2
    | v₁ :: v₂ :: rest, _ => exact ⟨v₁, v₂, rest, rfl⟩
  rw [keyKind'_eq, List.mapM_toArray, map_eq_pure_bind]
  refine wpAny_bind (wpAny_bind (mapM_looks (r := fun _ => none) _ (fun v hv Q' hq => ?_) (wpAny_pure ?_)))
  · rw [kas_first_eq]
    refine wpAny_bind ((hT v hv).here ?_)
    rw [if_pos (hT1 v hv)]
    exact wpAny_pure hq
  · rw [if_neg (by simp), if_neg (by simp)]
    rw [oneTypeOnly'_eq, List.mapM_toArray, map_eq_pure_bind]
    refine wpAny_bind (wpAny_bind (wpAny_bind (mapM_looks (r := T) _ (fun v hv Q' hq => (hT v hv).here hq) (wpAny_pure ?_))))
    have h0 : (List.map T (v₁ :: v₂ :: rest)).toArray[0]? = some (T v₁) := by simp
    rw [h0]
    dsimp only
    refine wpAny_pure ?_
    by_cases hall : ((List.map T (v₁ :: v₂ :: rest)).toArray.all fun x => x == T v₁) = true
    · rw [if_pos hall]
      refine wpAny_pure (h _ (.inr ⟨rfl, fun v hv => ?_⟩))
      simp only [List.all_toArray, List.all_map, List.all_eq_true] at hall
      exact hall v hv
    · rw [if_neg hall]
      exact wpAny_pure (h _ (.inl rfl))

def Stab (lt : Nat → Nat → Bool) (n : Nat) (p : List Nat) : Prop := p.Perm (List.range n) ∧ p.Pairwise (lt2 lt)
theorem stab_small {n : Nat} (h : n < 2) : Stab lt n (List.range n) := ⟨.refl _, by
  rw [List.pairwise_iff_getElem]; intro i j hi hj hij; simp at hi hj; omega⟩
theorem zip_dup : ∀ l : List Value, l.zip l = l.map fun x => (x, x)
  | [] => rfl
  | x :: l => by rw [List.zip_cons_cons, zip_dup l]; rfl
theorem map_range_getD (us : List Value) : (List.range us.length).map (fun i => us.getD i Value.none) = us := by
  apply List.ext_getElem (by simp)
  intro i h1 h2
  simp at h1 ⊢
  simp [h1]

theorem sort_mid {E : Value → Shared → Prop} {s : Shared} {T : Value → Value} {Q : SortSt → Shared → Prop} (O : WOrd lt) (hz : us.length = vs.length) (h64 : vs.length < 64) (hs : Sub R s.heap) (ht : 0 < s.toks)
    (hT : ∀ v ∈ vs, Looks (model prog w) R (typeOf v) (T v)) (hT1 : ∀ v ∈ vs, (T v != Value.type "tuple") = true)
    (hc : ∀ κ, Kd T vs κ → ∀ i j, i < vs.length → j < vs.length → Ev prog w A View.any R (keyLt' κ (us.getD i Value.none) (us.getD j Value.none)) (Is (lt i j)))
    (h : ∀ st' s' p, Keeps s s' → 0 < s'.toks → Stab lt vs.length p → (arrOf st').map (·.2) = List.toArray (p.map fun i => us.getD i Value.none) → failedOf st' = none → Q st' s') :
    wpAny (model prog w) A (if vs.toArray.size < 2 then pure general' else keyKind' vs.toArray)
      (fun kind s1 => wpAny (model prog w) A ((if vs.toArray.size < 2 then pure () else sortRuns').run (SortSt.mk' kind (pairsOf us) #[] 7 none)) (fun r s' => Q r.2 s') E s1) E s := by
  by_cases h2 : vs.toArray.size < 2
  · rw [if_pos h2]
    refine wpAny_pure ?_
    simp only [if_pos h2]
    rw [StateT.run_pure]
    refine wpAny_pure (h _ s _ (keeps_refl s) ht (stab_small (by simpa using h2)) ?_ rfl)
    rw [← hz, map_range_getD]
    show (pairsOf us).map (·.2) = _
    simp [pairsOf, zip_dup, Function.comp_def]
  · rw [if_neg h2]
    have h2' : 2 ≤ vs.length := by simpa using h2
    refine kind_of h2' (fun v hv => (hT v hv).keeps hs) hT1 fun κ hκ => ?_
    simp only [if_neg h2]
    have e := kas_range (pairsOf us)
    rw [pairsOf_size, hz] at e
    have est : SortSt.mk' κ (pairsOf us) #[] 7 none = kas_st κ (pairsOf us) (List.toArray (List.range vs.length)) := by
      show _ = SortSt.mk' κ ((List.toArray (List.range vs.length)).map (kas_item (pairsOf us))) #[] 7 none
      rw [e]
    rw [est]
    have run := kas_runs (E := E) (κ := κ) (it := pairsOf us) (prog := prog) (w := w) (A := A) (n := vs.length) (s := s) (Q := fun _ st' s' => Q st' s') (G := fun p s' => Stab lt vs.length p.toList ∧ Keeps s s' ∧ 0 < s'.toks) h2' h64
      (fun p' st' s' a1 a2 a3 a4 => h st' s' p'.toList a4.2.1 a4.2.2 a4.1 (by
        apply Array.toList_inj.mp
        rw [a2, Array.map_map, Array.toList_map]
        exact List.map_congr_left fun i _ => by show (kas_item (pairsOf us) i).2 = _; rw [kas_item_eq]) a3)
      (kas_of_hold (hc κ hκ) _ (sort_hold O h2') s hs ht fun a s' pa k t => ⟨pa, k, t⟩)
    exact run

theorem wp_ite {M : Model} {E : Value → Shared → Prop} {s : Shared} {c : Prop} [Decidable c] {α β : Type} {x y : Sem α} {k : α → Sem β} {Q : β → Shared → Prop} (h : wpAny M A ((if c then x else y) >>= k) Q E s) : wpAny M A (if c then x >>= k else y >>= k) Q E s := by
  split
  · rename_i hc; rw [if_pos hc] at h; exact h
  · rename_i hc; rw [if_neg hc] at h; exact h
theorem Stab.length {n : Nat} {p : List Nat} (h : Stab lt n p) : p.length = n := h.1.length_eq.trans List.length_range

/-- list.sort on a list of our own, both ways -/
theorem sort_own {E : Value → Shared → Prop} {s : Shared} {T : Value → Value} {a : Addr} {n : Nat} {b : Bool} {kw : List (PySem.Str × Value)} {P : PySem.Fin → Shared → Prop}
    (hkw : (b = false ∧ kw = []) ∨ kw = [(PySem.Str.ofString "reverse", .bool b)])
    (ho : s.heap.get? a = some (seqObj "list" vs.toArray n)) (haR : R.get? a = none) (O : WOrd lt) (h64 : vs.length < 64) (hs : Sub R s.heap) (ht : 0 < s.toks)
    (hT : ∀ v ∈ vs, Looks (model prog w) R (typeOf v) (T v)) (hT1 : ∀ v ∈ vs, (T v != Value.type "tuple") = true)
    (hc : ∀ κ, Kd T vs κ → ∀ i j, i < vs.length → j < vs.length → Ev prog w A View.any R (keyLt' κ ((if b then vs.reverse else vs).getD i Value.none) ((if b then vs.reverse else vs).getD j Value.none)) (Is (lt i j)))
    (h : ∀ s' p, (∀ q o, q ≠ a → s.heap.get? q = some o → s'.heap.get? q = some o) → s' = { s with heap := s'.heap, toks := s'.toks } → 0 < s'.toks → Stab lt vs.length p →
      (∃ c, s'.heap.get? a = some (seqObj "list" (List.toArray (if b then (p.map fun i => vs.reverse.getD i Value.none).reverse else p.map fun i => vs.getD i Value.none)) c)) → P (.done (.ret .none)) s') :
    wpAny (model prog w) A (Builtin.«list.sort» ⟨[.ref a], kw⟩) P E s := by
  have ha : a < s.heap.objs.size := Heap.lt_size ho
  obtain ⟨e1, ho1⟩ : ∃ e1, (s.heap.update a (Obj.mapSeq fun _ => (#[] : Array Value))).get? a = some (seqObj "list" #[] e1) := ⟨_, get?_update_seq ho fun _ => #[]⟩
  have hoff : ∀ q o, q ≠ a → s.heap.get? q = some o → (((s.heap.update a (Obj.mapSeq fun _ => (#[] : Array Value))).push (seqObj "tuple" vs.toArray 0)).push (seqObj "list" #[] 0)).get? q = some o := fun q o hq e => by
    have hlt : q < s.heap.objs.size := Heap.lt_size e
    rw [Heap.get?_push_ne _ _ _ (by rw [size_push', Heap.size_update]; exact Nat.ne_of_lt (Nat.lt_succ_of_lt hlt)), Heap.get?_push_ne _ _ _ (by rw [Heap.size_update]; exact Nat.ne_of_lt hlt), Heap.get?_update_ne _ _ _ _ hq]
    exact e
  have ho6 : (((s.heap.update a (Obj.mapSeq fun _ => #[])).push (seqObj "tuple" vs.toArray 0)).push (seqObj "list" #[] 0)).get? a = some (seqObj "list" #[] e1) :=
    Heap.get?_push_of_some _ (Heap.get?_push_of_some _ ho1)
  have hs6 : Sub R (((s.heap.update a (Obj.mapSeq fun _ => #[])).push (seqObj "tuple" vs.toArray 0)).push (seqObj "list" #[] 0)) := fun q o e => hoff q o (fun z => by rw [z, haR] at e; cases e) (hs _ _ e)
  have hpair : ∀ us : List Value, us.toArray.zip us.toArray = pairsOf us := fun _ => rfl
  have hrev : (vs.toArray.zip vs.toArray).reverse = pairsOf vs.reverse := by
    apply Array.toList_inj.mp
    simp only [pairsOf, Array.toList_reverse, Array.toList_zip]
    rw [zip_dup, zip_dup, List.map_reverse]
  have step : ∀ (t : Sem PySem.Fin) (s : Shared), wpAny (model prog w) A t P E s → wpAny (model prog w) A (if b = true then (do let _ ← rule "list.sort.reverse"; t) else t) P E s := by
    intro t s ht
    split
    · exact wpAny_bind (wpAny_rule ht)
    · exact ht
  have fin : ∀ st' s' p, Keeps { s with heap := (((s.heap.update a (Obj.mapSeq fun _ => #[])).push (seqObj "tuple" vs.toArray 0)).push (seqObj "list" #[] 0)) } s' → 0 < s'.toks → Stab lt vs.length p →
      (arrOf st').map (·.2) = List.toArray (p.map fun i => (if b then vs.reverse else vs).getD i Value.none) → failedOf st' = none →
      wpAny (model prog w) A (do
        let touched := (← seqEpoch a) != e1
        Builtin.List.listUpdate (.ref a) fun _ => if b then ((arrOf st').map (·.2)).reverse else (arrOf st').map (·.2)
        if let some e := failedOf st' then rule "list.sort.comparison-raised"; throw e
        if touched then rule "list.sort.modified"; raiseError "ValueError" "list modified during sort"
        ret .none) P E s' := by
    intro st' s' p k ht' hp har hf
    have oa := keeps_sub k _ _ ho6
    have hsz : ((arrOf st').map (·.2)).size = vs.length := by rw [har, List.size_toArray, List.length_map, hp.length]
    refine wpAny_bind (seqEpoch_at oa rfl ?_)
    refine wpAny_bind (listUpdate_at oa rfl ?_ (Nat.zero_le _) (by
      have hsz' : (if b = true then ((arrOf st').map (·.2)).reverse else (arrOf st').map (·.2)).size = vs.length := by
        split
        · rw [Array.size_reverse, hsz]
        · exact hsz
      refine Nat.le_trans (Nat.le_of_eq hsz') ?_
      rw [sizeLine_eq]; omega))
    rw [hf]
    simp only [bne_self_eq_false, Bool.false_eq_true, if_false]
    obtain ⟨hh, tk, rfl, hk⟩ := k
    refine wpAny_pure (h { s with heap := hh.update a (Obj.mapSeq fun _ => if b = true then ((arrOf st').map (·.2)).reverse else (arrOf st').map (·.2)), toks := tk } p (fun q o hq e => ?_) rfl ht' hp ?_)
    · rw [Heap.get?_update_ne _ _ _ _ hq]
      exact hk _ _ (hoff q o hq e)
    · have := get?_update_seq oa (fun _ => if b = true then ((arrOf st').map (·.2)).reverse else (arrOf st').map (·.2))
      have e2 : (if b = true then ((arrOf st').map (·.2)).reverse else (arrOf st').map (·.2)) = List.toArray (if b then (p.map fun i => vs.reverse.getD i Value.none).reverse else p.map fun i => vs.getD i Value.none) := by
        rw [har]
        cases b with
        | false => simp only [Bool.false_eq_true, if_false]
        | true => simp only [if_true, List.reverse_toArray]
      exact e2 ▸ ⟨_, this⟩
  rcases hkw with ⟨rfl, rfl⟩ | rfl
  · rw [list_sort_plain]
    refine wpAny_bind (listItems_at ho rfl ?_)
    refine wpAny_bind (listUpdate_at ho rfl ?_ (by rw [List.size_toArray, sizeLine_eq]; omega) (Nat.zero_le _))
    refine wpAny_bind (seqEpoch_at ho1 rfl ?_)
    refine wpAny_bind (wpAny_newTuple ?_ (by show vs.length ≤ _; rw [sizeLine_eq]; omega))
    refine wpAny_bind (wpAny_newList ?_ (Nat.zero_le _))
    refine wpAny_holding ?_
    show wpAny (model prog w) A _ P E { s with heap := ((s.heap.update a (Obj.mapSeq fun _ => (#[] : Array Value))).push (seqObj "tuple" vs.toArray 0)).push (seqObj "list" #[] 0) }
    dsimp only
    refine wp_ite ?_
    refine wpAny_bind (wpAny_mono (sort_mid (s := { s with heap := (((s.heap.update a (Obj.mapSeq fun _ => #[])).push (seqObj "tuple" vs.toArray 0)).push (seqObj "list" #[] 0)) }) (Q := fun st' s' => ∃ p, Keeps { s with heap := (((s.heap.update a (Obj.mapSeq fun _ => #[])).push (seqObj "tuple" vs.toArray 0)).push (seqObj "list" #[] 0)) } s' ∧ 0 < s'.toks ∧ Stab lt vs.length p ∧ (arrOf st').map (·.2) = List.toArray (p.map fun i => vs.getD i Value.none) ∧ failedOf st' = none) (us := vs) O rfl h64 hs6 ht hT hT1 hc fun st' s' p k ht' hp har hf => ⟨p, k, ht', hp, har, hf⟩) (fun kind s1 h1 => wpAny_bind (wpAny_mono h1 (fun r s' hr => ?_) fun _ _ e => e)) fun _ _ e => e)
    obtain ⟨⟨⟩, st'⟩ := r
    obtain ⟨p, k, ht', hp, har, hf⟩ := hr
    exact fin st' s' p k ht' hp har hf
  · rw [list_sort_rev]
    refine wpAny_bind (listItems_at ho rfl ?_)
    refine wpAny_bind (listUpdate_at ho rfl ?_ (by rw [List.size_toArray, sizeLine_eq]; omega) (Nat.zero_le _))
    refine wpAny_bind (seqEpoch_at ho1 rfl ?_)
    refine wpAny_bind (wpAny_newTuple ?_ (by show vs.length ≤ _; rw [sizeLine_eq]; omega))
    refine wpAny_bind (wpAny_newList ?_ (Nat.zero_le _))
    refine wpAny_holding ?_
    show wpAny (model prog w) A _ P E { s with heap := ((s.heap.update a (Obj.mapSeq fun _ => (#[] : Array Value))).push (seqObj "tuple" vs.toArray 0)).push (seqObj "list" #[] 0) }
    dsimp only
    refine step _ _ ?_
    have hus : (if b = true then (vs.toArray.zip vs.toArray).reverse else vs.toArray.zip vs.toArray) = pairsOf (if b = true then vs.reverse else vs) := by
      cases b with
      | false => rfl
      | true => exact hrev
    rw [hus]
    refine wp_ite ?_
    refine wpAny_bind (wpAny_mono (sort_mid (s := { s with heap := (((s.heap.update a (Obj.mapSeq fun _ => #[])).push (seqObj "tuple" vs.toArray 0)).push (seqObj "list" #[] 0)) }) (Q := fun st' s' => ∃ p, Keeps { s with heap := (((s.heap.update a (Obj.mapSeq fun _ => #[])).push (seqObj "tuple" vs.toArray 0)).push (seqObj "list" #[] 0)) } s' ∧ 0 < s'.toks ∧ Stab lt vs.length p ∧ (arrOf st').map (·.2) = List.toArray (p.map fun i => (if b then vs.reverse else vs).getD i Value.none) ∧ failedOf st' = none) (us := if b = true then vs.reverse else vs) O (by split <;> simp) h64 hs6 ht hT hT1 hc fun st' s' p k ht' hp har hf => ⟨p, k, ht', hp, har, hf⟩) (fun kind s1 h1 => wpAny_bind (wpAny_mono h1 (fun r s' hr => ?_) fun _ _ e => e)) fun _ _ e => e)
    obtain ⟨⟨⟩, st'⟩ := r
    obtain ⟨p, k, ht', hp, har, hf⟩ := hr
    exact fin st' s' p k ht' hp har hf
end

end Mine

/-! S3 -/
namespace Mine

section
variable {prog : Program} {w : World} {A : Around} {V : View} {R : Heap} {vs : List Value} {lt : Nat → Nat → Bool}

def Sorted (lt : Nat → Nat → Bool) (vs : List Value) (b : Bool) : Value → Heap → Prop := fun a h => ∃ D p, a = .ref D ∧ Stab lt vs.length p ∧
  h.IsList D (List.toArray (if b then (p.map fun i => vs.reverse.getD i Value.none).reverse else p.map fun i => vs.getD i Value.none))

theorem ev_sorted {l : Addr} {T : Value → Value} {b : Bool} {kw : List (PySem.Str × Value)} (hkw : (b = false ∧ kw = []) ∨ kw = [(PySem.Str.ofString "reverse", .bool b)]) (hl : R.IsList l vs.toArray) (O : WOrd lt) (h64 : vs.length < 64)
    (hT : ∀ v ∈ vs, Looks (model prog w) R (typeOf v) (T v)) (hT1 : ∀ v ∈ vs, (T v != Value.type "tuple") = true)
    (hc : ∀ κ, Kd T vs κ → ∀ i j, i < vs.length → j < vs.length → Ev prog w A.in1.in1 View.any R (keyLt' κ ((if b then vs.reverse else vs).getD i Value.none) ((if b then vs.reverse else vs).getD j Value.none)) (Is (lt i j))) :
    Ev prog w A V R (call (.builtin "sorted") [.ref l] kw) (Sorted lt vs b) := Ev.mk fun Q E s hs hv ht hQ => by
  have hsz : ((s.heap.push (seqObj "list" #[] 0)).update s.heap.objs.size (Obj.mapSeq (· ++ vs.toArray))).objs.size = s.heap.objs.size + 1 := by
    rw [Heap.size_update, size_push']
  have hoL : (((s.heap.push (seqObj "list" #[] 0)).update s.heap.objs.size (Obj.mapSeq (· ++ vs.toArray))).push (seqObj "list" vs.toArray 0)).get? (s.heap.objs.size + 1) = some (seqObj "list" vs.toArray 0) := by
    rw [← hsz]; exact Heap.get?_push_size _ rfl
  have keep : ∀ b o, s.heap.get? b = some o → (((s.heap.push (seqObj "list" #[] 0)).update s.heap.objs.size (Obj.mapSeq (· ++ vs.toArray))).push (seqObj "list" vs.toArray 0)).get? b = some o := fun b o q => by
    have hlt : b < s.heap.objs.size := Heap.lt_size q
    rw [Heap.get?_push_ne _ _ _ (by rw [hsz]; exact Nat.ne_of_lt (Nat.lt_succ_of_lt hlt)), Heap.get?_update_ne _ _ _ _ (Nat.ne_of_lt hlt), Heap.get?_push_ne _ _ _ (Nat.ne_of_lt hlt)]
    exact q
  have hbody : wpAny (model prog w) A.in1 (Builtin.«sorted» ⟨[.ref l], kw⟩) (fun fin s' => ∃ v, fin = .done (.ret v) ∧ Q v s') E s := by
    unfold Builtin.«sorted»
    refine wpAny_bind (m := checkCount "sorted" 1 1 _) (wpAny_pure ?_)
    refine wpAny_bind (collect_list (isList_sub hl hs) ?_ (by rw [sizeLine_eq]; omega))
    refine wpAny_bind (wpAny_newList ?_ (by rw [sizeLine_eq]; omega))
    show wpAny _ _ _ _ _ { s with heap := ((s.heap.push (seqObj "list" #[] 0)).update s.heap.objs.size (Obj.mapSeq (· ++ vs.toArray))).push (seqObj "list" vs.toArray 0) }
    rw [hsz]
    have own : wpAny (model prog w) A.in1.in1 (Builtin.«list.sort» ⟨[.ref (s.heap.objs.size + 1)], kw⟩) (fun fin s' => ∃ v, fin = .done (.ret v) ∧ Q (.ref (s.heap.objs.size + 1)) s') E
        { s with heap := ((s.heap.push (seqObj "list" #[] 0)).update s.heap.objs.size (Obj.mapSeq (· ++ vs.toArray))).push (seqObj "list" vs.toArray 0) } := by
      refine sort_own (R := R) hkw hoL (fresh_off hs (Nat.le_succ _)) O h64 (fun q o e => keep q o (hs _ _ e)) ht hT hT1 hc fun s' p hk he ht' hp hD => ⟨_, rfl, ?_⟩
      have k : Keeps s s' := ⟨s'.heap, s'.toks, he, fun q o e => hk q o (Nat.ne_of_lt (Nat.lt_succ_of_lt (Heap.lt_size e))) (keep q o e)⟩
      obtain ⟨c, hD⟩ := hD
      exact hQ _ s' k fun g z => ⟨_, p, rfl, hp, _, z _ _ (fr_new hD (Nat.le_succ _)), rfl, c, rfl⟩
    refine wpAny_bind (wpAny_holding (wpAny_call_entry_kw slot_list_sort ⟨_, hoL, rfl⟩ entry_list_sort (wpAny_mono own (fun fin s' h => ?_) fun _ _ e => e) ?_))
    · obtain ⟨v, h1, h2⟩ := h
      exact ⟨v, h1, wpAny_pure ⟨_, rfl, h2⟩⟩
    · rcases hkw with ⟨_, rfl⟩ | rfl
      · exact args_list_sort _
      · exact args_list_sort_rev _ _
  refine call_function_entry_kw kind_sorted plain_sorted entry_sorted ?_ hbody
  rcases hkw with ⟨_, rfl⟩ | rfl
  · exact args_sorted1 _
  · exact args_sorted_rev _ _

theorem keyLt_general (x y : Value) : keyLt' general' x y = (do truthOfDropped (← richCompare .Lt x y)) := rfl
theorem ev_lt_general {x y : Value} {b : Bool} (h : Ev prog w A V R (richCompare .Lt x y) (Is (.bool b))) : Ev prog w A V R (keyLt' general' x y) (Is b) := fun Q E s hs hv ht hq => by
  rw [keyLt_general]
  exact wpAny_bind (h.use hs hv ht fun a s1 k1 t1 p1 => by cases p1; exact wpAny_truthy_bool (hq _ s1 k1 t1 upIs))
theorem ev_lt_str {x y : PySem.Str} {t u : Tok} : Ev prog w A V R (keyLt' oneType' (.str x t) (.str y u)) (Is (decide (x.cps.toList < y.cps.toList))) :=
  Ev.of_look fun _ _ _ _ h => kas_lt_str h

/-- a built-in called with keywords -/
theorem evCallKw {x : PySem.Str} {xp pos : Pos} {e kv : Expr} {kn : PySem.Str} {kp : Pos} {rest : List Expr} {id : String} {PL : List Value → Heap → Prop} {k : Value} {P : Value → Heap → Prop} {env : Env} (hf : Ev prog w A V R (eval (.Name x xp) env) (Is (.builtin id)))
    (ha : Ev prog w A V R (spliced (backTo pos (starEach (e :: rest) env))) PL) (hk : Ev prog w A V R (eval kv env) (Is k))
    (hc : ∀ vs R1, Sub R R1 → PL vs R1 → Ev prog w A V R1 (call (.builtin id) vs [(kn, k)]) P)
    (he : backTo pos (starEach (e :: rest) env) = (false, eval e env) :: backTo pos (starEach rest env) := by rfl)
    (hplain : (backTo pos (starEach (e :: rest) env)).any (·.1) = false := by rfl) :
    Ev prog w A V R (eval (.Call (.Name x xp) (e :: rest) [⟨some kn, kv, kp⟩] pos) env) P :=
  fun Q E s hs hv ht hq => wpAny_Call_Name_kw (hf _ _ s hs hv ht fun f s1 k1 t1 p1 => by
    cases p1.here
    refine callWith_kw (env := env) (e := e) (rest := rest) (kws := [⟨some kn, kv, kp⟩]) ?_ he hplain rfl rfl
    refine (ha.sub (sub_fr hs k1)).then hv k1 t1 fun vs s2 k2 t2 p2 => ?_
    refine kws_cons (env := env) (rest := []) ?_
    refine (hk.sub (sub_fr hs k2)) _ _ s2 fr_sub (View.keeps hv k2) t2 fun kw s3 k3 t3 p3 => ?_
    refine kws_nil (env := env) ?_
    cases p3.here
    refine (hc vs _ (sub_fr hs (keeps_trans k2 k3)) (p2.sub ?_).here).then hv (keeps_trans k2 k3) t3 hq
    intro q o e
    obtain ⟨e1, e2⟩ := fr_get.mp e
    exact fr_get.mpr ⟨keeps_sub k3 _ _ e1, e2⟩)
end

end Mine

/-! S4 -/
namespace Mine

theorem word_of (k : Nat → List Nat) : WOrd fun i j => decide (k i < k j) where
  irr := fun i => by simp
  tr := fun i j l h1 h2 => by simp only [decide_eq_true_eq] at *; exact List.lt_trans h1 h2
  neg := fun i j l h => by
    simp only [decide_eq_true_eq] at *
    rcases Classical.em (k i < k j) with q | q
    · exact .inl q
    · refine .inr ?_
      rcases Classical.em (k j < k l) with q' | q'
      · exact q'
      · exact absurd h (List.not_lt.mpr (List.le_trans (List.not_lt.mp q') (List.not_lt.mp q)))

def asInts (x : List Nat) : List Int := x.map Int.ofNat
theorem lexB_lt : ∀ x y : List Nat, lexB .Lt (asInts x) (asInts y) = decide (x < y)
  | [], [] => rfl
  | [], y :: ys => by show szB .Lt 0 _ = _; simp [szB, asInts]
  | x :: xs, [] => by show szB .Lt _ 0 = _; simp [szB, asInts]
  | x :: xs, y :: ys => by
    show (if Int.ofNat x == Int.ofNat y then lexB .Lt (asInts xs) (asInts ys) else intB .Lt (Int.ofNat x) (Int.ofNat y)) = _
    rw [lexB_lt xs ys]
    by_cases h : x = y
    · subst h; simp
    · have : (Int.ofNat x == Int.ofNat y) = false := by simp; omega
      rw [this]
      simp only [Bool.false_eq_true, if_false, intB]
      apply decide_eq_decide.mpr
      rw [List.cons_lt_cons_iff]
      constructor
      · intro q; exact .inl (by simpa using q)
      · rintro (q | ⟨q, _⟩)
        · simpa using q
        · exact absurd q h
theorem asInts_inj : ∀ {x y : List Nat}, asInts x = asInts y ↔ x = y
  | [], [] => by simp
  | [], y :: ys => by simp [asInts]
  | x :: xs, [] => by simp [asInts]
  | x :: xs, y :: ys => by
    have ih := asInts_inj (x := xs) (y := ys)
    show Int.ofNat x :: asInts xs = Int.ofNat y :: asInts ys ↔ _
    rw [List.cons.injEq, List.cons.injEq, ih]
    constructor
    · rintro ⟨h1, h2⟩; exact ⟨by simpa using Int.ofNat.inj h1, h2⟩
    · rintro ⟨rfl, h2⟩; exact ⟨rfl, h2⟩

def tyOf : Value → Value
  | .str _ _ => .type "str"
  | _ => .ref 88

section
variable {w : World} {A : Around} {V : View} {K : Frag} {R : Heap} {x y : PySem.Str} {a b : Value}

theorem Item.type {M : Model} (ha : Item R a x) : Looks M R (typeOf a) (tyOf a) := by
  rcases ha with ⟨t, rfl, _⟩ | ⟨q, t, rfl, hq⟩
  · exact Looks.of_pure rfl
  · obtain ⟨d, od, I, _⟩ := hq.inst
    exact I.type
theorem Item.notTuple (ha : Item R a x) : (tyOf a != Value.type "tuple") = true := by
  rcases ha with ⟨t, rfl, _⟩ | ⟨q, t, rfl, hq⟩ <;> rfl
theorem ev_lt_item {κ : SortKind} (Y : KQ K) (G : Gd K R) (rm : Room A 1) (ha : Item R a x) (hb : Item R b y) (hκ : κ = general' ∨ (κ = oneType' ∧ (tyOf a = tyOf b))) :
    Ev prog1 w A V R (keyLt' κ a b) (Is (decide (x.cps.toList < y.cps.toList))) := by
  rcases hκ with rfl | ⟨rfl, hκ⟩
  · exact ev_lt_general (ev_rich (op := .Lt) rfl Y G rm ha hb)
  · rcases ha with ⟨t, rfl, _⟩ | ⟨q, t, rfl, hq⟩
    · rcases hb with ⟨u, rfl, _⟩ | ⟨q, u, rfl, hq⟩
      · exact ev_lt_str
      · exact absurd hκ (by intro h; cases h)
    · have hb' : ∃ u, Held R b (.str y u) := by
        rcases hb with ⟨u, rfl, _⟩ | ⟨q, u, rfl, hq⟩
        · exact ⟨u, .p (.str _ _)⟩
        · exact ⟨u, .q hq⟩
      obtain ⟨u, hb'⟩ := hb'
      obtain ⟨e1, e2, _⟩ := Y.cmp .Lt rfl
      refine Ev.mk fun Q E s hs hv ht hQ => ?_
      obtain ⟨d, od, I, _⟩ := (hq.sub hs).inst
      rw [keyLt'_oneType, oneLt'_eq]
      simp only [if_true]
      refine wpAny_bind (wpAny_cRoomFor rm.u ?_)
      refine wpAny_bind (ifBound_K (G.k.keeps hs) I e1 e2 ?_)
      refine (ev_fn (op := .Lt) rfl Y G rm hq hb').use hs hv ht fun c s' k t' p => ?_
      cases p
      exact wpAny_truthy_bool (hQ _ _ k upIs)

theorem typeIs_isList {h : Heap} {M : Model} {l : Addr} {xs : Array Value} (x : h.IsList l xs) : Looks M h (typeOf (.ref l)) (.type "list") := by
  obtain ⟨o, ho, hc, _⟩ := x
  intro A Q E s hs h
  refine wpAny_bind (wpAny_load (hs _ _ ho) ?_)
  rw [hc]
  exact wpAny_pure h
theorem ev_lt_key {prog : Program} {κ : SortKind} {k k' : List Nat} (hu : A.units < cLine) (ha : KeyAt (asInts k) a R) (hb : KeyAt (asInts k') b R) (hκ : κ = general' ∨ κ = oneType') :
    Ev prog w A V R (keyLt' κ a b) (Is (decide (k < k'))) := by
  obtain ⟨l, us, rfl, hl, hi⟩ := ha
  obtain ⟨l', us', rfl, hl', hi'⟩ := hb
  rw [← lexB_lt]
  rcases hκ with rfl | rfl
  · exact ev_lt_general (ev_lt_ints hl hl' hi hi' hu)
  · refine Ev.of_look fun Q E s hs h => ?_
    obtain ⟨⟨cls, dd, data, sl⟩, ho, hc, n, hd⟩ := isList_sub hl hs
    obtain ⟨⟨cls2, dd2, data2, sl2⟩, ho2, hc2, n2, hd2⟩ := isList_sub hl' hs
    simp only at hc hd hc2 hd2
    subst hc hd hc2 hd2
    rw [keyLt'_oneType, oneLt'_eq]
    simp only [if_true]
    refine wpAny_bind (wpAny_cRoomFor hu ?_)
    refine wpAny_bind (wpAny_callSpecialIfBound?_slot ⟨_, ho, rfl⟩ PySem.F.slot_list_lt (call_meets PySem.F.slot_list_lt ⟨_, ho, rfl⟩ PySem.F.entry_list_lt (PySem.F.args_list_lt_2 _ _) (lt_meets l l' hi hi' n n2 dd dd2 sl sl2) ⟨ho, ho2, ?_⟩))
    exact wpAny_truthy_bool h
end

end Mine

/-! S5 -/
namespace Mine

section
variable {lt : Nat → Nat → Bool}

theorem pair_uniq {α : Type} {r : α → α → Prop} (hir : ∀ a, ¬ r a a) (htr : ∀ a b c, r a b → r b c → r a c) : ∀ {p q : List α}, p.Perm q → p.Pairwise r → q.Pairwise r → p = q
  | [], q, h, _, _ => by rw [List.nil_perm.mp h]
  | a :: p, [], h, _, _ => by have := h.length_eq; simp at this
  | a :: p, b :: q, h, hp, hq => by
    rw [List.pairwise_cons] at hp hq
    have hab : a = b := by
      rcases Classical.em (a = b) with e | e
      · exact e
      · have h1 : a ∈ b :: q := h.mem_iff.mp (.head _)
        have h2 : b ∈ a :: p := h.mem_iff.mpr (.head _)
        have x1 : a ∈ q := (List.mem_cons.mp h1).resolve_left e
        have x2 : b ∈ p := (List.mem_cons.mp h2).resolve_left (fun z => e z.symm)
        exact absurd (htr _ _ _ (hp.1 b x2) (hq.1 a x1)) (hir _)
    subst hab
    rw [pair_uniq hir htr (List.Perm.cons_inv h) hp.2 hq.2]

theorem Stab.uniq (O : WOrd lt) {n : Nat} {p q : List Nat} (h : Stab lt n p) (h' : Stab lt n q) : p = q :=
  pair_uniq (fun a h => h.irr O) (fun a b c h h' => h.trans O h') (h.1.trans h'.1.symm) h.2 h'.2

theorem Stab.head (O : WOrd lt) {n m : Nat} {p : List Nat} (h : Stab lt n p) (hm : m < n) (hb : ∀ j, j < n → j ≠ m → lt2 lt m j) : ∃ t, p = m :: t := by
  have hmem : m ∈ p := h.1.mem_iff.mpr (by simpa using hm)
  match p, h, hmem with
  | a :: t, h, hmem =>
    rcases Classical.em (a = m) with e | e
    · exact ⟨t, by rw [e]⟩
    · have x1 : m ∈ t := (List.mem_cons.mp hmem).resolve_left (fun z => e z.symm)
      have han : a < n := by have := h.1.mem_iff.mp (.head _); simpa using this
      have h2 := (List.pairwise_cons.mp h.2).1 m x1
      exact absurd (h2.trans O (hb a han e)) (fun z => z.irr O)

theorem nodup_of_stab (O : WOrd lt) {p : List Nat} (h : p.Pairwise (lt2 lt)) : p.Nodup := h.imp fun {a b} h e => by subst e; exact h.irr O

/-- the groups of equal things, one after the other, are the stable sort -/
theorem flat_stab (O : WOrd lt) {n : Nat} {eq : Nat → Nat → Bool} {o : List Nat} (he : ∀ j a, eq j a = true → lt j a = false ∧ lt a j = false) (ho : o.Pairwise fun a b => lt a b = true) (hc : ∀ j, j < n → ∃ a ∈ o, eq j a = true) :
    Stab lt n (o.flatMap fun a => (List.range n).filter fun j => eq j a) := by
  have hp : (o.flatMap fun a => (List.range n).filter fun j => eq j a).Pairwise (lt2 lt) := by
    rw [List.pairwise_flatMap]
    constructor
    · intro a ha
      have hr : (List.range n).Pairwise (· < ·) := List.pairwise_lt_range
      refine List.Pairwise.imp_of_mem ?_ (hr.filter _)
      intro x y hx hy hxy
      have h1 := he x a (List.mem_filter.mp hx).2
      have h2 := he y a (List.mem_filter.mp hy).2
      exact .inr ⟨O.ntr h2.1 h1.2, hxy⟩
    · refine ho.imp fun {a b} hab x hx y hy => ?_
      have h1 := he x a (List.mem_filter.mp hx).2
      have h2 := he y b (List.mem_filter.mp hy).2
      exact .inl (O.nlt h1.2 (O.ltn hab h2.1))
  refine ⟨?_, hp⟩
  refine (List.perm_ext_iff_of_nodup (nodup_of_stab O hp) List.nodup_range).mpr fun j => ?_
  rw [List.mem_flatMap]
  constructor
  · rintro ⟨a, ha, hj⟩; exact (List.mem_filter.mp hj).1
  · intro hj
    obtain ⟨a, ha, e⟩ := hc j (by simpa using hj)
    exact ⟨a, ha, List.mem_filter.mpr ⟨hj, e⟩⟩

theorem WOrd.rev (O : WOrd lt) : WOrd fun i j => lt j i where
  irr := O.irr
  tr := fun i j k h1 h2 => O.tr _ _ _ h2 h1
  neg := fun i j k h => (O.neg _ j _ h).symm

/-- the sort of the turned list, turned again -/
theorem Stab.turn {n : Nat} {p : List Nat} (h : Stab (fun i j => lt (n - 1 - i) (n - 1 - j)) n p) : Stab (fun i j => lt j i) n ((p.map fun i => n - 1 - i).reverse) := by
  have hmem : ∀ i ∈ p, i < n := fun i hi => by have := h.1.mem_iff.mp hi; simpa using this
  constructor
  · refine (List.reverse_perm _).trans ?_
    refine (h.1.map _).trans ?_
    have e : (List.range n).map (fun i => n - 1 - i) = (List.range n).reverse := by
      apply List.ext_getElem (by simp)
      intro i h1 h2
      simp
    rw [e]
    exact List.reverse_perm _
  · rw [List.pairwise_reverse, List.pairwise_map]
    refine List.Pairwise.imp_of_mem (fun {a b} ha hb hab => ?_) h.2
    have := hmem a ha
    have := hmem b hb
    rcases hab with q | ⟨q, r⟩
    · exact .inl q
    · exact .inr ⟨q, by omega⟩
end

theorem getD_at {α : Type} {f : List α} {i : Nat} {d : α} (h : i < f.length) : f.getD i d = f[i] := by simp [h]
/-! ## the keys -/
section
variable (k : Nat → List Nat)
def ltK (i j : Nat) : Bool := decide (k i < k j)
def isFirst (j : Nat) : Bool := decide (∀ i, i < j → k i ≠ k j)
theorem first_ex : ∀ j, ∃ i, i ≤ j ∧ k i = k j ∧ isFirst k i = true := by
  intro j
  induction j using Nat.strongRecOn with
  | ind j ih =>
    rcases Classical.em (isFirst k j = true) with q | q
    · exact ⟨j, Nat.le_refl _, rfl, q⟩
    · have : ∃ i, i < j ∧ k i = k j := by
        simp only [isFirst, decide_eq_true_eq] at q
        rcases Classical.em (∃ i, i < j ∧ k i = k j) with z | z
        · exact z
        · exact absurd (fun i hi e => z ⟨i, hi, e⟩) q
      obtain ⟨i, hi, e⟩ := this
      obtain ⟨a, h1, h2, h3⟩ := ih i hi
      exact ⟨a, by omega, h2.trans e, h3⟩
theorem first_uniq {i j : Nat} (hi : isFirst k i = true) (hj : isFirst k j = true) (h : k i = k j) : i = j := by
  simp only [isFirst, decide_eq_true_eq] at hi hj
  rcases Nat.lt_trichotomy i j with q | q | q
  · exact absurd h (hj i q)
  · exact q
  · exact absurd h.symm (hi j q)

/-- the sorted distinct keys, as places of the row -/
theorem order_ok {n : Nat} {f p : List Nat} (hf : f = (List.range n).filter (isFirst k)) (O : WOrd (ltK k)) (hp : Stab (fun i j => ltK k (f.getD i 0) (f.getD j 0)) f.length p) :
    (p.map fun i => f.getD i 0).Pairwise (fun a b => ltK k a b = true) ∧ ∀ j, j < n → ∃ a ∈ p.map fun i => f.getD i 0, decide (k j = k a) = true := by
  have hmem : ∀ i ∈ p, i < f.length := fun i hi => by have := hp.1.mem_iff.mp hi; simpa using this
  have hfirst : ∀ i, i < f.length → isFirst k (f.getD i 0) = true := fun i hi => by
    have : f.getD i 0 ∈ f := by simp [hi]
    rw [hf] at this
    rw [hf]
    exact (List.mem_filter.mp this).2
  have hnd : f.Nodup := by rw [hf]; exact List.nodup_range.filter _
  constructor
  · rw [List.pairwise_map]
    refine List.Pairwise.imp_of_mem (fun {a b} ha hb hab => ?_) hp.2
    rcases hab with q | ⟨q, r⟩
    · exact q
    · have ha' := hmem a ha
      have hb' := hmem b hb
      simp only [ltK, decide_eq_false_iff_not, decide_eq_true_eq] at q ⊢
      rcases Classical.em (k (f.getD a 0) < k (f.getD b 0)) with z | z
      · exact z
      · have e : k (f.getD a 0) = k (f.getD b 0) := List.le_antisymm (List.not_lt.mp q) (List.not_lt.mp z)
        have e2 := first_uniq k (hfirst a ha') (hfirst b hb') e
        rw [getD_at ha', getD_at hb'] at e2
        exact absurd e2 (List.pairwise_iff_getElem.mp hnd a b ha' hb' r)
  · intro j hj
    obtain ⟨a, h1, h2, h3⟩ := first_ex k j
    have ham : a ∈ f := by rw [hf]; exact List.mem_filter.mpr ⟨by simp; omega, h3⟩
    obtain ⟨i, hi, e⟩ := List.getElem_of_mem ham
    refine ⟨a, List.mem_map.mpr ⟨i, hp.1.mem_iff.mpr (by simpa using hi), ?_⟩, by simp [h2]⟩
    rw [getD_at hi, e]
end

end Mine

/-! S6 -/
namespace Mine

theorem argBest_le (bt : Nat → Nat → Bool) : ∀ k, argBest bt k ≤ k
  | 0 => Nat.le_refl _
  | k + 1 => by
    unfold argBest
    split
    · exact Nat.le_refl _
    · exact Nat.le_succ_of_le (argBest_le bt k)
theorem argBest_min {lt : Nat → Nat → Bool} (O : WOrd lt) : ∀ k j, j ≤ k → j ≠ argBest lt k → lt2 lt (argBest lt k) j
  | 0, j, hj, hn => absurd (Nat.le_zero.mp hj) hn
  | k + 1, j, hj, hn => by
    unfold argBest at hn ⊢
    have hle := argBest_le lt k
    split at hn
    · rename_i h
      rw [if_pos h]
      have hj' : j ≤ k := by omega
      rcases Classical.em (j = argBest lt k) with e | e
      · rw [e]; exact .inl h
      · exact lt2.trans O (.inl h) (argBest_min O k j hj' e)
    · rename_i h
      rw [if_neg h]
      rcases Classical.em (j = k + 1) with e | e
      · rw [e]; exact .inr ⟨by simpa using h, by omega⟩
      · exact argBest_min O k j (by omega) hn

theorem wpAny_more {α : Type} {M : Model} {A : Around} {t : Sem α} {Q : α → Shared → Prop} {E : Value → Shared → Prop} {s : Shared} (ht : 0 < s.toks) (h : wpAny M A t (fun a s' => 0 < s'.toks → Q a s') E s) : wpAny M A t Q E s := wpAny_pos ht h
theorem keeps_off {s0 s : Shared} (k : Keeps s0 s) {h' : Heap} {tk : Nat} {bs : List Addr} (hb : ∀ b ∈ bs, s0.heap.get? b = none) (hk : ∀ b o, b ∉ bs → s.heap.get? b = some o → h'.get? b = some o) : Keeps s0 { s with heap := h', toks := tk } := by
  obtain ⟨h, t, rfl, e⟩ := k
  refine ⟨h', tk, rfl, fun b o q => hk b o (fun hm => ?_) (e b o q)⟩
  rw [hb b hm] at q; cases q
theorem keeps_upd {s0 s : Shared} (k : Keeps s0 s) {S : Addr} {f : Obj → Obj} (hS : s0.heap.get? S = none) : Keeps s0 { s with heap := s.heap.update S f } :=
  keeps_off (tk := s.toks) (bs := [S]) k (fun b hb => by rw [List.mem_singleton.mp hb]; exact hS) fun b o hb e => (Heap.get?_update_other _ _ (fun z => hb (by rw [z]; exact .head _))).trans e

section
variable {prog : Program} {w : World} {A : Around} {V : View} {R : Heap} {RR : Result → Shared → Prop} {I : Addr} {fp wr : List Addr} {n : Nat} {P : Nat → Value → Prop} {St : Nat → Heap → Prop}

theorem min_go (W : Walks prog w A.in1 I fp wr n P St) (bt : Nat → Nat → Bool) (hcmp : ∀ i j vi vj, P i vi → P j vj → Ev prog w A.in1 View.any R (richCompare .Lt vi vj) (Is (.bool (bt i j)))) (S : Addr) (hSf : S ∉ fp)
    {s0 : Shared} (hR0 : Sub R s0.heap) (hS0 : s0.heap.get? S = none) (hw0 : ∀ b ∈ wr, s0.heap.get? b = none) (hR : ∀ v s', P (argBest bt (n - 1)) v → Keeps s0 s' → RR (.ok (.ret v)) s') :
    ∀ (k j : Nat) (s : Shared) (vb : Value) (c : Nat), n - (j + 1) = k → j + 1 ≤ n → St (j + 1) s.heap → P (argBest bt j) vb → Keeps s0 s → 0 < s.toks →
    s.heap.get? S = some { cls := .type "list", dict := none, data := .seq #[vb, vb] c, slots := #[] } →
    codeAny (model prog w) A (.builtin "min.loop" ⟨[.ref I, .none, .ref S], []⟩) RR s := by
  have hSw : S ∉ wr := fun h => hSf (W.sub _ h)
  have hname : (toString "min" ++ toString ".loop" : String) = "min.loop" := by decide
  intro k
  induction k with
  | zero =>
    intro j s vb c hk hj hst hPb k0 ht hS
    have hin : j + 1 = n := by omega
    refine codeAny_builtin F.entry_min_loop ?_
    rw [Around.under_plainId F.plain_min_loop _]
    show wpAny _ A.in1 (seqItems? (.ref S) >>= _) _ _ s
    refine wpAny_bind (wpAny_seqItems hS rfl ?_)
    show wpAny _ A.in1 (tryCatch (pyNext (.ref I)) _ >>= _) _ _ s
    refine wpAny_bind (wpAny_tryCatch (W.done s _ _ (hin ▸ hst) fun h' tk hk' => ?_))
    have hS' := hk' S _ hSw hS
    show wpAny _ A.in1 (updateSeq S (fun _ => #[]) >>= _) _ _ _
    refine wpAny_bind ?_
    refine wpAny_updateSeq hS' rfl (wpAny_bind (wpAny_letGo (wpAny_pure ?_)))
    refine hR vb _ (by rw [← hin]; exact hPb) (keeps_upd (s := { s with heap := h', toks := tk }) (keeps_off k0 hw0 hk') hS0)
  | succ k ih =>
    intro j s vb c hk hj hst hPb k0 ht hS
    have hlt : j + 1 < n := by omega
    refine codeAny_builtin F.entry_min_loop ?_
    rw [Around.under_plainId F.plain_min_loop _]
    show wpAny _ A.in1 (seqItems? (.ref S) >>= _) _ _ s
    refine wpAny_bind (wpAny_seqItems hS rfl ?_)
    show wpAny _ A.in1 (tryCatch (pyNext (.ref I)) _ >>= _) _ _ s
    refine wpAny_bind (wpAny_tryCatch (wpAny_more ht (W.item (j + 1) s _ _ hlt hst fun v h' tk hP hst' hk' ht' => ?_)))
    have hS' := hk' S _ hSw hS
    have k1 : Keeps s0 { s with heap := h', toks := tk } := keeps_off k0 hw0 hk'
    show wpAny _ A.in1 (tryCatch (holding [v, v] (richCompare .Lt v vb >>= _)) _ >>= _) _ _ _
    refine wpAny_bind (wpAny_tryCatch (wpAny_holding (wpAny_bind ((hcmp (j + 1) (argBest bt j) v vb hP hPb).use (hR0.trans (keeps_sub k1)) trivial ht' fun a s2 k2 t2 p2 => ?_))))
    cases p2
    have hS2 := keeps_sub k2 _ _ hS'
    have hst2 := W.frame _ _ _ hst' fun b _ o e => keeps_sub k2 _ _ e
    refine wpAny_bind (wpAny_holding (wpAny_truthy_bool ?_))
    refine wpAny_bind (wpAny_letGo (wpAny_pure ?_))
    cases hb : bt (j + 1) (argBest bt j) with
    | true =>
      simp only [if_true]
      refine wpAny_bind ?_
      refine wpAny_updateSeq hS2 rfl (wpAny_bind (wpAny_letGo ?_))
      rw [hname]
      refine wpAny_pure ⟨plainId_quiet F.plain_min_loop _, ih (j + 1) _ v _ (by omega) hlt (W.frame _ _ _ hst2 fun b hbf o e => ?_) (by simp only [argBest, hb, if_true]; exact hP) (keeps_upd (keeps_trans k1 k2) hS0) t2 (Heap.get?_update_self _ hS2 rfl)⟩
      exact (Heap.get?_update_other _ _ (fun h : S = b => hSf (by rw [h]; exact hbf))).trans e
    | false =>
      simp only [Bool.false_eq_true, if_false]
      refine wpAny_bind (wpAny_letGo ?_)
      rw [hname]
      exact wpAny_pure ⟨plainId_quiet F.plain_min_loop _, ih (j + 1) _ vb c (by omega) hlt hst2 (by simp only [argBest, hb, Bool.false_eq_true, if_false]; exact hPb) (keeps_trans k1 k2) t2 hS2⟩

theorem min_first (W : Walks prog w A.in1 I fp wr n P St) (bt : Nat → Nat → Bool) (hcmp : ∀ i j vi vj, P i vi → P j vj → Ev prog w A.in1 View.any R (richCompare .Lt vi vj) (Is (.bool (bt i j)))) (S : Addr) (hSf : S ∉ fp) (hn : 0 < n)
    {s0 s : Shared} {c : Nat} (hR0 : Sub R s0.heap) (hS0 : s0.heap.get? S = none) (hw0 : ∀ b ∈ wr, s0.heap.get? b = none) (hR : ∀ v s', P (argBest bt (n - 1)) v → Keeps s0 s' → RR (.ok (.ret v)) s') (hst : St 0 s.heap) (k0 : Keeps s0 s) (ht : 0 < s.toks)
    (hS : s.heap.get? S = some { cls := .type "list", dict := none, data := .seq #[] c, slots := #[] }) :
    codeAny (model prog w) A (.builtin "min.loop" ⟨[.ref I, .none, .ref S], []⟩) RR s := by
  have hSw : S ∉ wr := fun h => hSf (W.sub _ h)
  have hname : (toString "min" ++ toString ".loop" : String) = "min.loop" := by decide
  refine codeAny_builtin F.entry_min_loop ?_
  rw [Around.under_plainId F.plain_min_loop _]
  show wpAny _ A.in1 (seqItems? (.ref S) >>= _) _ _ s
  refine wpAny_bind (wpAny_seqItems hS rfl ?_)
  show wpAny _ A.in1 (tryCatch (pyNext (.ref I)) _ >>= _) _ _ s
  refine wpAny_bind (wpAny_tryCatch (wpAny_more ht (W.item 0 s _ _ hn hst fun v h' tk hP hst' hk' ht' => ?_)))
  have hS' := hk' S _ hSw hS
  show wpAny _ A.in1 (updateSeq S (fun _ => #[v, v]) >>= _) _ _ _
  refine wpAny_bind ?_
  refine wpAny_updateSeq hS' rfl ?_
  rw [hname]
  refine wpAny_pure ⟨plainId_quiet F.plain_min_loop _, min_go W bt hcmp S hSf hR0 hS0 hw0 hR _ 0 _ v _ rfl hn (W.frame _ _ _ hst' fun b hbf o e => ?_) hP (keeps_upd (s := { s with heap := h', toks := tk }) (keeps_off k0 hw0 hk') hS0) ht' (Heap.get?_update_self _ hS' rfl)⟩
  exact (Heap.get?_update_other _ _ (fun h : S = b => hSf (by rw [h]; exact hbf))).trans e

theorem ev_min {l : Addr} {vs : List Value} {bt : Nat → Nat → Bool} (hh : A.handled = none) (hl : R.IsList l vs.toArray) (hn : 0 < vs.length) (hcmp : ∀ i j vi vj, vs[i]? = some vi → vs[j]? = some vj → Ev prog w A.in1 View.any R (richCompare .Lt vi vj) (Is (.bool (bt i j)))) :
    Ev prog w A V R (call (.builtin "min") [.ref l]) (fun v _ => vs[argBest bt (vs.length - 1)]? = some v) := Ev.mk fun Q E s hs hv ht hQ => by
  have hname : (toString "min" ++ toString ".loop" : String) = "min.loop" := by decide
  refine call_function_tree F.kind_min F.plain_min F.entry_min (F.args_min1 _) ?_
  show wpAny _ A.in1 (Builtin.Builtins.bindParams "min" ["key", "default"] 0 ⟨[], []⟩ >>= _) _ _ s
  refine wpAny_bind (wpAny_of_eq (show Builtin.Builtins.bindParams "min" ["key", "default"] 0 ⟨[], []⟩ = pure [none, none] from rfl) ?_)
  refine wpAny_bind (wpAny_pure ?_)
  refine wpAny_bind (wpAny_more ht ((it_list (A := A.in1) hh hl) _ _ s hs fun I fp wr St s₂ k2 W hst hw hfp _ t2 => ?_))
  refine wpAny_bind (wpAny_newObj_type ?_)
  have hSf : s₂.heap.objs.size ∉ fp := fun hm => Nat.lt_irrefl _ (hfp _ hm).2
  rw [hname]
  refine wpAny_pure ⟨plainId_quiet F.plain_min_loop _, min_first (R := R) W bt hcmp s₂.heap.objs.size hSf hn hs (fresh_off (keeps_sub k2) (Nat.le_refl _)) hw (fun v s' hP k => hQ v s' k fun g z => hP)
    (W.frame _ _ _ hst fun b _ o e => Heap.get?_push_of_some _ e) (keeps_trans k2 (keeps_mk (tk := s₂.toks) ((Sub.refl _).push _))) t2 (Heap.get?_push_size _ rfl)⟩

theorem max_go (W : Walks prog w A.in1 I fp wr n P St) (bt : Nat → Nat → Bool) (hcmp : ∀ i j vi vj, P i vi → P j vj → Ev prog w A.in1 View.any R (richCompare .Gt vi vj) (Is (.bool (bt i j)))) (S : Addr) (hSf : S ∉ fp)
    {s0 : Shared} (hR0 : Sub R s0.heap) (hS0 : s0.heap.get? S = none) (hw0 : ∀ b ∈ wr, s0.heap.get? b = none) (hR : ∀ v s', P (argBest bt (n - 1)) v → Keeps s0 s' → RR (.ok (.ret v)) s') :
    ∀ (k j : Nat) (s : Shared) (vb : Value) (c : Nat), n - (j + 1) = k → j + 1 ≤ n → St (j + 1) s.heap → P (argBest bt j) vb → Keeps s0 s → 0 < s.toks →
    s.heap.get? S = some { cls := .type "list", dict := none, data := .seq #[vb, vb] c, slots := #[] } →
    codeAny (model prog w) A (.builtin "max.loop" ⟨[.ref I, .none, .ref S], []⟩) RR s := by
  have hSw : S ∉ wr := fun h => hSf (W.sub _ h)
  have hname : (toString "max" ++ toString ".loop" : String) = "max.loop" := by decide
  intro k
  induction k with
  | zero =>
    intro j s vb c hk hj hst hPb k0 ht hS
    have hin : j + 1 = n := by omega
    refine codeAny_builtin F.entry_max_loop ?_
    rw [Around.under_plainId F.plain_max_loop _]
    show wpAny _ A.in1 (seqItems? (.ref S) >>= _) _ _ s
    refine wpAny_bind (wpAny_seqItems hS rfl ?_)
    show wpAny _ A.in1 (tryCatch (pyNext (.ref I)) _ >>= _) _ _ s
    refine wpAny_bind (wpAny_tryCatch (W.done s _ _ (hin ▸ hst) fun h' tk hk' => ?_))
    have hS' := hk' S _ hSw hS
    show wpAny _ A.in1 (updateSeq S (fun _ => #[]) >>= _) _ _ _
    refine wpAny_bind ?_
    refine wpAny_updateSeq hS' rfl (wpAny_bind (wpAny_letGo (wpAny_pure ?_)))
    refine hR vb _ (by rw [← hin]; exact hPb) (keeps_upd (s := { s with heap := h', toks := tk }) (keeps_off k0 hw0 hk') hS0)
  | succ k ih =>
    intro j s vb c hk hj hst hPb k0 ht hS
    have hlt : j + 1 < n := by omega
    refine codeAny_builtin F.entry_max_loop ?_
    rw [Around.under_plainId F.plain_max_loop _]
    show wpAny _ A.in1 (seqItems? (.ref S) >>= _) _ _ s
    refine wpAny_bind (wpAny_seqItems hS rfl ?_)
    show wpAny _ A.in1 (tryCatch (pyNext (.ref I)) _ >>= _) _ _ s
    refine wpAny_bind (wpAny_tryCatch (wpAny_more ht (W.item (j + 1) s _ _ hlt hst fun v h' tk hP hst' hk' ht' => ?_)))
    have hS' := hk' S _ hSw hS
    have k1 : Keeps s0 { s with heap := h', toks := tk } := keeps_off k0 hw0 hk'
    show wpAny _ A.in1 (tryCatch (holding [v, v] (richCompare .Gt v vb >>= _)) _ >>= _) _ _ _
    refine wpAny_bind (wpAny_tryCatch (wpAny_holding (wpAny_bind ((hcmp (j + 1) (argBest bt j) v vb hP hPb).use (hR0.trans (keeps_sub k1)) trivial ht' fun a s2 k2 t2 p2 => ?_))))
    cases p2
    have hS2 := keeps_sub k2 _ _ hS'
    have hst2 := W.frame _ _ _ hst' fun b _ o e => keeps_sub k2 _ _ e
    refine wpAny_bind (wpAny_holding (wpAny_truthy_bool ?_))
    refine wpAny_bind (wpAny_letGo (wpAny_pure ?_))
    cases hb : bt (j + 1) (argBest bt j) with
    | true =>
      simp only [if_true]
      refine wpAny_bind ?_
      refine wpAny_updateSeq hS2 rfl (wpAny_bind (wpAny_letGo ?_))
      rw [hname]
      refine wpAny_pure ⟨plainId_quiet F.plain_max_loop _, ih (j + 1) _ v _ (by omega) hlt (W.frame _ _ _ hst2 fun b hbf o e => ?_) (by simp only [argBest, hb, if_true]; exact hP) (keeps_upd (keeps_trans k1 k2) hS0) t2 (Heap.get?_update_self _ hS2 rfl)⟩
      exact (Heap.get?_update_other _ _ (fun h : S = b => hSf (by rw [h]; exact hbf))).trans e
    | false =>
      simp only [Bool.false_eq_true, if_false]
      refine wpAny_bind (wpAny_letGo ?_)
      rw [hname]
      exact wpAny_pure ⟨plainId_quiet F.plain_max_loop _, ih (j + 1) _ vb c (by omega) hlt hst2 (by simp only [argBest, hb, Bool.false_eq_true, if_false]; exact hPb) (keeps_trans k1 k2) t2 hS2⟩

theorem max_first (W : Walks prog w A.in1 I fp wr n P St) (bt : Nat → Nat → Bool) (hcmp : ∀ i j vi vj, P i vi → P j vj → Ev prog w A.in1 View.any R (richCompare .Gt vi vj) (Is (.bool (bt i j)))) (S : Addr) (hSf : S ∉ fp) (hn : 0 < n)
    {s0 s : Shared} {c : Nat} (hR0 : Sub R s0.heap) (hS0 : s0.heap.get? S = none) (hw0 : ∀ b ∈ wr, s0.heap.get? b = none) (hR : ∀ v s', P (argBest bt (n - 1)) v → Keeps s0 s' → RR (.ok (.ret v)) s') (hst : St 0 s.heap) (k0 : Keeps s0 s) (ht : 0 < s.toks)
    (hS : s.heap.get? S = some { cls := .type "list", dict := none, data := .seq #[] c, slots := #[] }) :
    codeAny (model prog w) A (.builtin "max.loop" ⟨[.ref I, .none, .ref S], []⟩) RR s := by
  have hSw : S ∉ wr := fun h => hSf (W.sub _ h)
  have hname : (toString "max" ++ toString ".loop" : String) = "max.loop" := by decide
  refine codeAny_builtin F.entry_max_loop ?_
  rw [Around.under_plainId F.plain_max_loop _]
  show wpAny _ A.in1 (seqItems? (.ref S) >>= _) _ _ s
  refine wpAny_bind (wpAny_seqItems hS rfl ?_)
  show wpAny _ A.in1 (tryCatch (pyNext (.ref I)) _ >>= _) _ _ s
  refine wpAny_bind (wpAny_tryCatch (wpAny_more ht (W.item 0 s _ _ hn hst fun v h' tk hP hst' hk' ht' => ?_)))
  have hS' := hk' S _ hSw hS
  show wpAny _ A.in1 (updateSeq S (fun _ => #[v, v]) >>= _) _ _ _
  refine wpAny_bind ?_
  refine wpAny_updateSeq hS' rfl ?_
  rw [hname]
  refine wpAny_pure ⟨plainId_quiet F.plain_max_loop _, max_go W bt hcmp S hSf hR0 hS0 hw0 hR _ 0 _ v _ rfl hn (W.frame _ _ _ hst' fun b hbf o e => ?_) hP (keeps_upd (s := { s with heap := h', toks := tk }) (keeps_off k0 hw0 hk') hS0) ht' (Heap.get?_update_self _ hS' rfl)⟩
  exact (Heap.get?_update_other _ _ (fun h : S = b => hSf (by rw [h]; exact hbf))).trans e

theorem ev_max {l : Addr} {vs : List Value} {bt : Nat → Nat → Bool} (hh : A.handled = none) (hl : R.IsList l vs.toArray) (hn : 0 < vs.length) (hcmp : ∀ i j vi vj, vs[i]? = some vi → vs[j]? = some vj → Ev prog w A.in1 View.any R (richCompare .Gt vi vj) (Is (.bool (bt i j)))) :
    Ev prog w A V R (call (.builtin "max") [.ref l]) (fun v _ => vs[argBest bt (vs.length - 1)]? = some v) := Ev.mk fun Q E s hs hv ht hQ => by
  have hname : (toString "max" ++ toString ".loop" : String) = "max.loop" := by decide
  refine call_function_tree F.kind_max F.plain_max F.entry_max (F.args_max1 _) ?_
  show wpAny _ A.in1 (Builtin.Builtins.bindParams "max" ["key", "default"] 0 ⟨[], []⟩ >>= _) _ _ s
  refine wpAny_bind (wpAny_of_eq (show Builtin.Builtins.bindParams "max" ["key", "default"] 0 ⟨[], []⟩ = pure [none, none] from rfl) ?_)
  refine wpAny_bind (wpAny_pure ?_)
  refine wpAny_bind (wpAny_more ht ((it_list (A := A.in1) hh hl) _ _ s hs fun I fp wr St s₂ k2 W hst hw hfp _ t2 => ?_))
  refine wpAny_bind (wpAny_newObj_type ?_)
  have hSf : s₂.heap.objs.size ∉ fp := fun hm => Nat.lt_irrefl _ (hfp _ hm).2
  rw [hname]
  refine wpAny_pure ⟨plainId_quiet F.plain_max_loop _, max_first (R := R) W bt hcmp s₂.heap.objs.size hSf hn hs (fresh_off (keeps_sub k2) (Nat.le_refl _)) hw (fun v s' hP k => hQ v s' k fun g z => hP)
    (W.frame _ _ _ hst fun b _ o e => Heap.get?_push_of_some _ e) (keeps_trans k2 (keeps_mk (tk := s₂.toks) ((Sub.refl _).push _))) t2 (Heap.get?_push_size _ rfl)⟩

end

end Mine


/-! Q7 -/
namespace Mine

section
variable {w : World} {A : Around} {V : View} {K : Frag} {R : Heap} {q : Addr} {x : PySem.Str} {t : Tok}

theorem ev_str (Y : KQ K) (G : Gd K R) (rm : Room A 3) (hq : QN R q (.str x t)) : Ev prog1 w A V R (call (.type "str") [.ref q]) (Is (.str x t)) := Ev.mk fun Q E s hs hv ht hQ => by
  obtain ⟨d, od, I, _⟩ := (hq.sub hs).inst
  obtain ⟨e1, e2, ⟨⟨oc, od', sl, e3⟩, e4⟩⟩ := Y.strF
  have G1 := G.sub hs
  refine kso_call rm.in1.in1.u G1.k I e1 (by unfold isFn; rw [e2]; rfl) ?_
  refine wpAny_call (codeAny_call_def (binds := [("self", .ref q)]) rm.in1.in1.d (G1.k _ _ e3) rfl G1.lim (codeRec_of G1.k e4) rfl (BindsTo.of_eq rfl) (by decide) (locs rfl) ?_)
  intro h₀ hns hk
  have G' : Gd K h₀ := G1.sub hk
  let V : View := View.ns s.heap.objs.size (fun x => List.lookup x [(PySem.Str.ofString "self", Value.ref q)].reverse)
  have hv0 : V.p h₀ := hns
  have hn : ∀ h, V.p h → h.Ns s.heap.objs.size (fun x => List.lookup x [(PySem.Str.ofString "self", Value.ref q)].reverse) := fun h z => z
  refine wpAny_execs_cons (wpAny_Return_some ?_)
  refine (evAttr (evNameL (V := V) hn rfl rfl rfl) (fun o R1 h1 p => by cases p; exact ev_text Y (G'.sub h1).k (((hq.sub hs).sub hk).sub h1) rfl) (P := Is (.str x t))).here hv0 (Nat.succ_pos _) ?_
  intro a s2 k2 t2 p; cases p
  exact hQ _ _ (keeps_trans (keeps_mk hk) k2) upIs
end

end Mine

/-! W1 -/
namespace Mine

abbrev MS := PySem.Str → Option Value
def Frame (env : Env) (a : Addr) : Prop := a = env.locals ∨ ∃ x, env.cells.lookup x = some a
def Only (W : View) (wf : List Addr) : Prop := ∀ h h' : Heap, (∀ a ∈ wf, ∀ o, h.get? a = some o → h'.get? a = some o) → W.p h → W.p h'
def upd (m : MS) (x : PySem.Str) (v : Value) : MS := fun z => if z = x then some v else m z
/-- the view of a frame, and of what else is watched -/
def fv (env : Env) (m cm : MS) (W : View) : View := ⟨fun h => h.Ns env.locals m ∧ (∀ x c, env.cells.lookup x = some c → h.IsCell c (cm x)) ∧ W.p h, fun _ _ s h => ⟨ns_sub h.1 s, fun x c e => cell_sub (h.2.1 x c e) s, W.up _ _ s h.2.2⟩⟩

structure Apart (env : Env) : Prop where
  loc : ∀ x c, env.cells.lookup x = some c → c ≠ env.locals
  inj : ∀ x y c, env.cells.lookup x = some c → env.cells.lookup y = some c → x = y

structure FS (s₁ : Shared) (B : Heap) (env : Env) (off wf : List Addr) (W : View) (R : Heap) (m cm : MS) (s : Shared) : Prop where
  keep : Keeps s₁ s
  tok : 0 < s.toks
  sub : Sub R s.heap
  base : ∀ b o, R.get? b = some o → (B.get? b).isSome = true ∨ s₁.heap.get? b = none
  ap : Apart env
  fns : s.heap.Ns env.locals m
  cells : ∀ x c, env.cells.lookup x = some c → s.heap.IsCell c (cm x)
  offF : ∀ a, Frame env a → R.get? a = none ∧ s₁.heap.get? a = none ∧ a ∉ wf
  offW : ∀ a ∈ off, R.get? a = none ∧ s₁.heap.get? a = none ∧ (s.heap.get? a).isSome = true
  liveW : ∀ a ∈ wf, (s.heap.get? a).isSome = true
  only : Only W wf
  view : W.p s.heap

section
variable {prog : Program} {w : World} {A : Around} {s₁ s s' : Shared} {B : Heap} {env : Env} {off wf : List Addr} {W : View} {R R' : Heap} {m cm : MS}

theorem FS.vw (f : FS s₁ B env off wf W R m cm s) : (fv env m cm W).p s.heap := ⟨f.fns, f.cells, f.view⟩
theorem FS.liveF (f : FS s₁ B env off wf W R m cm s) {a : Addr} (h : Frame env a) : (s.heap.get? a).isSome = true := by
  rcases h with rfl | ⟨x, hx⟩
  · obtain ⟨o, es, ep, ho, _⟩ := f.fns; rw [ho]; rfl
  · obtain ⟨o, ho, _⟩ := f.cells x a hx; rw [ho]; rfl
theorem off_fr' {R : Heap} {s s' : Shared} {a : Addr} (hR : R.get? a = none) (hl : (s.heap.get? a).isSome = true) : (fr R s s').get? a = none := by
  cases e : (fr R s s').get? a with
  | none => rfl
  | some o =>
    rcases (fr_get.mp e).2 with q | q
    · rw [hR] at q; cases q
    · rw [q] at hl; cases hl
theorem FS.step (f : FS s₁ B env off wf W R m cm s) (k : Keeps s s') (ht : 0 < s'.toks) : FS s₁ B env off wf W (fr R s s') m cm s' where
  keep := keeps_trans f.keep k
  tok := ht
  sub := fr_sub
  base := fun b o e => by
    rcases (fr_get.mp e).2 with q | q
    · obtain ⟨o', ho'⟩ := Option.isSome_iff_exists.mp q
      exact f.base b o' ho'
    · refine .inr ?_
      cases z : s₁.heap.get? b with
      | none => rfl
      | some o' => rw [keeps_sub f.keep _ _ z] at q; cases q
  ap := f.ap
  fns := ns_sub f.fns (keeps_sub k)
  cells := fun x c e => cell_sub (f.cells x c e) (keeps_sub k)
  offF := fun a h => ⟨off_fr' (f.offF a h).1 (f.liveF h), (f.offF a h).2⟩
  offW := fun a h => ⟨off_fr' (f.offW a h).1 (f.offW a h).2.2, (f.offW a h).2.1, by obtain ⟨o, ho⟩ := Option.isSome_iff_exists.mp (f.offW a h).2.2; rw [keeps_sub k _ _ ho]; rfl⟩
  liveW := fun a h => by obtain ⟨o, ho⟩ := Option.isSome_iff_exists.mp (f.liveW a h); rw [keeps_sub k _ _ ho]; rfl
  only := f.only
  view := W.up _ _ (keeps_sub k) f.view
/-- a reading code in a frame -/
theorem FS.ev {α : Type} {t : Sem α} {P : α → Heap → Prop} {Q : α → Shared → Prop} {E : Value → Shared → Prop} (f : FS s₁ B env off wf W R m cm s) (x : Ev prog w A (fv env m cm W) R t P)
    (h : ∀ a s' R', FS s₁ B env off wf W R' m cm s' → Sub R R' → P a R' → Q a s') : wpAny (model prog w) A t Q E s :=
  x Q E s f.sub f.vw f.tok fun a s' k t p => h a s' _ (f.step k t) (sub_fr f.sub k) p.here

/-- one object of the frame or of what is watched is changed -/
theorem FS.change {a : Addr} {h' : Heap} {tk : Nat} {W' : View} {m' cm' : MS} (f : FS s₁ B env off wf W R m cm s) (hs : Heap.SameBut a s.heap h') (ha : R.get? a = none ∧ s₁.heap.get? a = none) (hal : (h'.get? a).isSome = true) (ht : 0 < tk)
    (hn : h'.Ns env.locals m') (hc : ∀ x c, env.cells.lookup x = some c → h'.IsCell c (cm' x)) (ho : Only W' wf) (hw : W'.p h') : FS s₁ B env off wf W' R m' cm' { s with heap := h', toks := tk } where
  keep := by
    obtain ⟨h, t, rfl, e⟩ := f.keep
    exact ⟨h', tk, rfl, fun b o q => (hs.2 b (fun z => by rw [z, ha.2] at q; cases q)).trans (e b o q)⟩
  tok := ht
  sub := fun b o q => (hs.2 b (fun z => by rw [z, ha.1] at q; cases q)).trans (f.sub b o q)
  base := f.base
  ap := f.ap
  fns := hn
  cells := hc
  offF := f.offF
  offW := fun b h => ⟨(f.offW b h).1, (f.offW b h).2.1, by
    by_cases e : b = a
    · rw [e]; exact hal
    · show (h'.get? b).isSome = true; rw [hs.2 b e]; exact (f.offW b h).2.2⟩
  liveW := fun b h => by
    by_cases e : b = a
    · rw [e]; exact hal
    · show (h'.get? b).isSome = true; rw [hs.2 b e]; exact f.liveW b h
  only := ho
  view := hw
theorem ns_live {h : Heap} {a : Addr} {m : MS} (x : h.Ns a m) : (h.get? a).isSome = true := by obtain ⟨o, es, ep, ho, _⟩ := x; rw [ho]; rfl
theorem cell_live {h : Heap} {a : Addr} {v : Option Value} (x : h.IsCell a v) : (h.get? a).isSome = true := by obtain ⟨o, ho, _⟩ := x; rw [ho]; rfl
theorem cell_at {h h' : Heap} {c : Addr} {v : Option Value} (x : h.IsCell c v) (e : ∀ o, h.get? c = some o → h'.get? c = some o) : h'.IsCell c v := let ⟨o, ho, r⟩ := x; ⟨o, e _ ho, r⟩

theorem FS.storeL {x : PySem.Str} {v : Value} {Q : Unit → Shared → Prop} {E : Value → Shared → Prop} (f : FS s₁ B env off wf W R m cm s) (hl : env.kindOf x = some .local)
    (h : ∀ s', FS s₁ B env off wf W R (upd m x v) cm s' → Q () s')
    (hp : (env.scope.kind == .class || (env.scope.kind == .module && env.locals != env.globals)) = false := by rfl) : wpAny (model prog w) A (storeName env x v) Q E s := by
  refine wpAny_storeName_local hl f.fns (fun h' hn hs => h _ ?_) hp
  have hF : Frame env env.locals := .inl rfl
  refine f.change hs ⟨(f.offF _ hF).1, (f.offF _ hF).2.1⟩ (ns_live hn) (Nat.succ_pos _) hn (fun y c e => cell_at (f.cells y c e) fun o q => (hs.2 c (f.ap.loc y c e)).trans q) f.only ?_
  exact f.only _ _ (fun a ha o q => (hs.2 a (fun z => (f.offF _ hF).2.2 (z ▸ ha))).trans q) f.view
theorem FS.storeC {x : PySem.Str} {v : Value} {c : Addr} {Q : Unit → Shared → Prop} {E : Value → Shared → Prop} (f : FS s₁ B env off wf W R m cm s) (hk : env.scope.kind = .function) (hl : env.kindOf x = some .cell) (hc : env.cells.lookup x = some c)
    (h : ∀ s', FS s₁ B env off wf W R m (upd cm x v) s' → Q () s') : wpAny (model prog w) A (storeName env x v) Q E s := by
  refine wpAny_storeName_cell hk hl hc (f.cells x c hc) fun h' hv hs => h _ ?_
  have hF : Frame env c := .inr ⟨x, hc⟩
  refine f.change (tk := s.toks) hs ⟨(f.offF _ hF).1, (f.offF _ hF).2.1⟩ (cell_live hv) f.tok (f.fns.sameBut hs (f.ap.loc x c hc).symm) (fun y d e => ?_) f.only ?_
  · by_cases hy : y = x
    · subst hy
      rw [hc] at e; cases e
      simp only [upd, if_true]; exact hv
    · simp only [upd, if_neg hy]
      exact cell_at (f.cells y d e) fun o q => (hs.2 d (fun z => hy (f.ap.inj y x c (z ▸ e) hc))).trans q
  · exact f.only _ _ (fun a ha o q => (hs.2 a (fun z => (f.offF _ hF).2.2 (z ▸ ha))).trans q) f.view

/-- `x = e` -/
theorem FS.assignL {x : PySem.Str} {px pos : Pos} {e : Expr} {P : Value → Heap → Prop} {Q : Flow → Shared → Prop} {E : Value → Shared → Prop} (f : FS s₁ B env off wf W R m cm s) (x1 : Ev prog w A (fv env m cm W) R (eval e env) P) (hl : env.kindOf x = some .local)
    (h : ∀ v s' R', FS s₁ B env off wf W R' (upd m x v) cm s' → Sub R R' → P v R' → Q .next s')
    (hp : (env.scope.kind == .class || (env.scope.kind == .module && env.locals != env.globals)) = false := by rfl) (hs : swapsWith e (some (.Name x px)) pos.line env = pure false := by rfl) :
    wpAny (model prog w) A (exec (.Assign [.Name x px] e pos) env) Q E s :=
  wpAny_Assign_Name (f.ev x1 fun v s' R' f' hR p => f'.storeL hl (fun s'' f'' => h v s'' R' f'' hR p) hp) hs
theorem FS.assignC {x : PySem.Str} {px pos : Pos} {e : Expr} {c : Addr} {P : Value → Heap → Prop} {Q : Flow → Shared → Prop} {E : Value → Shared → Prop} (f : FS s₁ B env off wf W R m cm s) (x1 : Ev prog w A (fv env m cm W) R (eval e env) P) (hk : env.scope.kind = .function) (hl : env.kindOf x = some .cell) (hc : env.cells.lookup x = some c)
    (h : ∀ v s' R', FS s₁ B env off wf W R' m (upd cm x v) s' → Sub R R' → P v R' → Q .next s') (hs : swapsWith e (some (.Name x px)) pos.line env = pure false := by rfl) :
    wpAny (model prog w) A (exec (.Assign [.Name x px] e pos) env) Q E s :=
  wpAny_Assign_Name (f.ev x1 fun v s' R' f' hR p => f'.storeC hk hl hc fun s'' f'' => h v s'' R' f'' hR p) hs
/-- a test -/
theorem FS.test {t : Expr} {bd el : List Stmt} {pos : Pos} {b : Bool} {Q : Flow → Shared → Prop} {E : Value → Shared → Prop} (f : FS s₁ B env off wf W R m cm s) (x : Ev prog w A (fv env m cm W) R (isTrue t env (eval t env)) (Is b))
    (h : ∀ s' R', FS s₁ B env off wf W R' m cm s' → Sub R R' → wpAny (model prog w) A (if b then execs bd env else execs el env) Q E s') : wpAny (model prog w) A (exec (.If t bd el pos) env) Q E s :=
  wpAny_If (f.ev x fun a s' R' f' hR p => by
    cases p
    have := h s' R' f' hR
    cases b with
    | true => exact this
    | false => exact this)
end

/-! ## loops -/
def View.st {prog : Program} {w : World} {A : Around} {I : Addr} {fp wr : List Addr} {n : Nat} {P : Nat → Value → Prop} {St : Nat → Heap → Prop} (W : Walks prog w A I fp wr n P St) (i : Nat) : View := ⟨St i, fun h h' s x => W.frame i h h' x fun b _ o e => s _ _ e⟩
theorem only_and {V W : View} {a b : List Addr} (x : Only V a) (y : Only W b) : Only (V.and W) (b ++ a) := fun h h' k p => ⟨x h h' (fun q hq => k q (List.mem_append_right _ hq)) p.1, y h h' (fun q hq => k q (List.mem_append_left _ hq)) p.2⟩

section
variable {prog : Program} {w : World} {A : Around} {s₁ : Shared} {B : Heap} {env : Env} {off wf : List Addr} {R0 : Heap}

theorem for_core {ι : Type} {W : ι → View} {J : Nat → ι → Heap → MS → MS → Prop} {T : Value → MS → MS → MS → MS → Prop} {target : Expr} {body : List Stmt} {I : Addr} {fp wr : List Addr} {n : Nat} {P : Nat → Value → Prop} {St : Nat → Heap → Prop} {RR : Result → Shared → Prop}
    (Wk : Walks prog w A I fp wr n P St) (hal : ∀ i h, St i h → ∀ b ∈ fp, (h.get? b).isSome = true)
    (hgo : ∀ i v (s : Shared) (Q : Unit → Shared → Prop) (E : Value → Shared → Prop), St (i + 1) s.heap → P i v → Q () s → wpAny (model prog w) A (letOwnedTupleGo target (.ref I) v) Q E s)
    (hW : ∀ z, Only (W z) wf) (hfpF : ∀ a, Frame env a → a ∉ fp) (hfpO : ∀ a ∈ off, a ∉ fp) (hfpW : ∀ a ∈ wf, a ∉ wr)
    (hasg : ∀ off' wf' W' R m cm s i v, FS s₁ B env off' wf' W' R m cm s → Sub R0 R → P i v → ∀ (Q : Unit → Shared → Prop) (E : Value → Shared → Prop), (∀ s' R' m' cm', FS s₁ B env off' wf' W' R' m' cm' s' → Sub R R' → T v m m' cm cm' → Q () s') → wpAny (model prog w) A (assign target env v) Q E s)
    (hJ : ∀ i z R R' m cm, Sub R R' → J i z R m cm → J i z R' m cm)
    (hbody : ∀ Wx offx fpx z i v R m0 cm0 m cm s, i < n → P i v → J i z R m0 cm0 → T v m0 m cm0 cm → Sub R0 R → Only Wx fpx → (∀ a ∈ off, a ∉ fpx) → FS s₁ B env (offx ++ off) (fpx ++ wf) ((W z).and Wx) R m cm s →
      ∀ (Q : Flow → Shared → Prop) (E : Value → Shared → Prop), (∀ s' z' R' m' cm', FS s₁ B env (offx ++ off) (fpx ++ wf) ((W z').and Wx) R' m' cm' s' → Sub R R' → J (i + 1) z' R' m' cm' → Q .next s') → wpAny (model prog w) A (execs body env) Q E s)
    (hdone : ∀ z R m cm s, FS s₁ B env off wf (W z) R m cm s → Sub R0 R → J n z R m cm → RR (.ok .next) s)
    {z0 : ι} {m0 cm0 : MS} {s : Shared} (f0 : FS s₁ B env off wf (W z0) R0 m0 cm0 s) (hst : St 0 s.heap) (hwr : ∀ b ∈ wr, R0.get? b = none ∧ s₁.heap.get? b = none) (h0 : J 0 z0 R0 m0 cm0) :
    codeAny (model prog w) A (.forLoop target (.ref I) body [] env) RR s := by
  have hwF : ∀ a, Frame env a → a ∉ wr := fun a h q => hfpF a h (Wk.sub a q)
  have hwO : ∀ a ∈ off, a ∉ wr := fun a h q => hfpO a h (Wk.sub a q)
  have oSt : ∀ i, Only (View.st Wk i) fp := fun i h h' k p => Wk.frame i h h' p fun b hb o e => k b hb o e
  refine codeAny_forLoop_any (fun k s => ∃ i z R m cm, k = n - i ∧ i ≤ n ∧ FS s₁ B env (wr ++ off) (fp ++ wf) ((W z).and (View.st Wk i)) R m cm s ∧ Sub R0 R ∧ J i z R m cm) ?turn n ⟨0, z0, R0, m0, cm0, rfl, Nat.zero_le _, ?start, Sub.refl _, h0⟩
  case start =>
    exact { f0 with
      offF := fun a h => ⟨(f0.offF a h).1, (f0.offF a h).2.1, fun q => (List.mem_append.mp q).elim (hfpF a h) (f0.offF a h).2.2⟩
      offW := fun a h => (List.mem_append.mp h).elim (fun q => ⟨(hwr a q).1, (hwr a q).2, hal 0 _ hst a (Wk.sub a q)⟩) (f0.offW a)
      liveW := fun a h => (List.mem_append.mp h).elim (fun q => hal 0 _ hst a q) (f0.liveW a)
      only := only_and (hW z0) (oSt 0)
      view := ⟨f0.view, hst⟩ }
  case turn =>
    rintro k s ⟨i, z, R, m, cm, rfl, hi, f, hR, hj⟩
    -- what a step of the walk leaves
    have next : ∀ (h' : Heap) (tk : Nat) (i' : Nat), 0 < tk → St i' h' → (∀ b o, b ∉ wr → s.heap.get? b = some o → h'.get? b = some o) → FS s₁ B env (wr ++ off) (fp ++ wf) ((W z).and (View.st Wk i')) R m cm { s with heap := h', toks := tk } := fun h' tk i' ht hst' hk =>
      { keep := by
          obtain ⟨h, t, rfl, e⟩ := f.keep
          exact ⟨h', tk, rfl, fun b o q => hk b o (fun hb => by rw [(f.offW b (List.mem_append_left _ hb)).2.1] at q; cases q) (e b o q)⟩
        tok := ht
        sub := fun b o q => hk b o (fun hb => by rw [(f.offW b (List.mem_append_left _ hb)).1] at q; cases q) (f.sub b o q)
        base := f.base
        ap := f.ap
        fns := Heap.Ns.at' f.fns fun o q => hk _ o (hwF _ (.inl rfl)) q
        cells := fun x c e => cell_at (f.cells x c e) fun o q => hk _ o (hwF _ (.inr ⟨x, e⟩)) q
        offF := f.offF
        offW := fun a h => ⟨(f.offW a h).1, (f.offW a h).2.1, by
          by_cases hb : a ∈ wr
          · exact hal i' h' hst' a (Wk.sub a hb)
          · obtain ⟨o, ho⟩ := Option.isSome_iff_exists.mp (f.offW a h).2.2
            show (h'.get? a).isSome = true
            rw [hk a o hb ho]; rfl⟩
        liveW := fun a h => by
          by_cases hb : a ∈ wr
          · exact hal i' h' hst' a (Wk.sub a hb)
          · obtain ⟨o, ho⟩ := Option.isSome_iff_exists.mp (f.liveW a h)
            show (h'.get? a).isSome = true
            rw [hk a o hb ho]; rfl
        only := only_and (hW z) (oSt i')
        view := ⟨hW z _ _ (fun a ha o q => hk a o (hfpW a ha) q) f.view.1, hst'⟩ }
    by_cases hlt : i < n
    · refine wpAny_pos f.tok (Wk.item i s _ _ hlt f.view.2 fun v h' tk hP hst' hk ht => ?_)
      dsimp only
      have f1 := next h' tk (i + 1) ht hst' hk
      refine hgo i v _ _ _ hst' hP ?_
      refine hasg _ _ _ R m cm _ i v f1 hR hP _ _ fun s' R' m' cm' f2 hR' hT => ?_
      refine hbody (View.st Wk (i + 1)) wr fp z i v R' m cm m' cm' s' hlt hP (hJ _ _ _ _ _ _ hR' hj) hT (hR.trans hR') (oSt _) hfpO f2 _ _ fun s'' z' R'' m'' cm'' f3 hR'' hj' => ?_
      exact ⟨n - (i + 1), by omega, i + 1, z', R'', m'', cm'', rfl, hlt, f3, (hR.trans hR').trans hR'', hj'⟩
    · obtain rfl : i = n := by omega
      refine wpAny_pos f.tok (Wk.done s _ _ f.view.2 fun h' tk hk ht => ?_)
      dsimp only
      refine wpAny_execs_nil ?_
      refine hdone z R m cm _ ?_ hR hj
      exact
        { keep := by
            obtain ⟨h, t, rfl, e⟩ := f.keep
            exact ⟨h', tk, rfl, fun b o q => hk b o (fun hb => by rw [(f.offW b (List.mem_append_left _ hb)).2.1] at q; cases q) (e b o q)⟩
          tok := ht
          sub := fun b o q => hk b o (fun hb => by rw [(f.offW b (List.mem_append_left _ hb)).1] at q; cases q) (f.sub b o q)
          base := f.base
          ap := f.ap
          fns := Heap.Ns.at' f.fns fun o q => hk _ o (hwF _ (.inl rfl)) q
          cells := fun x c e => cell_at (f.cells x c e) fun o q => hk _ o (hwF _ (.inr ⟨x, e⟩)) q
          offF := fun a h => ⟨(f.offF a h).1, (f.offF a h).2.1, fun q => (f.offF a h).2.2 (List.mem_append_right _ q)⟩
          offW := fun a h => ⟨(f.offW a (List.mem_append_right _ h)).1, (f.offW a (List.mem_append_right _ h)).2.1, by
            obtain ⟨o, ho⟩ := Option.isSome_iff_exists.mp (f.offW a (List.mem_append_right _ h)).2.2
            show (h'.get? a).isSome = true
            rw [hk a o (hwO a h) ho]; rfl⟩
          liveW := fun a h => by
            obtain ⟨o, ho⟩ := Option.isSome_iff_exists.mp (f.liveW a (List.mem_append_right _ h))
            show (h'.get? a).isSome = true
            rw [hk a o (hfpW a h) ho]; rfl
          only := hW z
          view := hW z _ _ (fun a ha o q => hk a o (hfpW a ha) q) f.view.1 }
end

end Mine

/-! W2 -/
namespace Mine

section
variable {prog : Program} {w : World} {A : Around} {s₁ s s' : Shared} {B : Heap} {env : Env} {off wf : List Addr} {W : View} {R R' : Heap} {m cm m' cm' : MS}

theorem FS.weaken (f : FS s₁ B env off wf W R' m cm s) (h : Sub R R') : FS s₁ B env off wf W R m cm s :=
  have q : ∀ a, R'.get? a = none → R.get? a = none := fun a e => by
    cases z : R.get? a with
    | none => rfl
    | some o => rw [h _ _ z] at e; cases e
  { f with
    sub := h.trans f.sub
    base := fun b o e => f.base b o (h _ _ e)
    offF := fun a z => ⟨q a (f.offF a z).1, (f.offF a z).2⟩
    offW := fun a z => ⟨q a (f.offW a z).1, (f.offW a z).2⟩ }
theorem FS.grow (f : FS s₁ B env off wf W R m cm s) (k : Keeps s s') (ht : 0 < s'.toks) : FS s₁ B env off wf W R m cm s' := (f.step k ht).weaken (sub_fr f.sub k)

/-- at the end of a call: what is known of the region is known of what was given and what was made -/
theorem FS.out (f : FS s₁ B env off wf W R m cm s) : Sub R (fr B s₁ s) := fun b o e => fr_get.mpr ⟨f.sub _ _ e, f.base b o e⟩
theorem Ev.whole {α : Type} {V : View} {t : Sem α} {P0 : α → Prop} (h : ∀ g, Sub R g → V.p g → Ev prog w A V g t (fun a _ => P0 a)) : Ev prog w A V R t (fun a _ => P0 a) :=
  fun Q E s hs hv ht hq => h s.heap hs hv Q E s (Sub.refl _) hv ht fun a s' k t' p => hq a s' k t' fun g z => p.here
theorem FS.newList {x : PySem.Str} {px lp pos : Pos} {Q : Flow → Shared → Prop} {E : Value → Shared → Prop} (f : FS s₁ B env off wf W R m cm s) (hl : env.kindOf x = some .local)
    (h : ∀ D s', ¬ Frame env D → D ∉ off → D ∉ wf → FS s₁ B env (D :: off) (D :: wf) (W.and ⟨fun h => h.PlainList D ([] : List Value).toArray, fun _ _ s z => let ⟨n, q⟩ := z; ⟨n, s _ _ q⟩⟩) R (upd m x (.ref D)) cm s' → Q .next s')
    (hp : (env.scope.kind == .class || (env.scope.kind == .module && env.locals != env.globals)) = false := by rfl) (hs : swapsWith (.List [] lp) (some (.Name x px)) pos.line env = pure false := by rfl) :
    wpAny (model prog w) A (exec (.Assign [.Name x px] (.List [] lp) pos) env) Q E s := by
  refine wpAny_Assign_Name (wpAny_List (wpAny_items_nil ⟨Nat.zero_le _, ?_⟩)) hs
  have k : Keeps s { s with heap := s.heap.push { cls := .type "list", data := .seq ([] : List Value).toArray } } := keeps_mk (tk := s.toks) ((Sub.refl _).push _)
  have hD : s.heap.get? s.heap.objs.size = none := fresh_none _ (Nat.le_refl _)
  have hDn : (s.heap.push { cls := .type "list", data := .seq ([] : List Value).toArray }).get? s.heap.objs.size = some { cls := .type "list", data := .seq ([] : List Value).toArray } := Heap.get?_push_size _ rfl
  have nF : ¬ Frame env s.heap.objs.size := fun z => by have := f.liveF z; rw [hD] at this; cases this
  have nO : s.heap.objs.size ∉ off := fun z => by have := (f.offW _ z).2.2; rw [hD] at this; cases this
  have nW : s.heap.objs.size ∉ wf := fun z => by have := f.liveW _ z; rw [hD] at this; cases this
  have f1 := f.grow k f.tok
  have f2 : FS s₁ B env (s.heap.objs.size :: off) (s.heap.objs.size :: wf) (W.and ⟨fun h => h.PlainList s.heap.objs.size ([] : List Value).toArray, fun _ _ s z => let ⟨n, q⟩ := z; ⟨n, s _ _ q⟩⟩) R m cm { s with heap := s.heap.push { cls := .type "list", data := .seq ([] : List Value).toArray } } :=
    { f1 with
      offF := fun a z => ⟨(f1.offF a z).1, (f1.offF a z).2.1, fun q => (List.mem_cons.mp q).elim (fun e => nF (e ▸ z)) (f1.offF a z).2.2⟩
      offW := fun a z => (List.mem_cons.mp z).elim (fun e => by
        subst e
        refine ⟨fresh_off f.sub (Nat.le_refl _), fresh_off (keeps_sub f.keep) (Nat.le_refl _), ?_⟩
        rw [hDn]; rfl) (f1.offW a)
      liveW := fun a z => (List.mem_cons.mp z).elim (fun e => by rw [e, hDn]; rfl) (f1.liveW a)
      only := fun h h' q z => ⟨f1.only h h' (fun a ha => q a (.tail _ ha)) z.1, by obtain ⟨n, e⟩ := z.2; exact ⟨n, q _ (.head _) _ e⟩⟩
      view := ⟨f1.view, ⟨0, hDn⟩⟩ }
  exact f2.storeL hl (fun s3 f3 => h _ s3 nF nO nW f3) hp

/-- storing in a frame: a plain variable or a cell -/
inductive Sto (env : Env) (x : PySem.Str) (v : Value) (m cm : MS) : MS → MS → Prop
  | l (hl : env.kindOf x = some .local) : Sto env x v m cm (upd m x v) cm
  | c {a : Addr} (hl : env.kindOf x = some .cell) (hc : env.cells.lookup x = some a) : Sto env x v m cm m (upd cm x v)
theorem FS.sto {x : PySem.Str} {v : Value} {Q : Unit → Shared → Prop} {E : Value → Shared → Prop} (f : FS s₁ B env off wf W R m cm s) (hk : env.scope.kind = .function) (t : Sto env x v m cm m' cm') (h : ∀ s', FS s₁ B env off wf W R m' cm' s' → Q () s') :
    wpAny (model prog w) A (storeName env x v) Q E s := by
  cases t with
  | l hl => exact f.storeL hl h (by rw [hk]; rfl)
  | c hl hc => exact f.storeC hk hl hc h
theorem FS.bindN {x : PySem.Str} {px : Pos} {v : Value} {Q : Unit → Shared → Prop} {E : Value → Shared → Prop} (f : FS s₁ B env off wf W R m cm s) (hk : env.scope.kind = .function) (t : Sto env x v m cm m' cm') (h : ∀ s', FS s₁ B env off wf W R m' cm' s' → Q () s') :
    wpAny (model prog w) A (assign (.Name x px) env v) Q E s := wpAny_assign_Name (f.sto hk t h)

theorem keeps_ext {s : Shared} {h' : Heap} (e : Heap.ExtBut s.heap.objs.size s.heap h') : Keeps s { s with heap := h' } := keeps_mk (tk := s.toks) fun b o q => e b o (Nat.ne_of_lt (Heap.lt_size q)) q
theorem isTuple_sub {h h' : Heap} {t : Addr} {xs : Array Value} (x : h.IsTuple t xs) (s : Sub h h') : h'.IsTuple t xs := let ⟨o, ho, r⟩ := x; ⟨o, s _ _ ho, r⟩
/-- a pair taken apart -/
theorem FS.pair {x y : PySem.Str} {px py tp : Pos} {k : Nat} {t : Addr} {a b : Value} {m2 cm2 : MS} {Q : Unit → Shared → Prop} {E : Value → Shared → Prop} (f : FS s₁ B env off wf W R m cm s) (hk : env.scope.kind = .function) (hh : A.handled = none) (ht : R.IsTuple t #[a, b])
    (t1 : Sto env x a m cm m' cm') (t2 : Sto env y b m' cm' m2 cm2) (h : ∀ s' R', FS s₁ B env off wf W R' m2 cm2 s' → Sub R R' → Q () s') :
    wpAny (model prog w) A (assign (.Tuple [.Name x px, .Name y py] k tp) env (.ref t)) Q E s := by
  refine wpAny_assign_Tuple hh (isTuple_sub ht f.sub) rfl rfl fun h' e => ?_
  have f1 := f.step (keeps_ext e) f.tok
  show wpAny _ _ (assignInOrder [assign (.Name x px) env, assign (.Name y py) env] [a, b]) _ _ _
  refine wpAny_assignInOrder_more (f1.bindN hk t1 fun s2 f2 => wpAny_assignInOrder_more (f2.bindN hk t2 fun s3 f3 => wpAny_assignInOrder_none (h s3 _ f3 (sub_fr f.sub (keeps_ext e)))))
theorem FS.pairSwapped {x y : PySem.Str} {t : Addr} {a b : Value} {m2 cm2 : MS} {Q : Unit → Shared → Prop} {E : Value → Shared → Prop} (f : FS s₁ B env off wf W R m cm s) (hk : env.scope.kind = .function) (hh : A.handled = none) (ht : R.IsTuple t #[a, b])
    (t1 : Sto env y b m cm m' cm') (t2 : Sto env x a m' cm' m2 cm2) (h : ∀ s' R', FS s₁ B env off wf W R' m2 cm2 s' → Sub R R' → Q () s') :
    wpAny (model prog w) A (unpackItems (.ref t) 2 none) (fun items s₂ => wpAny (model prog w) A (assignInOrder ([x, y].reverse.map fun n => bindName env n) items.reverse) Q E s₂) E s := by
  refine wpAny_unpackItems_tuple (items := #[a, b]) (t := t) (Q := fun items s₂ => wpAny (model prog w) A (assignInOrder ([x, y].reverse.map fun n => bindName env n) items.reverse) Q E s₂) hh (isTuple_sub ht f.sub) fun h' e => ?_
  have f1 := f.step (keeps_ext e) f.tok
  show wpAny _ _ (assignInOrder [bindName env y, bindName env x] [b, a]) _ _ _
  refine wpAny_assignInOrder_more (wpAny_bindName (f1.sto hk t1 fun s2 f2 => wpAny_assignInOrder_more (wpAny_bindName (f2.sto hk t2 fun s3 f3 => wpAny_assignInOrder_none (h s3 _ f3 (sub_fr f.sub (keeps_ext e)))))))

/-- a list grows -/
theorem FS.append {lst : PySem.Str} {elt : Expr} {p1 apos cpos epos : Pos} {D : Addr} {xs : List Value} {P : Value → Heap → Prop} {Q : Flow → Shared → Prop} {E : Value → Shared → Prop} {W' : Value → View} (f : FS s₁ B env off wf W R m cm s) (hD : D ∈ off) (hnF : ¬ Frame env D)
    (hk : env.scope.kind = .function) (hl : env.kindOf lst = some .local) (hm : m lst = some (.ref D)) (hz : xs.length ≤ sizeLine) (hpl : ∀ h, W.p h → h.PlainList D xs.toArray)
    (hW : ∀ v, Only (W' v) wf) (hW' : ∀ v h h', W.p h → Heap.SameBut D h h' → h'.PlainList D (xs ++ [v]).toArray → (W' v).p h')
    (x : Ev prog w A (fv env m cm W) R (eval elt env) P) (h : ∀ v s' R', FS s₁ B env off wf (W' v) R' m cm s' → Sub R R' → P v R' → Q .next s')
    (hd : (lst == ("__debug__" : PySem.Str)) = false := by decide)
    (hbase : attributeBase (.Name lst p1) "append" env (eval (.Name lst p1) env) = eval (.Name lst p1) env := by rfl)
    (hfew : ((backTo cpos (starEach [elt] env)).all (fun x => !x.1) && (backToKw cpos (keywordEach [] env)).all (fun x => x.1.isSome)
      && decide (([elt] : List Expr).length + ([] : List Keyword).length + (if ([] : List Keyword).isEmpty then 0 else 1) < 30)) = true := by rfl)
    (hline : (apos.endLine == cpos.line) = true := by rfl) (htrees : backTo cpos (starEach [elt] env) = [(false, eval elt env)] := by rfl) (hi : interactive env = false := by rfl) (hsw : swapsWith (.Call (.Attribute (.Name lst p1) "append" apos) [elt] [] cpos) none epos.line env = pure false := by rfl) :
    wpAny (model prog w) A (exec (.Expr (.Call (.Attribute (.Name lst p1) "append" apos) [elt] [] cpos) epos) env) Q E s := by
  refine wpAny_Expr ?_ hi hsw
  refine wpAny_Call_append hbase hfew hline htrees ?_
  refine wpAny_Name (wpAny_loadName_local hk hl f.fns hm ?_) hd
  obtain ⟨n, ho⟩ := hpl _ f.view
  refine ⟨D, _, rfl, ⟨_, n, ho, rfl, rfl, rfl⟩, ?_⟩
  refine f.ev x fun v s2 R2 f2 hR2 p => ?_
  obtain ⟨n2, ho2⟩ := hpl _ f2.view
  refine append_at ho2 (fun h' hs ho' => ?_) (by simpa using hz)
  have hpl' : h'.PlainList D (xs ++ [v]).toArray := ⟨n2 + 1, by rw [ho']; simp⟩
  have hFs : ∀ a, Frame env a → a ≠ D := fun a ha z => hnF (z ▸ ha)
  refine h v _ R2 (f2.change (tk := s2.toks) hs ⟨(f2.offW D hD).1, (f2.offW D hD).2.1⟩ (by rw [ho']; rfl) f2.tok (f2.fns.sameBut hs (hFs _ (.inl rfl))) (fun y c e => cell_at (f2.cells y c e) fun o q => (hs.2 c (hFs _ (.inr ⟨y, e⟩))).trans q) (hW v) (hW' v _ _ f2.view hs hpl')) hR2 p

theorem FS.forIter {ι : Type} {W : ι → View} {J : Nat → ι → Heap → MS → MS → Prop} {T : Value → MS → MS → MS → MS → Prop} {target iter : Expr} {body : List Stmt} {pos : Pos} {n : Nat} {P : Nat → Value → Prop} {PX : Value → Heap → Prop} {Q : Flow → Shared → Prop} {E : Value → Shared → Prop} {z0 : ι} {R0 : Heap} {m0 cm0 : MS}
    (f0 : FS s₁ B env off wf (W z0) R0 m0 cm0 s) (hit : Ev prog w A (fv env m0 cm0 (W z0)) R0 (eval iter env) PX) (hI : ∀ xv R1, Sub R0 R1 → PX xv R1 → Iters prog w A R1 xv n P)
    (hW : ∀ z, Only (W z) wf)
    (hasg : ∀ off' wf' W' R m cm s i v, FS s₁ B env off' wf' W' R m cm s → Sub R0 R → P i v → ∀ (Q : Unit → Shared → Prop) (E : Value → Shared → Prop), (∀ s' R' m' cm', FS s₁ B env off' wf' W' R' m' cm' s' → Sub R R' → T v m m' cm cm' → Q () s') → wpAny (model prog w) A (assign target env v) Q E s)
    (hJ : ∀ i z R R' m cm, Sub R R' → J i z R m cm → J i z R' m cm) (h0 : J 0 z0 R0 m0 cm0)
    (hbody : ∀ Wx offx fpx z i v R ma cma m cm s, i < n → P i v → J i z R ma cma → T v ma m cma cm → Sub R0 R → Only Wx fpx → (∀ a ∈ off, a ∉ fpx) → FS s₁ B env (offx ++ off) (fpx ++ wf) ((W z).and Wx) R m cm s →
      ∀ (Q : Flow → Shared → Prop) (E : Value → Shared → Prop), (∀ s' z' R' m' cm', FS s₁ B env (offx ++ off) (fpx ++ wf) ((W z').and Wx) R' m' cm' s' → Sub R R' → J (i + 1) z' R' m' cm' → Q .next s') → wpAny (model prog w) A (execs body env) Q E s)
    (hdone : ∀ z R m cm s, FS s₁ B env off wf (W z) R m cm s → Sub R0 R → J n z R m cm → Q .next s)
    (hgo : ∀ it v, letOwnedTupleGo target it v = pure () := by intro _ _; rfl) (hs : ∀ x, foldedSetIterable iter env x = pure x := by intro _; rfl) :
    wpAny (model prog w) A (exec (.For target iter body [] pos) env) Q E s := by
  refine wpAny_For (f0.ev hit fun xv sa R1 f1 hR1 p => ?_) hs
  refine wpAny_pos f1.tok (hI xv R1 hR1 p _ _ sa f1.sub fun I fp wr St s2 k2 Wk hst hwr hfp hal ht => ?_)
  have nofp : ∀ a, R1.get? a = none → (sa.heap.get? a).isSome = true → a ∉ fp := fun a h1 h2 hm => by
    rcases (hfp a hm).1 with q | q
    · rw [h1] at q; cases q
    · rw [q] at h2; cases h2
  refine for_core (R0 := R1) (J := J) (T := T) Wk hal (fun i v s Q E _ _ hq => wpAny_of_eq (hgo _ _) hq) hW (fun a h => nofp a (f1.offF a h).1 (f1.liveF h)) (fun a h => nofp a (f1.offW a h).1 (f1.offW a h).2.2)
    (fun a h hm => by have := f1.liveW a h; rw [hwr a hm] at this; cases this)
    (fun off' wf' W' R m cm s i v f hR => hasg off' wf' W' R m cm s i v f (hR1.trans hR)) hJ
    (fun Wx offx fpx z i v R ma cma m cm s hi hP hj hT hR => hbody Wx offx fpx z i v R ma cma m cm s hi hP hj hT (hR1.trans hR))
    (fun z R m cm s f hR hj => hdone z R m cm s f (hR1.trans hR) hj) (f1.grow k2 ht) hst (fun b hb => ⟨?_, none_of_keeps f1.keep (hwr b hb)⟩) (hJ _ _ _ _ _ _ hR1 h0)
  cases e : R1.get? b with
  | none => rfl
  | some o => have := hwr b hb; rw [f1.sub _ _ e] at this; cases this
end

end Mine

/-! R1 -/
namespace Mine

def rowD : Stmt := defIn "_law_row" prog1.main.body
def rowFd : FuncData := fdOf rowD "_law_row" "_law_row" .none (.str "law_dn0281_01" 280) (.ref 98)
structure KL (K : Frag) : Prop where
  rowN : nsIn K mainGlobals "_law_row" = some (some (.ref 99))
  rowK : keepIn K (.ref 99) = true
  rowF : FnK K 99 rowFd
def rowEnv (L : Addr) : Env := callEnv rowFd L 99

def StrOf (x : PySem.Str) (v : Value) : Prop := ∃ t, v = .str x t ∧ 0 < t
def PLv (D : Addr) (xs : List Value) : View := ⟨fun h => h.PlainList D xs.toArray, fun _ _ s z => let ⟨n, q⟩ := z; ⟨n, s _ _ q⟩⟩
def Wr (dr dh : Addr) (z : List Value × List Value) : View := (View.any.and (PLv dr z.1)).and (PLv dh z.2)
theorem only_Wr {dr dh : Addr} (z : List Value × List Value) : Only (Wr dr dh z) [dh, dr] := fun h h' q p =>
  ⟨⟨trivial, let ⟨n, e⟩ := p.1.2; ⟨n, q dr (by simp) _ e⟩⟩, let ⟨n, e⟩ := p.2; ⟨n, q dh (by simp) _ e⟩⟩
theorem plain_same {D a : Addr} {xs : Array Value} {h h' : Heap} (x : h.PlainList D xs) (hs : Heap.SameBut a h h') (hne : D ≠ a) : h'.PlainList D xs := let ⟨n, e⟩ := x; ⟨n, (hs.2 D hne).trans e⟩

section
variable {w : World} {A : Around} {s₁ s : Shared} {B R : Heap} {L dr dh : Addr} {offx fpx : List Addr} {Wx : View} {m cm : MS} {z : List Value × List Value} {P : Value → Heap → Prop} {Q : Flow → Shared → Prop} {E : Value → Shared → Prop}

theorem frame_row {a : Addr} : Frame (rowEnv L) a ↔ a = L := by
  constructor
  · rintro (h | ⟨x, h⟩)
    · exact h
    · exact absurd h (by show ¬ (List.lookup x [] = some a); simp)
  · intro h; exact .inl h

theorem row_appH {elt : Expr} {p1 apos cpos epos : Pos} (f : FS s₁ B (rowEnv L) (offx ++ [dh, dr]) (fpx ++ [dh, dr]) ((Wr dr dh z).and Wx) R m cm s) (hne : dr ≠ dh) (nF : dh ≠ L) (hx : Only Wx fpx) (hoff : ∀ a ∈ [dh, dr], a ∉ fpx)
    (hm : m "held" = some (.ref dh)) (hz : z.2.length ≤ sizeLine) (x : Ev prog1 w A (fv (rowEnv L) m cm ((Wr dr dh z).and Wx)) R (eval elt (rowEnv L)) P)
    (h : ∀ v s' R', FS s₁ B (rowEnv L) (offx ++ [dh, dr]) (fpx ++ [dh, dr]) ((Wr dr dh (z.1, z.2 ++ [v])).and Wx) R' m cm s' → Sub R R' → P v R' → Q .next s')
    (hfew : ((backTo cpos (starEach [elt] (rowEnv L))).all (fun x => !x.1) && (backToKw cpos (keywordEach [] (rowEnv L))).all (fun x => x.1.isSome)
      && decide (([elt] : List Expr).length + ([] : List Keyword).length + (if ([] : List Keyword).isEmpty then 0 else 1) < 30)) = true := by rfl)
    (hline : (apos.endLine == cpos.line) = true := by rfl) (htrees : backTo cpos (starEach [elt] (rowEnv L)) = [(false, eval elt (rowEnv L))] := by rfl) (hsw : swapsWith (.Call (.Attribute (.Name "held" p1) "append" apos) [elt] [] cpos) none epos.line (rowEnv L) = pure false := by rfl) :
    wpAny (model prog1 w) A (exec (.Expr (.Call (.Attribute (.Name "held" p1) "append" apos) [elt] [] cpos) epos) (rowEnv L)) Q E s := by
  refine f.append (D := dh) (xs := z.2) (W' := fun v => (Wr dr dh (z.1, z.2 ++ [v])).and Wx) (by simp) (fun q => nF (frame_row.mp q)) rfl rfl hm hz (fun h p => p.1.2) (fun v => only_and (only_Wr _) hx) (fun v h h' p hs hpl => ?_) x h (by decide) rfl hfew hline htrees rfl hsw
  refine ⟨⟨⟨trivial, plain_same p.1.1.2 hs hne⟩, hpl⟩, hx h h' (fun a ha o q => (hs.2 a (fun e => hoff dh (by simp) (e ▸ ha))).trans q) p.2⟩
theorem row_appR {elt : Expr} {p1 apos cpos epos : Pos} (f : FS s₁ B (rowEnv L) (offx ++ [dh, dr]) (fpx ++ [dh, dr]) ((Wr dr dh z).and Wx) R m cm s) (hne : dr ≠ dh) (nF : dr ≠ L) (hx : Only Wx fpx) (hoff : ∀ a ∈ [dh, dr], a ∉ fpx)
    (hm : m "row" = some (.ref dr)) (hz : z.1.length ≤ sizeLine) (x : Ev prog1 w A (fv (rowEnv L) m cm ((Wr dr dh z).and Wx)) R (eval elt (rowEnv L)) P)
    (h : ∀ v s' R', FS s₁ B (rowEnv L) (offx ++ [dh, dr]) (fpx ++ [dh, dr]) ((Wr dr dh (z.1 ++ [v], z.2)).and Wx) R' m cm s' → Sub R R' → P v R' → Q .next s')
    (hfew : ((backTo cpos (starEach [elt] (rowEnv L))).all (fun x => !x.1) && (backToKw cpos (keywordEach [] (rowEnv L))).all (fun x => x.1.isSome)
      && decide (([elt] : List Expr).length + ([] : List Keyword).length + (if ([] : List Keyword).isEmpty then 0 else 1) < 30)) = true := by rfl)
    (hline : (apos.endLine == cpos.line) = true := by rfl) (htrees : backTo cpos (starEach [elt] (rowEnv L)) = [(false, eval elt (rowEnv L))] := by rfl) (hsw : swapsWith (.Call (.Attribute (.Name "row" p1) "append" apos) [elt] [] cpos) none epos.line (rowEnv L) = pure false := by rfl) :
    wpAny (model prog1 w) A (exec (.Expr (.Call (.Attribute (.Name "row" p1) "append" apos) [elt] [] cpos) epos) (rowEnv L)) Q E s := by
  refine f.append (D := dr) (xs := z.1) (W' := fun v => (Wr dr dh (z.1 ++ [v], z.2)).and Wx) (by simp) (fun q => nF (frame_row.mp q)) rfl rfl hm hz (fun h p => p.1.1.2) (fun v => only_and (only_Wr _) hx) (fun v h h' p hs hpl => ?_) x h (by decide) rfl hfew hline htrees rfl hsw
  refine ⟨⟨⟨trivial, hpl⟩, plain_same p.1.2 hs hne.symm⟩, hx h h' (fun a ha o q => (hs.2 a (fun e => hoff dr (by simp) (e ▸ ha))).trans q) p.2⟩
end

/-! ## the pieces -/
def pcs (c : Nat) : List PySem.Str := ["", "a", "b", "{u}", "{u}a", "u", "}", ⟨#[c]⟩]
def code (r : Int) : Int := let p := (r.fdiv 64).fmod 1112064; if p < 55296 then p else p + 2048
def Pieces (c : Nat) : Value → Heap → Prop := fun a h => ∃ l vs, a = .ref l ∧ h.IsList l vs.toArray ∧ Paired StrOf (pcs c) vs
theorem code_ok (r : Int) : 0 ≤ code r ∧ code r ≤ 1114111 := by
  unfold code
  have h1 : 0 ≤ (r.fdiv 64).fmod 1112064 := Int.fmod_nonneg_of_pos _ (by decide)
  have h2 : (r.fdiv 64).fmod 1112064 < 1112064 := Int.fmod_lt_of_pos _ (by decide)
  dsimp only
  split <;> omega
theorem pcs_len {c : Nat} {x : PySem.Str} (h : x ∈ pcs c) : x.length ≤ 4 := by
  simp only [pcs, List.mem_cons, List.not_mem_nil, or_false] at h
  rcases h with rfl | rfl | rfl | rfl | rfl | rfl | rfl | rfl <;> first | decide | (show (1 : Nat) ≤ 4; decide)
end Mine

/-! R2 -/
namespace Mine

def forBody : Stmt → List Stmt
  | .For _ _ b _ _ => b
  | _ => []
def rowLoop : List Stmt := forBody ((bodyOf rowD).getD 2 (.Pass default))

theorem boot_len : bootBuiltins "len" = some (.builtin "len") := by decide +kernel
theorem boot_chr : bootBuiltins "chr" = some (.builtin "chr") := by decide +kernel

theorem upd_same {m : MS} {x : PySem.Str} {v : Value} : upd m x v x = some v := if_pos rfl
theorem upd_ne {m : MS} {x y : PySem.Str} {v : Value} (h : y ≠ x) : upd m x v y = m y := if_neg h
theorem paired_get {α β : Type} {F : α → β → Prop} {d : α} {e : β} : ∀ {l : List α} {r : List β}, Paired F l r → ∀ i, i < l.length → ∃ v, r[i]? = some v ∧ F (l.getD i d) v
  | _, _, .nil, i, h => by simp at h
  | _, _, .cons a b, 0, h => ⟨_, rfl, a⟩
  | _, _, .cons a b, i + 1, h => paired_get (d := d) (e := e) b i (by simpa using h)
theorem paired_mono {α β : Type} {F G : α → β → Prop} (h : ∀ a b, F a b → G a b) : ∀ {l : List α} {r : List β}, Paired F l r → Paired G l r
  | _, _, .nil => .nil
  | _, _, .cons a b => .cons (h _ _ a) (paired_mono h b)

def valOf : Stmt → Expr
  | .Assign _ e _ => e
  | _ => .List [] default
def piecesE : Expr := valOf (rowLoop.getD 3 (.Pass default))

section
variable {w : World} {A : Around} {K : Frag} {V : View} {R : Heap} {L : Addr} {m : MS}

theorem ev_pieces {r : Int} {t : Tok} (Y : KQ K) (G : Gd K R) (hn : ∀ h, V.p h → h.Ns (rowEnv L).locals m) (hp : m "point" = some (.int ((r.fdiv 64).fmod 1112064) t)) (htp : 0 < t) :
    Ev prog1 w A V R (eval piecesE (rowEnv L)) (Pieces (code r).toNat) := by
  have hc := code_ok r
  have nP : ∀ (R1 : Heap) (p : Pos), Ev prog1 w A V R1 (eval (.Name "point" p) (rowEnv L)) (Is (.int ((r.fdiv 64).fmod 1112064) t)) := fun R1 p => evNameL hn hp rfl rfl
  refine (evList (evArgsC evStr (evArgsC evStr (evArgsC evStr (evArgsC evStr (evArgsC evStr (evArgsC evStr (evArgsC evStr (evArgsC (P1 := IsS ⟨#[(code r).toNat]⟩) ?chr evArgs0)))))))) ?sz).mono ?fin
  case chr =>
    refine evCallB (evNameB G (Y.nB "chr" (by simp)) boot_chr (by decide) rfl rfl rfl rfl) (evArgsC (P1 := IsI (code r)) ?_ evArgs0) ?_
    · refine evIfExp (b := decide ((r.fdiv 64).fmod 1112064 < 55296)) (evTest (nP R _) evInt ?_) (fun hb => ?_) (fun hb => ?_)
      · rintro a b R2 h2 rfl ⟨t2, rfl, _⟩; exact ev_ltI
      · refine (nP R _).mono ?_
        rintro a R' _ rfl
        refine ⟨t, ?_, htp⟩
        unfold code; dsimp only; rw [if_pos (by simpa using hb)]
      · refine evBin (nP R _) evInt ?_
        rintro a b R2 h2 rfl ⟨t2, rfl, _⟩
        have e : code r = (r.fdiv 64).fmod 1112064 + 2048 := by unfold code; dsimp only; rw [if_neg (by simpa using hb)]
        rw [e]; exact ev_add
    · rintro vs R1 h1 ⟨v, vs', rfl, ⟨t2, rfl, _⟩, h3⟩
      cases h3
      exact ev_chr hc.1 hc.2
  case sz =>
    rintro vs h ⟨_, _, rfl, _, _, _, rfl, _, _, _, rfl, _, _, _, rfl, _, _, _, rfl, _, _, _, rfl, _, _, _, rfl, _, _, _, rfl, _, rfl⟩
    rw [sizeLine_eq]; simp
  case fin =>
    rintro a R' hR ⟨l, vs, rfl, hl, _, _, rfl, h1, _, _, rfl, h2, _, _, rfl, h3, _, _, rfl, h4, _, _, rfl, h5, _, _, rfl, h6, _, _, rfl, h7, _, _, rfl, h8, rfl⟩
    exact ⟨l, _, rfl, hl, .cons h1 (.cons h2 (.cons h3 (.cons h4 (.cons h5 (.cons h6 (.cons h7 (.cons h8 .nil)))))))⟩
end
end Mine

/-! R3 -/
namespace Mine

def ifBody : Stmt → List Stmt
  | .If _ b _ _ => b
  | _ => []
def ifElse : Stmt → List Stmt
  | .If _ _ e _ => e
  | _ => []
def pickS : Stmt := rowLoop.getD 5 (.Pass default)

section
variable {w : World} {A : Around} {K : Frag} {s₁ s : Shared} {B R : Heap} {L dr dh : Addr} {offx fpx : List Addr} {Wx : View} {m cm : MS} {z : List Value × List Value} {Q : Flow → Shared → Prop} {E : Value → Shared → Prop} {xs : List PySem.Str}

/-- what a turn of the loop leaves -/
def Turned (s₁ : Shared) (B : Heap) (L dr dh : Addr) (offx fpx : List Addr) (Wx : View) (cm : MS) (R : Heap) (xs : List PySem.Str) (Q : Flow → Shared → Prop) : Prop :=
  ∀ s' z' R' m' tx, FS s₁ B (rowEnv L) (offx ++ [dh, dr]) (fpx ++ [dh, dr]) ((Wr dr dh z').and Wx) R' m' cm s' → Sub R R' → m' "row" = some (.ref dr) → m' "held" = some (.ref dh) →
    Paired (fun x v => Item R' v x) (xs ++ [tx]) z'.1 → Paired StrOf (xs ++ [tx]) z'.2 → tx.length ≤ 16 → Q .next s'
structure Row (dr dh : Addr) (L : Addr) (offx fpx : List Addr) (Wx : View) (R : Heap) (m : MS) (z : List Value × List Value) (xs : List PySem.Str) : Prop where
  ne : dr ≠ dh
  nr : dr ≠ L
  nh : dh ≠ L
  hx : Only Wx fpx
  off : ∀ a ∈ [dh, dr], a ∉ fpx
  mr : m "row" = some (.ref dr)
  mh : m "held" = some (.ref dh)
  p1 : Paired (fun x v => Item R v x) xs z.1
  p2 : Paired StrOf xs z.2
  len : xs.length ≤ 63
  small : ∀ x ∈ xs, x.length ≤ 16
theorem Row.sub {R' : Heap} (r : Row dr dh L offx fpx Wx R m z xs) (h : Sub R R') : Row dr dh L offx fpx Wx R' m z xs := { r with p1 := paired_mono (fun _ _ i => i.sub h) r.p1 }
theorem Row.set {y : PySem.Str} {v : Value} (r : Row dr dh L offx fpx Wx R m z xs) (h1 : PySem.Str.ofString "row" ≠ y) (h2 : PySem.Str.ofString "held" ≠ y) : Row dr dh L offx fpx Wx R (upd m y v) z xs :=
  { r with mr := (upd_ne h1).trans r.mr, mh := (upd_ne h2).trans r.mh }
theorem Row.l1 (r : Row dr dh L offx fpx Wx R m z xs) : z.1.length = xs.length := r.p1.length.symm
theorem Row.l2 (r : Row dr dh L offx fpx Wx R m z xs) : z.2.length = xs.length := r.p2.length.symm

theorem isList_plain {h : Heap} {D : Addr} {xs : Array Value} (x : h.PlainList D xs) : h.IsList D xs := x.isList

/-- the picking of an earlier item -/
theorem row_again {rr : Int} {t : Tok} (Y : KQ K) (G : Gd K R) (rm : Room A 3) (f : FS s₁ B (rowEnv L) (offx ++ [dh, dr]) (fpx ++ [dh, dr]) ((Wr dr dh z).and Wx) R m cm s) (r : Row dr dh L offx fpx Wx R m z xs) (hm : m "rest" = some (.int rr t)) (hpos : 0 < xs.length)
    (hQ : Turned s₁ B L dr dh offx fpx Wx cm R xs Q) : wpAny (model prog1 w) A (execs (ifBody pickS) (rowEnv L)) Q E s := by
  have hk0 : 0 ≤ rr.fmod xs.length := Int.fmod_nonneg_of_pos _ (by omega)
  have hk1 : rr.fmod xs.length < xs.length := Int.fmod_lt_of_pos _ (by omega)
  have hlt : (rr.fmod xs.length).toNat < xs.length := by omega
  obtain ⟨v1, e1, i1⟩ := paired_get (d := PySem.Str.ofString "") (e := Value.none) r.p1 _ hlt
  obtain ⟨v2, e2, i2⟩ := paired_get (d := PySem.Str.ofString "") (e := Value.none) r.p2 _ hlt
  have nL : ∀ (z' : List Value × List Value) (g R1 : Heap) (p1 p2 p3 : Pos), z'.1.length = xs.length → Gd K R1 → R1.IsList dr z'.1.toArray → m "row" = some (.ref dr) →
      Ev prog1 w A (fv (rowEnv L) m cm ((Wr dr dh z').and Wx)) R1 (eval (.Call (.Name "len" p1) [.Name "row" p2] [] p3) (rowEnv L)) (IsI xs.length) := by
    intro z' g R1 p1 p2 p3 hz G1 hl hm
    refine evCallB (evNameB G1 (Y.nB "len" (by simp)) boot_len (by decide) rfl rfl rfl rfl) (evA1 (evNameL (fun h q => q.1) hm rfl rfl)) ?_
    intro vs R2 h2 p; cases p
    rw [← hz]; exact ev_len (isList_sub hl h2) (by rw [hz]; have := r.len; omega)
  refine wpAny_execs_cons (row_appH f r.ne r.nh r.hx r.off r.mh (by have := r.l2; have := r.len; rw [sizeLine_eq]; omega) (P := Is v2) ?_ ?_)
  · refine Ev.whole (P0 := fun a => a = v2) fun g hg hv => ?_
    have lh : g.IsList dh z.2.toArray := hv.2.2.1.2.isList
    have lr : g.IsList dr z.1.toArray := hv.2.2.1.1.2.isList
    refine evSub (evNameL (fun h q => q.1) r.mh rfl rfl) (evBin (evNameL (fun h q => q.1) hm rfl rfl) (nL z g g _ _ _ r.l1 (G.sub hg) lr r.mr) ?_ (P := IsI (rr.fmod xs.length))) ?_
    · rintro a b R2 h2 rfl ⟨t2, rfl, _⟩; exact ev_mod (by omega)
    · rintro a b R2 h2 rfl ⟨t2, rfl, _⟩; exact ev_item (isList_sub lh h2) hk0 e2 (by have := r.l2; have := r.len; omega)
  intro v s2 R2 f2 hR2 p; cases p
  have r2 := r.sub hR2
  refine wpAny_execs_cons (row_appR f2 r.ne r.nr r.hx r.off r.mr (by have := r.l1; have := r.len; rw [sizeLine_eq]; show z.1.length ≤ _; omega) (P := Is v1) ?_ ?_)
  · refine Ev.whole (P0 := fun a => a = v1) fun g hg hv => ?_
    have lr : g.IsList dr z.1.toArray := hv.2.2.1.1.2.isList
    refine evSub (evNameL (fun h q => q.1) r.mr rfl rfl) (evBin (evNameL (fun h q => q.1) hm rfl rfl) (nL (z.1, z.2 ++ [v2]) g g _ _ _ r.l1 ((G.sub hR2).sub hg) lr r.mr) ?_ (P := IsI (rr.fmod xs.length))) ?_
    · rintro a b R2 h2 rfl ⟨t2, rfl, _⟩; exact ev_mod (by omega)
    · rintro a b R2 h2 rfl ⟨t2, rfl, _⟩; exact ev_item (isList_sub lr h2) hk0 e1 (by have := r.l1; have := r.len; omega)
  intro v s3 R3 f3 hR3 p; cases p
  refine wpAny_execs_nil ?_
  refine hQ s3 (z.1 ++ [v1], z.2 ++ [v2]) R3 m (xs.getD (rr.fmod xs.length).toNat (PySem.Str.ofString "")) f3 (hR2.trans hR3) r.mr r.mh (((r2.sub hR3).p1).snoc ((i1.sub hR2).sub hR3)) (r.p2.snoc i2) (r.small _ ?_)
  rw [List.getD_eq_getElem?_getD, List.getElem?_eq_getElem hlt]; exact List.getElem_mem hlt
end
end Mine

/-! R4 -/
namespace Mine

theorem str_nil {y : PySem.Str} : (y.cps.toList != (PySem.Str.ofString "").cps.toList) = !decide (y.length = 0) := by
  have h0 : (PySem.Str.ofString "").cps.toList = [] := by decide
  rw [h0]
  cases e : y.cps.toList with
  | nil =>
    have : y.length = 0 := by show y.cps.size = 0; rw [← Array.length_toList, e]; rfl
    simp [this]
  | cons a l =>
    have : y.length ≠ 0 := by show y.cps.size ≠ 0; rw [← Array.length_toList, e]; simp
    simp [this]

section
variable {w : World} {A : Around} {K : Frag} {s₁ s : Shared} {B R : Heap} {L dr dh : Addr} {offx fpx : List Addr} {Wx : View} {m cm : MS} {z : List Value × List Value} {Q : Flow → Shared → Prop} {E : Value → Shared → Prop} {xs : List PySem.Str}

theorem evNL {V : View} {R : Heap} {x : PySem.Str} {pos : Pos} {v : Value} (hV : ∀ h, V.p h → h.Ns (rowEnv L).locals m) (hv : m x = some v) (hl : (rowEnv L).kindOf x = some .local := by rfl) (hd : (x == ("__debug__" : PySem.Str)) = false := by decide) : Ev prog1 w A V R (eval (.Name x pos) (rowEnv L)) (Is v) := evNameL hV hv rfl hl hd

theorem evNF {W : View} {R : Heap} {x : PySem.Str} {pos : Pos} {v : Value} (hv : m x = some v) (hl : (rowEnv L).kindOf x = some .local := by rfl) (hd : (x == ("__debug__" : PySem.Str)) = false := by decide) : Ev prog1 w A (fv (rowEnv L) m cm W) R (eval (.Name x pos) (rowEnv L)) (Is v) := evNameL (fun h q => q.1) hv rfl hl hd

theorem row_new {k : Int} {t tx ty : Tok} {x y : PySem.Str} (Y : KQ K) (G : Gd K R) (rm : Room A 3) (f : FS s₁ B (rowEnv L) (offx ++ [dh, dr]) (fpx ++ [dh, dr]) ((Wr dr dh z).and Wx) R m cm s) (r : Row dr dh L offx fpx Wx R m z xs) (hk : m "kind" = some (.int k t))
    (hmx : m "first" = some (.str x tx)) (hmy : m "second" = some (.str y ty)) (htx : 0 < tx) (hty : 0 < ty) (hx : x.length ≤ 4) (hy : y.length ≤ 4)
    (hQ : Turned s₁ B L dr dh offx fpx Wx cm R xs Q) : wpAny (model prog1 w) A (execs (ifElse pickS) (rowEnv L)) Q E s := by
  have hz2 : z.2.length ≤ sizeLine := by have := r.l2; have := r.len; rw [sizeLine_eq]; omega
  have hz1 : z.1.length ≤ sizeLine := by have := r.l1; have := r.len; rw [sizeLine_eq]; omega
  have xy : ∀ (W : View) (R1 : Heap) (p1 p2 p3 : Pos), Ev prog1 w A (fv (rowEnv L) m cm W) R1 (eval (.BinOp (.Name "first" p1) .Add (.Name "second" p2) p3) (rowEnv L)) (IsS (x ++ y)) := by
    intro W R1 p1 p2 p3
    refine evBin (evNF hmx) (evNF hmy) ?_
    rintro a b R2 h2 rfl rfl; exact ev_addS (by omega) htx hty
  refine wpAny_execs_cons (f.test (b := (k == 2)) (evTest (evNF hk) evInt ?_) ?_)
  · rintro a b R2 h2 rfl ⟨t2, rfl, _⟩; exact ev_eqI
  intro s1 R1 f1 hR1
  have r1 := r.sub hR1
  have G1 := G.sub hR1
  cases hb : k == 2 with
  | true =>
    rw [if_pos rfl]
    refine wpAny_execs_cons (row_appH f1 r.ne r.nh r.hx r.off r.mh hz2 (P := IsS (mix x y)) ?_ ?_)
    · refine evIfExp (b := !decide (y.length = 0)) (evTest (evNF hmy) evStr ?_) (fun hb => ?_) (fun hb => ?_)
      · rintro a b R2 h2 rfl ⟨t2, rfl, _⟩; rw [← str_nil]; exact ev_neS
      · have hy0 : ¬ y.length = 0 := by simpa using hb
        have e : mix x y = PySem.Str.ofString "{" ++ x ++ PySem.Str.ofString "}" ++ y := by unfold mix; rw [if_neg hy0]
        rw [e]
        have l1 : (PySem.Str.ofString "{").length = 1 := by decide
        have l2 : (PySem.Str.ofString "}").length = 1 := by decide
        refine evBin (evBin (evBin evStr (evNF hmx) ?_ (P := IsS (PySem.Str.ofString "{" ++ x))) evStr ?_ (P := IsS (PySem.Str.ofString "{" ++ x ++ PySem.Str.ofString "}"))) (evNF hmy) ?_
        · rintro a b R2 h2 ⟨t2, rfl, q2⟩ rfl; exact ev_addS (by omega) q2 htx
        · rintro a b R2 h2 ⟨t2, rfl, q2⟩ ⟨t3, rfl, q3⟩; exact ev_addS (by rw [len_app]; omega) q2 q3
        · rintro a b R2 h2 ⟨t2, rfl, q2⟩ rfl; exact ev_addS (by rw [len_app, len_app]; omega) q2 hty
      · have hy0 : y.length = 0 := by simpa using hb
        have e : mix x y = x := by unfold mix; rw [if_pos hy0]
        rw [e]
        refine (evNF hmx).mono ?_
        rintro a R' _ rfl; exact ⟨tx, rfl, htx⟩
    rintro v s2 R2 f2 hR2 hv
    refine wpAny_execs_cons (row_appR f2 r.ne r.nr r.hx r.off r.mr hz1 (P := fun a h => ∃ q t', a = .ref q ∧ QN h q (.str (mix x y) t')) ?_ ?_)
    · refine evCallK (f := .ref 88) (G1.sub hR2).k Y.keep (evNameG (G1.sub hR2) Y.nQ rfl rfl rfl) (evA2 (evNF hmx) (evNF hmy)) ?_
      intro vs R3 h3 p; cases p
      exact make2 Y ((G1.sub hR2).sub h3) (rm.le (by omega)) (by omega) (by omega) htx hty
    rintro v3 s3 R3 f3 hR3 ⟨q, t', rfl, hq⟩
    refine wpAny_execs_nil ?_
    refine wpAny_execs_nil ?_
    refine hQ s3 (z.1 ++ [.ref q], z.2 ++ [v]) R3 m (mix x y) f3 ((hR1.trans hR2).trans hR3) r.mr r.mh ((((r1.sub hR2).sub hR3).p1).snoc (.inr ⟨q, t', rfl, hq⟩)) (r.p2.snoc hv) ?_
    unfold mix
    split
    · omega
    · rw [len_app, len_app, len_app]
      have l1 : (PySem.Str.ofString "{").length = 1 := by decide
      have l2 : (PySem.Str.ofString "}").length = 1 := by decide
      omega
  | false =>
    rw [if_neg (by simp)]
    refine wpAny_execs_cons (row_appH f1 r.ne r.nh r.hx r.off r.mh hz2 (P := IsS (x ++ y)) (xy _ _ _ _ _) ?_)
    rintro v s2 R2 f2 hR2 hv
    refine wpAny_execs_cons (row_appR f2 r.ne r.nr r.hx r.off r.mr hz1 (P := fun a h => Item h a (x ++ y)) ?_ ?_)
    · refine evIfExp (b := (k == 0)) (evTest (evNF hk) evInt ?_) (fun hb => ?_) (fun hb => ?_)
      · rintro a b R3 h2 rfl ⟨t2, rfl, _⟩; exact ev_eqI
      · refine (xy _ _ _ _ _).mono ?_
        rintro a R' _ ⟨t3, rfl, q3⟩; exact .inl ⟨t3, rfl, q3⟩
      · refine (evCallK (f := .ref 88) (G1.sub hR2).k Y.keep (evNameG (G1.sub hR2) Y.nQ rfl rfl rfl) (evArgsC (xy _ _ _ _ _) evArgs0) ?_ (P := fun a h => ∃ q t3, a = .ref q ∧ QN h q (.str (x ++ y) t3))).mono ?_
        · rintro vs R3 h3 ⟨v3, vs3, rfl, ⟨t3, rfl, q3⟩, e3⟩
          cases e3
          refine (make1 Y ((G1.sub hR2).sub h3) (rm.le (by omega))).mono ?_
          rintro a R' _ ⟨q, rfl, hq⟩; exact ⟨q, t3, rfl, hq⟩
        · rintro a R' _ ⟨q, t3, rfl, hq⟩; exact .inr ⟨q, t3, rfl, hq⟩
    rintro v3 s3 R3 f3 hR3 hi
    refine wpAny_execs_nil ?_
    refine wpAny_execs_nil ?_
    exact hQ s3 (z.1 ++ [v3], z.2 ++ [v]) R3 m (x ++ y) f3 ((hR1.trans hR2).trans hR3) r.mr r.mh ((((r1.sub hR2).sub hR3).p1).snoc hi) (r.p2.snoc hv) (by rw [len_app]; omega)
end
end Mine

/-! R5 -/
namespace Mine

theorem fmod8 (a : Int) : 0 ≤ a.fmod 8 ∧ (a.fmod 8).toNat < 8 := by
  have h1 : 0 ≤ a.fmod 8 := Int.fmod_nonneg_of_pos _ (by decide)
  have h2 : a.fmod 8 < 8 := Int.fmod_lt_of_pos _ (by decide)
  omega

section
variable {w : World} {A : Around} {K : Frag} {s₁ s : Shared} {B R : Heap} {L dr dh : Addr} {offx fpx : List Addr} {Wx : View} {m cm : MS} {z : List Value × List Value} {Q : Flow → Shared → Prop} {E : Value → Shared → Prop} {xs : List PySem.Str}

set_option maxHeartbeats 4000000 in
theorem row_turn {n : Int} {t : Tok} (Y : KQ K) (G : Gd K R) (rm : Room A 3) (f : FS s₁ B (rowEnv L) (offx ++ [dh, dr]) (fpx ++ [dh, dr]) ((Wr dr dh z).and Wx) R m cm s) (r : Row dr dh L offx fpx Wx R m z xs) (hx : m "x" = some (.int n t))
    (hQ : Turned s₁ B L dr dh offx fpx Wx cm R xs Q) : wpAny (model prog1 w) A (execs rowLoop (rowEnv L)) Q E s := by
  refine wpAny_execs_cons (f.assignL (P := IsI (n.fmod 4)) (evBin (evNF hx) evInt ?_) rfl ?_)
  · rintro a b R2 h2 rfl ⟨t2, rfl, _⟩; exact ev_mod (by decide)
  rintro _ s1 R1 f1 hR1 ⟨tk, rfl, htk⟩
  refine wpAny_execs_cons (f1.assignL (P := IsI (n.fdiv 4)) (evBin (evNF ((upd_ne (by decide)).trans hx)) evInt ?_) rfl ?_)
  · rintro a b R2 h2 rfl ⟨t2, rfl, _⟩; exact ev_div (by decide) (by decide)
  rintro _ s2 R2 f2 hR2 ⟨tr, rfl, htr⟩
  refine wpAny_execs_cons (f2.assignL (P := IsI (((n.fdiv 4).fdiv 64).fmod 1112064)) (evBin (evBin (evNF upd_same) evInt ?_ (P := IsI ((n.fdiv 4).fdiv 64))) evInt ?_) rfl ?_)
  · rintro a b R2 h2 rfl ⟨t2, rfl, _⟩; exact ev_div (by decide) (by decide)
  · rintro a b R2 h2 ⟨t2, rfl, _⟩ ⟨t3, rfl, _⟩; exact ev_mod (by decide)
  rintro _ s3 R3 f3 hR3 ⟨tp, rfl, htp⟩
  have G3 := ((G.sub hR1).sub hR2).sub hR3
  have hm3 : (upd (upd (upd m "kind" (.int (n.fmod 4) tk)) "rest" (.int (n.fdiv 4) tr)) "point" (.int (((n.fdiv 4).fdiv 64).fmod 1112064) tp)) "point" = some (.int (((n.fdiv 4).fdiv 64).fmod 1112064) tp) := upd_same
  have ep := ev_pieces (w := w) (A := A) (V := fv (rowEnv L) (upd (upd (upd m "kind" (.int (n.fmod 4) tk)) "rest" (.int (n.fdiv 4) tr)) "point" (.int (((n.fdiv 4).fdiv 64).fmod 1112064) tp)) cm ((Wr dr dh z).and Wx)) (L := L) (r := n.fdiv 4) (t := tp) Y G3 (fun h q => q.1) hm3 htp
  generalize hpe : piecesE = pe at ep
  refine wpAny_execs_cons (f3.assignL (P := Pieces (code (n.fdiv 4)).toNat) (Ev.eq ?pe ep) rfl ?_ ?hp ?hs)
  case pe => rw [← hpe]; kernel_rfl
  case hp => rfl
  case hs => kernel_rfl
  rintro _ s4 R4 f4 hR4 ⟨l, vs, rfl, hl, hp⟩
  have hvl : vs.length = 8 := hp.length.symm
  obtain ⟨a8, b8⟩ := fmod8 (n.fdiv 4)
  obtain ⟨c8, d8⟩ := fmod8 ((n.fdiv 4).fdiv 8)
  obtain ⟨va, ea, ta, rfl, hta⟩ := paired_get (d := PySem.Str.ofString "") (e := Value.none) hp _ b8
  obtain ⟨vb, eb, tb, rfl, htb⟩ := paired_get (d := PySem.Str.ofString "") (e := Value.none) hp _ d8
  have mem : ∀ k, k < 8 → (pcs (code (n.fdiv 4)).toNat).getD k (PySem.Str.ofString "") ∈ pcs (code (n.fdiv 4)).toNat := fun k hk => by
    have hk' : k < (pcs (code (n.fdiv 4)).toNat).length := hk
    rw [List.getD_eq_getElem?_getD, List.getElem?_eq_getElem hk']; exact List.getElem_mem hk'
  generalize hX : (pcs (code (n.fdiv 4)).toNat).getD ((n.fdiv 4).fmod 8).toNat (PySem.Str.ofString "") = X at ea
  generalize hY : (pcs (code (n.fdiv 4)).toNat).getD (((n.fdiv 4).fdiv 8).fmod 8).toNat (PySem.Str.ofString "") = Y' at eb
  have lX : X.length ≤ 4 := hX ▸ pcs_len (mem _ b8)
  have lY : Y'.length ≤ 4 := hY ▸ pcs_len (mem _ d8)
  refine wpAny_execs_cons (Assign_Tuple_swapped (names := ["first", "second"]) ?_ ?hs ?hw)
  case hs => kernel_rfl
  case hw => kernel_rfl
  refine f4.ev (evTuple (evArgsC (P1 := Is (.str X ta)) ?_ (evArgsC (P1 := Is (.str Y' tb)) ?_ evArgs0)) ?_) ?_
  · refine evSub (evNF upd_same) (evBin (evNF (v := .int (n.fdiv 4) tr) rfl) evInt ?_ (P := IsI ((n.fdiv 4).fmod 8))) ?_
    · rintro a b R2 h2 rfl ⟨t2, rfl, _⟩; exact ev_mod (by decide)
    · rintro a b R2 h2 rfl ⟨t2, rfl, _⟩; exact ev_item (isList_sub hl h2) a8 ea (by omega)
  · refine evSub (evNF upd_same) (evBin (evBin (evNF (v := .int (n.fdiv 4) tr) rfl) evInt ?_ (P := IsI ((n.fdiv 4).fdiv 8))) evInt ?_ (P := IsI (((n.fdiv 4).fdiv 8).fmod 8))) ?_
    · rintro a b R2 h2 rfl ⟨t2, rfl, _⟩; exact ev_div (by decide) (by decide)
    · rintro a b R2 h2 ⟨t2, rfl, _⟩ ⟨t3, rfl, _⟩; exact ev_mod (by decide)
    · rintro a b R2 h2 rfl ⟨t2, rfl, _⟩; exact ev_item (isList_sub hl h2) c8 eb (by omega)
  · rintro vs h ⟨_, _, rfl, _, _, _, rfl, _, rfl⟩
    rw [sizeLine_eq]; simp
  rintro _ s5 R5 f5 hR5 ⟨tt, _, rfl, htt, _, _, rfl, rfl, _, _, rfl, rfl, rfl⟩
  refine f5.pairSwapped (x := "first") (y := "second") (a := .str X ta) (b := .str Y' tb) rfl rm.handled ⟨_, htt, rfl, 0, rfl⟩ (.l rfl) (.l rfl) ?_
  intro s6 R6 f6 hR6
  have hR : Sub R R6 := ((((hR1.trans hR2).trans hR3).trans hR4).trans hR5).trans hR6
  have r6 : Row dr dh L offx fpx Wx R6 _ z xs := (((((((r.sub hR).set (y := "kind") (v := .int (n.fmod 4) tk) (by decide) (by decide)).set (y := "rest") (v := .int (n.fdiv 4) tr) (by decide) (by decide)).set (y := "point") (v := .int (((n.fdiv 4).fdiv 64).fmod 1112064) tp) (by decide) (by decide)).set (y := "pieces") (v := .ref l) (by decide) (by decide)).set (y := "second") (v := .str Y' tb) (by decide) (by decide)).set (y := "first") (v := .str X ta) (by decide) (by decide))
  have mrest : (upd (upd (upd (upd (upd (upd m "kind" (.int (n.fmod 4) tk)) "rest" (.int (n.fdiv 4) tr)) "point" (.int (((n.fdiv 4).fdiv 64).fmod 1112064) tp)) "pieces" (.ref l)) "second" (.str Y' tb)) "first" (.str X ta)) "rest" = some (.int (n.fdiv 4) tr) := rfl
  have mkind : (upd (upd (upd (upd (upd (upd m "kind" (.int (n.fmod 4) tk)) "rest" (.int (n.fdiv 4) tr)) "point" (.int (((n.fdiv 4).fdiv 64).fmod 1112064) tp)) "pieces" (.ref l)) "second" (.str Y' tb)) "first" (.str X ta)) "kind" = some (.int (n.fmod 4) tk) := rfl
  have G6 := G.sub hR
  refine wpAny_execs_cons (f6.test (b := ((n.fmod 4 == 3) && ((!z.1.isEmpty) && true))) (Ev.whole (P0 := fun a => a = _) fun g hg hv => evAndN (evAnd1 (evTest (evNF mkind) evInt ?_) fun _ => evAnd1 (evTest (evNF r6.mr) (evList evArgs0 ?_) ?_) fun _ => evAnd0)) ?_)
  · rintro a b R2 h2 rfl ⟨t2, rfl, _⟩; exact ev_eqI
  · rintro vs h rfl; exact Nat.zero_le _
  · rintro a b R2 h2 rfl ⟨l2, vs2, rfl, hl2, rfl⟩
    exact ev_ne_nil (isList_sub hv.2.2.1.1.2.isList h2) hl2 (rm.u)
  intro s7 R7 f7 hR7
  have r7 := r6.sub hR7
  have hQ' : Turned s₁ B L dr dh offx fpx Wx cm R7 xs (fun f s' => match f with | .next => wpAny (model prog1 w) A (execs [] (rowEnv L)) Q E s' | f => Q f s') := by
    intro s' z' R' m' tx f' hR' q1 q2 q3 q4 q5
    exact wpAny_execs_nil (hQ s' z' R' m' tx f' ((hR.trans hR7).trans hR') q1 q2 q3 q4 q5)
  cases hb : ((n.fmod 4 == 3) && ((!z.1.isEmpty) && true)) with
  | true =>
    rw [if_pos rfl]
    have hpos : 0 < xs.length := by
      have : z.1.isEmpty = false := by
        simp only [Bool.and_eq_true, Bool.not_eq_true'] at hb; exact hb.2.1
      rw [← r.l1]
      cases e : z.1 with
      | nil => rw [e] at this; cases this
      | cons _ _ => simp
    exact row_again Y (G6.sub hR7) rm f7 r7 mrest hpos hQ'
  | false =>
    rw [if_neg (by simp)]
    exact row_new Y (G6.sub hR7) rm f7 r7 mkind rfl rfl hta htb lX lY hQ'
end
end Mine

/-! R6 -/
namespace Mine

/-- what `_law_row` hands back -/
def RowP (n : Nat) : Value → Heap → Prop := fun a h => ∃ t dr dh rows helds xs, a = .ref t ∧ h.IsTuple t #[.ref dr, .ref dh] ∧ h.IsList dr (List.toArray rows) ∧ h.IsList dh (List.toArray helds) ∧
  Paired (fun x v => Item h v x) xs rows ∧ Paired StrOf xs helds ∧ xs.length = n ∧ ∀ x ∈ xs, x.length ≤ 16
theorem paired_iff_up {α : Type} {F : α → Value → Heap → Prop} {l : List α} {r : List Value} {R h : Heap} (hs : Sub R h) (up : ∀ a v h h', Sub h h' → F a v h → F a v h') (p : Paired (fun a v => F a v R) l r) : Paired (fun a v => F a v h) l r := paired_mono (fun a v q => up a v R h hs q) p

theorem ints_mem : ∀ {vs : List Value} {ns : List Int}, IntsAre vs ns → ∀ {i : Nat} {v : Value}, vs[i]? = some v → ∃ n t, v = .int n t
  | _, _, .nil, i, v, h => by simp at h
  | _, _, .cons n t h', 0, v, h => by simp at h; exact ⟨n, t, h.symm⟩
  | _, _, .cons n t h', i + 1, v, h => ints_mem h' (i := i) (by simpa using h)
section
variable {w : World} {A : Around} {K : Frag} {R : Heap}

theorem row_call {l : Addr} {vs : List Value} {ns : List Int} (Y : KQ K) (Z : KL K) (rm : Room A 4) {Q : Value → Shared → Prop} {E : Value → Shared → Prop} {s : Shared} (hs : Sub R s.heap) (G : Gd K R) (hl : R.IsList l vs.toArray) (hi : IntsAre vs ns) (hn : ns.length ≤ 63)
    (hQ : ∀ a s', Keeps s s' → 0 < s'.toks → Up (RowP ns.length) a (fr R s s') → Q a s') : wpAny (model prog1 w) A (call (.ref 99) [.ref l]) Q E s := by
  obtain ⟨⟨oc, od, sl, e3⟩, e4⟩ := Z.rowF
  have G0 := G.sub hs
  refine wpAny_call (codeAny_call_def (binds := [("script", .ref l)]) rm.d (G0.k _ _ e3) rfl G0.lim (codeRec_of G0.k e4) rfl (BindsTo.of_eq rfl) (by decide) (locs rfl) ?_)
  intro h₀ hns hk
  have hnL : s.heap.get? s.heap.objs.size = none := fresh_none _ (Nat.le_refl _)
  have rm' : Room (A.deeper (rowEnv s.heap.objs.size)) 3 := rm.deeper _
  have f0 : FS s R (rowEnv s.heap.objs.size) [] [] View.any R (fun x => List.lookup x [(PySem.Str.ofString "script", Value.ref l)].reverse) (fun _ => none) { s with heap := h₀, toks := s.toks + [(PySem.Str.ofString "script", Value.ref l)].length } :=
    { keep := keeps_mk hk
      tok := Nat.succ_pos _
      sub := hs.trans hk
      base := fun b o e => .inl (by rw [e]; rfl)
      ap := ⟨fun x c e => absurd e (by show ¬ (List.lookup x [] = some c); simp), fun x y c e => absurd e (by show ¬ (List.lookup x [] = some c); simp)⟩
      fns := hns
      cells := fun x c e => absurd e (by show ¬ (List.lookup x [] = some c); simp)
      offF := fun a h => by
        rw [frame_row.mp h]
        exact ⟨fresh_off hs (Nat.le_refl _), hnL, by simp⟩
      offW := fun a h => by simp at h
      liveW := fun a h => by simp at h
      only := fun _ _ _ _ => trivial
      view := trivial }
  show wpAny (model prog1 w) (A.deeper (rowEnv s.heap.objs.size)) (execs (bodyOf rowD) (rowEnv s.heap.objs.size)) _ _ _
  generalize hL : s.heap.objs.size = L at *
  refine wpAny_execs_cons (f0.newList rfl ?_)
  intro dr s1 nF1 _ _ f1
  refine wpAny_execs_cons (f1.newList rfl ?_)
  intro dh s2 nF2 nO2 _ f2
  have hne : dr ≠ dh := fun z => nO2 (by rw [z]; exact .head _)
  have nr : dr ≠ L := fun z => nF1 (frame_row.mpr z)
  have nh : dh ≠ L := fun z => nF2 (frame_row.mpr z)
  refine wpAny_execs_cons ?_
  refine FS.forIter (ι := List Value × List Value) (W := Wr dr dh) (z0 := ([], [])) (n := vs.length) (P := fun i v => vs[i]? = some v) (PX := Is (.ref l))
    (J := fun i z R m _ => m "row" = some (.ref dr) ∧ m "held" = some (.ref dh) ∧ ∃ xs : List PySem.Str, xs.length = i ∧ Paired (fun x v => Item R v x) xs z.1 ∧ Paired StrOf xs z.2 ∧ ∀ x ∈ xs, x.length ≤ 16)
    (T := fun v m m' cm cm' => m' = upd m "x" v) f2 (evNF rfl) ?hI only_Wr ?hasg ?hJ ?h0 ?hbody ?hdone
  case hI =>
    rintro xv R1 h1 rfl
    exact it_list rm'.handled (isList_sub hl h1)
  case hasg =>
    intro off' wf' W' R m cm s i v f hR hP Q E h
    exact f.bindN rfl (.l rfl) fun s' f' => h s' R _ _ f' (Sub.refl _) rfl
  case hJ =>
    rintro i z R R' m cm hR ⟨h1, h2, xs, h3, h4, h5, h6⟩
    exact ⟨h1, h2, xs, h3, paired_mono (fun _ _ q => q.sub hR) h4, h5, h6⟩
  case h0 => exact ⟨rfl, rfl, [], rfl, .nil, .nil, by simp⟩
  case hbody =>
    rintro Wx offx fpx z i v R1 ma cma m cm s i_lt hP ⟨h1, h2, xs, h3, h4, h5, h6⟩ rfl hR hx hoff f Q E h
    obtain ⟨nn, t, rfl⟩ : ∃ nn t, v = .int nn t := by
      exact ints_mem hi hP
    refine row_turn Y (G.sub hR) rm' f ⟨hne, nr, nh, hx, hoff, (upd_ne (by decide)).trans h1, (upd_ne (by decide)).trans h2, h4, h5, ?_, h6⟩ upd_same ?_
    · have := hi.length; omega
    · intro s' z' R' m' tx f' hR' q1 q2 q3 q4 q5
      refine h s' z' R' m' cm f' hR' ⟨q1, q2, xs ++ [tx], by simp [h3], q3, q4, ?_⟩
      intro x hx
      rcases List.mem_append.mp hx with q | q
      · exact h6 x q
      · rw [List.mem_singleton.mp q]; exact q5
  case hdone =>
    rintro z R1 m cm s3 f hR ⟨h1, h2, xs, h3, h4, h5, h6⟩
    refine wpAny_execs_cons (wpAny_Return_some ?_)
    refine f.ev (evTuple (evA2 (evNF h1) (evNF h2)) ?_) ?_
    · rintro vs h rfl; rw [sizeLine_eq]; simp
    rintro _ s4 R4 f4 hR4 ⟨t, _, rfl, ht, rfl⟩
    refine hQ _ s4 f4.keep f4.tok fun g zz => ?_
    have hout : Sub R4 g := f4.out.trans zz
    have lr : s4.heap.IsList dr z.1.toArray := f4.view.1.2.isList
    have lh : s4.heap.IsList dh z.2.toArray := f4.view.2.isList
    have new : ∀ a ∈ [dh, dr], ∀ o, s4.heap.get? a = some o → g.get? a = some o := fun a ha o e => zz _ _ (fr_get.mpr ⟨e, .inr (f4.offW a ha).2.1⟩)
    refine ⟨t, dr, dh, z.1, z.2, xs, rfl, ⟨_, hout _ _ ht, rfl, 0, rfl⟩, lr.at (new dr (by simp)), lh.at (new dh (by simp)), paired_mono (fun _ _ q => (q.sub hR4).sub hout) h4, h5, ?_, h6⟩
    rw [h3]; exact hi.length
end
end Mine

/-! L1 -/
namespace Mine

def lawD : Stmt := defIn "law" prog1.main.body
def lawEnv (L fa : Addr) (cd : Value) : Env := envOfC "law" (scopeOf lawD) L fa cd

theorem boot_range : bootBuiltins "range" = some (.type "range") := by decide +kernel
theorem boot_list : bootBuiltins "list" = some (.type "list") := by decide +kernel
theorem boot_str : bootBuiltins "str" = some (.type "str") := by decide +kernel
theorem boot_ord : bootBuiltins "ord" = some (.builtin "ord") := by decide +kernel
theorem boot_sorted : bootBuiltins "sorted" = some (.builtin "sorted") := by decide +kernel
theorem boot_min : bootBuiltins "min" = some (.builtin "min") := by decide +kernel
theorem boot_max : bootBuiltins "max" = some (.builtin "max") := by decide +kernel

section
variable {prog : Program} {w : World} {A : Around} {K : Frag} {R : Heap} {L fa : Addr} {cd : Value} {m cm mc : MS} {W : View} {scope : Scope} {cl : List (PySem.Str × Addr)} {C : Addr}

/-- names in the law's own frame -/
theorem evLL {x : PySem.Str} {pos : Pos} {v : Value} (hv : m x = some v) (hl : (lawEnv L fa cd).kindOf x = some .local := by rfl) (hd : (x == ("__debug__" : PySem.Str)) = false := by decide) :
    Ev prog w A (fv (lawEnv L fa cd) m cm W) R (eval (.Name x pos) (lawEnv L fa cd)) (Is v) := evNameL (fun h q => q.1) hv rfl hl hd
theorem evLC {x : PySem.Str} {pos : Pos} {v : Value} {c : Addr} (hv : cm x = some v) (hl : (lawEnv L fa cd).kindOf x = some .cell := by rfl) (hx : (lawEnv L fa cd).cells.lookup x = some c := by rfl) (hd : (x == ("__debug__" : PySem.Str)) = false := by decide) :
    Ev prog w A (fv (lawEnv L fa cd) m cm W) R (eval (.Name x pos) (lawEnv L fa cd)) (Is v) := evNameC (fun h q => hv ▸ q.2.1 x c hx) rfl hl hx hd
/-- names in a comprehension of the law -/
theorem evCC {x : PySem.Str} {pos : Pos} {v : Value} {c : Addr} (hv : cm x = some v) (hk : (compEnvC scope cl C (lawEnv L fa cd)).scope.kind = .function := by rfl) (hl : (compEnvC scope cl C (lawEnv L fa cd)).kindOf x = some .cell := by rfl)
    (hx : (compEnvC scope cl C (lawEnv L fa cd)).cells.lookup x = some c := by rfl) (hx' : (lawEnv L fa cd).cells.lookup x = some c := by rfl) (hd : (x == ("__debug__" : PySem.Str)) = false := by decide) :
    Ev prog w A ((fv (lawEnv L fa cd) m cm W).and (View.ns C mc)) R (eval (.Name x pos) (compEnvC scope cl C (lawEnv L fa cd))) (Is v) := evNameC (fun h q => hv ▸ q.1.2.1 x c hx') hk hl hx hd
theorem evCL {V : View} {env : Env} {x : PySem.Str} {pos : Pos} {v : Value} (hv : mc x = some v) (hk : (compEnvC scope cl C env).scope.kind = .function := by rfl) (hl : (compEnvC scope cl C env).kindOf x = some .local := by rfl) (hd : (x == ("__debug__" : PySem.Str)) = false := by decide) :
    Ev prog w A (V.and (View.ns C mc)) R (eval (.Name x pos) (compEnvC scope cl C env)) (Is v) := evNameL (fun h q => q.2) hv hk hl hd
end

/-- what the law knows of its things -/
structure Ctx (K : Frag) (R : Heap) (dr dh : Addr) (rows helds : List Value) (xs : List PySem.Str) : Prop where
  G : Gd K R
  lr : R.IsList dr rows.toArray
  lh : R.IsList dh helds.toArray
  p1 : Paired (fun x v => Item R v x) xs rows
  p2 : Paired StrOf xs helds
  len : xs.length ≤ 63
  pos : 1 ≤ xs.length
  small : ∀ x ∈ xs, x.length ≤ 16
theorem Ctx.sub {K : Frag} {R R' : Heap} {dr dh : Addr} {rows helds : List Value} {xs : List PySem.Str} (c : Ctx K R dr dh rows helds xs) (h : Sub R R') : Ctx K R' dr dh rows helds xs :=
  { c with G := c.G.sub h, lr := isList_sub c.lr h, lh := isList_sub c.lh h, p1 := paired_mono (fun _ _ q => q.sub h) c.p1 }
def kx (xs : List PySem.Str) (i : Nat) : List Nat := (xs.getD i (PySem.Str.ofString "")).cps.toList
def Keys (R : Heap) (dk : Addr) (kvs : List Value) (xs : List PySem.Str) : Prop := R.IsList dk kvs.toArray ∧ kvs.length = xs.length ∧ ∀ i v, kvs[i]? = some v → KeyAt (asInts (kx xs i)) v R
theorem Keys.sub {R R' : Heap} {dk : Addr} {kvs : List Value} {xs : List PySem.Str} (c : Keys R dk kvs xs) (h : Sub R R') : Keys R' dk kvs xs := ⟨isList_sub c.1 h, c.2.1, fun i v e => (c.2.2 i v e).sub h⟩

theorem getD_mem {α : Type} {l : List α} {i : Nat} {d : α} (h : i < l.length) : l.getD i d ∈ l := by
  rw [List.getD_eq_getElem?_getD, List.getElem?_eq_getElem h]; exact List.getElem_mem h
theorem filter_all {α : Type} (l : List α) : l.filter (fun _ => true) = l := by simp
theorem map_cps (x : PySem.Str) : (List.range x.cps.size).map (fun j => ((x.cps[j]?.getD 0 : Nat) : Int)) = asInts x.cps.toList := by
  apply List.ext_getElem (by simp [asInts])
  intro i h1 h2
  have hi : i < x.cps.size := by simpa using h1
  simp [asInts, hi]
def keysE : Expr := valOf ((bodyOf lawD).getD 2 (.Pass default))
section
variable {w : World} {A : Around} {K : Frag} {R : Heap} {L fa : Addr} {cd : Value} {m cm : MS} {W : View} {dr dh dk : Addr} {rows helds kvs : List Value} {xs : List PySem.Str}

theorem ev_keys (Y : KQ K) (c : Ctx K R dr dh rows helds xs) (rm : Room A 4) (hm : m "held" = some (.ref dh)) :
    Ev prog1 w A (fv (lawEnv L fa cd) m cm W) R (eval keysE (lawEnv L fa cd)) (fun a h => ∃ dk kvs, a = .ref dk ∧ Keys h dk kvs xs) := by
  have hlen : helds.length = xs.length := c.p2.length.symm
  refine (evComp1 (n := helds.length) (P := fun i v => helds[i]? = some v) (PX := Is (.ref dh)) (fun _ => true) (fun i v h => KeyAt (asInts (kx xs i)) v h) rfl (by decide) rfl (by decide) rfl (evLL hm) ?hI ?hz ?ht ?he).mono ?fin
  case hI => rintro xv R1 h1 rfl; exact it_list rm.handled (isList_sub c.lh h1)
  case hz => rw [sizeLine_eq]; have := c.len; omega
  case ht => intro C i v mc R1 h1 hi hP hv; exact Ev.of_look fun _ _ _ _ h => wpAny_pure h
  case he =>
    intro C i v mc R1 h1 hi hP hv _
    obtain ⟨v', e', t, rfl, ht⟩ := paired_get (d := PySem.Str.ofString "") (e := Value.none) c.p2 i (by omega)
    rw [hP] at e'; cases e'
    have hmem : xs.getD i (PySem.Str.ofString "") ∈ xs := getD_mem (by omega)
    refine (evComp1 (n := (xs.getD i (PySem.Str.ofString "")).cps.size) (P := SignAt (xs.getD i (PySem.Str.ofString ""))) (PX := Is (.str (xs.getD i (PySem.Str.ofString "")) t)) (fun _ => true) (fun j v h => IsI (((xs.getD i (PySem.Str.ofString "")).cps[j]?.getD 0 : Nat) : Int) v h) rfl (by decide) rfl (by decide) rfl (evCL hv) ?hI2 ?hz2 ?ht2 ?he2).mono ?fin2
    case hI2 => rintro xv R1 h1 rfl; exact it_str rm.handled
    case hz2 => rw [sizeLine_eq]; have := c.small _ hmem; have e : (xs.getD i (PySem.Str.ofString "")).length = (xs.getD i (PySem.Str.ofString "")).cps.size := rfl; omega
    case ht2 => intro C i v mc R1 h1 hi hP hv; exact Ev.of_look fun _ _ _ _ h => wpAny_pure h
    case he2 =>
      rintro C2 j u mc2 R2 h2 hj ⟨ch, u', hch, rfl⟩ hu _
      have G2 := (c.G.sub h1).sub h2
      refine evCallB (evNameB G2 (Y.nB "ord" (by simp)) boot_ord (by decide) rfl rfl rfl rfl) (evA1 (evCL hu)) ?_
      intro vs R3 h3 p; cases p
      rw [hch]; exact ev_ord
    case fin2 =>
      rintro a R' hR ⟨l, ys, rfl, hl, hp⟩
      refine ⟨l, ys, rfl, hl, ?_⟩
      have := ints_of_paired (f := fun j => (((xs.getD i (PySem.Str.ofString "")).cps[j]?.getD 0 : Nat) : Int)) hp
      rw [filter_all, map_cps] at this
      exact this
  case fin =>
    rintro a R' hR ⟨l, ys, rfl, hl, hp⟩
    rw [filter_all] at hp
    have hy : ys.length = helds.length := by have := hp.length; rw [List.length_range] at this; exact this.symm
    refine ⟨l, ys, rfl, hl, by omega, fun i v e => ?_⟩
    have hi : i < ys.length := (List.getElem?_eq_some_iff.mp e).1
    obtain ⟨v', e', h'⟩ := paired_get (d := 0) (e := Value.none) hp i (by rw [List.length_range]; omega)
    rw [e] at e'; cases e'
    have : (List.range helds.length).getD i 0 = i := by simp [show i < helds.length by omega]
    rw [this] at h'
    exact h'
end
end Mine

/-! L2 -/
namespace Mine

section
variable {w : World} {A : Around} {K : Frag} {V : View} {R : Heap} {env : Env}

/-- `range(len(x))` -/
theorem ev_rl {x : PySem.Str} {p1 p2 p3 p4 p5 : Pos} {d : Addr} {vs : List Value} (Y : KQ K) (G : Gd K R) (hN : Ev prog1 w A V R (eval (.Name x p3) env) (Is (.ref d))) (hl : R.IsList d vs.toArray) (hz : vs.length < 1000)
    (hg : env.globals = mainGlobals) (hb : env.builtins = builtinsNs) (hk : env.scope.kind = .function) (h1 : env.kindOf "range" = some .globalImplicit) (h2 : env.kindOf "len" = some .globalImplicit)
    (hse : starEach [.Name x p3] env = [(false, eval (.Name x p3) env)] := by rfl)
    (hse2 : starEach [.Call (.Name "len" p2) [.Name x p3] [] p4] env = [(false, eval (.Call (.Name "len" p2) [.Name x p3] [] p4) env)] := by rfl)
    : Ev prog1 w A V R (eval (.Call (.Name "range" p1) [.Call (.Name "len" p2) [.Name x p3] [] p4] [] p5) env) (IsR 0 vs.length) := by
  refine evCallT (evNameB G (Y.nB "range" (by simp)) boot_range (by decide) hg hb hk h1) (evArgsC (P1 := IsI vs.length) ?_ evArgs0 hse2) ?_ hse2 rfl
  · refine evCallB (evNameB G (Y.nB "len" (by simp)) boot_len (by decide) hg hb hk h2) (evA1 hN hse) ?_ hse rfl
    intro vs' R1 hR1 p; cases p
    exact ev_len (isList_sub hl hR1) (by omega)
  · rintro vs' R1 hR1 ⟨v, vs2, rfl, ⟨t, rfl, _⟩, e⟩
    cases e
    exact ev_range1
theorem it_rl {v : Value} {n : Nat} (hh : A.handled = none) (hr : IsR 0 n v R) (hn : n < 1000) : Iters prog1 w A R v n (fun i v => ∃ t, v = .int i t) := by
  have h := it_range (prog := prog1) (w := w) (n := n) hh hr (by decide) (by decide) (by omega) (by omega) (by split <;> omega)
  have e : (fun (i : Nat) (v : Value) => ∃ t, v = Value.int (0 + (i : Int)) t) = fun i v => ∃ t, v = .int i t := by funext i v; simp
  rw [e] at h; exact h

/-- an item by a variable's number -/
theorem ev_at {value slice : Expr} {d : Addr} {vs : List Value} {i : Nat} {t : Tok} {v : Value} (hl : R.IsList d vs.toArray) (hv : vs[i]? = some v) (hz : vs.length < 1000)
    (hs : subscripted slice false (.ref d) (.int i t) = operate [.ref d, .int i t] (getItem (.ref d) (.int i t)) := by rfl) :
    Ev prog1 w A V R (subscriptTail value slice (.ref d) (.int i t)) (Is v) := ev_item hl (by omega) (by simpa using hv) (by omega) hs

theorem ev_isi_str {x : PySem.Str} {t : Tok} (X : K.In R) (hq : kitOne K (.type "str") (.type "str") = some true) : Ev prog1 w A V R (call (.builtin "isinstance") [.str x t, .type "str"]) (Is (.bool true)) := Ev.mk fun Q E s hs _ _ hQ =>
  kia_one (Plainly.str x t).kit (X.keeps hs) trivial hq (Plainly.str x t).noLoader fun tk => hQ _ _ keeps_tok upIs
example (K : Frag) : kitOne K (.type "str") (.type "str") = some true := rfl
end
end Mine

/-! L3 -/
namespace Mine

def iLoop : List Stmt := forBody ((bodyOf lawD).getD 3 (.Pass default))
def askLoop : List Stmt := forBody (iLoop.getD 1 (.Pass default))

structure Lw (dr dh dk : Addr) (m cm : MS) : Prop where
  row : cm "row" = some (.ref dr)
  keys : cm "keys" = some (.ref dk)
  held : m "held" = some (.ref dh)

theorem ints_paired {f : Nat → Int} : ∀ {l : List Nat} {ys : List Value}, Paired (fun i y => ∃ t, y = Value.int (f i) t) l ys → IntsAre ys (l.map f)
  | _, _, .nil => .nil
  | _, _, .cons a b => by obtain ⟨t, rfl⟩ := a; exact .cons _ t (ints_paired b)
theorem beq_decide (a b : List Nat) : (a == b) = decide (a = b) := by
  by_cases h : a = b
  · simp [h]
  · simp [h]
theorem evTests1 {prog : Program} {w : World} {A : Around} {V : View} {R : Heap} {env : Env} {e : Expr} {b : Bool} (x : Ev prog w A V R (isTrue e env (eval e env)) (Is b)) : Ev prog w A V R (testsOf [e] env) (Is b) := fun Q E s hs hv ht hq => by
  unfold testsOf
  rw [List.forIn_cons, if_pos rfl]
  refine wpAny_bind (wpAny_bind (x.use hs hv ht fun a s' k t p => ?_))
  cases p
  refine wpAny_pure ?_
  dsimp only
  rw [List.forIn_nil]
  exact wpAny_pure (hq _ s' k t upIs)
section
variable {w : World} {A : Around} {K : Frag} {s₁ s : Shared} {B R : Heap} {L fa : Addr} {cd : Value} {m cm : MS} {off wf : List Addr} {W : View} {dr dh dk : Addr} {rows helds kvs : List Value} {xs : List PySem.Str} {Q : Flow → Shared → Prop} {E : Value → Shared → Prop}

theorem Ctx.l1 (c : Ctx K R dr dh rows helds xs) : rows.length = xs.length := c.p1.length.symm
theorem Ctx.l2 (c : Ctx K R dr dh rows helds xs) : helds.length = xs.length := c.p2.length.symm
theorem Ctx.it (c : Ctx K R dr dh rows helds xs) {i : Nat} (hi : i < xs.length) : ∃ v, rows[i]? = some v ∧ Item R v (xs.getD i (PySem.Str.ofString "")) := paired_get (d := PySem.Str.ofString "") (e := Value.none) c.p1 i hi
theorem Ctx.tx (c : Ctx K R dr dh rows helds xs) {i : Nat} (hi : i < xs.length) : ∃ t, helds[i]? = some (.str (xs.getD i (PySem.Str.ofString "")) t) ∧ 0 < t := by
  obtain ⟨v, e, t, rfl, ht⟩ := paired_get (d := PySem.Str.ofString "") (e := Value.none) c.p2 i hi
  exact ⟨t, e, ht⟩
theorem Keys.at (c : Keys R dk kvs xs) {i : Nat} (hi : i < xs.length) : ∃ v, kvs[i]? = some v ∧ KeyAt (asInts (kx xs i)) v R := by
  have h : i < kvs.length := by rw [c.2.1]; exact hi
  exact ⟨kvs[i], List.getElem?_eq_getElem h, c.2.2 i _ (List.getElem?_eq_getElem h)⟩

/-- one of the two lists of places, for the thing asked -/
theorem ask_test {i : Nat} {t : Tok} {av : Value} (Y : KQ K) (rm : Room A 9) (c : Ctx K R dr dh rows helds xs) (k : Keys R dk kvs xs) (l : Lw dr dh dk m cm) (hi : i < xs.length) (hci : cm "i" = some (.int i t)) (hca : cm "asked" = some av) (ha : Item R av (xs.getD i (PySem.Str.ofString "")))
    (f : FS s₁ B (lawEnv L fa cd) off wf W R m cm s) (hQ : ∀ s' R', FS s₁ B (lawEnv L fa cd) off wf W R' m cm s' → Sub R R' → Q .next s') : wpAny (model prog1 w) A (execs askLoop (lawEnv L fa cd)) Q E s := by
  have hl1 := c.l1
  have hlen := c.len
  obtain ⟨ki, eki, hki⟩ := k.at hi
  have hz : rows.length ≤ sizeLine := by rw [sizeLine_eq]; omega
  refine wpAny_execs_cons (f.test (b := false) (evTest (P1 := fun a h => ∃ l ys, a = .ref l ∧ h.IsList l ys.toArray ∧ IntsAre ys (((List.range rows.length).filter fun j => decide (kx xs j = kx xs i)).map fun (j : Nat) => (j : Int)))
    (P2 := fun a h => ∃ l ys, a = .ref l ∧ h.IsList l ys.toArray ∧ IntsAre ys (((List.range rows.length).filter fun j => decide (kx xs j = kx xs i)).map fun (j : Nat) => (j : Int))) ?l ?r ?z) ?_)
  case l =>
    refine (evComp1 (n := rows.length) (P := fun i v => ∃ t, v = .int i t) (PX := IsR 0 rows.length) (fun j => decide (kx xs j = kx xs i)) (fun j v h => ∃ t, v = .int (j : Int) t) rfl (by decide) rfl (by decide) rfl (ev_rl Y c.G (evLC l.row) c.lr (by omega) rfl rfl rfl rfl rfl) ?hI hz ?ht ?he).mono ?fin
    case hI => rintro xv R1 h1 hr; exact it_rl rm.handled hr (by omega)
    case ht =>
      rintro C j v mc R1 h1 hj ⟨tj, rfl⟩ hv
      obtain ⟨vj, ej, ij⟩ := c.it (i := j) (by omega)
      refine evTests1 (evTest (evSub (evCC l.row) (evCL hv) ?_ (P := Is vj)) (evCC hca) ?_)
      · rintro a b R2 h2 rfl rfl; exact ev_at (isList_sub c.lr (h1.trans h2)) ej (by omega)
      · rintro a b R2 h2 rfl rfl
        have := ev_rich (w := w) (A := A) (V := (fv (lawEnv L fa cd) m cm W).and (View.ns C mc)) (op := .Eq) rfl Y (c.G.sub (h1.trans h2)) (rm.le (by omega)) (ij.sub (h1.trans h2)) (ha.sub (h1.trans h2))
        rw [← rich_eq_cmp (op := .Eq) rfl] at this
        refine this.mono ?_
        rintro a R' _ rfl
        show Value.bool (kx xs j == kx xs i) = _
        rw [beq_decide]
    case he =>
      rintro C j v mc R1 h1 hj ⟨tj, rfl⟩ hv _
      refine (evCL hv).mono ?_
      rintro a R' _ rfl; exact ⟨tj, rfl⟩
    case fin => rintro a R' _ ⟨l, ys, rfl, hl, hp⟩; exact ⟨l, ys, rfl, hl, ints_paired hp⟩
  case r =>
    refine (evComp1 (n := rows.length) (P := fun i v => ∃ t, v = .int i t) (PX := IsR 0 rows.length) (fun j => decide (kx xs j = kx xs i)) (fun j v h => ∃ t, v = .int (j : Int) t) rfl (by decide) rfl (by decide) rfl (ev_rl Y c.G (evLC l.row) c.lr (by omega) rfl rfl rfl rfl rfl) ?hIr hz ?htr ?her).mono ?finr
    case hIr => rintro xv R1 h1 hr; exact it_rl rm.handled hr (by omega)
    case htr =>
      rintro C j v mc R1 h1 hj ⟨tj, rfl⟩ hv
      obtain ⟨kj, ekj, hkj⟩ := k.at (i := j) (by omega)
      have hkl := k.2.1
      refine evTests1 (evTest (evSub (evCC l.keys) (evCL hv) ?_ (P := Is kj)) (evSub (evCC l.keys) (evCC hci) ?_ (P := Is ki)) ?_)
      · rintro a b R2 h2 rfl rfl; exact ev_at (isList_sub k.1 (h1.trans h2)) ekj (by omega)
      · rintro a b R2 h2 rfl rfl; exact ev_at (isList_sub k.1 (h1.trans h2)) eki (by omega)
      · rintro a b R2 h2 rfl rfl
        refine (ev_key_eq (hkj.sub (h1.trans h2)) (hki.sub (h1.trans h2)) (by have := rm.units; omega)).mono ?_
        rintro a R' _ rfl
        show Value.bool (decide (asInts (kx xs j) = asInts (kx xs i))) = _
        congr 1
        exact decide_eq_decide.mpr asInts_inj
    case her =>
      rintro C j v mc R1 h1 hj ⟨tj, rfl⟩ hv _
      refine (evCL hv).mono ?_
      rintro a R' _ rfl; exact ⟨tj, rfl⟩
    case finr => rintro a R' _ ⟨l, ys, rfl, hl, hp⟩; exact ⟨l, ys, rfl, hl, ints_paired hp⟩
  case z =>
    rintro a b R2 h2 ⟨l1, ys1, rfl, q1, i1⟩ ⟨l2, ys2, rfl, q2, i2⟩
    refine (ev_neL q1 q2 i1 i2 ?_).mono ?_
    · have := rm.units; omega
    · rintro a R' _ rfl; simp [Is]
  intro s1 R1 f1 hR1
  rw [if_neg (by simp)]
  exact wpAny_execs_nil (wpAny_execs_nil (hQ s1 R1 f1 hR1))

/-- the first check of an item: what a qualified name holds -/
theorem item_test {i : Nat} {t : Tok} (Y : KQ K) (rm : Room A 9) (c : Ctx K R dr dh rows helds xs) (l : Lw dr dh dk m cm) (hi : i < xs.length) (hci : cm "i" = some (.int i t))
    (f : FS s₁ B (lawEnv L fa cd) off wf W R m cm s) (hQ : ∀ s' R', FS s₁ B (lawEnv L fa cd) off wf W R' m cm s' → Sub R R' → Q .next s') : wpAny (model prog1 w) A (exec (iLoop.getD 0 (.Pass default)) (lawEnv L fa cd)) Q E s := by
  have hl1 := c.l1
  have hl2 := c.l2
  have hlen := c.len
  obtain ⟨v, ev, iv⟩ := c.it hi
  obtain ⟨tt, et, htt⟩ := c.tx hi
  have at_ : ∀ {W' : View} {R' : Heap} (h : Sub R R') (p1 p2 p3 : Pos), Ev prog1 w A (fv (lawEnv L fa cd) m cm W') R' (eval (.Subscript (.Name "row" p1) (.Name "i" p2) p3) (lawEnv L fa cd)) (Is v) := by
    intro W' R' h p1 p2 p3
    refine evSub (evLC l.row) (evLC hci) ?_
    rintro a b R2 h2 rfl rfl; exact ev_at (isList_sub c.lr (h.trans h2)) ev (by omega)
  have held_ : ∀ {W' : View} {R' : Heap} (h : Sub R R') (p1 p2 p3 : Pos), Ev prog1 w A (fv (lawEnv L fa cd) m cm W') R' (eval (.Subscript (.Name "held" p1) (.Name "i" p2) p3) (lawEnv L fa cd)) (Is (.str (xs.getD i (PySem.Str.ofString "")) tt)) := by
    intro W' R' h p1 p2 p3
    refine evSub (evLL l.held) (evLC hci) ?_
    rintro a b R2 h2 rfl rfl; exact ev_at (isList_sub c.lh (h.trans h2)) et (by omega)
  have nI := Y.nB "isinstance" (by simp)
  rcases iv with ⟨tv, rfl, _⟩ | ⟨q, tv, rfl, hq⟩
  · refine f.test (b := false) (evTestV (evCallB (evNameB c.G nI boot_isinstance (by decide) rfl rfl rfl rfl) (evA2 (at_ (Sub.refl _) _ _ _) (evNameG c.G Y.nQ rfl rfl rfl)) ?_)) ?_
    · intro vs R1 h1 p; cases p; exact ev_isi_no Y (c.G.sub h1).k (.str _ _)
    intro s1 R1 f1 hR1
    rw [if_neg (by simp)]
    exact wpAny_execs_nil (hQ s1 R1 f1 hR1)
  · refine f.test (b := true) (evTestV (evCallB (evNameB c.G nI boot_isinstance (by decide) rfl rfl rfl rfl) (evA2 (at_ (Sub.refl _) _ _ _) (evNameG c.G Y.nQ rfl rfl rfl)) ?_)) ?_
    · intro vs R1 h1 p; cases p; exact ev_isi_yes Y (c.G.sub h1).k (hq.sub h1)
    intro s1 R1 f1 hR1
    rw [if_pos rfl]
    have G1 := c.G.sub hR1
    have text_ : ∀ (p1 p2 p3 p4 : Pos), Ev prog1 w A (fv (lawEnv L fa cd) m cm W) R1 (eval (.Attribute (.Subscript (.Name "row" p1) (.Name "i" p2) p3) "text" p4) (lawEnv L fa cd)) (Is (.str (xs.getD i (PySem.Str.ofString "")) tv)) := by
      intro p1 p2 p3 p4
      refine evAttr (at_ hR1 _ _ _) ?_
      rintro o R2 h2 rfl; exact ev_text Y (G1.sub h2).k ((hq.sub hR1).sub h2) rfl
    refine wpAny_execs_cons (f1.test (b := (!true || (false || (false || false)))) (evOrN (evOr1 (evNot (evTestV (evCallB (evNameB G1 nI boot_isinstance (by decide) rfl rfl rfl rfl) (evA2 (text_ _ _ _ _) (evNameB G1 (Y.nB "str" (by simp)) boot_str (by decide) rfl rfl rfl rfl)) ?_))) fun _ =>
      evOr1 (evTest (text_ _ _ _ _) (held_ hR1 _ _ _) ?_) fun _ => evOr1 (evTest (evCallT (evNameB G1 (Y.nB "str" (by simp)) boot_str (by decide) rfl rfl rfl rfl) (evA1 (at_ hR1 _ _ _)) ?_ (P := Is (.str (xs.getD i (PySem.Str.ofString "")) tv))) (held_ hR1 _ _ _) ?_) fun _ => evOr0)) ?_)
    · intro vs R2 h2 p; cases p; exact ev_isi_str (G1.sub h2).k rfl
    · rintro a b R2 h2 rfl rfl
      refine ev_neS.mono ?_
      rintro a R' _ rfl; simp [Is]
    · intro vs R2 h2 p; cases p; exact ev_str Y (G1.sub h2) (rm.le (by omega)) ((hq.sub hR1).sub h2)
    · rintro a b R2 h2 rfl rfl
      refine ev_neS.mono ?_
      rintro a R' _ rfl; simp [Is]
    intro s2 R2 f2 hR2
    rw [if_neg (by simp)]
    exact wpAny_execs_nil (wpAny_execs_nil (hQ s2 R2 f2 (hR1.trans hR2)))
end
end Mine

/-! L4 -/
namespace Mine

section
variable {prog : Program} {w : World} {A : Around} {s₁ sa : Shared} {B : Heap} {env : Env} {off wf : List Addr}

/-- the loop, once the thing to walk over is there -/
theorem FS.forGo {ι : Type} {W : ι → View} {J : Nat → ι → Heap → MS → MS → Prop} {T : Value → MS → MS → MS → MS → Prop} {target : Expr} {body : List Stmt} {n : Nat} {P : Nat → Value → Prop} {RR : Result → Shared → Prop} {E : Value → Shared → Prop} {z0 : ι} {R1 : Heap} {m0 cm0 : MS} {xv : Value}
    (f1 : FS s₁ B env off wf (W z0) R1 m0 cm0 sa) (hI : Iters prog w A R1 xv n P)
    (hW : ∀ z, Only (W z) wf)
    (hasg : ∀ off' wf' W' R m cm s i v, FS s₁ B env off' wf' W' R m cm s → Sub R1 R → P i v → ∀ (Q : Unit → Shared → Prop) (E : Value → Shared → Prop), (∀ s' R' m' cm', FS s₁ B env off' wf' W' R' m' cm' s' → Sub R R' → T v m m' cm cm' → Q () s') → wpAny (model prog w) A (assign target env v) Q E s)
    (hJ : ∀ i z R R' m cm, Sub R R' → J i z R m cm → J i z R' m cm) (h0 : J 0 z0 R1 m0 cm0)
    (hbody : ∀ Wx offx fpx z i v R ma cma m cm s, i < n → P i v → J i z R ma cma → T v ma m cma cm → Sub R1 R → Only Wx fpx → (∀ a ∈ off, a ∉ fpx) → FS s₁ B env (offx ++ off) (fpx ++ wf) ((W z).and Wx) R m cm s →
      ∀ (Q : Flow → Shared → Prop) (E : Value → Shared → Prop), (∀ s' z' R' m' cm', FS s₁ B env (offx ++ off) (fpx ++ wf) ((W z').and Wx) R' m' cm' s' → Sub R R' → J (i + 1) z' R' m' cm' → Q .next s') → wpAny (model prog w) A (execs body env) Q E s)
    (hdone : ∀ z R m cm s, FS s₁ B env off wf (W z) R m cm s → Sub R1 R → J n z R m cm → RR (.ok .next) s)
    (hgo : ∀ it v, letOwnedTupleGo target it v = pure () := by intro _ _; rfl) :
    wpAny (model prog w) A (pyIter xv) (fun it s₂ => codeAny (model prog w) A (.forLoop target it body [] env) RR s₂) E sa := by
  refine wpAny_pos f1.tok (hI _ _ sa f1.sub fun I fp wr St s2 k2 Wk hst hwr hfp hal ht => ?_)
  have nofp : ∀ a, R1.get? a = none → (sa.heap.get? a).isSome = true → a ∉ fp := fun a h1 h2 hm => by
    rcases (hfp a hm).1 with q | q
    · rw [h1] at q; cases q
    · rw [q] at h2; cases h2
  refine for_core (R0 := R1) (J := J) (T := T) Wk hal (fun i v s Q E _ _ hq => wpAny_of_eq (hgo _ _) hq) hW (fun a h => nofp a (f1.offF a h).1 (f1.liveF h)) (fun a h => nofp a (f1.offW a h).1 (f1.offW a h).2.2)
    (fun a h hm => by have := f1.liveW a h; rw [hwr a hm] at this; cases this) hasg hJ hbody hdone (f1.grow k2 ht) hst (fun b hb => ⟨?_, none_of_keeps f1.keep (hwr b hb)⟩) h0
  cases e : R1.get? b with
  | none => rfl
  | some o => have := hwr b hb; rw [f1.sub _ _ e] at this; cases this
end

theorem only_same {W : View} {wf : List Addr} (h : Only W wf) : ∀ _ : Unit, Only W wf := fun _ => h
section
variable {w : World} {A : Around} {K : Frag} {s₁ s : Shared} {B R : Heap} {L fa : Addr} {cd : Value} {m cm : MS} {off wf : List Addr} {W : View} {dr dh dk : Addr} {rows helds kvs : List Value} {xs : List PySem.Str} {Q : Flow → Shared → Prop} {E : Value → Shared → Prop}

theorem ask_loop {i : Nat} {t : Tok} (Y : KQ K) (rm : Room A 9) (c : Ctx K R dr dh rows helds xs) (k : Keys R dk kvs xs) (l : Lw dr dh dk m cm) (hi : i < xs.length) (hci : cm "i" = some (.int i t))
    (f : FS s₁ B (lawEnv L fa cd) off wf W R m cm s) (hQ : ∀ s' R' cm', FS s₁ B (lawEnv L fa cd) off wf W R' m cm' s' → Sub R R' → Lw dr dh dk m cm' → Q .next s') : wpAny (model prog1 w) A (exec (iLoop.getD 1 (.Pass default)) (lawEnv L fa cd)) Q E s := by
  have hl2 := c.l2
  have hlen := c.len
  obtain ⟨tt, et, htt⟩ := c.tx hi
  have held_ : ∀ (p1 p2 p3 : Pos), Ev prog1 w A (fv (lawEnv L fa cd) m cm W) R (eval (.Subscript (.Name "held" p1) (.Name "i" p2) p3) (lawEnv L fa cd)) (Is (.str (xs.getD i (PySem.Str.ofString "")) tt)) := by
    intro p1 p2 p3
    refine evSub (evLL l.held) (evLC hci) ?_
    rintro a b R2 h2 rfl rfl; exact ev_at (isList_sub c.lh h2) et (by omega)
  refine wpAny_For (f.ev (evList (evArgsC (held_ _ _ _) (evArgsC (P1 := fun a h => ∃ q, a = .ref q ∧ QN h q (.str (xs.getD i (PySem.Str.ofString "")) tt)) ?_ evArgs0)) ?_) ?_)
  · refine evCallK (f := .ref 88) c.G.k Y.keep (evNameG c.G Y.nQ rfl rfl rfl) (evA1 (held_ _ _ _)) ?_
    intro vs R1 h1 p; cases p
    exact make1 Y (c.G.sub h1) (rm.le (by omega))
  · rintro vs h ⟨_, _, rfl, _, _, _, rfl, _, rfl⟩; rw [sizeLine_eq]; simp
  rintro _ s1 R1 f1 hR1 ⟨la, _, rfl, hla, _, _, rfl, rfl, _, _, rfl, ⟨q, rfl, hq⟩, rfl⟩
  have both : ∀ (j : Nat) v, ([Value.str (xs.getD i (PySem.Str.ofString "")) tt, .ref q] : List Value)[j]? = some v → Item R1 v (xs.getD i (PySem.Str.ofString "")) := by
    intro j v e
    match j, e with
    | 0, e => simp at e; subst e; exact .inl ⟨tt, rfl, htt⟩
    | 1, e => simp at e; subst e; exact .inr ⟨q, tt, rfl, hq⟩
    | j + 2, e => simp at e
  refine f1.forGo (ι := Unit) (W := fun _ => W) (z0 := ()) (J := fun _ _ _ m' cm' => m' = m ∧ Lw dr dh dk m cm' ∧ cm' "i" = some (.int i t)) (T := fun v m m' cm cm' => m' = m ∧ cm' = upd cm "asked" v) (it_list rm.handled hla) (only_same f1.only) ?hasg ?hJ ⟨rfl, l, hci⟩ ?hbody ?hdone
  case hasg =>
    intro off' wf' W' R' m' cm' s' j v f' hR' hP Q' E' h
    exact f'.bindN rfl (.c rfl rfl) fun s'' f'' => h s'' R' _ _ f'' (Sub.refl _) ⟨rfl, rfl⟩
  case hJ => intro j z R' R'' m' cm' _ h; exact h
  case hbody =>
    rintro Wx offx fpx z j v R2 ma cma m2 cm2 s2 hj hP ⟨rfl, l2, hi2⟩ ⟨rfl, rfl⟩ hR2 hx hoff f2 Q' E' h
    refine ask_test Y rm (c.sub (hR1.trans hR2)) (k.sub (hR1.trans hR2)) ⟨(upd_ne (by decide)).trans l2.row, (upd_ne (by decide)).trans l2.keys, l2.held⟩ hi ((upd_ne (by decide)).trans hi2) upd_same ((both j v hP).sub hR2) f2 ?_
    intro s3 R3 f3 hR3
    exact h s3 () R3 _ _ f3 hR3 ⟨rfl, ⟨(upd_ne (by decide)).trans l2.row, (upd_ne (by decide)).trans l2.keys, l2.held⟩, (upd_ne (by decide)).trans hi2⟩
  case hdone =>
    rintro z R2 m2 cm2 s2 f2 hR2 ⟨rfl, l2, hi2⟩
    exact hQ s2 R2 cm2 f2 (hR1.trans hR2) l2

theorem i_loop (Y : KQ K) (rm : Room A 9) (c : Ctx K R dr dh rows helds xs) (k : Keys R dk kvs xs) (l : Lw dr dh dk m cm)
    (f : FS s₁ B (lawEnv L fa cd) off wf W R m cm s) (hQ : ∀ s' R' cm', FS s₁ B (lawEnv L fa cd) off wf W R' m cm' s' → Sub R R' → Lw dr dh dk m cm' → Q .next s') : wpAny (model prog1 w) A (exec ((bodyOf lawD).getD 3 (.Pass default)) (lawEnv L fa cd)) Q E s := by
  have hl1 := c.l1
  have hlen := c.len
  refine wpAny_For (f.ev (ev_rl Y c.G (evLC l.row) c.lr (by omega) rfl rfl rfl rfl rfl) ?_)
  intro xv s1 R1 f1 hR1 hr
  refine f1.forGo (ι := Unit) (W := fun _ => W) (z0 := ()) (J := fun _ _ _ m' cm' => m' = m ∧ Lw dr dh dk m cm') (T := fun v m m' cm cm' => m' = m ∧ cm' = upd cm "i" v) (it_rl rm.handled hr (by omega)) (only_same f1.only) ?hasg ?hJ ⟨rfl, l⟩ ?hbody ?hdone
  case hasg =>
    intro off' wf' W' R' m' cm' s' j v f' hR' hP Q' E' h
    exact f'.bindN rfl (.c rfl rfl) fun s'' f'' => h s'' R' _ _ f'' (Sub.refl _) ⟨rfl, rfl⟩
  case hJ => intro j z R' R'' m' cm' _ h; exact h
  case hbody =>
    rintro Wx offx fpx z j v R2 ma cma m2 cm2 s2 hj ⟨tj, rfl⟩ ⟨rfl, l2⟩ ⟨rfl, rfl⟩ hR2 hx hoff f2 Q' E' h
    have l3 : Lw dr dh dk m2 (upd cma "i" (.int j tj)) := ⟨(upd_ne (by decide)).trans l2.row, (upd_ne (by decide)).trans l2.keys, l2.held⟩
    have hj' : j < xs.length := by omega
    refine wpAny_execs_cons (item_test Y rm (c.sub (hR1.trans hR2)) l3 hj' upd_same f2 ?_)
    intro s3 R3 f3 hR3
    refine wpAny_execs_cons (ask_loop Y rm (c.sub ((hR1.trans hR2).trans hR3)) (k.sub ((hR1.trans hR2).trans hR3)) l3 hj' upd_same f3 ?_)
    intro s4 R4 cm4 f4 hR4 l4
    exact wpAny_execs_nil (h s4 () R4 _ _ f4 (hR3.trans hR4) ⟨rfl, l4⟩)
  case hdone =>
    rintro z R2 m2 cm2 s2 f2 hR2 ⟨rfl, l2⟩
    exact hQ s2 R2 cm2 f2 (hR1.trans hR2) l2
end
end Mine

/-! L5 -/
namespace Mine

def orderE : Expr := valOf ((bodyOf lawD).getD 4 (.Pass default))
/-- the places of the first of each key -/
def fl (xs : List PySem.Str) : List Nat := (List.range xs.length).filter (isFirst (kx xs))
theorem first_notIn (k : Nat → List Nat) (j : Nat) : (!decide (asInts (k j) ∈ (List.range j).map fun i => asInts (k i))) = isFirst k j := by
  unfold isFirst
  rw [← decide_not]
  apply decide_eq_decide.mpr
  simp only [List.mem_map, List.mem_range, not_exists, not_and]
  constructor
  · intro h i hi e; exact h i hi (asInts_inj.mpr e)
  · intro h i hi e; exact h i hi (asInts_inj.mp e)
theorem paired_take {R : Heap} {dk : Addr} {kvs : List Value} {xs : List PySem.Str} (k : Keys R dk kvs xs) : ∀ j, j ≤ kvs.length → Paired (fun T v => KeyAt T v R) ((List.range j).map fun i => asInts (kx xs i)) (kvs.take j)
  | 0, _ => by simp; exact .nil
  | j + 1, h => by
    have hj : j < kvs.length := h
    rw [List.range_succ, List.map_append, List.take_succ_eq_append_getElem hj]
    exact (paired_take k j (Nat.le_of_lt h)).snoc (k.2.2 j _ (List.getElem?_eq_getElem hj))

section
variable {w : World} {A : Around} {K : Frag} {R : Heap} {L fa : Addr} {cd : Value} {m cm : MS} {W : View} {dr dh dk : Addr} {rows helds kvs : List Value} {xs : List PySem.Str}

def Order (xs : List PySem.Str) (kvs : List Value) : Value → Heap → Prop := fun a h => ∃ lo p, a = .ref lo ∧ Stab (fun i j => ltK (kx xs) ((fl xs).getD i 0) ((fl xs).getD j 0)) (fl xs).length p ∧ h.IsList lo (List.toArray (p.map fun i => kvs.getD ((fl xs).getD i 0) Value.none))

theorem ev_order (Y : KQ K) (rm : Room A 9) (c : Ctx K R dr dh rows helds xs) (k : Keys R dk kvs xs) (l : Lw dr dh dk m cm) : Ev prog1 w A (fv (lawEnv L fa cd) m cm W) R (eval orderE (lawEnv L fa cd)) (Order xs kvs) := by
  have hkl := k.2.1
  have hlen := c.len
  have hz : kvs.length ≤ sizeLine := by rw [sizeLine_eq]; omega
  refine evCallB (evNameB c.G (Y.nB "sorted" (by simp)) boot_sorted (by decide) rfl rfl rfl rfl) (evArgsC (P1 := fun a h => ∃ ls ys, a = .ref ls ∧ h.IsList ls (List.toArray ys) ∧ Paired (fun i y => kvs[i]? = some y) (fl xs) ys) ?arg evArgs0) ?call
  case arg =>
    refine (evComp1 (n := kvs.length) (P := fun i v => ∃ t, v = .int i t) (PX := IsR 0 kvs.length) (isFirst (kx xs)) (fun j v h => kvs[j]? = some v) rfl (by decide) rfl (by decide) rfl (ev_rl Y c.G (evLC l.keys) k.1 (by omega) rfl rfl rfl rfl rfl) ?hI hz ?ht ?he).mono ?fin
    case hI => rintro xv R1 h1 hr; exact it_rl rm.handled hr (by omega)
    case ht =>
      rintro C j v mc R1 h1 hj ⟨tj, rfl⟩ hv
      obtain ⟨kj, ekj, hkj⟩ := k.at (i := j) (by omega)
      refine evTests1 (evTest (evSub (evCC l.keys) (evCL hv) ?_ (P := Is kj)) (ev_upto (xs := kvs) (k := j) ((evCC l.keys).mono ?_) ((evCL hv).mono ?_) hz) ?_)
      · rintro a b R2 h2 rfl rfl; exact ev_at (isList_sub k.1 (h1.trans h2)) ekj (by omega)
      · rintro a R' hR rfl; exact ⟨dk, rfl, isList_sub k.1 (h1.trans hR)⟩
      · rintro a R' hR rfl; exact ⟨tj, rfl⟩
      · rintro a b R2 h2 rfl ⟨lt, rfl, hlt⟩
        rw [← first_notIn]
        exact ev_key_notIn hlt (hkj.sub (h1.trans h2)) (paired_take (k.sub (h1.trans h2)) j (by omega)) (by have := rm.units; omega)
    case he =>
      rintro C j v mc R1 h1 hj ⟨tj, rfl⟩ hv _
      obtain ⟨kj, ekj, hkj⟩ := k.at (i := j) (by omega)
      refine evSub (evCC l.keys) (evCL hv) ?_
      rintro a b R2 h2 rfl rfl
      refine (ev_at (isList_sub k.1 (h1.trans h2)) ekj (by omega)).mono ?_
      rintro a R' _ rfl; exact ekj
    case fin =>
      rintro a R' _ ⟨ls, ys, rfl, hl, hp⟩
      refine ⟨ls, ys, rfl, hl, ?_⟩
      unfold fl; rw [← hkl]; exact hp
  case call =>
    rintro vs R1 h1 ⟨_, _, rfl, ⟨ls, ys, rfl, hl, hp⟩, rfl⟩
    have hyl : ys.length = (fl xs).length := hp.length.symm
    have hfl : (fl xs).length ≤ xs.length := by have := List.length_filter_le (isFirst (kx xs)) (List.range xs.length); rw [List.length_range] at this; exact this
    have key : ∀ i, i < ys.length → ∃ v, ys[i]? = some v ∧ kvs[(fl xs).getD i 0]? = some v ∧ KeyAt (asInts (kx xs ((fl xs).getD i 0))) v R1 := fun i hi => by
      obtain ⟨v, e1, e2⟩ := paired_get (d := 0) (e := Value.none) hp i (by omega)
      exact ⟨v, e1, e2, (k.2.2 _ _ e2).sub h1⟩
    refine (ev_sorted (vs := ys) (b := false) (T := fun _ => .type "list") (lt := fun i j => ltK (kx xs) ((fl xs).getD i 0) ((fl xs).getD j 0)) (.inl ⟨rfl, rfl⟩) hl (word_of fun i => kx xs ((fl xs).getD i 0)) (by omega) ?hT (fun _ _ => rfl) ?hc).mono ?fin
    case hT =>
      intro v hv
      obtain ⟨i, hi, e⟩ := List.getElem_of_mem hv
      obtain ⟨v', e1, _, ⟨l1, us, rfl, q, _⟩⟩ := key i hi
      rw [List.getElem?_eq_getElem hi, e] at e1; cases e1
      exact typeIs_isList q
    case hc =>
      intro κ hκ i j hi hj
      obtain ⟨vi, ei, _, ki⟩ := key i hi
      obtain ⟨vj, ej, _, kj⟩ := key j hj
      have g1 : ys.getD i Value.none = vi := by rw [List.getD_eq_getElem?_getD, ei]; rfl
      have g2 : ys.getD j Value.none = vj := by rw [List.getD_eq_getElem?_getD, ej]; rfl
      simp only [Bool.false_eq_true, if_false, g1, g2]
      exact ev_lt_key (rm.in1.in1.u) ki kj (hκ.imp id fun q => q.1)
    case fin =>
      rintro a R' _ ⟨D, p, rfl, hs, hD⟩
      rw [hyl] at hs
      refine ⟨D, p, rfl, hs, ?_⟩
      simp only [Bool.false_eq_true, if_false] at hD
      have e : (p.map fun i => ys.getD i Value.none) = p.map fun i => kvs.getD ((fl xs).getD i 0) Value.none := by
        apply List.map_congr_left
        intro i hi
        have hlt : i < ys.length := by have := hs.1.mem_iff.mp hi; rw [hyl]; simpa using this
        obtain ⟨v, e1, e2, _⟩ := key i hlt
        rw [List.getD_eq_getElem?_getD, e1, List.getD_eq_getElem?_getD, e2]
      rw [← e]; exact hD
end
end Mine

/-! L6 -/
namespace Mine

section
variable {prog : Program} {w : World} {A : Around} {s₁ s : Shared} {B R : Heap} {env : Env} {off wf : List Addr} {W : View} {m cm : MS}

/-- a change where the frame does not look -/
theorem FS.skip {C : Addr} {h' : Heap} (f : FS s₁ B env off wf W R m cm s) (hs : Heap.SameBut C s.heap h') (hR : R.get? C = none) (h1 : s₁.heap.get? C = none) (hF : ¬ Frame env C) (ho : C ∉ off) (hw : C ∉ wf) : FS s₁ B env off wf W R m cm { s with heap := h' } :=
  have go : ∀ a o, a ≠ C → s.heap.get? a = some o → h'.get? a = some o := fun a o h e => (hs.2 a h).trans e
  have live : ∀ a, a ≠ C → (s.heap.get? a).isSome = true → (h'.get? a).isSome = true := fun a h e => by rw [hs.2 a h]; exact e
  { keep := by
      obtain ⟨h, t, rfl, e⟩ := f.keep
      exact ⟨h', t, rfl, fun b o q => go b o (fun z => by rw [z, h1] at q; cases q) (e b o q)⟩
    tok := f.tok
    sub := fun b o q => go b o (fun z => by rw [z, hR] at q; cases q) (f.sub b o q)
    base := f.base
    ap := f.ap
    fns := Heap.Ns.at' f.fns fun o q => go _ o (fun z => hF (z ▸ .inl rfl)) q
    cells := fun x c e => cell_at (f.cells x c e) fun o q => go _ o (fun z => hF (z ▸ .inr ⟨x, e⟩)) q
    offF := f.offF
    offW := fun a h => ⟨(f.offW a h).1, (f.offW a h).2.1, live a (fun z => ho (z ▸ h)) (f.offW a h).2.2⟩
    liveW := fun a h => live a (fun z => hw (z ▸ h)) (f.liveW a h)
    only := f.only
    view := f.only _ _ (fun a ha o q => go a o (fun z => hw (z ▸ ha)) q) f.view }

/-- `name = [elt for x in iter for y in iter2 if ..]`, stored before the variables go -/
theorem FS.assignComp2 {elt iter iter2 : Expr} {x y nm : PySem.Str} {px py pn pos spos : Pos} {ifs : List Expr} {scope : Scope} {cl : List (PySem.Str × Addr)} {PX PY : Value → Heap → Prop} {n n2 : Nat} {P P2 : Nat → Value → Prop} {Q : Flow → Shared → Prop} {E : Value → Shared → Prop}
    (p : Nat → Nat → Bool) (F : Nat → Nat → Value → Heap → Prop) (f : FS s₁ B env off wf W R m cm s) (hclos : closureFor scope env = pure cl) (hcell : ∀ z ∈ scope.names, z.2 ≠ .cell) (hkind : scope.kind = .function)
    (hnames : ∀ z ∈ scope.names, z.2 = .local → scope.names.lookup z.1 = some .local) (hx : scope.names.lookup x = some .local) (hy : scope.names.lookup y = some .local) (hxy : x ≠ y) (hnm : env.kindOf nm = some .local) (hk : env.scope.kind = .function)
    (hit : Ev prog w A (fv env m cm W) R (eval iter env) PX) (hI : ∀ xv R1, Sub R R1 → PX xv R1 → Iters prog w A R1 xv n P) (hsz : n * n2 ≤ sizeLine)
    (hit2 : ∀ C i v mc R1, Sub R R1 → i < n → P i v → mc x = some v → Ev prog w A ((fv env m cm W).and (View.ns C mc)) R1 (eval iter2 (compEnvC scope cl C env)) PY)
    (hI2 : ∀ yv R1, Sub R R1 → PY yv R1 → Iters prog w A R1 yv n2 P2)
    (ht : ∀ C i v j u mc R1, Sub R R1 → i < n → P i v → j < n2 → P2 j u → mc x = some v → mc y = some u → Ev prog w A ((fv env m cm W).and (View.ns C mc)) R1 (testsOf ifs (compEnvC scope cl C env)) (Is (p i j)))
    (he : ∀ C i v j u mc R1, Sub R R1 → i < n → P i v → j < n2 → P2 j u → mc x = some v → mc y = some u → p i j = true → Ev prog w A ((fv env m cm W).and (View.ns C mc)) R1 (eval elt (compEnvC scope cl C env)) (F i j))
    (h : ∀ D s' R' zss, FS s₁ B env off wf W R' (upd m nm (.ref D)) cm s' → Sub R R' → R'.IsList D (List.flatten zss).toArray → Paired (fun i zs => Paired (fun j y => F i j y R') ((List.range n2).filter (p i)) zs) (List.range n) zss → Q .next s')
    (hsw : swapsWith (.ListComp elt [⟨.Name x px, iter, [], 0⟩, ⟨.Name y py, iter2, ifs, 0⟩] scope pos) (some (.Name nm pn)) spos.line env = pure true)
    (hs : ∀ z, foldedSetIterable iter env z = pure z := by intro _; rfl) (hs2 : ∀ C z, foldedSetIterable iter2 (compEnvC scope cl C env) z = pure z := by intro _ _; rfl) :
    wpAny (model prog w) A (exec (.Assign [.Name nm pn] (.ListComp elt [⟨.Name x px, iter, [], 0⟩, ⟨.Name y py, iter2, ifs, 0⟩] scope pos) spos) env) Q E s := by
  rw [exec_Assign_Name_used _ _ _ _ hsw]
  refine wpAny_bind (wpAny_standAt (wpAny_bind ?_))
  show wpAny _ A (do let _ ← comprehension (.ListComp elt [⟨.Name x px, iter, [], 0⟩, ⟨.Name y py, iter2, ifs, 0⟩] scope pos) scope env _ (PySem.newList []) false (eval iter env) (some (assign (.Name nm pn) env))) _ _ s
  refine wpAny_bind (wpAny_mono (comp2_raw (use := some (assign (.Name nm pn) env)) (Q := fun _ s' => Q .next s') p F hclos hcell hkind hnames hx hy hxy hit hI hsz hit2 hI2 ht he hs hs2 f.sub f.vw f.tok ?_) (fun _ s' hq => wpAny_pure (wpAny_pure hq)) fun _ _ e => e)
  intro r D C s' R'' zss m' hC hD hDC hns k tk hRR hsub offC offD new hpl hpr
  have aC : ∀ a, (s.heap.get? a).isSome = true → a ≠ C := fun a h z => by rw [z, hC] at h; cases h
  have aD : ∀ a, (s.heap.get? a).isSome = true → a ≠ D := fun a h z => by rw [z, hD] at h; cases h
  have offA : ∀ a, R.get? a = none → (s.heap.get? a).isSome = true → R''.get? a = none := fun a h1 h2 => by
    cases e : R''.get? a with
    | none => rfl
    | some o =>
      rcases new a o e with q | q
      · rw [h1] at q; cases q
      · rw [q] at h2; cases h2
  let R2 : Heap := Mine.only s'.heap fun b => (R''.get? b).isSome || b == D
  have g2 : ∀ b o, R2.get? b = some o ↔ s'.heap.get? b = some o ∧ ((R''.get? b).isSome = true ∨ b = D) := fun b o => by
    show (Mine.only s'.heap _).get? b = some o ↔ _
    rw [only_get]
    split
    · rename_i q; exact ⟨fun e => ⟨e, by simpa using q⟩, fun e => e.1⟩
    · rename_i q; exact ⟨fun e => (by cases e), fun e => absurd (by simpa using e.2) q⟩
  have n2' : ∀ a, R''.get? a = none → a ≠ D → R2.get? a = none := fun a h1 h2 => by
    cases e : R2.get? a with
    | none => rfl
    | some o =>
      rcases ((g2 a o).mp e).2 with q | q
      · rw [h1] at q; cases q
      · exact absurd q h2
  have sub2 : Sub R'' R2 := fun b o e => (g2 b o).mpr ⟨hsub _ _ e, .inl (by rw [e]; rfl)⟩
  have hD1 : s₁.heap.get? D = none := none_of_keeps f.keep hD
  have hC1 : s₁.heap.get? C = none := none_of_keeps f.keep hC
  have f2 : FS s₁ B env off (C :: wf) (W.and (View.ns C m')) R2 m cm s' :=
    { keep := keeps_trans f.keep k
      tok := tk
      sub := fun b o e => ((g2 b o).mp e).1
      base := fun b o e => by
        rcases ((g2 b o).mp e).2 with q | q
        · obtain ⟨o', ho'⟩ := Option.isSome_iff_exists.mp q
          rcases new b o' ho' with z | z
          · obtain ⟨o2, ho2⟩ := Option.isSome_iff_exists.mp z
            exact f.base b o2 ho2
          · exact .inr (none_of_keeps f.keep z)
        · rw [q]; exact .inr hD1
      ap := f.ap
      fns := ns_sub f.fns (keeps_sub k)
      cells := fun x c e => cell_sub (f.cells x c e) (keeps_sub k)
      offF := fun a h => ⟨n2' a (offA a (f.offF a h).1 (f.liveF h)) (aD a (f.liveF h)), (f.offF a h).2.1, fun q => (List.mem_cons.mp q).elim (aC a (f.liveF h)) (f.offF a h).2.2⟩
      offW := fun a h => ⟨n2' a (offA a (f.offW a h).1 (f.offW a h).2.2) (aD a (f.offW a h).2.2), (f.offW a h).2.1, by obtain ⟨o, ho⟩ := Option.isSome_iff_exists.mp (f.offW a h).2.2; rw [keeps_sub k _ _ ho]; rfl⟩
      liveW := fun a h => (List.mem_cons.mp h).elim (fun e => by rw [e]; exact ns_live hns) fun e => by obtain ⟨o, ho⟩ := Option.isSome_iff_exists.mp (f.liveW a e); rw [keeps_sub k _ _ ho]; rfl
      only := fun h h' q z => ⟨f.only h h' (fun a ha => q a (.tail _ ha)) z.1, Heap.Ns.at' z.2 fun o e => q C (.head _) o e⟩
      view := ⟨W.up _ _ (keeps_sub k) f.view, hns⟩ }
  show wpAny _ A (assign (.Name nm pn) env (.ref D)) _ _ _
  refine f2.bindN hk (.l hnm) fun s3 f3 => ⟨m', f3.view.2, fun h' hs' => ?_⟩
  have nCF : ¬ Frame env C := fun z => aC C (f.liveF z) rfl
  have nCo : C ∉ off := fun z => aC C (f.offW C z).2.2 rfl
  have nCw : C ∉ wf := fun z => aC C (f.liveW C z) rfl
  have f4 : FS s₁ B env off wf W R2 (upd m nm (.ref D)) cm s3 :=
    { f3 with
      offF := fun a h => ⟨(f3.offF a h).1, (f3.offF a h).2.1, fun q => (f3.offF a h).2.2 (.tail _ q)⟩
      liveW := fun a h => f3.liveW a (.tail _ h)
      only := f.only
      view := f3.view.1 }
  have f5 := f4.skip hs' (n2' C offC hDC.symm) hC1 nCF nCo nCw
  refine h D _ R2 zss f5 (hRR.trans sub2) ?_ (hpr R2 sub2)
  obtain ⟨nn, e⟩ := hpl
  exact ⟨_, (g2 D _).mpr ⟨e, .inr rfl⟩, rfl, nn, rfl⟩
end
end Mine

/-! L7 -/
namespace Mine

def grp (xs : List PySem.Str) (oi : List Nat) : List Nat := oi.flatMap fun a => (List.range xs.length).filter fun j => decide (kx xs j = kx xs a)
theorem paired_rows {rows : List Value} : ∀ {l : List Nat} {zs : List Value}, Paired (fun j y => rows[j]? = some y) l zs → zs = l.map fun j => rows.getD j Value.none
  | _, _, .nil => rfl
  | _, _, .cons a b => by rw [List.map_cons, ← paired_rows b, List.getD_eq_getElem?_getD, a]; rfl
theorem flat_rows {rows : List Value} {q : Nat → List Nat} : ∀ {l : List Nat} {zss : List (List Value)}, Paired (fun i zs => Paired (fun j y => rows[j]? = some y) (q i) zs) l zss → zss.flatten = (l.flatMap q).map fun j => rows.getD j Value.none
  | _, _, .nil => rfl
  | _, _, .cons a b => by rw [List.flatten_cons, List.flatMap_cons, List.map_append, ← flat_rows b, ← paired_rows a]
theorem range_flat {α : Type} (oi : List Nat) (q : Nat → List α) : ((List.range oi.length).flatMap fun i => q (oi.getD i 0)) = oi.flatMap q := by
  have e : oi = (List.range oi.length).map fun i => oi.getD i 0 := by
    apply List.ext_getElem (by simp)
    intro i h1 h2
    simp [h1]
  conv => rhs; rw [e, List.flatMap_map]

section
variable {w : World} {A : Around} {K : Frag} {s₁ s : Shared} {B R : Heap} {L fa : Addr} {cd : Value} {m cm : MS} {off wf : List Addr} {W : View} {dr dh dk lo : Addr} {rows helds kvs : List Value} {xs : List PySem.Str} {oi : List Nat} {Q : Flow → Shared → Prop} {E : Value → Shared → Prop}

theorem due_stmt (Y : KQ K) (rm : Room A 9) (c : Ctx K R dr dh rows helds xs) (k : Keys R dk kvs xs) (l : Lw dr dh dk m cm) (hmo : m "order" = some (.ref lo)) (hlo : R.IsList lo (List.toArray (oi.map fun a => kvs.getD a Value.none))) (hoi : ∀ a ∈ oi, a < xs.length) (holen : oi.length ≤ 63)
    (f : FS s₁ B (lawEnv L fa cd) off wf W R m cm s) (hQ : ∀ D s' R', FS s₁ B (lawEnv L fa cd) off wf W R' (upd m "due" (.ref D)) cm s' → Sub R R' → R'.IsList D (List.toArray ((grp xs oi).map fun j => rows.getD j Value.none)) → Q .next s') :
    wpAny (model prog1 w) A (exec ((bodyOf lawD).getD 5 (.Pass default)) (lawEnv L fa cd)) Q E s := by
  have hkl := k.2.1
  have hl1 := c.l1
  have hlen := c.len
  have hmem : ∀ a ∈ oi, a < xs.length := fun a ha => hoi a (ha)
  have holen' : (oi).length = oi.length := by simp
  have hkey : ∀ i v, ((oi).map fun a => kvs.getD a Value.none)[i]? = some v → i < (oi).length ∧ KeyAt (asInts (kx xs ((oi).getD i 0))) v R := by
    intro i v e
    have hi : i < (oi).length := by have := (List.getElem?_eq_some_iff.mp e).1; simpa using this
    refine ⟨hi, ?_⟩
    have ha := hmem _ (getD_mem (d := 0) hi)
    obtain ⟨v', e', h'⟩ := k.at ha
    rw [List.getElem?_map, List.getElem?_eq_getElem hi] at e
    simp only [Option.map_some, Option.some.injEq] at e
    have e2 : (oi).getD i 0 = (oi)[i] := getD_at hi
    rw [e2] at e' h' ⊢
    rw [List.getD_eq_getElem?_getD, e'] at e
    cases e
    exact h'
  refine f.assignComp2 (n := (oi).length) (n2 := rows.length) (P := fun i v => ((oi).map fun a => kvs.getD a Value.none)[i]? = some v) (P2 := fun i v => ∃ t, v = .int i t) (PX := IsL ((oi).map fun a => kvs.getD a Value.none)) (PY := IsR 0 rows.length)
    (fun i j => decide (kx xs j = kx xs ((oi).getD i 0))) (fun i j v h => rows[j]? = some v) rfl (by decide) rfl (by decide) rfl rfl (by decide) rfl rfl ?it ?hI ?hz ?it2 ?hI2 ?ht ?he ?fin ?hsw
  case hsw => kernel_rfl
  case it =>
    refine (evLL hmo).mono ?_
    rintro a R' hR rfl; exact ⟨lo, rfl, isList_sub hlo hR⟩
  case hI =>
    rintro xv R1 h1 ⟨l1, rfl, q⟩
    have := it_list (prog := prog1) (w := w) rm.handled q
    rw [List.length_map] at this
    exact this
  case hz =>
    rw [sizeLine_eq, holen']
    have : oi.length * rows.length ≤ 63 * 63 := Nat.mul_le_mul holen (by omega)
    omega
  case it2 =>
    intro C i v mc R1 h1 hi hP hv
    exact ev_rl Y (c.G.sub h1) (evCC l.row) (isList_sub c.lr h1) (by omega) rfl rfl rfl rfl rfl
  case hI2 => rintro xv R1 h1 hr; exact it_rl rm.handled hr (by omega)
  case ht =>
    rintro C i v j u mc R1 h1 hi hP hj ⟨tj, rfl⟩ hv hu
    obtain ⟨_, hkv⟩ := hkey i v hP
    obtain ⟨kj, ekj, hkj⟩ := k.at (i := j) (by omega)
    refine evTests1 (evTest (evSub (evCC l.keys) (evCL hu) ?_ (P := Is kj)) (evCL hv) ?_)
    · rintro a b R2 h2 rfl rfl; exact ev_at (isList_sub k.1 (h1.trans h2)) ekj (by omega)
    · rintro a b R2 h2 rfl rfl
      refine (ev_key_eq (hkj.sub (h1.trans h2)) (hkv.sub (h1.trans h2)) (by have := rm.units; omega)).mono ?_
      rintro a R' _ rfl
      show Value.bool (decide (asInts (kx xs j) = asInts (kx xs ((oi).getD i 0)))) = _
      congr 1
      exact decide_eq_decide.mpr asInts_inj
  case he =>
    rintro C i v j u mc R1 h1 hi hP hj ⟨tj, rfl⟩ hv hu _
    obtain ⟨vj, ej, ij⟩ := c.it (i := j) (by omega)
    refine evSub (evCC l.row) (evCL hu) ?_
    rintro a b R2 h2 rfl rfl
    refine (ev_at (isList_sub c.lr (h1.trans h2)) ej (by omega)).mono ?_
    rintro a R' _ rfl; exact ej
  case fin =>
    intro D s' R' zss f' hR' hl hp
    refine hQ D s' R' f' hR' ?_
    have e := flat_rows hp
    rw [range_flat oi fun a => (List.range rows.length).filter fun j => decide (kx xs j = kx xs a), hl1] at e
    rw [e] at hl
    exact hl

theorem back_stmt (Y : KQ K) (rm : Room A 9) (c : Ctx K R dr dh rows helds xs) (k : Keys R dk kvs xs) (l : Lw dr dh dk m cm) (hmo : m "order" = some (.ref lo)) (hlo : R.IsList lo (List.toArray (oi.map fun a => kvs.getD a Value.none))) (hoi : ∀ a ∈ oi, a < xs.length) (holen : oi.length ≤ 63)
    (f : FS s₁ B (lawEnv L fa cd) off wf W R m cm s) (hQ : ∀ D s' R', FS s₁ B (lawEnv L fa cd) off wf W R' (upd m "back" (.ref D)) cm s' → Sub R R' → R'.IsList D (List.toArray ((grp xs (oi.reverse)).map fun j => rows.getD j Value.none)) → Q .next s') :
    wpAny (model prog1 w) A (exec ((bodyOf lawD).getD 6 (.Pass default)) (lawEnv L fa cd)) Q E s := by
  have hkl := k.2.1
  have hl1 := c.l1
  have hlen := c.len
  have hmem : ∀ a ∈ (oi.reverse), a < xs.length := fun a ha => hoi a (by simpa using ha)
  have holen' : (oi.reverse).length = oi.length := by simp
  have hkey : ∀ i v, ((oi.reverse).map fun a => kvs.getD a Value.none)[i]? = some v → i < (oi.reverse).length ∧ KeyAt (asInts (kx xs ((oi.reverse).getD i 0))) v R := by
    intro i v e
    have hi : i < (oi.reverse).length := by have := (List.getElem?_eq_some_iff.mp e).1; simpa using this
    refine ⟨hi, ?_⟩
    have ha := hmem _ (getD_mem (d := 0) hi)
    obtain ⟨v', e', h'⟩ := k.at ha
    rw [List.getElem?_map, List.getElem?_eq_getElem hi] at e
    simp only [Option.map_some, Option.some.injEq] at e
    have e2 : (oi.reverse).getD i 0 = (oi.reverse)[i] := getD_at hi
    rw [e2] at e' h' ⊢
    rw [List.getD_eq_getElem?_getD, e'] at e
    cases e
    exact h'
  refine f.assignComp2 (n := (oi.reverse).length) (n2 := rows.length) (P := fun i v => ((oi.reverse).map fun a => kvs.getD a Value.none)[i]? = some v) (P2 := fun i v => ∃ t, v = .int i t) (PX := IsL ((oi.reverse).map fun a => kvs.getD a Value.none)) (PY := IsR 0 rows.length)
    (fun i j => decide (kx xs j = kx xs ((oi.reverse).getD i 0))) (fun i j v h => rows[j]? = some v) rfl (by decide) rfl (by decide) rfl rfl (by decide) rfl rfl ?it ?hI ?hz ?it2 ?hI2 ?ht ?he ?fin ?hsw
  case hsw => kernel_rfl
  case it =>
    have e : (oi.reverse.map fun a => kvs.getD a Value.none) = (oi.map fun a => kvs.getD a Value.none).reverse := List.map_reverse
    rw [e]
    refine ev_rev ((evLL hmo).mono ?_) (by rw [sizeLine_eq, List.length_map]; omega)
    rintro a R' hR rfl; exact ⟨lo, rfl, isList_sub hlo hR⟩
  case hI =>
    rintro xv R1 h1 ⟨l1, rfl, q⟩
    have := it_list (prog := prog1) (w := w) rm.handled q
    rw [List.length_map] at this
    exact this
  case hz =>
    rw [sizeLine_eq, holen']
    have : oi.length * rows.length ≤ 63 * 63 := Nat.mul_le_mul holen (by omega)
    omega
  case it2 =>
    intro C i v mc R1 h1 hi hP hv
    exact ev_rl Y (c.G.sub h1) (evCC l.row) (isList_sub c.lr h1) (by omega) rfl rfl rfl rfl rfl
  case hI2 => rintro xv R1 h1 hr; exact it_rl rm.handled hr (by omega)
  case ht =>
    rintro C i v j u mc R1 h1 hi hP hj ⟨tj, rfl⟩ hv hu
    obtain ⟨_, hkv⟩ := hkey i v hP
    obtain ⟨kj, ekj, hkj⟩ := k.at (i := j) (by omega)
    refine evTests1 (evTest (evSub (evCC l.keys) (evCL hu) ?_ (P := Is kj)) (evCL hv) ?_)
    · rintro a b R2 h2 rfl rfl; exact ev_at (isList_sub k.1 (h1.trans h2)) ekj (by omega)
    · rintro a b R2 h2 rfl rfl
      refine (ev_key_eq (hkj.sub (h1.trans h2)) (hkv.sub (h1.trans h2)) (by have := rm.units; omega)).mono ?_
      rintro a R' _ rfl
      show Value.bool (decide (asInts (kx xs j) = asInts (kx xs ((oi.reverse).getD i 0)))) = _
      congr 1
      exact decide_eq_decide.mpr asInts_inj
  case he =>
    rintro C i v j u mc R1 h1 hi hP hj ⟨tj, rfl⟩ hv hu _
    obtain ⟨vj, ej, ij⟩ := c.it (i := j) (by omega)
    refine evSub (evCC l.row) (evCL hu) ?_
    rintro a b R2 h2 rfl rfl
    refine (ev_at (isList_sub c.lr (h1.trans h2)) ej (by omega)).mono ?_
    rintro a R' _ rfl; exact ej
  case fin =>
    intro D s' R' zss f' hR' hl hp
    refine hQ D s' R' f' hR' ?_
    have e := flat_rows hp
    rw [range_flat (oi.reverse) fun a => (List.range rows.length).filter fun j => decide (kx xs j = kx xs a), hl1] at e
    rw [e] at hl
    exact hl

end
end Mine


/-! L8 -/
namespace Mine

section
variable {w : World} {A : Around} {K : Frag} {V : View} {R : Heap} {dr dh : Addr} {rows helds : List Value} {xs : List PySem.Str} {idx : List Nat}

theorem item_ty {a : Value} {x : PySem.Str} (i : Item R a x) : tyOf a = .type "str" ∨ tyOf a = .ref 88 := by
  rcases i with ⟨t, rfl, _⟩ | ⟨q, t, rfl, _⟩
  · exact .inl rfl
  · exact .inr rfl
theorem ty_eq {a b c : Value} (ha : tyOf a = .type "str" ∨ tyOf a = .ref 88) (hb : tyOf b = .type "str" ∨ tyOf b = .ref 88) (hc : tyOf c = .type "str" ∨ tyOf c = .ref 88) (h1 : (tyOf a == tyOf c) = true) (h2 : (tyOf b == tyOf c) = true) : tyOf a = tyOf b := by
  have n1 : ((Value.type "str" : Value) == Value.ref 88) = false := rfl
  have n2 : ((Value.ref 88 : Value) == Value.type "str") = false := rfl
  rcases ha with ha | ha <;> rcases hb with hb | hb <;> rcases hc with hc | hc <;> rw [ha, hc] at h1 <;> rw [hb, hc] at h2 <;> simp_all
theorem Ctx.mem (c : Ctx K R dr dh rows helds xs) {v : Value} (h : v ∈ rows) : ∃ x, Item R v x := by
  obtain ⟨i, hi, e⟩ := List.getElem_of_mem h
  obtain ⟨v', e', q⟩ := c.it (i := i) (by rw [← c.l1]; exact hi)
  rw [List.getElem?_eq_getElem hi, e] at e'; cases e'
  exact ⟨_, q⟩
theorem Ctx.getD (c : Ctx K R dr dh rows helds xs) {i : Nat} (hi : i < xs.length) : Item R (rows.getD i Value.none) (xs.getD i (PySem.Str.ofString "")) ∧ rows[i]? = some (rows.getD i Value.none) := by
  obtain ⟨v, e, q⟩ := c.it hi
  rw [List.getD_eq_getElem?_getD, e]
  exact ⟨q, rfl⟩
theorem Ctx.lt (c : Ctx K R dr dh rows helds xs) (Y : KQ K) (rm : Room A 1) {κ : SortKind} (hκ : Kd tyOf rows κ) {i j : Nat} (hi : i < xs.length) (hj : j < xs.length) : Ev prog1 w A V R (keyLt' κ (rows.getD i Value.none) (rows.getD j Value.none)) (Is (ltK (kx xs) i j)) := by
  have hi' := (c.getD hi).1
  have hj' := (c.getD hj).1
  refine ev_lt_item Y c.G rm hi' hj' (hκ.imp id fun q => ⟨q.1, ?_⟩)
  have h0 := (c.getD (i := 0) (by have := c.pos; omega)).1
  have mem : ∀ i, i < xs.length → rows.getD i Value.none ∈ rows := fun i hi => getD_mem (by rw [c.l1]; exact hi)
  exact ty_eq (item_ty hi') (item_ty hj') (item_ty h0) (q.2 _ (mem i hi)) (q.2 _ (mem j hj))

def Vals (rows : List Value) (idx : List Nat) : List Value := idx.map fun j => rows.getD j Value.none
theorem ev_sort_row (Y : KQ K) (rm : Room A 9) (c : Ctx K R dr dh rows helds xs) (hst : Stab (ltK (kx xs)) xs.length idx) : Ev prog1 w A V R (call (.builtin "sorted") [.ref dr]) (IsL (Vals rows idx)) := by
  have hl1 := c.l1
  have hlen := c.len
  refine (ev_sorted (vs := rows) (b := false) (T := tyOf) (lt := ltK (kx xs)) (.inl ⟨rfl, rfl⟩) c.lr (word_of (kx xs)) (by omega) (fun v hv => (c.mem hv).elim fun _ q => q.type) (fun v hv => (c.mem hv).elim fun _ q => q.notTuple) ?hc).mono ?fin
  case hc =>
    intro κ hκ i j hi hj
    simp only [Bool.false_eq_true, if_false]
    exact c.lt Y ((rm.in1.in1).le (by omega)) hκ (by omega) (by omega)
  case fin =>
    rintro a R' _ ⟨D, p, rfl, hs, hD⟩
    rw [hl1] at hs
    simp only [Bool.false_eq_true, if_false] at hD
    rw [hs.uniq (word_of (kx xs)) hst] at hD
    exact ⟨D, rfl, hD⟩
theorem ev_sort_rev (Y : KQ K) (rm : Room A 9) (c : Ctx K R dr dh rows helds xs) (hst : Stab (fun i j => ltK (kx xs) j i) xs.length idx) : Ev prog1 w A V R (call (.builtin "sorted") [.ref dr] [(PySem.Str.ofString "reverse", .bool true)]) (IsL (Vals rows idx)) := by
  have hl1 := c.l1
  have hlen := c.len
  have rv : ∀ i, i < xs.length → rows.reverse.getD i Value.none = rows.getD (xs.length - 1 - i) Value.none := fun i hi => by
    rw [List.getD_eq_getElem?_getD, List.getD_eq_getElem?_getD, List.getElem?_reverse (by omega), hl1]
  refine (ev_sorted (vs := rows) (b := true) (T := tyOf) (lt := fun i j => ltK (kx xs) (xs.length - 1 - i) (xs.length - 1 - j)) (.inr rfl) c.lr (word_of fun i => kx xs (xs.length - 1 - i)) (by omega) (fun v hv => (c.mem hv).elim fun _ q => q.type) (fun v hv => (c.mem hv).elim fun _ q => q.notTuple) ?hc).mono ?fin
  case hc =>
    intro κ hκ i j hi hj
    simp only [if_true]
    rw [rv i (by omega), rv j (by omega)]
    exact c.lt Y ((rm.in1.in1).le (by omega)) hκ (by omega) (by omega)
  case fin =>
    rintro a R' _ ⟨D, p, rfl, hs, hD⟩
    rw [hl1] at hs
    simp only [if_true] at hD
    have e : (p.map fun i => rows.reverse.getD i Value.none).reverse = Vals rows ((p.map fun i => xs.length - 1 - i).reverse) := by
      unfold Vals
      rw [List.map_reverse, List.map_map]
      congr 1
      apply List.map_congr_left
      intro i hi
      exact rv i (by have := hs.1.mem_iff.mp hi; simpa using this)
    rw [e, hs.turn.uniq (word_of (kx xs)).rev hst] at hD
    exact ⟨D, rfl, hD⟩

theorem ev_min_row (Y : KQ K) (rm : Room A 9) (c : Ctx K R dr dh rows helds xs) (hst : Stab (ltK (kx xs)) xs.length idx) : Ev prog1 w A V R (call (.builtin "min") [.ref dr]) (fun v _ => (Vals rows idx)[0]? = some v) := by
  have hl1 := c.l1
  have hlen := c.len
  have hpos := c.pos
  refine (ev_min (bt := ltK (kx xs)) rm.handled c.lr (by omega) ?hc).mono ?fin
  case hc =>
    intro i j vi vj ei ej
    have hi : i < xs.length := by rw [← hl1]; exact (List.getElem?_eq_some_iff.mp ei).1
    have hj : j < xs.length := by rw [← hl1]; exact (List.getElem?_eq_some_iff.mp ej).1
    have qi := c.getD hi
    have qj := c.getD hj
    rw [qi.2] at ei; cases ei
    rw [qj.2] at ej; cases ej
    exact ev_rich (op := .Lt) rfl Y c.G (rm.in1.le (by omega)) qi.1 qj.1
  case fin =>
    intro a R' _ h
    rw [hl1] at h
    have hb := argBest_le (ltK (kx xs)) (xs.length - 1)
    obtain ⟨t, rfl⟩ := hst.head (word_of (kx xs)) (m := argBest (ltK (kx xs)) (xs.length - 1)) (by omega) (fun j hj hn => argBest_min (word_of (kx xs)) _ j (by omega) hn)
    show some (rows.getD _ Value.none) = some a
    rw [List.getD_eq_getElem?_getD, h]; rfl
theorem ev_max_row (Y : KQ K) (rm : Room A 9) (c : Ctx K R dr dh rows helds xs) (hst : Stab (fun i j => ltK (kx xs) j i) xs.length idx) : Ev prog1 w A V R (call (.builtin "max") [.ref dr]) (fun v _ => (Vals rows idx)[0]? = some v) := by
  have hl1 := c.l1
  have hlen := c.len
  have hpos := c.pos
  refine (ev_max (bt := fun i j => ltK (kx xs) j i) rm.handled c.lr (by omega) ?hc).mono ?fin
  case hc =>
    intro i j vi vj ei ej
    have hi : i < xs.length := by rw [← hl1]; exact (List.getElem?_eq_some_iff.mp ei).1
    have hj : j < xs.length := by rw [← hl1]; exact (List.getElem?_eq_some_iff.mp ej).1
    have qi := c.getD hi
    have qj := c.getD hj
    rw [qi.2] at ei; cases ei
    rw [qj.2] at ej; cases ej
    exact ev_rich (op := .Gt) rfl Y c.G (rm.in1.le (by omega)) qi.1 qj.1
  case fin =>
    intro a R' _ h
    rw [hl1] at h
    have hb := argBest_le (fun i j => ltK (kx xs) j i) (xs.length - 1)
    obtain ⟨t, rfl⟩ := hst.head (word_of (kx xs)).rev (m := argBest (fun i j => ltK (kx xs) j i) (xs.length - 1)) (by omega) (fun j hj hn => argBest_min (word_of (kx xs)).rev _ j (by omega) hn)
    show some (rows.getD _ Value.none) = some a
    rw [List.getD_eq_getElem?_getD, h]; rfl
end
end Mine

/-! L9 -/
namespace Mine

/-- a told list and the wished one: the same things -/
def PairP : Value → Heap → Prop := fun v h => ∃ t a b vs, v = .ref t ∧ h.IsTuple t #[.ref a, .ref b] ∧ h.IsList a (List.toArray vs) ∧ h.IsList b (List.toArray vs) ∧ (∀ v ∈ vs, Selfsame v) ∧ vs.length < 100
theorem PairP.sub {v : Value} {h h' : Heap} (x : PairP v h) (s : Sub h h') : PairP v h' := by
  obtain ⟨t, a, b, vs, e, h1, h2, h3, h4, h5⟩ := x
  exact ⟨t, a, b, vs, e, isTuple_sub h1 s, isList_sub h2 s, isList_sub h3 s, h4, h5⟩
def lastS : Stmt := (bodyOf lawD).getD 7 (.Pass default)
def lastB : List Stmt := forBody lastS
def iterOf : Stmt → Expr
  | .For _ e _ _ _ => e
  | _ => .List [] default

section
variable {w : World} {A : Around} {K : Frag} {s₁ s : Shared} {B R : Heap} {L fa : Addr} {cd : Value} {m cm : MS} {off wf : List Addr} {W : View} {dr dh dk lo dd db : Addr} {rows helds kvs : List Value} {xs : List PySem.Str} {i1 i2 : List Nat} {Q : Flow → Shared → Prop} {E : Value → Shared → Prop}

theorem last_test {a b : Addr} {vs : List Value} (Y : KQ K) (rm : Room A 9) (G : Gd K R) (hca : cm "told" = some (.ref a)) (hcb : cm "wished" = some (.ref b)) (ha : R.IsList a vs.toArray) (hb : R.IsList b vs.toArray) (hs : ∀ v ∈ vs, Selfsame v) (hz : vs.length < 100)
    (f : FS s₁ B (lawEnv L fa cd) off wf W R m cm s) (hQ : ∀ s' R', FS s₁ B (lawEnv L fa cd) off wf W R' m cm s' → Sub R R' → Q .next s') : wpAny (model prog1 w) A (execs lastB (lawEnv L fa cd)) Q E s := by
  refine wpAny_execs_cons (f.test (b := false) (evTest (P1 := fun a h => ∃ l, a = .ref l ∧ h.IsList l ([] : List Value).toArray) (P2 := fun a h => ∃ l vs, a = .ref l ∧ h.IsList l vs.toArray ∧ Is [] vs h) ?l (evList evArgs0 ?sz) ?z) ?_)
  case sz => rintro vs h rfl; exact Nat.zero_le _
  case l =>
    refine (evComp1 (n := vs.length) (P := fun i v => ∃ t, v = .int i t) (PX := IsR 0 vs.length) (fun j => false) (fun j v h => True) rfl (by decide) rfl (by decide) rfl (ev_rl Y G (evLC hcb) hb (by omega) rfl rfl rfl rfl rfl) ?hI (by rw [sizeLine_eq]; omega) ?ht ?he).mono ?fin
    case hI => rintro xv R1 h1 hr; exact it_rl rm.handled hr (by omega)
    case ht =>
      rintro C j v mc R1 h1 hj ⟨tj, rfl⟩ hv
      have ej := List.getElem?_eq_getElem hj
      refine evTests1 (evTest (evSub (evCC hca) (evCL hv) ?_ (P := Is vs[j])) (evSub (evCC hcb) (evCL hv) ?_ (P := Is vs[j])) ?_)
      · rintro a b R2 h2 rfl rfl; exact ev_at (isList_sub ha (h1.trans h2)) ej (by omega)
      · rintro a b R2 h2 rfl rfl; exact ev_at (isList_sub hb (h1.trans h2)) ej (by omega)
      · rintro a b R2 h2 rfl rfl; exact ev_is_not (hs _ (List.getElem_mem hj))
    case he => rintro C j v mc R1 h1 hj ⟨tj, rfl⟩ hv h; cases h
    case fin =>
      rintro a R' _ ⟨l, ys, rfl, hl, hp⟩
      have e : ys = [] := by
        have := hp.length
        rw [show (List.range vs.length).filter (fun _ => false) = [] from by simp] at this
        exact List.eq_nil_of_length_eq_zero this.symm
      rw [e] at hl
      exact ⟨l, rfl, hl⟩
  case z =>
    rintro a b R2 h2 ⟨l1, rfl, q1⟩ ⟨l2, vs2, rfl, q2, rfl⟩
    exact ev_ne_nil q1 q2 rm.u
  intro s1 R1 f1 hR1
  rw [if_neg (by simp)]
  exact wpAny_execs_nil (wpAny_execs_nil (hQ s1 R1 f1 hR1))

theorem item_self {v : Value} {x : PySem.Str} (i : Item R v x) : Selfsame v := by
  rcases i with ⟨t, rfl, ht⟩ | ⟨q, t, rfl, _⟩
  · exact .inr (.inl ⟨x, t, rfl, ht⟩)
  · exact .inl ⟨q, rfl⟩
theorem vals_self (c : Ctx K R dr dh rows helds xs) {idx : List Nat} (h : ∀ j ∈ idx, j < xs.length) : ∀ v ∈ Vals rows idx, Selfsame v := by
  intro v hv
  obtain ⟨j, hj, rfl⟩ := List.mem_map.mp hv
  exact item_self (c.getD (h j hj)).1
theorem Stab.lt {lt : Nat → Nat → Bool} {n : Nat} {p : List Nat} (h : Stab lt n p) : ∀ j ∈ p, j < n := fun j hj => by have := h.1.mem_iff.mp hj; simpa using this

/-- the three pairs -/
theorem ev_pairs (Y : KQ K) (rm : Room A 9) (c : Ctx K R dr dh rows helds xs) (l : Lw dr dh dk m cm) (hmd : m "due" = some (.ref dd)) (hmb : m "back" = some (.ref db)) (hd : R.IsList dd (Vals rows i1).toArray) (hb : R.IsList db (Vals rows i2).toArray)
    (h1 : Stab (ltK (kx xs)) xs.length i1) (h2 : Stab (fun i j => ltK (kx xs) j i) xs.length i2) :
    Ev prog1 w A (fv (lawEnv L fa cd) m cm W) R (eval (iterOf lastS) (lawEnv L fa cd)) (fun a h => ∃ l vs, a = .ref l ∧ h.IsList l (List.toArray vs) ∧ ∀ v ∈ vs, PairP v h) := by
  have hlen := c.len
  have hpos := c.pos
  have v1 : (Vals rows i1).length = xs.length := by unfold Vals; rw [List.length_map]; exact h1.length
  have v2 : (Vals rows i2).length = xs.length := by unfold Vals; rw [List.length_map]; exact h2.length
  have s1 := vals_self c h1.lt
  have s2 := vals_self c h2.lt
  obtain ⟨d0, ed⟩ : ∃ v, (Vals rows i1)[0]? = some v := ⟨(Vals rows i1)[0], List.getElem?_eq_getElem (by omega)⟩
  obtain ⟨b0, eb⟩ : ∃ v, (Vals rows i2)[0]? = some v := ⟨(Vals rows i2)[0], List.getElem?_eq_getElem (by omega)⟩
  have nS : nsIn K mainGlobals "sorted" = some none := Y.nB "sorted" (by simp)
  refine (evList (evArgsC (P1 := PairP) ?t1 (evArgsC (P1 := PairP) ?t2 (evArgsC (P1 := PairP) ?t3 evArgs0))) ?sz).mono ?fin
  case sz => rintro vs h ⟨_, _, rfl, _, _, _, rfl, _, _, _, rfl, _, rfl⟩; rw [sizeLine_eq]; simp
  case fin =>
    rintro a R' _ ⟨l, _, rfl, hl, _, _, rfl, q1, _, _, rfl, q2, _, _, rfl, q3, rfl⟩
    refine ⟨l, _, rfl, hl, ?_⟩
    intro v hv
    simp only [List.mem_cons, List.not_mem_nil, or_false] at hv
    rcases hv with rfl | rfl | rfl
    · exact q1
    · exact q2
    · exact q3
  case t1 =>
    refine (evTuple (evArgsC (P1 := IsL (Vals rows i1)) (evCallB (evNameB c.G nS boot_sorted (by decide) rfl rfl rfl rfl) (evA1 (evLC l.row)) ?_) (evArgsC (evLL hmd) evArgs0)) ?_).mono ?_
    · intro vs R1 hR1 p; cases p; exact ev_sort_row Y rm (c.sub hR1) h1
    · rintro vs h ⟨_, _, rfl, _, _, _, rfl, _, rfl⟩; rw [sizeLine_eq]; simp
    · rintro a R' hR' ⟨t, _, rfl, ht, _, _, rfl, ⟨la, rfl, hla⟩, _, _, rfl, rfl, rfl⟩
      exact ⟨t, la, dd, Vals rows i1, rfl, ⟨_, ht, rfl, 0, rfl⟩, hla, isList_sub hd hR', s1, by omega⟩
  case t2 =>
    refine (evTuple (evArgsC (P1 := IsL (Vals rows i2)) (evCallKw (evNameB c.G nS boot_sorted (by decide) rfl rfl rfl rfl) (evA1 (evLC l.row)) (k := .bool true) ?_ ?_) (evArgsC (evLL hmb) evArgs0)) ?_).mono ?_
    · exact Ev.of_look fun _ _ _ _ h => wpAny_Constant_bool h
    · intro vs R1 hR1 p; cases p; exact ev_sort_rev Y rm (c.sub hR1) h2
    · rintro vs h ⟨_, _, rfl, _, _, _, rfl, _, rfl⟩; rw [sizeLine_eq]; simp
    · rintro a R' hR' ⟨t, _, rfl, ht, _, _, rfl, ⟨la, rfl, hla⟩, _, _, rfl, rfl, rfl⟩
      exact ⟨t, la, db, Vals rows i2, rfl, ⟨_, ht, rfl, 0, rfl⟩, hla, isList_sub hb hR', s2, by omega⟩
  case t3 =>
    refine (evTuple (evArgsC (P1 := fun a h => ∃ l vs, a = .ref l ∧ h.IsList l vs.toArray ∧ Is [d0, b0] vs h) ((evList (evArgsC (P1 := Is d0) ?mn (evArgsC (P1 := Is b0) ?mx evArgs0)) ?_).mono ?_) (evArgsC (P1 := fun a h => ∃ l vs, a = .ref l ∧ h.IsList l vs.toArray ∧ Is [d0, b0] vs h) ((evList (evArgsC (P1 := Is d0) ?d0 (evArgsC (P1 := Is b0) ?b0 evArgs0)) ?_).mono ?_) evArgs0)) ?_).mono ?_
    case mn =>
      refine (evCallB (evNameB c.G (Y.nB "min" (by simp)) boot_min (by decide) rfl rfl rfl rfl) (evA1 (evLC l.row)) ?_)
      intro vs R1 hR1 p; cases p
      refine (ev_min_row Y rm (c.sub hR1) h1).mono ?_
      intro a R' _ e; rw [ed] at e; cases e; rfl
    case mx =>
      refine (evCallB (evNameB c.G (Y.nB "max" (by simp)) boot_max (by decide) rfl rfl rfl rfl) (evA1 (evLC l.row)) ?_)
      intro vs R1 hR1 p; cases p
      refine (ev_max_row Y rm (c.sub hR1) h2).mono ?_
      intro a R' _ e; rw [eb] at e; cases e; rfl
    case d0 =>
      refine evSub (evLL hmd) evInt ?_
      rintro a b R2 h2 rfl ⟨t2, rfl, _⟩; exact ev_item (isList_sub hd h2) (by decide) ed (by omega)
    case b0 =>
      refine evSub (evLL hmb) evInt ?_
      rintro a b R2 h2 rfl ⟨t2, rfl, _⟩; exact ev_item (isList_sub hb h2) (by decide) eb (by omega)
    · rintro vs h ⟨_, _, rfl, _, _, _, rfl, _, rfl⟩; rw [sizeLine_eq]; simp
    · rintro a R' _ ⟨l, _, rfl, hl, _, _, rfl, rfl, _, _, rfl, rfl, rfl⟩; exact ⟨l, _, rfl, hl, rfl⟩
    · rintro vs h ⟨_, _, rfl, _, _, _, rfl, _, rfl⟩; rw [sizeLine_eq]; simp
    · rintro a R' _ ⟨l, _, rfl, hl, _, _, rfl, rfl, _, _, rfl, rfl, rfl⟩; exact ⟨l, _, rfl, hl, rfl⟩
    · rintro vs h ⟨_, _, rfl, _, _, _, rfl, _, rfl⟩; rw [sizeLine_eq]; simp
    · rintro a R' hR' ⟨t, _, rfl, ht, _, _, rfl, ⟨la, _, rfl, hla, rfl⟩, _, _, rfl, ⟨lb, _, rfl, hlb, rfl⟩, rfl⟩
      refine ⟨t, la, lb, [d0, b0], rfl, ⟨_, ht, rfl, 0, rfl⟩, hla, hlb, ?_, by simp⟩
      intro v hv
      simp only [List.mem_cons, List.not_mem_nil, or_false] at hv
      rcases hv with rfl | rfl
      · exact s1 _ (List.mem_of_getElem? ed)
      · exact s2 _ (List.mem_of_getElem? eb)
end
end Mine

/-! L10 -/
namespace Mine

section
variable {w : World} {A : Around} {K : Frag} {s₁ s : Shared} {B R : Heap} {L fa : Addr} {cd : Value} {m cm : MS} {off wf : List Addr} {W : View} {dr dh dk lo dd db : Addr} {rows helds kvs : List Value} {xs : List PySem.Str} {i1 i2 : List Nat} {Q : Flow → Shared → Prop} {E : Value → Shared → Prop}

theorem last_loop (Y : KQ K) (rm : Room A 9) (c : Ctx K R dr dh rows helds xs) (l : Lw dr dh dk m cm) (hmd : m "due" = some (.ref dd)) (hmb : m "back" = some (.ref db)) (hd : R.IsList dd (Vals rows i1).toArray) (hb : R.IsList db (Vals rows i2).toArray)
    (h1 : Stab (ltK (kx xs)) xs.length i1) (h2 : Stab (fun i j => ltK (kx xs) j i) xs.length i2)
    (f : FS s₁ B (lawEnv L fa cd) off wf W R m cm s) (hQ : ∀ s' R' cm', FS s₁ B (lawEnv L fa cd) off wf W R' m cm' s' → Q .next s') : wpAny (model prog1 w) A (exec lastS (lawEnv L fa cd)) Q E s := by
  refine wpAny_For (f.ev (ev_pairs Y rm c l hmd hmb hd hb h1 h2) ?_)
  rintro _ sa R1 f1 hR1 ⟨ll, vs, rfl, hll, hpp⟩
  have G1 := c.G.sub hR1
  obtain ⟨ol, hol, _⟩ := id hll
  have hne : ll ≠ sa.heap.objs.size := Nat.ne_of_lt (Heap.lt_size (f1.sub _ _ hol))
  have W0 := Walks.list (prog := prog1) (w := w) (A := A) rm.handled sa.heap.objs.size ll hne vs.toArray
  refine wpAny_pyIter_list (isList_sub hll f1.sub) ?_
  have k2 : Keeps sa { sa with heap := sa.heap.push { cls := .type "list_iterator", data := .fields #[.ref ll, .int 0 0] } } := keeps_mk (tk := sa.toks) ((Sub.refl _).push _)
  have hfr : sa.heap.get? sa.heap.objs.size = none := fresh_none _ (Nat.le_refl _)
  have nofp : ∀ a, R1.get? a = none → (sa.heap.get? a).isSome = true → a ∉ [sa.heap.objs.size, ll] := fun a q1 q2 hm => by
    simp only [List.mem_cons, List.not_mem_nil, or_false] at hm
    rcases hm with rfl | rfl
    · rw [hfr] at q2; cases q2
    · rw [hol] at q1; cases q1
  have pp : ∀ (i : Nat) (v : Value), vs.toArray[i]? = some v → PairP v R1 := fun i v e => hpp v (List.mem_of_getElem? (i := i) (by simpa using e))
  refine for_core (ι := Unit) (W := fun _ => W) (z0 := ()) (R0 := R1) (J := fun _ _ _ m' cm' => m' = m) (T := fun v ma mb ca cb => mb = ma ∧ ∃ a b ws, cb = upd (upd ca "told" (.ref a)) "wished" (.ref b) ∧ R1.IsList a (List.toArray ws) ∧ R1.IsList b (List.toArray ws) ∧ (∀ v ∈ ws, Selfsame v) ∧ ws.length < 100)
    W0 ?hal ?hgo (only_same f1.only) (fun a h => nofp a (f1.offF a h).1 (f1.liveF h)) (fun a h => nofp a (f1.offW a h).1 (f1.offW a h).2.2)
    (fun a h hm => by have := f1.liveW a h; rw [List.mem_singleton.mp hm, hfr] at this; cases this) ?hasg (fun _ _ _ _ _ _ _ h => h) ?hbody ?hdone (f1.grow k2 f1.tok) ?hst ?hwr rfl
  case hal =>
    rintro i h ⟨⟨o, ho, _⟩, ⟨o', ho', _⟩⟩ b hb
    simp only [List.mem_cons, List.not_mem_nil, or_false] at hb
    rcases hb with rfl | rfl
    · rw [ho]; rfl
    · rw [ho']; rfl
  case hgo =>
    intro i v s Q E hst hP hq
    obtain ⟨t, a, b, ws, rfl, _⟩ := pp i v hP
    exact wpAny_letOwnedTupleGo_listiter hst.1 hq
  case hasg =>
    intro off' wf' W' R2 m2 cm2 s2 i v f2 hR2 hP Q2 E2 h
    obtain ⟨t, a, b, ws, rfl, q1, q2, q3, q4, q5⟩ := pp i v hP
    exact f2.pair rfl rm.handled (isTuple_sub q1 hR2) (.c rfl rfl) (.c rfl rfl) fun s3 R3 f3 hR3 => h s3 R3 _ _ f3 hR3 ⟨rfl, a, b, ws, rfl, q2, q3, q4, q5⟩
  case hbody =>
    rintro Wx offx fpx z i v R2 ma cma m2 cm2 s2 hi hP rfl ⟨rfl, a, b, ws, rfl, q2, q3, q4, q5⟩ hR2 hx hoff f2 Q2 E2 h
    refine last_test (a := a) (b := b) Y rm (G1.sub hR2) rfl rfl (isList_sub q2 hR2) (isList_sub q3 hR2) q4 q5 f2 ?_
    intro s3 R3 f3 hR3
    exact h s3 () R3 _ _ f3 hR3 rfl
  case hdone =>
    rintro z R2 m2 cm2 s2 f2 hR2 rfl
    exact hQ s2 R2 cm2 f2
  case hst => exact ⟨⟨_, Heap.get?_push_size _ rfl, rfl, rfl⟩, isList_sub (isList_sub hll f1.sub) ((Sub.refl _).push _)⟩
  case hwr =>
    intro b hb
    rw [List.mem_singleton.mp hb]
    exact ⟨fresh_off f1.sub (Nat.le_refl _), fresh_off (keeps_sub f1.keep) (Nat.le_refl _)⟩

/-- from the row on -/
theorem law_rest (Y : KQ K) (rm : Room A 9) (c : Ctx K R dr dh rows helds xs) (hr : cm "row" = some (.ref dr)) (hh : m "held" = some (.ref dh))
    (f : FS s₁ B (lawEnv L fa cd) off wf W R m cm s) (hQ : ∀ s' m', Keeps s₁ s' → s'.heap.Ns L m' → Q (.ret (.bool true)) s') : wpAny (model prog1 w) A (execs ((bodyOf lawD).drop 2) (lawEnv L fa cd)) Q E s := by
  refine wpAny_execs_cons (f.assignC (e := keysE) (ev_keys Y c (rm.le (by omega)) hh) rfl rfl rfl ?_)
  rintro _ s1 R1 f1 hR1 ⟨dk, kvs, rfl, k1⟩
  have c1 := c.sub hR1
  have l1 : Lw dr dh dk m (upd cm "keys" (.ref dk)) := ⟨(upd_ne (by decide)).trans hr, upd_same, hh⟩
  refine wpAny_execs_cons (i_loop Y rm c1 k1 l1 f1 ?_)
  intro s2 R2 cm2 f2 hR2 l2
  have c2 := c1.sub hR2
  have k2 := k1.sub hR2
  refine wpAny_execs_cons (f2.assignL (e := orderE) (ev_order Y rm c2 k2 l2) rfl ?_)
  rintro _ s3 R3 f3 hR3 ⟨lo, p, rfl, hp, hlo⟩
  have c3 := c2.sub hR3
  have k3 := k2.sub hR3
  have l3 : Lw dr dh dk (upd m "order" (.ref lo)) cm2 := ⟨l2.row, l2.keys, (upd_ne (by decide)).trans l2.held⟩
  obtain ⟨o1, o2⟩ := order_ok (kx xs) (n := xs.length) rfl (word_of (kx xs)) hp
  have hoi : ∀ a ∈ p.map (fun i => (fl xs).getD i 0), a < xs.length := by
    intro a ha
    obtain ⟨i, hi, rfl⟩ := List.mem_map.mp ha
    have hi' : i < (fl xs).length := by have := hp.1.mem_iff.mp hi; simpa using this
    have := getD_mem (d := 0) hi'
    have := (List.mem_filter.mp this).1
    simpa using this
  have hpl : (p.map fun i => (fl xs).getD i 0).length ≤ 63 := by
    rw [List.length_map, hp.length]
    have := List.length_filter_le (isFirst (kx xs)) (List.range xs.length)
    rw [List.length_range] at this
    have := c.len
    exact Nat.le_trans ‹_› this
  have hlo' : R3.IsList lo (List.toArray ((p.map fun i => (fl xs).getD i 0).map fun a => kvs.getD a Value.none)) := by rw [List.map_map]; exact hlo
  have st1 : Stab (ltK (kx xs)) xs.length (grp xs (p.map fun i => (fl xs).getD i 0)) := flat_stab (word_of (kx xs)) (eq := fun j a => decide (kx xs j = kx xs a)) (fun j a h => by
    have h' : kx xs j = kx xs a := by simpa using h
    simp [ltK, h']) o1 o2
  have st2 : Stab (fun i j => ltK (kx xs) j i) xs.length (grp xs (p.map fun i => (fl xs).getD i 0).reverse) := flat_stab (word_of (kx xs)).rev (eq := fun j a => decide (kx xs j = kx xs a)) (fun j a h => by
    have h' : kx xs j = kx xs a := by simpa using h
    simp [ltK, h']) (by rw [List.pairwise_reverse]; exact o1) (fun j hj => by
      obtain ⟨a, ha, e⟩ := o2 j hj
      exact ⟨a, List.mem_reverse.mpr ha, e⟩)
  refine wpAny_execs_cons (due_stmt Y rm c3 k3 l3 upd_same hlo' hoi hpl f3 ?_)
  intro dd s4 R4 f4 hR4 hdd
  have l4 : Lw dr dh dk (upd (upd m "order" (.ref lo)) "due" (.ref dd)) cm2 := ⟨l3.row, l3.keys, (upd_ne (by decide)).trans l3.held⟩
  refine wpAny_execs_cons (back_stmt Y rm (c3.sub hR4) (k3.sub hR4) l4 ((upd_ne (by decide)).trans upd_same) (isList_sub hlo' hR4) hoi hpl f4 ?_)
  intro db s5 R5 f5 hR5 hdb
  have l5 : Lw dr dh dk (upd (upd (upd m "order" (.ref lo)) "due" (.ref dd)) "back" (.ref db)) cm2 := ⟨l4.row, l4.keys, (upd_ne (by decide)).trans l4.held⟩
  refine wpAny_execs_cons (last_loop Y rm ((c3.sub hR4).sub hR5) l5 ((upd_ne (by decide)).trans upd_same) upd_same (isList_sub hdd hR5) hdb st1 st2 f5 ?_)
  intro s6 R6 cm6 f6
  refine wpAny_execs_cons (wpAny_Return_some (wpAny_Constant_bool ?_))
  exact hQ s6 _ f6.keep f6.fns
end
end Mine

/-! L11 -/
namespace Mine

/-- a frame before the first token is sure -/
structure PF (s₁ : Shared) (env : Env) (R : Heap) (m cm : MS) (s : Shared) : Prop where
  keep : Keeps s₁ s
  sub : Sub R s.heap
  base : ∀ b o, R.get? b = some o → (s₁.heap.get? b).isSome = true ∨ s₁.heap.get? b = none
  ap : Apart env
  fns : s.heap.Ns env.locals m
  cells : ∀ x c, env.cells.lookup x = some c → s.heap.IsCell c (cm x)
  offF : ∀ a, Frame env a → R.get? a = none ∧ s₁.heap.get? a = none

section
variable {w : World} {A : Around} {K : Frag} {s₁ s s' : Shared} {R : Heap} {L fa : Addr} {cd : Value} {env : Env} {m cm : MS} {Q : Flow → Shared → Prop} {E : Value → Shared → Prop}

theorem PF.fs (p : PF s₁ env R m cm s) (ht : 0 < s.toks) : FS s₁ s₁.heap env [] [] View.any R m cm s :=
  { keep := p.keep, tok := ht, sub := p.sub, base := p.base, ap := p.ap, fns := p.fns, cells := p.cells, offF := fun a h => ⟨(p.offF a h).1, (p.offF a h).2, by simp⟩, offW := fun a h => by simp at h, liveW := fun a h => by simp at h, only := fun _ _ _ _ => trivial, view := trivial }
theorem PF.liveF (f : PF s₁ env R m cm s) {a : Addr} (h : Frame env a) : (s.heap.get? a).isSome = true := by
  rcases h with rfl | ⟨x, hx⟩
  · exact ns_live f.fns
  · exact cell_live (f.cells x a hx)
theorem PF.step (p : PF s₁ env R m cm s) (k : Keeps s s') : PF s₁ env (fr R s s') m cm s' :=
  { keep := keeps_trans p.keep k
    sub := fr_sub
    base := fun b o e => by
      cases z : s₁.heap.get? b with
      | none => exact .inr rfl
      | some o' => exact .inl rfl
    ap := p.ap
    fns := ns_sub p.fns (keeps_sub k)
    cells := fun x c e => cell_sub (p.cells x c e) (keeps_sub k)
    offF := fun a h => ⟨off_fr' (p.offF a h).1 (p.liveF h), (p.offF a h).2⟩ }

theorem law_two {l : Addr} {vs : List Value} {ns : List Int} (Y : KQ K) (Z : KL K) (rm : Room A 9) (p : PF s₁ (lawEnv L fa cd) R m cm s) (G : Gd K R) (hm : m "script" = some (.ref l)) (hl : R.IsList l vs.toArray) (hi : IntsAre vs ns) (h1 : 1 ≤ ns.length) (h63 : ns.length ≤ 63)
    (hQ : ∀ s' m', Keeps s₁ s' → s'.heap.Ns L m' → Q (.ret (.bool true)) s') : wpAny (model prog1 w) A (execs ((bodyOf lawD).drop 1) (lawEnv L fa cd)) Q E s := by
  refine wpAny_execs_cons (Assign_Tuple ?_)
  obtain ⟨mg, hmg⟩ := G.g
  refine wpAny_Call_NameR (Calls.Name_function_global rfl rfl (Calls.loadGlobal_global (env := lawEnv L fa cd) (ns_sub hmg p.sub) (mg_of G.k hmg Z.rowN) ?_) (by decide))
  refine callWith_K G.k Z.rowK (wpAny_items_cons (wpAny_Name (wpAny_loadName_local rfl rfl p.fns hm (wpAny_items_nil ⟨G.k.keeps p.sub, ?_⟩)) (by decide)) rfl)
  refine row_call Y Z (rm.le (by omega)) p.sub G hl hi h63 ?_
  intro a s1 k1 t1 hP
  have f1 := (p.step k1).fs t1
  obtain ⟨t, dr, dh, rows, helds, xs, rfl, ht, hr, hh, p1, p2, hx, hsm⟩ := hP.here
  refine f1.pair rfl rm.handled ht (.c rfl rfl) (.l rfl) ?_
  intro s2 R2 f2 hR2
  have c : Ctx K R2 dr dh rows helds xs := ⟨(G.sub (sub_fr p.sub k1)).sub hR2, isList_sub hr hR2, isList_sub hh hR2, paired_mono (fun _ _ q => q.sub hR2) p1, p2, by omega, by omega, hsm⟩
  exact law_rest Y rm c upd_same upd_same f2 hQ

theorem ints_of_get : ∀ {vs : List Value} {ns : List Int}, vs.length = ns.length → (∀ (i : Nat) (v : Value), vs[i]? = some v → ∃ t, v = Value.int (ns.getD i 0) t) → IntsAre vs ns
  | [], [], _, _ => .nil
  | [], _ :: _, h, _ => by simp at h
  | _ :: _, [], h, _ => by simp at h
  | v :: vs, n :: ns, h, q => by
    obtain ⟨t, e⟩ := q 0 v rfl
    rw [e]
    exact .cons n t (ints_of_get (by simpa using h) fun i u e => q (i + 1) u (by simpa using e))

theorem law_body {l : Addr} {vs : List Value} {ns : List Int} (Y : KQ K) (Z : KL K) (rm : Room A 9) (p : PF s₁ (lawEnv L fa cd) R m cm s) (G : Gd K R) (hm : m "script" = some (.ref l)) (hl : R.IsList l vs.toArray) (hi : IntsAre vs ns) (h63 : ns.length ≤ 63)
    (hQ : ∀ s' m', Keeps s₁ s' → s'.heap.Ns L m' → Q (.ret (.bool true)) s') : wpAny (model prog1 w) A (execs (bodyOf lawD) (lawEnv L fa cd)) Q E s := by
  obtain ⟨mg, hmg⟩ := G.g
  obtain ⟨mb, hmb, hbl⟩ := G.b
  refine wpAny_execs_cons (wpAny_If (wpAny_isTrue_Compare1 (wpAny_Name (wpAny_loadName_local rfl rfl p.fns hm (wpAny_List (wpAny_items_nil ⟨Nat.zero_le _, ?_⟩))) (by decide))))
  have k0 : Keeps s { s with heap := s.heap.push { cls := .type "list", data := .seq ([] : List Value).toArray } } := keeps_mk (tk := s.toks) ((Sub.refl _).push _)
  have p0 := p.step k0
  have hsub := sub_fr p.sub k0
  refine ke_eq_ints (isList_sub (isList_sub hl p.sub) (keeps_sub k0)) (isList_push _ []) hi .nil (by have := rm.units; omega) (wpAny_truthy_bool ?_)
  cases ns with
  | cons n ns' =>
    rw [if_neg (by simp)]
    refine wpAny_execs_nil ?_
    exact law_two Y Z rm p0 (G.sub hsub) hm (isList_sub hl hsub) hi (by simp) h63 hQ
  | nil =>
    rw [if_pos (by simp)]
    refine wpAny_execs_cons (wpAny_Assign_Name ?_)
    refine wpAny_Call_NameR (Calls.Name_function_global rfl rfl (Calls.loadGlobal_builtin (env := lawEnv L fa cd) (ns_sub hmg (hsub.trans p0.sub)) (mg_none_of G.k hmg (Y.nB "list" (by simp))) (ns_sub hmb (hsub.trans p0.sub)) ((hbl "list" (by decide)).trans boot_list) ?_) (by decide))
    refine PyProof.Rows.callWith_type1 (wpAny_items_cons ?_ rfl) rfl rfl
    refine wpAny_Call_NameR (Calls.Name_function_global rfl rfl (Calls.loadGlobal_builtin (env := lawEnv L fa cd) (ns_sub hmg (hsub.trans p0.sub)) (mg_none_of G.k hmg (Y.nB "range" (by simp))) (ns_sub hmb (hsub.trans p0.sub)) ((hbl "range" (by decide)).trans boot_range) ?_) (by decide))
    refine PyProof.Rows.callWith_type1 (wpAny_items_cons (wpAny_Constant_int (wpAny_items_nil ?_)) rfl) rfl rfl
    have kt : ∀ (s : Shared), Keeps s { s with toks := s.toks + 1 } := fun s => keeps_tok
    have f1 := (p0.step (kt _)).fs (Nat.succ_pos _)
    refine f1.ev ev_range1 ?_
    rintro _ s2 R2 f2 hR2 ⟨r, t1, t2, t3, rfl, hr⟩
    refine wpAny_items_nil ?_
    refine wpAny_pos f2.tok (call_list_range (n := 63) rm.handled (f2.sub _ _ hr) (by decide) (by decide) (by decide) ?_)
    intro h' tk acc c' hk hD hit ht
    have k3 : Keeps s2 { s2 with heap := h', toks := tk } := keeps_mk hk
    have f3 := f2.step k3 ht
    refine f3.storeL rfl ?_ rfl
    intro s4 f4
    refine wpAny_execs_nil ?_
    have G4 : Gd K (fr R2 s2 { s2 with heap := h', toks := tk }) := ((G.sub hsub).sub (sub_fr p0.sub (kt _))).sub (hR2.trans (sub_fr f2.sub k3))
    have p4 : PF s₁ (lawEnv L fa cd) (fr R2 s2 { s2 with heap := h', toks := tk }) (upd m "script" (.ref s2.heap.objs.size)) cm s4 :=
      { keep := f4.keep, sub := f4.sub, base := f4.base, ap := f4.ap, fns := f4.fns, cells := f4.cells, offF := fun a h => ⟨(f4.offF a h).1, (f4.offF a h).2.1⟩ }
    have hlist : (fr R2 s2 { s2 with heap := h', toks := tk }).IsList s2.heap.objs.size acc.toList.toArray := ⟨_, fr_new hD (Nat.le_refl _), rfl, c', by simp⟩
    refine law_two (ns := (List.range 63).map Int.ofNat) Y Z rm p4 G4 upd_same hlist ?_ (by simp) (by simp) hQ
    refine ints_of_get (by rw [Array.length_toList, hit.1]; simp) fun i v e => ?_
    have e' : acc[i]? = some v := by rw [← Array.getElem?_toList]; exact e
    have hi : i < 63 := by rw [← hit.1]; exact (Array.getElem?_eq_some_iff.mp e').1
    obtain ⟨t, rfl⟩ := hit.2 i v e'
    refine ⟨t, ?_⟩
    congr 1
    simp [hi]
end
end Mine

/-! L12 -/
namespace Mine
theorem law_cells (L fa : Addr) (cd : Value) : (lawEnv L fa cd).cells = [(PySem.Str.ofString "wished", L + 1 + 1 + 1 + 1 + 1 + 1), (PySem.Str.ofString "told", L + 1 + 1 + 1 + 1 + 1), (PySem.Str.ofString "asked", L + 1 + 1 + 1 + 1), (PySem.Str.ofString "i", L + 1 + 1 + 1), (PySem.Str.ofString "keys", L + 1 + 1), (PySem.Str.ofString "row", L + 1)] := by rfl

section
variable {L fa : Addr} {cd : Value} {x : PySem.Str} {c : Addr}
theorem law_look (h : (lawEnv L fa cd).cells.lookup x = some c) :
    (x = "wished" ∧ c = L + 1 + 1 + 1 + 1 + 1 + 1) ∨ (x = "told" ∧ c = L + 1 + 1 + 1 + 1 + 1) ∨ (x = "asked" ∧ c = L + 1 + 1 + 1 + 1) ∨ (x = "i" ∧ c = L + 1 + 1 + 1) ∨ (x = "keys" ∧ c = L + 1 + 1) ∨ (x = "row" ∧ c = L + 1) := by
  rw [law_cells] at h
  simp only [List.lookup] at h
  repeat' split at h
  all_goals first
    | (cases h; done)
    | (rename_i e; cases h; simp only [beq_iff_eq] at e; simp [e])

theorem finish {s₁ : Shared} {h₁ : Heap} {m cm : MS} {tk : Nat} {w5 w4 w3 w2 w1 w0 : Obj} (F : Fr s₁.heap s₁.heap.objs.size h₁ m)
    (N : News s₁.heap s₁.heap.objs.size h₁ [(s₁.heap.objs.size + 1 + 1 + 1 + 1 + 1 + 1, w5), (s₁.heap.objs.size + 1 + 1 + 1 + 1 + 1, w4), (s₁.heap.objs.size + 1 + 1 + 1 + 1, w3), (s₁.heap.objs.size + 1 + 1 + 1, w2), (s₁.heap.objs.size + 1 + 1, w1), (s₁.heap.objs.size + 1, w0)])
    (d5 : w5.data = .cell (cm "wished")) (d4 : w4.data = .cell (cm "told")) (d3 : w3.data = .cell (cm "asked")) (d2 : w2.data = .cell (cm "i")) (d1 : w1.data = .cell (cm "keys")) (d0 : w0.data = .cell (cm "row")) :
    PF s₁ (lawEnv s₁.heap.objs.size fa cd) s₁.heap m cm { s₁ with heap := h₁, toks := tk } :=
  have new : ∀ a, Frame (lawEnv s₁.heap.objs.size fa cd) a → s₁.heap.get? a = none := by
    rintro a (rfl | ⟨x, h⟩)
    · exact fresh_none _ (Nat.le_refl _)
    · refine fresh_none _ ?_
      rcases law_look h with ⟨_, rfl⟩ | ⟨_, rfl⟩ | ⟨_, rfl⟩ | ⟨_, rfl⟩ | ⟨_, rfl⟩ | ⟨_, rfl⟩ <;> omega
  { keep := keeps_mk F.keep
    sub := F.keep
    base := fun b o e => .inl (by rw [e]; rfl)
    ap := ⟨fun x c h => by
        show c ≠ s₁.heap.objs.size
        rcases law_look h with ⟨_, rfl⟩ | ⟨_, rfl⟩ | ⟨_, rfl⟩ | ⟨_, rfl⟩ | ⟨_, rfl⟩ | ⟨_, rfl⟩ <;> exact Nat.ne_of_gt (by omega),
      fun x y c h h' => by
        rcases law_look h with ⟨rfl, rfl⟩ | ⟨rfl, rfl⟩ | ⟨rfl, rfl⟩ | ⟨rfl, rfl⟩ | ⟨rfl, rfl⟩ | ⟨rfl, rfl⟩ <;>
        rcases law_look h' with ⟨rfl, e⟩ | ⟨rfl, e⟩ | ⟨rfl, e⟩ | ⟨rfl, e⟩ | ⟨rfl, e⟩ | ⟨rfl, e⟩ <;> first | rfl | exact absurd e (Nat.ne_of_gt (by omega)) | exact absurd e (Nat.ne_of_lt (by omega))⟩
    fns := F.ns
    cells := fun x c h => by
      rcases law_look h with ⟨rfl, rfl⟩ | ⟨rfl, rfl⟩ | ⟨rfl, rfl⟩ | ⟨rfl, rfl⟩ | ⟨rfl, rfl⟩ | ⟨rfl, rfl⟩
      · exact ⟨w5, (N (_, w5) (by simp)).1, d5⟩
      · exact ⟨w4, (N (_, w4) (by simp)).1, d4⟩
      · exact ⟨w3, (N (_, w3) (by simp)).1, d3⟩
      · exact ⟨w2, (N (_, w2) (by simp)).1, d2⟩
      · exact ⟨w1, (N (_, w1) (by simp)).1, d1⟩
      · exact ⟨w0, (N (_, w0) (by simp)).1, d0⟩
    offF := fun a h => ⟨new a h, new a h⟩ }
end
end Mine

/-! Hd01 -/
namespace Mine
set_option maxRecDepth 100000 in
set_option maxHeartbeats 8000000 in
open_top hd for PySem.Challenge.rw_dn0281_01
end Mine

/-! KQ1 -/
namespace Mine
theorem kq1 (P : Params) : KQ (Mine.hd.heap_39 P) where
  nQ := by kernel_rfl
  nB := by intro x hx; simp only [List.mem_cons, List.not_mem_nil, or_false] at hx; rcases hx with rfl | rfl | rfl | rfl | rfl | rfl | rfl | rfl | rfl | rfl <;> kernel_rfl
  keep := by kernel_rfl
  makes := by kernel_rfl
  init := by kernel_rfl
  initFn := by kernel_rfl
  plainG := by kernel_rfl
  sa := by kernel_rfl
  over := by kernel_rfl
  taker := by kernel_rfl
  text := by kernel_rfl
  hasDict := by kernel_rfl
  clsA := by kernel_rfl
  clsG := by kernel_rfl
  clsT := by kernel_rfl
  mro := by kernel_rfl
  cmp := by
    intro op h
    cases op <;> first | (cases h; done) | exact ⟨by kernel_rfl, by kernel_rfl, ⟨⟨.type "function", none, #[], by kernel_rfl⟩, by kernel_rfl⟩⟩
  sub := by intro x hx; simp only [List.mem_cons, List.not_mem_nil, or_false] at hx; rcases hx with rfl | rfl | rfl | rfl <;> exact ⟨by kernel_rfl, by kernel_rfl⟩
  mroT := by intro x hx; simp only [List.mem_cons, List.not_mem_nil, or_false] at hx; rcases hx with rfl | rfl | rfl | rfl <;> kernel_rfl
  kitQ := by kernel_rfl
  strF := ⟨by kernel_rfl, by kernel_rfl, ⟨.type "function", none, #[], by kernel_rfl⟩, by kernel_rfl⟩
  initF := ⟨⟨.type "function", none, #[], by kernel_rfl⟩, by kernel_rfl⟩
  dflt := ⟨.type "tuple", none, #[], by kernel_rfl⟩
end Mine

/-! KL1 -/
namespace Mine
theorem kl1 (P : Params) : KL (Mine.hd.heap_39 P) where
  rowN := by kernel_rfl
  rowK := by kernel_rfl
  rowF := ⟨⟨.type "function", none, #[], by kernel_rfl⟩, by kernel_rfl⟩
end Mine

/-! Fin1 -/
namespace Mine
theorem caller_room (env : Env) : Room (callerA.deeper env) 9 := ⟨rfl, by show callerA.depth + 1 + 9 < recursionLimit; decide, by show callerA.units + 3 + 8 * 9 < cLine; decide⟩
theorem gd1 {K : Frag} {p : Program} {lo : List PySem.Str} {mean : ExcName → Option Value} {mg mb : PySem.Str → Option Value} {h : Heap} (T : Top p lo mean mg mb h) (X : K.In h) : Gd K h := ⟨X, ⟨mg, T.g⟩, ⟨mb, T.b, T.builtins⟩, T.nolimit⟩
theorem end1 {c : ClaimW} {cl} {mean} {args} {s₁ s' : Shared} {m : MS} (k : Keeps s₁ s') (hn : s'.heap.Ns s₁.heap.objs.size m) (hg : s₁.gens = #[]) (h1 : ∀ cls, c.raises args cls = false) (h2 : c.post args (.bool true) args = true) :
    GoodW c cl mean args s₁ (.ok (.ret (.bool true))) s' := by
  obtain ⟨h, tk, rfl, e⟩ := k
  exact goodW_bool (m := m) ⟨hn, e, Nat.le_refl _⟩ hg h1 h2
end Mine
set_option maxRecDepth 100000 in
set_option maxHeartbeats 8000000 in
theorem PySem.Challenge.cw_dn0281_01_holds : PySem.Challenge.rw_dn0281_01.Holds := by
  refine Mine.hd ?_
  w_strict (k_go0; (refine Mine.law_body (Mine.kq1 _) (Mine.kl1 _) (Mine.caller_room _) (Mine.finish (by assumption) (by assumption) (by assumption) (by assumption) (by assumption) (by assumption) (by assumption) (by assumption)) (Mine.gd1 (by assumption) (by assumption)) rfl (by assumption) (by assumption) ?_ ?_); (omega); (intro s' m' k hn; refine Mine.end1 k hn (by assumption) (raisesW_false ?_) ?_; (· wrow_none_raised); (· wrow_post)))
