import PyProof.Rows.All
import Wide.All
import OpenK.AllK
import Wide.FinOn
import PySem.Challenge.RW_fc0115_01
set_option Elab.async false
set_option maxRecDepth 100000
set_option autoImplicit false
set_option linter.unusedVariables false

namespace Mine
open PySem PySem.Calls PyProof.Rows

abbrev thePw : Program := PySem.Challenge.pw_fc0115_01

/-- the i-th statement of the text -/
def fnStmt (i : Nat) : Stmt := thePw.main.body.getD i (.Pass ⟨0, 0, 0, 0⟩)
def nameOf : Stmt → Str
  | .FunctionDef n .. => n
  | _ => Str.empty
def paramsOf : Stmt → Arguments
  | .FunctionDef _ a .. => a
  | _ => ⟨[], [], none, [], [], none, []⟩
def bodyOf : Stmt → List Stmt
  | .FunctionDef _ _ b .. => b
  | _ => []
def scopeOf : Stmt → Scope
  | .FunctionDef _ _ _ _ _ _ s .. => s
  | _ => { kind := .function, names := [], isGenerator := false, isCoroutine := false }

/-- the constants of the world behind the top -/
structure Cx where
  w : World
  mg : Str → Option Value
  mb : Str → Option Value
  hb : Heap
  bm : Addr
  ob : Obj
  fa : Nat → Addr
  fc : Nat → Addr
  fp : Nat → Addr
  pin : Option (Addr × Data) := none

/-- what a step may not change: the base world, and one pinned object -/
structure Occ where
  h : Heap
  pin : Option (Addr × Data)
def Occ.get? (o : Occ) (a : Addr) : Option Unit := if o.pin.any (fun p => p.1 == a) then some () else (o.h.get? a).map fun _ => ()
def Cx.h₀ (C : Cx) : Occ := ⟨C.hb, C.pin⟩
theorem nb {C : Cx} {a : Addr} (h : C.h₀.get? a = none) : C.hb.get? a = none := by
  unfold Cx.h₀ Occ.get? at h
  split at h
  · cases h
  · simpa using h
theorem npin {C : Cx} {a : Addr} (h : C.h₀.get? a = none) {p : Addr × Data} (hp : C.pin = some p) : p.1 ≠ a := fun q => by
  unfold Cx.h₀ Occ.get? at h
  simp only [hp, Option.any_some, q, beq_self_eq_true, if_true] at h
  cases h
theorem free_of {C : Cx} {a : Addr} (h : C.hb.get? a = none) (hp : ∀ p, C.pin = some p → p.1 ≠ a) : C.h₀.get? a = none := by
  unfold Cx.h₀ Occ.get?
  rw [if_neg]
  · simp [h]
  · cases e : C.pin with
    | none => simp
    | some p => simpa using hp p e

/-- the defs whose codes bear generator expressions -/
abbrev tabIx : List Nat := [6, 10, 11]

def TabOk (C : Cx) (h : Heap) (i : Nat) : Prop :=
  ∃ ps : Array Value, h.IsCode (C.fc i) (C.fp i) ps ∧ h.TableAt (C.fc i) (C.fp i) ps

structure Wd (C : Cx) (h : Heap) : Prop where
  old : OldK C.hb h
  stat : ∀ o, C.hb.get? cStatics = some o → h.get? cStatics = some o
  tabs : ∀ i ∈ tabIx, TabOk C h i
  pin : ∀ p, C.pin = some p → ∃ o, h.get? p.1 = some o ∧ o.data = p.2

/-- a tuple stands there -/
def TupAt (h : Heap) (a : Addr) : Prop := ∃ o xs n, h.get? a = some o ∧ o.cls = .type "tuple" ∧ o.data = .seq xs n

structure Stp (C : Cx) (W : List Addr) (V : List Nat) (s s' : Shared) : Prop where
  keep : ∀ (b : Addr) (o : Obj), b ∉ W → (C.hb.get? b = none ∨ o.cls ≠ .none) → s.heap.get? b = some o → s'.heap.get? b = some o
  tup : ∀ (b : Addr) (o : Obj) (xs : Array Value) (n : Nat), o.cls = .type "tuple" → o.data = .seq xs n → s.heap.get? b = some o → s'.heap.get? b = some o
  there : ∀ (b : Addr) (o : Obj), b ∉ W → s.heap.get? b = some o → ∃ o', s'.heap.get? b = some o'
  gens : ∀ (i : Nat) (g : GenState), i ∉ V → s.gens[i]? = some g → s'.gens[i]? = some g
  os : s'.os = s.os
  bare : AllBare s.gens → AllBare s'.gens
  wd : Wd C s.heap → Wd C s'.heap

namespace Stp
variable {C : Cx} {W W' : List Addr} {V V' : List Nat} {s s' s'' : Shared}
theorem refl (s : Shared) : Stp C W V s s := ⟨fun _ _ _ _ e => e, fun _ _ _ _ _ _ e => e, fun _ o _ e => ⟨o, e⟩, fun _ _ _ e => e, rfl, id, id⟩
theorem mono (x : Stp C W V s s') (hW : ∀ a ∈ W, a ∈ W') (hV : ∀ a ∈ V, a ∈ V') : Stp C W' V' s s' :=
  ⟨fun b o hb hc e => x.keep b o (fun h => hb (hW b h)) hc e, x.tup, fun b o hb e => x.there b o (fun h => hb (hW b h)) e, fun i g hi e => x.gens i g (fun h => hi (hV i h)) e, x.os, x.bare, x.wd⟩
/-- what a step changes may be forgotten where it did not stand at the start -/
theorem drop (x : Stp C W V s s') (hW : ∀ a ∈ W, a ∈ W' ∨ s.heap.get? a = none) (hV : ∀ i ∈ V, i ∈ V' ∨ s.gens[i]? = none) : Stp C W' V' s s' :=
  ⟨fun b o hb hc e => x.keep b o (fun h => (hW b h).elim hb fun n => by rw [n] at e; cases e) hc e, x.tup,
   fun b o hb e => x.there b o (fun h => (hW b h).elim hb fun n => by rw [n] at e; cases e) e,
   fun i g hi e => x.gens i g (fun h => (hV i h).elim hi fun n => by rw [n] at e; cases e) e, x.os, x.bare, x.wd⟩
theorem none_of (x : Stp C W V s s') {a : Addr} (h : s'.heap.get? a = none) : a ∈ W ∨ s.heap.get? a = none := by
  by_cases q : a ∈ W
  · exact .inl q
  · cases e : s.heap.get? a with
    | none => exact .inr rfl
    | some o => obtain ⟨o', e'⟩ := x.there a o q e; rw [h] at e'; cases e'
theorem gnone_of (x : Stp C W V s s') {i : Nat} (h : s'.gens[i]? = none) : i ∈ V ∨ s.gens[i]? = none := by
  by_cases q : i ∈ V
  · exact .inl q
  · cases e : s.gens[i]? with
    | none => exact .inr rfl
    | some o => have e' := x.gens i o q e; rw [h] at e'; cases e'
/-- two steps with their own footprints -/
theorem andThen {W₁ W₂ : List Addr} {V₁ V₂ : List Nat} {s₁ : Shared} (x : Stp C W₁ V₁ s s') (y : Stp C W₂ V₂ s₁ s'') (hW₁ : ∀ a ∈ W₁, a ∈ W ∨ s.heap.get? a = none) (hV₁ : ∀ a ∈ V₁, a ∈ V ∨ s.gens[a]? = none)
    (hW₂ : ∀ a ∈ W₂, a ∈ W ∨ s.heap.get? a = none) (hV₂ : ∀ a ∈ V₂, a ∈ V ∨ s.gens[a]? = none) (hh : s'.heap = s₁.heap := by rfl) (hg : s'.gens = s₁.gens := by rfl) (ho : s'.os = s₁.os := by rfl) : Stp C W V s s'' := by
  have x := x.drop hW₁ hV₁
  obtain ⟨y1, y0, y2, y3, y5, y6, y7⟩ := y
  rw [← hh] at y1 y0 y2 y7
  rw [← hg] at y3 y6
  rw [← ho] at y5
  exact ⟨fun b o hb hc e => y1 b o (fun h => (hW₂ b h).elim hb fun n => by rw [n] at e; cases e) hc (x.keep b o hb hc e), fun b o xs n hc hd e => y0 b o xs n hc hd (x.tup b o xs n hc hd e),
   fun b o hb e => let ⟨o', e'⟩ := x.there b o hb e; y2 b o' (fun h => (hW₂ b h).elim hb fun n => by rw [n] at e; cases e) e',
   fun i g hi e => y3 i g (fun h => (hV₂ i h).elim hi fun n => by rw [n] at e; cases e) (x.gens i g hi e),
   y5.trans x.os, fun b => y6 (x.bare b), fun h => y7 (x.wd h)⟩
theorem trans {s₁ : Shared} (x : Stp C W V s s') (y : Stp C W V s₁ s'') (hh : s'.heap = s₁.heap := by rfl) (hg : s'.gens = s₁.gens := by rfl) (ho : s'.os = s₁.os := by rfl) : Stp C W V s s'' :=
  x.andThen y (fun _ h => .inl h) (fun _ h => .inl h) (fun _ h => .inl h) (fun _ h => .inl h) hh hg ho
theorem wide (x : Stp C [] [] s s') : Stp C W V s s' := x.mono (fun _ h => nomatch h) (fun _ h => nomatch h)
/-- one step more; what it changes is of the footprint, or is younger -/
theorem more {W₂ : List Addr} {s₁ : Shared} (x : Stp C W V s s') (y : Stp C W₂ [] s₁ s'') (hW₂ : ∀ a ∈ W₂, a ∈ W ∨ s.heap.get? a = none) (hh : s'.heap = s₁.heap := by rfl) (hg : s'.gens = s₁.gens := by rfl) (ho : s'.os = s₁.os := by rfl) : Stp C W V s s'' :=
  x.andThen y (fun _ h => .inl h) (fun _ h => .inl h) hW₂ (fun _ h => nomatch h) hh hg ho
end Stp

theorem nin1 {a b : Addr} (h : a ≠ b) : a ∉ [b] := by simpa using h
theorem nin2 {a b c : Addr} (h : a ≠ b) (h' : a ≠ c) : a ∉ [b, c] := by simp [h, h']
theorem all0 {α : Type} {P : α → Prop} : ∀ a ∈ ([] : List α), P a := fun _ h => nomatch h
theorem all1 {α : Type} {P : α → Prop} {b : α} (h : P b) : ∀ a ∈ [b], P a := fun a ha => by rw [List.mem_singleton.mp ha]; exact h
theorem all2 {α : Type} {P : α → Prop} {b c : α} (h : P b) (h' : P c) : ∀ a ∈ [b, c], P a := fun a ha => by
  rcases List.mem_cons.mp ha with rfl | ha
  · exact h
  · rw [List.mem_singleton.mp ha]; exact h'
theorem get_size (h : Heap) : h.get? h.objs.size = none := by
  cases e : h.get? h.objs.size with
  | none => rfl
  | some o => exact absurd (Heap.lt_size e) (Nat.lt_irrefl _)

theorem TabOk.keeps {C : Cx} {h h' : Heap} {i : Nat} (x : TabOk C h i) (hk : ∀ b o, h.get? b = some o → h'.get? b = some o) : TabOk C h' i :=
  let ⟨ps, a, b⟩ := x; ⟨ps, a.keeps hk, b.keeps hk⟩
theorem Wd.keeps {C : Cx} {h h' : Heap} (x : Wd C h) (hk : ∀ b o, h.get? b = some o → h'.get? b = some o) : Wd C h' :=
  ⟨x.old.step_keeps hk, fun o e => hk _ _ (x.stat o e), fun i hi => (x.tabs i hi).keeps hk, fun p hp => let ⟨o, e, d⟩ := x.pin p hp; ⟨o, hk _ _ e, d⟩⟩
theorem Wd.ext {C : Cx} {h h' : Heap} {a : Addr} (x : Wd C h) (ha : C.h₀.get? a = none) (hs : Heap.ExtBut a h h') (hst : ∃ o, C.hb.get? cStatics = some o) (htab : ∀ i ∈ tabIx, a ≠ C.fc i ∧ a ≠ C.fp i) : Wd C h' := by
  have ne : ∀ b o, C.hb.get? b = some o → b ≠ a := fun b o e h => by rw [h, nb ha] at e; cases e
  obtain ⟨os, hos⟩ := hst
  have hc := ne _ _ hos
  have e1 := x.stat _ hos
  have e2 := hs _ _ hc e1
  refine ⟨⟨fun b o e => ?_, fun b o e => ?_⟩, fun o e => hs _ _ hc (x.stat o e), fun i hi => ?_, fun p hp => let ⟨o, e, d⟩ := x.pin p hp; ⟨o, hs _ _ (npin ha hp) e, d⟩⟩
  · have hb := ne b o e
    rcases x.old.old b o e with y | ⟨t, hc', vs, more, hv, y⟩ | ⟨rfl, hc', ⟨o', es, n, ho', r⟩, z⟩
    · exact .inl (hs _ _ hb y)
    · exact .inr (.inl ⟨t, hc', vs, more, hv, hs _ _ hb y⟩)
    · exact .inr (.inr ⟨rfl, hc', ⟨o', es, n, hs _ _ hb ho', r⟩, fun key => by rw [OldK.staticOf_congr (e2.trans e1.symm) key]; exact z key⟩)
  · obtain ⟨o', e'⟩ := x.old.there b o e
    exact ⟨o', hs _ _ (ne b o e) e'⟩
  · obtain ⟨ps, p, q⟩ := x.tabs i hi
    exact ⟨ps, p.extBut hs (Ne.symm (htab i hi).1) (Ne.symm (htab i hi).2), q.extBut hs (Ne.symm (htab i hi).1) (Ne.symm (htab i hi).2)⟩
end Mine

namespace Mine
open PySem PySem.Calls PySem.W PyProof.Rows

abbrev MM (C : Cx) : Model := model thePw C.w

/-- the def written at place i, as it stands behind the top -/
def FnAt (C : Cx) (h : Heap) (i : Nat) : Prop :=
  ∃ o pm doc, h.get? (C.fa i) = some o ∧ o.cls = .type "function" ∧
    o.data = .func (docDef (nameOf (fnStmt i)) (paramsOf (fnStmt i)) (bodyOf (fnStmt i)) (scopeOf (fnStmt i)) pm (.ref (C.fc i)) doc) ∧ h.CodeRec (.ref (C.fc i)) (nameOf (fnStmt i))

abbrev fnIx : List Nat := [2, 4, 5, 6, 8, 10, 11, 12, 13, 14, 16, 17, 18, 19, 20]

/-- built-in names that the text reads and does not bind -/
abbrev biNames : List Str := ["tuple", "list", "range", "sum", "len", "isinstance", "callable", "map", "set", "abs", "TypeError", "NotImplementedError"]

structure Facts (C : Cx) : Prop where
  nb : ∀ x ∈ biNames, C.mg x = none
  g : ∀ h, Wd C h → h.Ns mainGlobals C.mg
  b : ∀ h, Wd C h → h.Ns builtinsNs C.mb
  lim : ∀ h, Wd C h → h.NoLimit
  bmod : ∀ h, Wd C h → BMod h mainGlobals C.mg C.bm C.ob
  bi : ∀ x : Str, x ≠ "__name__" → C.mb x = bootBuiltins x
  stat : ∃ o, C.hb.get? cStatics = some o
  pinf : ∀ p, C.pin = some p → C.hb.get? p.1 = none
  tabl : ∀ i ∈ tabIx, (∃ o, C.hb.get? (C.fc i) = some o) ∧ ∃ o, C.hb.get? (C.fp i) = some o
  tab0 : ∀ i ∈ tabIx, C.hb.TableAt (C.fc i) (C.fp i) #[] ∧ C.fp i ≠ cStatics
  tabd : ∀ i ∈ tabIx, ∀ j ∈ tabIx, C.fc i ≠ C.fp j ∧ (i ≠ j → C.fp i ≠ C.fp j)
  mgf : ∀ i ∈ fnIx, C.mg (nameOf (fnStmt i)) = some (.ref (C.fa i))
  fn : ∀ i ∈ fnIx, ∀ h, Wd C h → FnAt C h i

/-- room on the stacks -/
structure Room (k : Nat) (A : Around) : Prop where
  handled : A.handled = none
  depth : A.depth + k < recursionLimit
  units : A.units + 10 * k + 100 < cLine

section
variable {C : Cx} {A : Around} {E : Value → Shared → Prop} {s : Shared} {env : Env} {M : Model}

theorem Facts.ext (FF : Facts C) {h h' : Heap} {a : Addr} (x : Wd C h) (ha : C.h₀.get? a = none) (hs : Heap.ExtBut a h h') : Wd C h' :=
  x.ext ha hs FF.stat fun i hi => by
    obtain ⟨⟨o, e⟩, ⟨o', e'⟩⟩ := FF.tabl i hi
    have ha := Mine.nb ha
    exact ⟨fun q => (by rw [q, e] at ha; cases ha), fun q => (by rw [q, e'] at ha; cases ha)⟩

theorem Wd.none {h : Heap} (x : Wd C h) {a : Addr} (ha : h.get? a = none) : C.h₀.get? a = none := by
  refine free_of ?_ fun p hp q => ?_
  · cases e : C.hb.get? a with
    | none => rfl
    | some o => obtain ⟨o', e'⟩ := x.old.there a o e; rw [ha] at e'; cases e'
  · obtain ⟨o, e, _⟩ := x.pin p hp
    rw [q, ha] at e; cases e

theorem Stp.keeps {s s' : Shared} (hk : ∀ b o, s.heap.get? b = some o → s'.heap.get? b = some o) (hg : s'.gens = s.gens) (ho : s'.os = s.os) : Stp C [] [] s s' :=
  ⟨fun b o _ _ e => hk b o e, fun b o _ _ _ _ e => hk b o e, fun b o _ e => ⟨o, hk b o e⟩, fun i g _ e => by rw [hg]; exact e, ho, fun b => by rw [hg]; exact b, fun w => w.keeps hk⟩
theorem Stp.tok {s s' : Shared} {W : List Addr} {V : List Nat} {t : Nat} (x : Stp C W V s s') : Stp C W V s { s' with toks := t } := ⟨x.keep, x.tup, x.there, x.gens, x.os, x.bare, x.wd⟩
theorem Stp.push (o : Obj) : Stp C [] [] s { s with heap := s.heap.push o } := Stp.keeps (fun b o' e => Heap.get?_push_of_some _ e) rfl rfl
theorem Stp.pushT (o : Obj) (t : Nat) : Stp C [] [] s { s with heap := s.heap.push o, toks := t } := Stp.keeps (fun b o' e => Heap.get?_push_of_some _ e) rfl rfl
/-- one object alone is changed, and it is not of the world behind the top -/
theorem Stp.ext (FF : Facts C) {h' : Heap} {a : Addr} {t : Nat} (ha : C.h₀.get? a = none) (hs : Heap.ExtBut a s.heap h') (hnt : ¬ TupAt s.heap a) : Stp C [a] [] s { s with heap := h', toks := t } :=
  ⟨fun b o hb _ e => hs _ _ (fun q => hb (by rw [q]; exact .head _)) e, fun b o xs n hc hd e => hs _ _ (fun q => hnt ⟨o, xs, n, q ▸ e, hc, hd⟩) e,
   fun b o hb e => ⟨o, hs _ _ (fun q => hb (by rw [q]; exact .head _)) e⟩, fun i g _ e => e, rfl, id, fun w => FF.ext w ha hs⟩
theorem Stp.same (FF : Facts C) {h' : Heap} {a : Addr} {t : Nat} (ha : C.h₀.get? a = none) (hs : Heap.SameBut a s.heap h') (hnt : ¬ TupAt s.heap a) : Stp C [a] [] s { s with heap := h', toks := t } := Stp.ext FF ha hs.extBut hnt

theorem not_tup_ns {h : Heap} {L : Addr} {m : Str → Option Value} (hn : h.Ns L m) : ¬ TupAt h L := by
  rintro ⟨o, xs, n, e, _, hd⟩
  obtain ⟨o', es, ep, e', hd', _⟩ := hn
  rw [e] at e'; cases e'
  rw [hd] at hd'; cases hd'
theorem not_tup_list {h : Heap} {l : Addr} {xs : Array Value} (hl : h.IsList l xs) : ¬ TupAt h l := by
  rintro ⟨o, ys, n, e, hc, _⟩
  obtain ⟨o', e', hc', _⟩ := hl
  rw [e] at e'; cases e'
  rw [hc] at hc'; exact absurd hc' (by simp)
/-- a frame's own names -/
structure Loc (C : Cx) (h : Heap) (L : Addr) (l : List (Str × Value)) : Prop where
  ns : h.Ns L fun y => l.lookup y
  new : C.h₀.get? L = none
theorem Stp.loc {W : List Addr} {V : List Nat} {s s' : Shared} {L : Addr} {l : List (Str × Value)} (x : Stp C W V s s') (hn : Loc C s.heap L l) (hW : L ∉ W := by simp) : Loc C s'.heap L l :=
  let ⟨o, es, ep, e, r⟩ := hn.ns; ⟨⟨o, es, ep, x.keep _ _ hW (.inl (nb hn.new)) e, r⟩, hn.new⟩
theorem Stp.list {W : List Addr} {V : List Nat} {s s' : Shared} {l : Addr} {xs : Array Value} (x : Stp C W V s s') (hl : s.heap.IsList l xs) (hW : l ∉ W := by simp) : s'.heap.IsList l xs :=
  let ⟨o, e, hc, r⟩ := hl; ⟨o, x.keep _ _ hW (.inr (by rw [hc]; nofun)) e, hc, r⟩
theorem Stp.plain {W : List Addr} {V : List Nat} {s s' : Shared} {l : Addr} {xs : Array Value} (x : Stp C W V s s') (hl : s.heap.PlainList l xs) (hW : l ∉ W := by simp) : s'.heap.PlainList l xs :=
  let ⟨n, e⟩ := hl; ⟨n, x.keep _ _ hW (.inr nofun) e⟩
theorem ne_of_list_loc {h : Heap} {l L : Addr} {xs : Array Value} {m : List (Str × Value)} (hl : h.IsList l xs) (hn : Loc C h L m) : l ≠ L := by
  rintro rfl
  obtain ⟨o, e, hc, n, hd⟩ := hl
  obtain ⟨o', es, ep, e', hd', _⟩ := hn.ns
  rw [e] at e'; cases e'
  rw [hd] at hd'; cases hd'

theorem Room.deeper {k : Nat} (x : Room (k + 1) A) {env : Env} : Room k (A.deeper env) := ⟨x.handled, by have := x.depth; show A.depth + 1 + k < _; omega, by have := x.units; show A.units + 3 + 10 * k + 100 < _; omega⟩
theorem Room.less {k j : Nat} (x : Room k A) (h : j ≤ k) : Room j A := ⟨x.handled, by have := x.depth; omega, by have := x.units; omega⟩
theorem Room.u64 {k : Nat} (x : Room k A) : A.units + 64 < cLine := by have := x.units; omega
theorem Room.u {k : Nat} (x : Room k A) : A.units < cLine := by have := x.units; omega
theorem Room.d {k : Nat} (x : Room k A) : A.depth < recursionLimit := by have := x.depth; omega

/-! names -/
theorem ev_local {x : Str} {pos : Pos} {l : List (Str × Value)} {v : Value} {hp : Heap} {Q : Value → Shared → Prop} (hn : Loc C hp env.locals l) (hv : l.lookup x = some v) (h : Q v s) (hs : s.heap = hp := by rfl)
    (hk : env.scope.kind = .function := by rfl) (hl : env.kindOf x = some .local := by rfl) (hd : (x == ("__debug__" : Str)) = false := by decide) : wpAny (MM C) A (eval (.Name x pos) env) Q E s := by
  subst hs
  exact wpAny_Name (wpAny_loadName_local hk hl hn.ns hv h) hd
theorem ev_glob (FF : Facts C) {hp : Heap} (hw : Wd C hp) {x : Str} {pos : Pos} {v : Value} {Q : Value → Shared → Prop} (hv : C.mg x = some v) (h : Q v s) (hs : s.heap = hp := by rfl)
    (hk : env.scope.kind = .function := by rfl) (hx : env.kindOf x = some .globalImplicit := by rfl) (hg : env.globals = mainGlobals := by rfl) (hd : (x == ("__debug__" : Str)) = false := by decide) :
    wpAny (MM C) A (eval (.Name x pos) env) Q E s := by
  subst hs
  exact Name_function_global hk hx (loadGlobal_global (hg ▸ FF.g _ hw) hv h) hd
theorem ev_fn (FF : Facts C) {hp : Heap} (hw : Wd C hp) (i : Nat) {x : Str} {pos : Pos} {Q : Value → Shared → Prop} (h : Q (.ref (C.fa i)) s) (hs : s.heap = hp := by rfl) (hi : i ∈ fnIx := by decide) (hx' : x = nameOf (fnStmt i) := by rfl)
    (hk : env.scope.kind = .function := by rfl) (hx : env.kindOf x = some .globalImplicit := by rfl) (hg : env.globals = mainGlobals := by rfl) (hd : (x == ("__debug__" : Str)) = false := by decide) :
    wpAny (MM C) A (eval (.Name x pos) env) Q E s := ev_glob FF hw (by rw [hx']; exact FF.mgf i hi) h hs hk hx hg hd
theorem ev_bi (FF : Facts C) {hp : Heap} (hw : Wd C hp) {x : Str} {pos : Pos} {v : Value} {Q : Value → Shared → Prop} (hm : C.mg x = none) (h : Q v s) (hs : s.heap = hp := by rfl) (hv : bootBuiltins x = some v := by rfl)
    (hn : x ≠ "__name__" := by decide)
    (hk : env.scope.kind = .function := by rfl) (hx : env.kindOf x = some .globalImplicit := by rfl) (hg : env.globals = mainGlobals := by rfl) (hb : env.builtins = builtinsNs := by rfl)
    (hd : (x == ("__debug__" : Str)) = false := by decide) :
    wpAny (MM C) A (eval (.Name x pos) env) Q E s := by
  subst hs
  exact Name_function_global hk hx (loadGlobal_builtin (hg ▸ FF.g _ hw) hm (hb ▸ FF.b _ hw) ((FF.bi x hn).trans hv) h) hd
theorem ev_b (FF : Facts C) {hp : Heap} (hw : Wd C hp) {x : Str} {pos : Pos} {v : Value} {Q : Value → Shared → Prop} (h : Q v s) (hs : s.heap = hp := by rfl) (hm : x ∈ biNames := by decide) (hv : bootBuiltins x = some v := by rfl)
    (hn : x ≠ "__name__" := by decide)
    (hk : env.scope.kind = .function := by rfl) (hx : env.kindOf x = some .globalImplicit := by rfl) (hg : env.globals = mainGlobals := by rfl) (hb : env.builtins = builtinsNs := by rfl)
    (hd : (x == ("__debug__" : Str)) = false := by decide) :
    wpAny (MM C) A (eval (.Name x pos) env) Q E s := ev_bi FF hw (FF.nb x hm) h hs hv hn hk hx hg hb hd
theorem ev_cell {x : Str} {pos : Pos} {c : Addr} {v : Value} {hp : Heap} {Q : Value → Shared → Prop} (hv : hp.IsCell c (some v)) (h : Q v s) (hc : env.cells.lookup x = some c) (hs : s.heap = hp := by rfl)
    (hk : env.scope.kind = .function := by rfl) (hl : env.kindOf x = some .cell := by rfl) (hd : (x == ("__debug__" : Str)) = false := by decide) : wpAny (MM C) A (eval (.Name x pos) env) Q E s := by
  subst hs
  exact wpAny_Name (wpAny_loadName_cell hk hl hc hv h) hd
theorem ev_free {x : Str} {pos : Pos} {c : Addr} {v : Value} {hp : Heap} {Q : Value → Shared → Prop} (hv : hp.IsCell c (some v)) (h : Q v s) (hc : env.cells.lookup x = some c) (hs : s.heap = hp := by rfl)
    (hk : env.scope.kind = .function := by rfl) (hl : env.kindOf x = some .free := by rfl) (hd : (x == ("__debug__" : Str)) = false := by decide) (hn : (x == ("__classdict__" : Str)) = false := by decide) : wpAny (MM C) A (eval (.Name x pos) env) Q E s := by
  subst hs
  exact wpAny_Name (wpAny_loadName_free hk hl hc hv h hn) hd

/-! stores -/
def put (x : Str) (v : Value) : List (Str × Value) → List (Str × Value)
  | [] => [(x, v)]
  | (y, u) :: r => if y = x then (x, v) :: r else (y, u) :: put x v r
theorem put_lookup (x : Str) (v : Value) (l : List (Str × Value)) (y : Str) : (put x v l).lookup y = if y = x then some v else l.lookup y := by
  induction l with
  | nil =>
    by_cases h : y = x
    · subst h; simp [put, List.lookup]
    · have hb : (y == x) = false := beq_eq_false_iff_ne.mpr h
      simp only [put, List.lookup, hb, if_neg h]
  | cons p r ih =>
    obtain ⟨z, u⟩ := p
    unfold put
    by_cases hz : z = x
    · subst hz
      rw [if_pos rfl]
      by_cases h : y = z
      · subst h; simp [List.lookup]
      · have hb : (y == z) = false := beq_eq_false_iff_ne.mpr h
        simp only [List.lookup, hb, if_neg h]
    · rw [if_neg hz]
      by_cases h : y = z
      · subst h
        simp [List.lookup, hz]
      · have hb : (y == z) = false := beq_eq_false_iff_ne.mpr h
        simp only [List.lookup, hb, ih]
theorem st_local (FF : Facts C) {x : Str} {v : Value} {l : List (Str × Value)} {hp : Heap} {Q : Unit → Shared → Prop} (hn : Loc C hp env.locals l)
    (h : ∀ s', Loc C s'.heap env.locals (put x v l) → Stp C [env.locals] [] s s' → s'.gens = s.gens → Q () s') (hs : s.heap = hp := by rfl)
    (hl : env.kindOf x = some .local := by rfl) (hcl : (env.scope.kind == .class || (env.scope.kind == .module && env.locals != env.globals)) = false := by rfl) :
    wpAny (MM C) A (storeName env x v) Q E s := by
  subst hs
  exact wpAny_storeName_local hl hn.ns (fun h' hn' hs => by
    have e : (fun y => if y = x then some v else l.lookup y) = fun y => (put x v l).lookup y := funext fun y => (put_lookup x v l y).symm
    rw [e] at hn'
    exact h _ ⟨hn', hn.new⟩ (Stp.same FF hn.new hs (not_tup_ns hn.ns)) rfl) hcl

/-! displays -/
theorem ev_list {elts : List Expr} {pos : Pos} {Q : Value → Shared → Prop}
    (h : wpAny (MM C) A (spliced (backTo pos (starEach elts env))) (fun vs s₁ => vs.length ≤ sizeLine ∧ ∀ s₂ a, Stp C [] [] s₁ s₂ → s₂.gens = s₁.gens → s₁.heap.get? a = none → s₂.heap.PlainList a vs.toArray → Q (.ref a) s₂) E s) :
    wpAny (MM C) A (eval (.List elts pos) env) Q E s :=
  wpAny_List (wpAny_mono h (fun vs s₁ h₁ => ⟨h₁.1, h₁.2 _ _ (Stp.push _) rfl (get_size _) ⟨0, Heap.get?_push_size _ rfl⟩⟩) fun _ _ e => e)
theorem ev_tuple {elts : List Expr} {k : Nat} {pos : Pos} {Q : Value → Shared → Prop}
    (h : wpAny (MM C) A (spliced (backTo pos (starEach elts env))) (fun vs s₁ => vs.length ≤ sizeLine ∧ ∀ s₂ a, Stp C [] [] s₁ s₂ → s₂.gens = s₁.gens → s₁.heap.get? a = none → s₂.heap.get? a = some { cls := .type "tuple", data := .seq vs.toArray } → Q (.ref a) s₂) E s) :
    wpAny (MM C) A (eval (.Tuple elts k pos) env) Q E s :=
  wpAny_Tuple (wpAny_mono h (fun vs s₁ h₁ => ⟨h₁.1, h₁.2 _ _ (Stp.push _) rfl (get_size _) (Heap.get?_push_size _ rfl)⟩) fun _ _ e => e)

/-! calls of the text's own defs -/
theorem looks_fn (FF : Facts C) {i : Nat} (hi : i ∈ fnIx) (h : Heap) (hw : Wd C h) : ∃ k, (k = Keeper.frame ∨ k = Keeper.machine ∨ k = Keeper.boundFrame) ∧ Looks (MM C) h (keeperOf (.ref (C.fa i))) k := by
  obtain ⟨⟨c, d, dt, sl⟩, pm, doc, ho, hc, hd, _⟩ := FF.fn i hi h hw
  dsimp only at hc hd
  subst hc hd
  exact ⟨.frame, .inl rfl, (Looks.ld (part := none) ho).andThen .now⟩
theorem callWith_fn (FF : Facts C) {pos : Pos} {i : Nat} {e : Expr} {rest : List Expr} {Q : Value → Shared → Prop} (hi : i ∈ fnIx)
    (h : wpAny (MM C) A (spliced (backTo pos (starEach (e :: rest) env))) (fun vs s₁ => Wd C s₁.heap ∧ wpAny (MM C) A (call (.ref (C.fa i)) vs) Q E s₁) E s)
    (he : starEach (e :: rest) env = (false, eval e env) :: starEach rest env := by rfl) (hplain : (backTo pos (starEach rest env)).any (·.1) = false := by rfl) :
    wpAny (MM C) A (callWith pos (.ref (C.fa i)) [] (backTo pos (starEach (e :: rest) env)) []) Q E s := by
  rw [he] at h ⊢
  exact callWith_of (P := Wd C) (by show ((false || (backTo pos (starEach rest env)).any (·.1)) || false) = false; rw [hplain]; rfl) (looks_fn FF hi) (evalArgs_plain h)
/-- f(a, b): the arguments, then the def's contract -/
theorem ev_call (FF : Facts C) {hp : Heap} (hw : Wd C hp) (i : Nat) {x : Str} {np pos : Pos} {e : Expr} {rest : List Expr} {Q : Value → Shared → Prop}
    (h : wpAny (MM C) A (spliced (backTo pos (starEach (e :: rest) env))) (fun vs s₁ => Wd C s₁.heap ∧ wpAny (MM C) A (call (.ref (C.fa i)) vs) Q E s₁) E s) (hs : s.heap = hp := by rfl) (hi : i ∈ fnIx := by decide) (hx' : x = nameOf (fnStmt i) := by rfl)
    (hk : env.scope.kind = .function := by rfl) (hx : env.kindOf x = some .globalImplicit := by rfl) (hg : env.globals = mainGlobals := by rfl) (hd : (x == ("__debug__" : Str)) = false := by decide)
    (he : starEach (e :: rest) env = (false, eval e env) :: starEach rest env := by rfl) (hplain : (backTo pos (starEach rest env)).any (·.1) = false := by rfl) :
    wpAny (MM C) A (eval (.Call (.Name x np) (e :: rest) [] pos) env) Q E s :=
  wpAny_Call_NameR (ev_fn FF hw i (callWith_fn FF hi h he hplain) hs hi hx' hk hx hg hd)

abbrev fnEnv (C : Cx) (i : Nat) (L : Addr) (pm doc : Value) : Env := callEnv (docDef (nameOf (fnStmt i)) (paramsOf (fnStmt i)) (bodyOf (fnStmt i)) (scopeOf (fnStmt i)) pm (.ref (C.fc i)) doc) L (C.fa i)
/-- entering a def without cells -/
theorem enter_fn (FF : Facts C) {i : Nat} {vals : List Value} {binds : List (Str × Value)} {Q : Value → Shared → Prop} {k : Nat} {hp : Heap} (hi : i ∈ fnIx) (hw : Wd C hp) (hA : Room (k + 1) A)
    (hbind : ∀ pm doc, BindsTo s (docDef (nameOf (fnStmt i)) (paramsOf (fnStmt i)) (bodyOf (fnStmt i)) (scopeOf (fnStmt i)) pm (.ref (C.fc i)) doc) ⟨vals, []⟩ binds)
    (h : ∀ (s₁ : Shared) (L : Addr) (pm doc : Value) (E' : Value → Shared → Prop), Loc C s₁.heap L binds.reverse → s.heap.get? L = none → Stp C [] [] s s₁ → s₁.gens = s.gens → Wd C s₁.heap → Room k (A.deeper (fnEnv C i L pm doc)) →
      wpAny (MM C) (A.deeper (fnEnv C i L pm doc)) (execs (bodyOf (fnStmt i)) (fnEnv C i L pm doc)) (fun f s' => Q (match f with | .ret v => v | _ => .none) s') E' s₁) (hs : s.heap = hp := by rfl)
    (hcell : ((scopeOf (fnStmt i)).names.all fun x => x.2 != .cell) = true := by rfl) (hloc : (binds.all fun x => decide ((scopeOf (fnStmt i)).names.lookup x.1 = some .local)) = true := by rfl)
    (hco : (scopeOf (fnStmt i)).isCoroutine = false := by rfl) (hgen : (scopeOf (fnStmt i)).isGenerator = false := by rfl) (hk : (scopeOf (fnStmt i)).kind = .function := by rfl) :
    wpAny (MM C) A (call (.ref (C.fa i)) vals) Q E s := by
  subst hs
  obtain ⟨o, pm, doc, ho, hc, hd, hcd⟩ := FF.fn i hi _ hw
  refine wpAny_call (codeAny_call_def (fd := docDef (nameOf (fnStmt i)) (paramsOf (fnStmt i)) (bodyOf (fnStmt i)) (scopeOf (fnStmt i)) pm (.ref (C.fc i)) doc) (binds := binds) hA.d ho hd (FF.lim _ hw) hcd rfl (hbind pm doc) ?_ (locs hloc) (fun h₁ hn hk₁ => ?_) hco hgen hk)
  · intro x hx
    have := List.all_eq_true.mp hcell x hx
    simpa using this
  · exact h _ s.heap.objs.size pm doc _ ⟨hn, hw.none (get_size _)⟩ (get_size _) (Stp.keeps hk₁ rfl rfl) rfl (hw.keeps hk₁) hA.deeper
end
end Mine

namespace Mine
open PySem PySem.Calls PySem.W PyProof.Rows
section
variable {C : Cx} {A : Around} {E : Value → Shared → Prop} {s : Shared} {env : Env} {M : Model}
theorem rest_ok (FF : Facts C) (hw : Wd C s.heap) {k : Nat} (hA : Room (k + 1) A) {n : Int} {t : Tok} {Q : Value → Shared → Prop}
    (h : ∀ s' t', Stp C [] [] s s' → s'.gens = s.gens → Q (.int (n.fmod 3) t') s') : wpAny (MM C) A (call (.ref (C.fa 20)) [.int n t]) Q E s := by
  refine enter_fn FF (i := 20) (binds := [("number", .int n t)]) (by decide) hw hA (fun _ _ => .of_eq rfl) (fun s₁ L pm doc E' hn hL st hg hw₁ hA₁ => ?_)
  refine wpAny_execs_cons (wpAny_Return_some (wpAny_BinOp (ev_local hn rfl (wpAny_Constant_int (mod_int' (by decide) ?_)))))
  exact h _ _ st.tok.tok hg
end
end Mine

namespace Mine
open PySem PySem.Calls PySem.W PyProof.Rows
section
variable {C : Cx} {A : Around} {E : Value → Shared → Prop} {s : Shared} {env : Env} {M : Model}

theorem ev_item_list {value slice : Expr} {pos : Pos} {Q : Value → Shared → Prop}
    (h : wpAny (MM C) A (eval value env) (fun o s₁ => wpAny (MM C) A (eval slice env) (fun i s₂ => ∃ l vs k u x, o = .ref l ∧ i = .int k u ∧ s₂.heap.IsList l vs ∧ 0 ≤ k ∧ k < 2 ^ 63 ∧ vs[k.toNat]? = some x ∧ Q x s₂) E s₁) E s)
    (hs : ∀ o i, subscripted slice false o i = operate [o, i] (getItem o i) := by intros; rfl) : wpAny (MM C) A (eval (.Subscript value slice pos) env) Q E s := by
  refine Subscript_ (wpAny_mono h (fun o s₁ h₁ => wpAny_mono h₁ (fun i s₂ h₂ => ?_) fun _ _ e => e) fun _ _ e => e)
  obtain ⟨l, vs, k, u, x, rfl, rfl, hl, h0, hhi, hx, hq⟩ := h₂
  exact tail_any hl.typeIs F.slot_list_getitem.lookup (wpAny_getItem_list hl h0 hhi hx hq) (hs _ _)

/-- one object of the run's own changed by an update -/
theorem Stp.upd (FF : Facts C) {a : Addr} {f : Obj → Obj} {o : Obj} {t : Nat} (ha : C.h₀.get? a = none) (ho : s.heap.get? a = some o) (hf : (f o).isFreed = false) (hnt : ¬ TupAt s.heap a) : Stp C [a] [] s { s with heap := s.heap.update a f, toks := t } :=
  Stp.same FF ha (Heap.SameBut.update ..) hnt

theorem ev_pop0 (FF : Facts C) {o : Expr} {apos pos p : Pos} {kd : Nat} {Q : Value → Shared → Prop}
    (h : wpAny (MM C) A (eval o env) (fun ov s₁ => ∃ q x vs, ov = .ref q ∧ s₁.heap.PlainList q (List.toArray (x :: vs)) ∧ vs.length ≤ 1000 ∧ C.h₀.get? q = none ∧
      ∀ s₂, Stp C [q] [] s₁ s₂ → s₂.gens = s₁.gens → s₂.heap.PlainList q vs.toArray → Q x s₂) E s)
    (hb : attributeBase o "pop" env (eval o env) = eval o env := by rfl) (hline : (apos.endLine == pos.line) = true := by rfl) :
    wpAny (MM C) A (eval (.Call (.Attribute o "pop" apos) [.Constant (.int 0) kd p] [] pos) env) Q E s := by
  refine wpAny_Call_method1_late hb hline rfl (wpAny_mono h (fun ov s₁ h₁ => ?_) fun _ _ e => e)
  obtain ⟨q, x, vs, rfl, ⟨n, hq⟩, hlen, hq₀, hQ⟩ := h₁
  refine ⟨"list", "list.pop", F.plainAttrs_list, F.slot_list_pop, F.type_list_pop, ⟨_, hq, rfl⟩, (fun a e => by cases e; exact ⟨_, hq, rfl⟩), P.pop_at_list (wpAny_Constant_int ?_)⟩
  refine ⟨_, n, 0, _, 0, x, by simp only [List.size_toArray, List.length_cons]; rw [sizeLine_eq]; omega, rfl, hq, by decide, by simp [seqIndex?], by simp, ?_⟩
  refine hQ _ (Stp.upd FF hq₀ hq rfl (not_tup_list ⟨_, hq, rfl, n, rfl⟩)) rfl ⟨n + 1, ?_⟩
  rw [Heap.get?_update_self _ hq rfl]
  simp [Obj.mapSeq, Array.eraseIdxIfInBounds]

theorem setItem_l (FF : Facts C) {hp : Heap} {l : Addr} {items : Array Value} {k : Int} {t : Tok} {v : Value} {Q : Unit → Shared → Prop} (hl : hp.IsList l items) (hl₀ : C.h₀.get? l = none) (h0 : 0 ≤ k) (hhi : k < 2 ^ 63) (hlt : k < items.size)
    (h : ∀ s', Stp C [l] [] s s' → s'.gens = s.gens → s'.heap.IsList l (items.setIfInBounds k.toNat v) → Q () s') (hs : s.heap = hp := by rfl) : wpAny (MM C) A (setItem (.ref l) (.int k t) v) Q E s := by
  subst hs
  refine wpAny_setItem_list hl h0 hhi hlt fun h' hl' hs' => ?_
  exact h _ (Stp.same FF hl₀ hs' (not_tup_list hl)) rfl hl'
end
end Mine

namespace Mine
open PySem PySem.Calls PySem.W PyProof.Rows
section
variable {C : Cx} {A : Around} {E : Value → Shared → Prop} {s : Shared} {env : Env} {M : Model}

/-- the law's purse: a list of the ints that are left (at q) and a seed -/
def DrawAt (h : Heap) (d q : Addr) : Prop :=
  ∃ (seed : Int) (t : Tok) (vs : List Value) (ns : List Int), h.IsList d #[.ref q, .int seed t] ∧ h.PlainList q vs.toArray ∧ IntsAre vs ns ∧ vs.length ≤ 64 ∧ d ≠ q

theorem take_ok (FF : Facts C) (hw : Wd C s.heap) {k : Nat} (hA : Room (k + 1) A) {d q : Addr} {many : Int} {t : Tok} {Q : Value → Shared → Prop} (hd : DrawAt s.heap d q) (hd₀ : C.h₀.get? d = none) (hq₀ : C.h₀.get? q = none) (hm : 0 < many)
    (h : ∀ s' r t', Stp C [d, q] [] s s' → s'.gens = s.gens → DrawAt s'.heap d q → 0 ≤ r → r < many → Q (.int r t') s') : wpAny (MM C) A (call (.ref (C.fa 17)) [.ref d, .int many t]) Q E s := by
  refine enter_fn FF (i := 17) (binds := [("draw", .ref d), ("many", .int many t)]) (by decide) hw hA (fun _ _ => .of_eq rfl) (fun s₁ L pm doc E' hn hL st hg hw₁ hA₁ => ?_)
  obtain ⟨seed, ts, vs, ns, hdl, hql, hI, hlen, hne⟩ := hd
  replace hdl := st.list hdl
  replace hql := st.plain hql
  have hmod : ∀ a : Int, 0 ≤ a.fmod many ∧ a.fmod many < many := fun a => ⟨Int.fmod_nonneg_of_pos a hm, Int.fmod_lt_of_pos a hm⟩
  refine wpAny_execs_cons (wpAny_If (wpAny_isTrue_Compare1 (ev_item_list (ev_local hn rfl (wpAny_Constant_int ⟨d, _, 0, _, _, rfl, rfl, hdl, by decide, by decide, rfl, ?_⟩)))))
  refine ev_list (wpAny_items_nil ⟨by decide, fun s₂ a st₂ hg₂ ha hem => ?_⟩)
  replace hdl := st₂.list hdl
  replace hql := st₂.plain hql
  replace hn := st₂.loc hn
  have hw₂ := st₂.wd hw₁
  have st := st.trans st₂
  refine ne_intsK hql.isList hI hem.isList .nil hA₁.u64 (wpAny_truthy_bool ?_)
  have hLd : L ≠ d := (ne_of_list_loc hdl hn).symm
  have hLq : L ≠ q := (ne_of_list_loc hql.isList hn).symm
  have dq : ∀ a ∈ [d, q], a ∈ [d, q] ∨ s.heap.get? a = none := fun a h => .inl h
  cases hI with
  | nil =>
    simp only [decide_true, Bool.not_true, Bool.false_eq_true, if_false]
    refine wpAny_execs_cons (wpAny_Assign_Subscript (wpAny_BinOp (wpAny_BinOp (ev_item_list (ev_local hn rfl (wpAny_Constant_int ⟨d, _, 1, _, _, rfl, rfl, hdl, by decide, by decide, rfl, wpAny_Constant_int (mul_int (wpAny_Constant_int (mod_int' (by decide) ?_)))⟩))))))
    refine ev_local hn rfl (wpAny_Constant_int (setItem_l FF hdl hd₀ (by decide) (by decide) (by simp) fun s₃ st₃ hg₃ hdl => ?_))
    replace hql := st₃.plain hql (nin1 hne.symm)
    replace hn := st₃.loc hn (nin1 hLd)
    refine wpAny_execs_cons (wpAny_Assign_Name (wpAny_BinOp (ev_item_list (ev_local hn rfl (wpAny_Constant_int ⟨d, _, 1, _, _, rfl, rfl, hdl, by decide, by decide, rfl, wpAny_Constant_int (floordiv_int (by decide) ?_)⟩)))))
    refine st_local FF hn fun s₄ hn st₄ hg₄ => ?_
    replace hdl := st₄.list hdl (nin1 hLd.symm)
    replace hql := st₄.plain hql (nin1 hLq.symm)
    refine wpAny_execs_nil (wpAny_execs_cons (wpAny_Return_some (wpAny_BinOp (ev_local hn rfl (ev_local hn rfl (mod_int' (by omega) ?_))))))
    refine h _ _ _ (Stp.tok (((st.wide).more st₃ (all1 (.inl (by simp)))).more st₄ (all1 (.inr hL)))) (hg₄.trans (hg₃.trans (hg₂.trans hg))) ?_ (hmod _).1 (hmod _).2
    exact ⟨_, _, [], [], hdl, hql, .nil, by simp, hne⟩
  | @cons n tn vs ns hI =>
    rw [if_pos (by simp)]
    refine wpAny_execs_cons (wpAny_Assign_Name (ev_pop0 FF (ev_item_list (ev_local hn rfl (wpAny_Constant_int ⟨d, _, 0, _, _, rfl, rfl, hdl, by decide, by decide, rfl, q, _, _, rfl, hql, by simp at hlen; omega, hq₀, fun s₃ st₃ hg₃ hql => ?_⟩)))))
    replace hdl := st₃.list hdl (nin1 hne)
    replace hn := st₃.loc hn (nin1 hLq)
    refine st_local FF hn fun s₄ hn st₄ hg₄ => ?_
    replace hdl := st₄.list hdl (nin1 hLd.symm)
    replace hql := st₄.plain hql (nin1 hLq.symm)
    refine wpAny_execs_nil (wpAny_execs_cons (wpAny_Return_some (wpAny_BinOp (ev_local hn rfl (ev_local hn rfl (mod_int' (by omega) ?_))))))
    refine h _ _ _ (Stp.tok (((st.wide).more st₃ (all1 (.inl (by simp)))).more st₄ (all1 (.inr hL)))) (hg₄.trans (hg₃.trans (hg₂.trans hg))) ?_ (hmod _).1 (hmod _).2
    exact ⟨seed, ts, vs, ns, hdl, hql, hI, by simp at hlen; omega, hne⟩
end
end Mine

namespace Mine
open PySem PySem.Calls PySem.W PyProof.Rows

/-- two states agree on what an iterator leans on -/
structure Agree (C : Cx) (F : List Addr) (V : List Nat) (s s' : Shared) : Prop where
  keep : ∀ (b : Addr) (o : Obj), b ∈ F → (C.hb.get? b = none ∨ o.cls ≠ .none) → s.heap.get? b = some o → s'.heap.get? b = some o
  tup : ∀ (b : Addr) (o : Obj) (xs : Array Value) (n : Nat), o.cls = .type "tuple" → o.data = .seq xs n → s.heap.get? b = some o → s'.heap.get? b = some o
  gens : ∀ (i : Nat) (g : GenState), i ∈ V → s.gens[i]? = some g → s'.gens[i]? = some g

section
variable {C : Cx} {A : Around} {E : Value → Shared → Prop} {s s' s'' : Shared} {env : Env} {F F' : List Addr} {V V' : List Nat}
theorem Agree.refl (s : Shared) : Agree C F V s s := ⟨fun _ _ _ _ e => e, fun _ _ _ _ _ _ e => e, fun _ _ _ e => e⟩
theorem Agree.trans (x : Agree C F V s s') (y : Agree C F V s' s'') : Agree C F V s s'' :=
  ⟨fun b o hb hc e => y.keep b o hb hc (x.keep b o hb hc e), fun b o xs n hc hd e => y.tup b o xs n hc hd (x.tup b o xs n hc hd e), fun i g hi e => y.gens i g hi (x.gens i g hi e)⟩
theorem Agree.mono (x : Agree C F V s s') (hF : ∀ a ∈ F', a ∈ F) (hV : ∀ a ∈ V', a ∈ V) : Agree C F' V' s s' :=
  ⟨fun b o hb hc e => x.keep b o (hF b hb) hc e, x.tup, fun i g hi e => x.gens i g (hV i hi) e⟩
theorem Stp.agree {W : List Addr} {U : List Nat} (x : Stp C W U s s') (hF : ∀ a ∈ F, a ∉ W) (hV : ∀ i ∈ V, i ∉ U) : Agree C F V s s' :=
  ⟨fun b o hb hc e => x.keep b o (hF b hb) hc e, x.tup, fun i g hi e => x.gens i g (hV i hi) e⟩
theorem Agree.tok {t : Nat} (x : Agree C F V s s') : Agree C F V s { s' with toks := t } := ⟨x.keep, x.tup, x.gens⟩

theorem Agree.reads (x : Agree C F V s s') {v : Value} {d : PyData} {as : List Addr} (r : Reads s.heap v d as) : (∀ a ∈ as, a ∈ F) → Reads s'.heap v d as := by
  refine Reads.rec (motive_1 := fun v d as _ => (∀ a ∈ as, a ∈ F) → Reads s'.heap v d as) (motive_2 := fun vs ds as _ => (∀ a ∈ as, a ∈ F) → ReadsAll s'.heap vs ds as) ?_ ?_ ?_ ?_ ?_ ?_ ?_ ?_ ?_ r
  · exact fun _ => .none
  · exact fun b _ => .bool b
  · exact fun i t _ => .int i t
  · exact fun y t _ => .str y t
  · exact fun e hc hd _ ih h => .list (x.keep _ _ (h _ (.head _)) (.inr (by rw [hc]; nofun)) e) hc hd (ih fun a ha => h a (.tail _ ha))
  · exact fun e hc hd _ ih h => .tuple (x.tup _ _ _ _ hc hd e) hc hd (ih h)
  · exact fun e hc hd _ _ ih ih' h => .dict (x.keep _ _ (h _ (.head _)) (.inr (by rw [hc]; nofun)) e) hc hd (ih fun a ha => h a (.tail _ (List.mem_append_left _ ha))) (ih' fun a ha => h a (.tail _ (List.mem_append_right _ ha)))
  · exact fun _ => .nil
  · exact fun _ _ ih ih' h => .cons (ih fun a ha => h a (List.mem_append_left _ ha)) (ih' fun a ha => h a (List.mem_append_right _ ha))
theorem Agree.readsAll (x : Agree C F V s s') : ∀ {vs : List Value} {ds : List PyData} {as : List Addr}, ReadsAll s.heap vs ds as → (∀ a ∈ as, a ∈ F) → ReadsAll s'.heap vs ds as
  | _, _, _, .nil, _ => .nil
  | _, _, _, .cons r r', h => .cons (x.reads r fun a ha => h a (List.mem_append_left _ ha)) (x.readsAll r' fun a ha => h a (List.mem_append_right _ ha))
theorem Stp.reads {W : List Addr} {U : List Nat} (x : Stp C W U s s') {v : Value} {d : PyData} {as : List Addr} (r : Reads s.heap v d as) (h : ∀ a ∈ as, a ∉ W) : Reads s'.heap v d as :=
  (x.agree (F := as) (V := []) h (fun _ h => nomatch h)).reads r fun _ h => h
theorem Stp.readsAll {W : List Addr} {U : List Nat} (x : Stp C W U s s') {vs : List Value} {ds : List PyData} {as : List Addr} (r : ReadsAll s.heap vs ds as) (h : ∀ a ∈ as, a ∉ W) : ReadsAll s'.heap vs ds as :=
  (x.agree (F := as) (V := []) h (fun _ h => nomatch h)).readsAll r fun _ h => h

/-- an iterator's footprint: what it owns and changes, what it leans on, its generators -/
structure Ft where
  W : List Addr
  R : List Addr
  V : List Nat

/-- it stands there, and steps elsewhere keep it -/
def Live (C : Cx) (h : Heap) (a : Addr) : Prop := ∃ o, h.get? a = some o ∧ (C.hb.get? a = none ∨ o.cls ≠ .none)
theorem Live.some {h : Heap} {a : Addr} (x : Live C h a) : ∃ o, h.get? a = some o := let ⟨o, e, _⟩ := x; ⟨o, e⟩
theorem Agree.live {a : Addr} (x : Agree C F V s s') (l : Live C s.heap a) (h : a ∈ F) : Live C s'.heap a := let ⟨o, e, c⟩ := l; ⟨o, x.keep _ _ h c e, c⟩
theorem Stp.live {W : List Addr} {U : List Nat} {a : Addr} (x : Stp C W U s s') (l : Live C s.heap a) (h : a ∉ W) : Live C s'.heap a := let ⟨o, e, c⟩ := l; ⟨o, x.keep _ _ h c e, c⟩

structure Ft.Next (C : Cx) (F F' : Ft) (s s' : Shared) : Prop where
  W : ∀ a ∈ F'.W, a ∈ F.W ∨ s.heap.get? a = none
  R : ∀ a ∈ F'.R, a ∈ F.W ∨ a ∈ F.R ∨ s.heap.get? a = none
  V : ∀ i ∈ F'.V, i ∈ F.V ∨ s.gens[i]? = none
  live : ∀ a ∈ F'.W ++ F'.R, Live C s'.heap a
  vlive : ∀ i ∈ F'.V, ∃ g, s'.gens[i]? = some g

abbrev AgreeF (C : Cx) (F : Ft) (s s' : Shared) : Prop := Agree C (F.W ++ F.R) F.V s s'

/-- the iterator at `it` still hands out the data ds, and then ends -/
def Iter (C : Cx) (A : Around) (it : Addr) : List PyData → Ft → Shared → Prop
  | [], F, s => ∀ s₁, AgreeF C F s s₁ → Wd C s₁.heap → ∀ (Q : Option Value → Shared → Prop) (E : Value → Shared → Prop), (∀ s₂, Stp C F.W F.V s₁ s₂ → Q none s₂) → wpAny (MM C) A (pyNext (.ref it)) Q E s₁
  | d :: ds, F, s => ∀ s₁, AgreeF C F s s₁ → Wd C s₁.heap → ∀ (Q : Option Value → Shared → Prop) (E : Value → Shared → Prop),
      (∀ v s₂ as F₂, Reads s₂.heap v d as → (∀ a ∈ as, a ∉ F₂.W ∧ (a ∈ F.W ∨ a ∈ F.R ∨ s₁.heap.get? a = none)) → Stp C F.W F.V s₁ s₂ → F.Next C F₂ s₁ s₂ → Iter C A it ds F₂ s₂ → Q (some v) s₂) → wpAny (MM C) A (pyNext (.ref it)) Q E s₁
theorem Iter.agree {it : Addr} {ds : List PyData} {F : Ft} (x : Iter C A it ds F s) (h : AgreeF C F s s') : Iter C A it ds F s' := by
  cases ds with
  | nil => exact fun s₁ h₁ => x s₁ (h.trans h₁)
  | cons d ds => exact fun s₁ h₁ => x s₁ (h.trans h₁)

def SelfIt (C : Cx) (A : Around) (it : Addr) (F : Ft) (s : Shared) : Prop :=
  ∀ s₁, AgreeF C F s s₁ → Wd C s₁.heap → ∀ (Q : Value → Shared → Prop) (E : Value → Shared → Prop), Q (.ref it) s₁ → wpAny (MM C) A (pyIter (.ref it)) Q E s₁

structure ItOk (C : Cx) (k : Nat) (i : Addr) (ds : List PyData) (F : Ft) (s : Shared) : Prop where
  it : ∀ A, Room k A → Iter C A i ds F s
  live : ∀ a ∈ F.W ++ F.R, Live C s.heap a
  vlive : ∀ i ∈ F.V, ∃ g, s.gens[i]? = some g
  self : ∀ A, SelfIt C A i F s
theorem ItOk.agree {k : Nat} {it : Addr} {ds : List PyData} {F : Ft} (x : ItOk C k it ds F s) (h : AgreeF C F s s') : ItOk C k it ds F s' :=
  ⟨fun A hA => (x.it A hA).agree h, fun a ha => h.live (x.live a ha) ha, fun i hi => let ⟨g, e⟩ := x.vlive i hi; ⟨g, h.gens i g hi e⟩, fun A s₁ h₁ => x.self A s₁ (h.trans h₁)⟩
theorem ItOk.step {k : Nat} {it : Addr} {ds : List PyData} {F : Ft} {W : List Addr} {U : List Nat} (x : ItOk C k it ds F s) (st : Stp C W U s s') (hW : ∀ a ∈ F.W ++ F.R, a ∉ W) (hV : ∀ i ∈ F.V, i ∉ U) : ItOk C k it ds F s' :=
  x.agree (st.agree hW hV)

/-! the list's own iterator -/
theorem not_tup_cls {h : Heap} {a : Addr} {o : Obj} (e : h.get? a = some o) (hc : o.cls ≠ .type "tuple") : ¬ TupAt h a := by
  rintro ⟨o', xs, n, e', hc', _⟩
  rw [e] at e'; cases e'
  exact hc hc'
theorem readsAll_nil {h : Heap} {vs : List Value} {as : List Addr} (r : ReadsAll h vs [] as) : vs = [] := by cases r; rfl
theorem readsAll_cons {h : Heap} {vs : List Value} {d : PyData} {ds : List PyData} {as : List Addr} (r : ReadsAll h vs (d :: ds) as) : ∃ v vs' a b, vs = v :: vs' ∧ as = a ++ b ∧ Reads h v d a ∧ ReadsAll h vs' ds b := by
  cases r with
  | cons r rs => exact ⟨_, _, _, _, rfl, rfl, r, rs⟩
theorem drop_cons_at {α : Type} {xs : List α} {i : Nat} {v : α} {vs : List α} (h : xs.drop i = v :: vs) : xs[i]? = some v ∧ xs.drop (i + 1) = vs := by
  constructor
  · have := congrArg List.head? h
    simpa [List.head?_drop] using this
  · have := congrArg List.tail h
    simpa [List.tail_drop] using this
theorem drop_nil_at {α : Type} {xs : List α} {i : Nat} (h : xs.drop i = []) : xs[i]? = none := by
  have := congrArg List.head? h
  simpa [List.head?_drop] using this

theorem iter_listiter (FF : Facts C) (hh : A.handled = none) {it l : Addr} {xs : Array Value} (h₀ : C.h₀.get? it = none) (hne : l ≠ it) {as : List Addr} (hn : it ∉ as) : ∀ (ds : List PyData) (i : Nat) (s : Shared) (bs : List Addr), s.heap.IsListIter it l i → s.heap.IsList l xs →
    ReadsAll s.heap (xs.toList.drop i) ds bs → (∀ a ∈ bs, a ∈ as) → (∀ a ∈ as, Live C s.heap a) → Iter C A it ds ⟨[it], l :: as, []⟩ s
  | [], i, s, bs, hi, hl, hr, hb, hv => by
    intro s₁ ag hw Q E h
    obtain ⟨oi, ei, ci, di⟩ := hi
    obtain ⟨ol, el, cl, nl, dl⟩ := hl
    have ei₁ := ag.keep _ _ (by simp) (.inl (nb h₀)) ei
    have hl₁ : s₁.heap.IsList l xs := ⟨ol, ag.keep _ _ (by simp) (.inr (by rw [cl]; nofun)) el, cl, nl, dl⟩
    exact wpAny_pyNext_list_end hh ⟨oi, ei₁, ci, di⟩ hl₁ (by simpa using drop_nil_at (readsAll_nil hr)) fun h' hx => h _ (Stp.ext (t := s₁.toks) FF h₀ hx (not_tup_cls ei₁ (by rw [ci]; simp)))
  | d :: ds, i, s, bs, hi, hl, hr, hb, hlv => by
    intro s₁ ag hw Q E h
    obtain ⟨oi, ei, ci, di⟩ := hi
    obtain ⟨ol, el, cl, nl, dl⟩ := hl
    have ei₁ := ag.keep _ _ (by simp) (.inl (nb h₀)) ei
    have hl₁ : s₁.heap.IsList l xs := ⟨ol, ag.keep _ _ (by simp) (.inr (by rw [cl]; nofun)) el, cl, nl, dl⟩
    have hr₁ := ag.readsAll hr fun a ha => by simp [hb a ha]
    obtain ⟨v, vs, as₁, as₂, ev, rfl, r, rs⟩ := readsAll_cons hr₁
    obtain ⟨hv, hvs⟩ := drop_cons_at ev
    have nas : ∀ a ∈ as, a ∉ [it] := fun a ha q => hn (by rw [List.mem_singleton.mp q] at ha; exact ha)
    refine wpAny_pyNext_list_item ⟨oi, ei₁, ci, di⟩ hl₁ (by simpa using hv) fun h' hit' hs' => ?_
    have st : Stp C [it] [] s₁ { s₁ with heap := h' } := Stp.same (t := s₁.toks) FF h₀ hs' (not_tup_cls ei₁ (by rw [ci]; simp))
    have na : ∀ a ∈ as₁ ++ as₂, a ∉ [it] := fun a ha q => hn (hb _ (by rw [List.mem_singleton.mp q] at ha; exact ha))
    refine h v _ as₁ ⟨[it], l :: as, []⟩ (st.reads r fun a ha => na a (List.mem_append_left _ ha)) (fun a ha => ⟨na a (List.mem_append_left _ ha), .inr (.inl (.tail _ (hb a (List.mem_append_left _ ha))))⟩) st ⟨fun _ h => .inl h, fun _ h => .inr (.inl h), fun _ h => .inl h, fun a ha => ?_, fun _ h => nomatch h⟩ ?_
    · rcases List.mem_cons.mp ha with rfl | ha
      · obtain ⟨o', e', c', _⟩ := hit'
        exact ⟨o', e', .inl (nb h₀)⟩
      rcases List.mem_cons.mp ha with rfl | ha
      · obtain ⟨o', e', c', _⟩ := st.list hl₁ (nin1 hne)
        exact ⟨o', e', .inr (by rw [c']; nofun)⟩
      · exact st.live (ag.live (hlv a ha) (by simp [ha])) (nas a ha)
    exact iter_listiter FF hh h₀ hne hn ds (i + 1) { s₁ with heap := h' } as₂ hit' (st.list hl₁ (nin1 hne)) (by rw [hvs]; exact st.readsAll rs fun a ha => na a (List.mem_append_right _ ha)) (fun a ha => hb a (List.mem_append_right _ ha)) fun a ha => st.live (ag.live (hlv a ha) (by simp [ha])) (nas a ha)

theorem iter_tupiter (FF : Facts C) (hh : A.handled = none) {it l : Addr} {xs : Array Value} (h₀ : C.h₀.get? it = none) {as : List Addr} (hn : it ∉ as) : ∀ (ds : List PyData) (i : Nat) (s : Shared) (bs : List Addr), s.heap.IsTupleIter it l i → s.heap.IsTuple l xs →
    ReadsAll s.heap (xs.toList.drop i) ds bs → (∀ a ∈ bs, a ∈ as) → (∀ a ∈ as, Live C s.heap a) → Iter C A it ds ⟨[it], as, []⟩ s
  | [], i, s, bs, hi, hl, hr, hb, hv => by
    intro s₁ ag hw Q E h
    obtain ⟨oi, ei, ci, di⟩ := hi
    obtain ⟨ol, el, cl, nl, dl⟩ := hl
    have ei₁ := ag.keep _ _ (by simp) (.inl (nb h₀)) ei
    have hl₁ : s₁.heap.IsTuple l xs := ⟨ol, ag.tup _ _ _ _ cl dl el, cl, nl, dl⟩
    exact wpAny_pyNext_tuple_end hh ⟨oi, ei₁, ci, di⟩ hl₁ (by simpa using drop_nil_at (readsAll_nil hr)) fun h' hx => h _ (Stp.ext (t := s₁.toks) FF h₀ hx (not_tup_cls ei₁ (by rw [ci]; simp)))
  | d :: ds, i, s, bs, hi, hl, hr, hb, hlv => by
    intro s₁ ag hw Q E h
    obtain ⟨oi, ei, ci, di⟩ := hi
    obtain ⟨ol, el, cl, nl, dl⟩ := hl
    have ei₁ := ag.keep _ _ (by simp) (.inl (nb h₀)) ei
    have hl₁ : s₁.heap.IsTuple l xs := ⟨ol, ag.tup _ _ _ _ cl dl el, cl, nl, dl⟩
    have hr₁ := ag.readsAll hr fun a ha => by simp [hb a ha]
    obtain ⟨v, vs, as₁, as₂, ev, rfl, r, rs⟩ := readsAll_cons hr₁
    obtain ⟨hv, hvs⟩ := drop_cons_at ev
    have nas : ∀ a ∈ as, a ∉ [it] := fun a ha q => hn (by rw [List.mem_singleton.mp q] at ha; exact ha)
    refine wpAny_pyNext_tuple_item ⟨oi, ei₁, ci, di⟩ hl₁ (by simpa using hv) fun h' hit' hs' => ?_
    have st : Stp C [it] [] s₁ { s₁ with heap := h' } := Stp.same (t := s₁.toks) FF h₀ hs' (not_tup_cls ei₁ (by rw [ci]; simp))
    have na : ∀ a ∈ as₁ ++ as₂, a ∉ [it] := fun a ha q => hn (hb _ (by rw [List.mem_singleton.mp q] at ha; exact ha))
    refine h v _ as₁ ⟨[it], as, []⟩ (st.reads r fun a ha => na a (List.mem_append_left _ ha)) (fun a ha => ⟨na a (List.mem_append_left _ ha), .inr (.inl (hb a (List.mem_append_left _ ha)))⟩) st ⟨fun _ h => .inl h, fun _ h => .inr (.inl h), fun _ h => .inl h, fun a ha => ?_, fun _ h => nomatch h⟩ ?_
    · rcases List.mem_cons.mp ha with rfl | ha
      · obtain ⟨o', e', c', _⟩ := hit'
        exact ⟨o', e', .inl (nb h₀)⟩
      · exact st.live (ag.live (hlv a ha) (by simp at ha ⊢; simp [ha])) (nas a ha)
    obtain ⟨o', e', c', n', d'⟩ := hl₁
    exact iter_tupiter FF hh h₀ hn ds (i + 1) { s₁ with heap := h' } as₂ hit' ⟨o', st.tup _ _ _ _ c' d' e', c', n', d'⟩ (by rw [hvs]; exact st.readsAll rs fun a ha => na a (List.mem_append_right _ ha)) (fun a ha => hb a (List.mem_append_right _ ha)) fun a ha => st.live (ag.live (hlv a ha) (by simp [ha])) (nas a ha)

def intsFrom (x : Int) : Nat → List PyData
  | 0 => []
  | n + 1 => .int x :: intsFrom (x + 1) n
theorem iter_rangeiter (FF : Facts C) (hh : A.handled = none) {it : Addr} (h₀ : C.h₀.get? it = none) : ∀ (n : Nat) (x : Int) (s : Shared), IsRangeIter s.heap it x n 1 → Iter C A it (intsFrom x n) ⟨[it], [], []⟩ s
  | 0, x, s, hi => by
    intro s₁ ag hw Q E h
    have hi₁ : IsRangeIter s₁.heap it x (0 : Nat) 1 := ag.keep _ _ (by simp) (.inl (nb h₀)) hi
    exact wpAny_pyNext_range_end hh hi₁ (by simp) fun h' hx => h _ (Stp.ext (t := s₁.toks) FF h₀ hx (not_tup_cls hi₁ (by simp)))
  | n + 1, x, s, hi => by
    intro s₁ ag hw Q E h
    have hi₁ : IsRangeIter s₁.heap it x (n + 1 : Nat) 1 := ag.keep _ _ (by simp) (.inl (nb h₀)) hi
    refine wpAny_pyNext_range_item hi₁ (by push_cast; omega) fun h' hit' hs' => ?_
    have st : Stp C [it] [] s₁ { s₁ with heap := h', toks := s₁.toks + 1 } := Stp.same FF h₀ hs' (not_tup_cls hi₁ (by simp))
    refine h _ _ [] ⟨[it], [], []⟩ (.int _ _) (fun a ha => nomatch ha) st ⟨fun _ h => .inl h, fun _ h => .inr (.inl h), fun _ h => .inl h, fun a ha => ?_, fun _ h => nomatch h⟩ ?_
    · rw [List.mem_singleton.mp ha]
      exact ⟨_, hit', .inl (nb h₀)⟩
    have e : ((n + 1 : Nat) : Int) - 1 = (n : Nat) := by push_cast; omega
    rw [e] at hit'
    exact iter_rangeiter FF hh h₀ n (x + 1) _ hit'
end
end Mine

namespace Mine
open PySem PySem.Calls PySem.W PyProof.Rows
section
variable {C : Cx} {A : Around} {E : Value → Shared → Prop} {s s' s'' : Shared} {env : Env}

theorem reads_alive {h : Heap} {v : Value} {d : PyData} {as : List Addr} (r : Reads h v d as) : ∀ a ∈ as, ∃ o, h.get? a = some o := by
  refine Reads.rec (motive_1 := fun v d as _ => ∀ a ∈ as, ∃ o, h.get? a = some o) (motive_2 := fun vs ds as _ => ∀ a ∈ as, ∃ o, h.get? a = some o) ?_ ?_ ?_ ?_ ?_ ?_ ?_ ?_ ?_ r
  · exact fun _ h => nomatch h
  · exact fun _ _ h => nomatch h
  · exact fun _ _ _ h => nomatch h
  · exact fun _ _ _ h => nomatch h
  · intro a o vs n xs as e hc hd _ ih b hb
    rcases List.mem_cons.mp hb with rfl | hb
    · exact ⟨_, e⟩
    · exact ih b hb
  · intro a o vs n xs as e hc hd _ ih b hb
    exact ih b hb
  · intro a o es n kvs as bs e hc hd _ _ ih ih' b hb
    rcases List.mem_cons.mp hb with rfl | hb
    · exact ⟨_, e⟩
    · exact (List.mem_append.mp hb).elim (ih b) (ih' b)
  · exact fun _ h => nomatch h
  · exact fun _ _ ih ih' b hb => (List.mem_append.mp hb).elim (ih b) (ih' b)
theorem readsAll_alive {h : Heap} : ∀ {vs : List Value} {ds : List PyData} {as : List Addr}, ReadsAll h vs ds as → ∀ a ∈ as, ∃ o, h.get? a = some o
  | _, _, _, .nil => fun _ h => nomatch h
  | _, _, _, .cons r r' => fun b hb => (List.mem_append.mp hb).elim (reads_alive r b) (readsAll_alive r' b)
theorem reads_live {h : Heap} {v : Value} {d : PyData} {as : List Addr} (r : Reads h v d as) : ∀ a ∈ as, Live C h a := by
  refine Reads.rec (motive_1 := fun v d as _ => ∀ a ∈ as, Live C h a) (motive_2 := fun vs ds as _ => ∀ a ∈ as, Live C h a) ?_ ?_ ?_ ?_ ?_ ?_ ?_ ?_ ?_ r
  · exact fun _ h => nomatch h
  · exact fun _ _ h => nomatch h
  · exact fun _ _ _ h => nomatch h
  · exact fun _ _ _ h => nomatch h
  · intro a o vs n xs as e hc hd _ ih b hb
    rcases List.mem_cons.mp hb with rfl | hb
    · exact ⟨_, e, .inr (by rw [hc]; nofun)⟩
    · exact ih b hb
  · intro a o vs n xs as e hc hd _ ih b hb
    exact ih b hb
  · intro a o es n kvs as bs e hc hd _ _ ih ih' b hb
    rcases List.mem_cons.mp hb with rfl | hb
    · exact ⟨_, e, .inr (by rw [hc]; nofun)⟩
    · exact (List.mem_append.mp hb).elim (ih b) (ih' b)
  · exact fun _ h => nomatch h
  · exact fun _ _ ih ih' b hb => (List.mem_append.mp hb).elim (ih b) (ih' b)
theorem readsAll_live {h : Heap} : ∀ {vs : List Value} {ds : List PyData} {as : List Addr}, ReadsAll h vs ds as → ∀ a ∈ as, Live C h a
  | _, _, _, .nil => fun _ h => nomatch h
  | _, _, _, .cons r r' => fun b hb => (List.mem_append.mp hb).elim (reads_live r b) (readsAll_live r' b)
theorem ne_of_fresh {h : Heap} {a b : Addr} (ha : h.get? a = none) (hb : ∃ o, h.get? b = some o) : b ≠ a := by
  rintro rfl
  obtain ⟨o, e⟩ := hb
  rw [ha] at e; cases e

theorem pyIter_list (FF : Facts C) {hp : Heap} (hw : Wd C hp) {l : Addr} {xs : Array Value} {ds : List PyData} {as : List Addr} {Q : Value → Shared → Prop} (hl : hp.IsList l xs) (hr : ReadsAll hp xs.toList ds as)
    (h : ∀ s' it, Stp C [] [] s s' → s'.gens = s.gens → s.heap.get? it = none → ItOk C 0 it ds ⟨[it], l :: as, []⟩ s' → Q (.ref it) s') (hs : s.heap = hp := by rfl) : wpAny (MM C) A (pyIter (.ref l)) Q E s := by
  subst hs
  refine wpAny_pyIter_list hl ?_
  have st : Stp C [] [] s { s with heap := s.heap.push { cls := .type "list_iterator", data := .fields #[.ref l, .int 0 0] } } := Stp.push _
  have h₀ := hw.none (get_size s.heap)
  have hi : (s.heap.push { cls := .type "list_iterator", data := .fields #[.ref l, .int 0 0] }).IsListIter s.heap.objs.size l 0 := ⟨_, Heap.get?_push_size _ rfl, rfl, rfl⟩
  refine h _ _ st rfl (get_size _) ⟨fun A hA => ?_, fun a ha => ?_, fun _ h => (nomatch h), fun A s₁ ag _ Q E hq => ?_⟩
  · exact iter_listiter FF hA.handled h₀ (ne_of_fresh (get_size _) ⟨_, hl.choose_spec.1⟩) (fun q => by obtain ⟨o, e⟩ := readsAll_alive hr _ q; rw [get_size] at e; cases e) ds 0 _ as hi (st.list hl) (by simpa using st.readsAll hr (by simp)) (fun _ h => h) (readsAll_live (st.readsAll hr (by simp)))
  · rcases List.mem_cons.mp ha with rfl | ha
    · exact ⟨_, hi.choose_spec.1, .inl (nb h₀)⟩
    rcases List.mem_cons.mp ha with rfl | ha
    · obtain ⟨o', e', c', _⟩ := st.list hl
      exact ⟨o', e', .inr (by rw [c']; nofun)⟩
    · exact readsAll_live (st.readsAll hr (by simp)) a ha
  · obtain ⟨oi, ei, ci, di⟩ := hi
    exact wpAny_pyIter_listiter ⟨oi, ag.keep _ _ (by simp) (.inl (nb h₀)) ei, ci, di⟩ hq
theorem pyIter_tuple (FF : Facts C) {hp : Heap} (hw : Wd C hp) {l : Addr} {xs : Array Value} {ds : List PyData} {as : List Addr} {Q : Value → Shared → Prop} (hl : hp.IsTuple l xs) (hr : ReadsAll hp xs.toList ds as)
    (h : ∀ s' it, Stp C [] [] s s' → s'.gens = s.gens → s.heap.get? it = none → ItOk C 0 it ds ⟨[it], as, []⟩ s' → Q (.ref it) s') (hs : s.heap = hp := by rfl) : wpAny (MM C) A (pyIter (.ref l)) Q E s := by
  subst hs
  refine wpAny_pyIter_tuple hl ?_
  have st : Stp C [] [] s { s with heap := s.heap.push { cls := .type "tuple_iterator", data := .fields #[.ref l, .int 0 0] } } := Stp.push _
  have h₀ := hw.none (get_size s.heap)
  have hi : (s.heap.push { cls := .type "tuple_iterator", data := .fields #[.ref l, .int 0 0] }).IsTupleIter s.heap.objs.size l 0 := ⟨_, Heap.get?_push_size _ rfl, rfl, rfl⟩
  refine h _ _ st rfl (get_size _) ⟨fun A hA => ?_, fun a ha => ?_, fun _ h => (nomatch h), fun A s₁ ag _ Q E hq => ?_⟩
  · obtain ⟨ol, el, cl, nl, dl⟩ := hl
    exact iter_tupiter FF hA.handled h₀ (fun q => by obtain ⟨o, e⟩ := readsAll_alive hr _ q; rw [get_size] at e; cases e) ds 0 _ as hi ⟨ol, st.tup _ _ _ _ cl dl el, cl, nl, dl⟩ (by simpa using st.readsAll hr (by simp)) (fun _ h => h) (readsAll_live (st.readsAll hr (by simp)))
  · rcases List.mem_cons.mp ha with rfl | ha
    · exact ⟨_, hi.choose_spec.1, .inl (nb h₀)⟩
    · exact readsAll_live (st.readsAll hr (by simp)) a ha
  · obtain ⟨oi, ei, ci, di⟩ := hi
    exact wpAny_pyIter_tupleiter ⟨oi, ag.keep _ _ (by simp) (.inl (nb h₀)) ei, ci, di⟩ hq
theorem pyIter_range (FF : Facts C) {hp : Heap} (hw : Wd C hp) {r : Addr} {a b : Int} {t u v : Tok} {n : Nat} {Q : Value → Shared → Prop} (hr : IsRange hp r a b 1 t u v) (hn : Builtin.Range.rangeSize a b 1 = n) (hsm : Builtin.Range.small a b 1 = true)
    (h : ∀ s' it, Stp C [] [] s s' → s'.gens = s.gens → s.heap.get? it = none → ItOk C 0 it (intsFrom a n) ⟨[it], [], []⟩ s' → Q (.ref it) s') (hs : s.heap = hp := by rfl) : wpAny (MM C) A (pyIter (.ref r)) Q E s := by
  subst hs
  refine wpAny_pyIter_range hr hsm ?_
  rw [hn]
  have h₀ := hw.none (get_size s.heap)
  have hi : IsRangeIter (s.heap.push { cls := .type "range_iterator", data := .fields #[rawInt a, rawInt n, rawInt 1] }) s.heap.objs.size a n 1 := Heap.get?_push_size _ rfl
  refine h _ _ (Stp.push _) rfl (get_size _) ⟨fun A hA => iter_rangeiter FF hA.handled h₀ n a _ hi, fun a ha => by rw [List.mem_singleton.mp ha]; exact ⟨_, hi, .inl (nb h₀)⟩, fun _ h => (nomatch h), fun A s₁ ag _ Q E hq => ?_⟩
  have hi₁ : IsRangeIter s₁.heap s.heap.objs.size a n 1 := ag.keep _ _ (by simp) (.inl (nb h₀)) hi
  exact wpAny_pyIter_rangeiter hi₁ hq
theorem pyIter_self {hp : Heap} (hw : Wd C hp) {k : Nat} {it : Addr} {ds : List PyData} {F : Ft} {Q : Value → Shared → Prop} (x : ItOk C k it ds F s) (h : Q (.ref it) s) (hs : s.heap = hp := by rfl) : wpAny (MM C) A (pyIter (.ref it)) Q E s := by
  subst hs
  exact x.self A s (.refl _) hw Q E h
end
end Mine

namespace Mine
open PySem PySem.Calls PySem.W PyProof.Rows

/-- what stands at a yield -/
def YieldI (C : Cx) (d : PyData) (F : Ft) (s₀ : Shared) (v : Value) (s' : Shared) (kap : Ft → Shared → Prop) : Prop :=
  Stp C F.W F.V s₀ s' ∧ ∃ as F₂, Reads s'.heap v d as ∧ (∀ a ∈ as, a ∉ F₂.W ∧ (a ∈ F.W ∨ a ∈ F.R ∨ s₀.heap.get? a = none)) ∧ F.Next C F₂ s₀ s' ∧ ∀ s'', AgreeF C F₂ s' s'' → Wd C s''.heap → kap F₂ s''

def EndI (C : Cx) (fin : Result → Prop) (ds : List PyData) (go : Ft → Shared → Code → Sem Fin → List Frame → Shared → Prop) (F : Ft) (s₀ : Shared) (e : End) (s' : Shared) : Prop :=
  match ds, e with
  | [], .ret r => fin r ∧ Stp C F.W F.V s₀ s'
  | d :: _, .susp v g l k c p fs => (End.susp v g l k c p fs).quiet = true ∧ YieldI C d F s₀ v s' fun F₂ s'' => go F₂ s'' c (k (.send .none)) fs s''
  | _, _ => False

/-- a generator's tree, from a waking at s₀ on: it yields the data ds and ends -/
def SegI (C : Cx) (A : Around) (fin : Result → Prop) : List PyData → Ft → Shared → Code → Sem Fin → List Frame → Shared → Prop
  | [] => fun F s₀ c t fs s => ∀ Γ p, Γ.code = c → Γ.Woken A → ∃ e s', Runs (MM C) Γ p t fs s e s' ∧ EndI C fin [] (fun _ _ _ _ _ _ => False) F s₀ e s'
  | d :: ds => fun F s₀ c t fs s => ∀ Γ p, Γ.code = c → Γ.Woken A → ∃ e s', Runs (MM C) Γ p t fs s e s' ∧ EndI C fin (d :: ds) (SegI C A fin ds) F s₀ e s'

def nextI (C : Cx) (A : Around) (fin : Result → Prop) : List PyData → Ft → Shared → Code → Sem Fin → List Frame → Shared → Prop
  | [] => fun _ _ _ _ _ _ => False
  | _ :: ds => SegI C A fin ds
theorem segI_iff {C : Cx} {A : Around} {fin : Result → Prop} {ds : List PyData} {F : Ft} {s₀ : Shared} {c : Code} {t : Sem Fin} {fs : List Frame} {s : Shared} :
    SegI C A fin ds F s₀ c t fs s ↔ ∀ Γ p, Γ.code = c → Γ.Woken A → ∃ e s', Runs (MM C) Γ p t fs s e s' ∧ EndI C fin ds (nextI C A fin ds) F s₀ e s' := by cases ds <;> rfl

section
variable {C : Cx} {A : Around} {fin : Result → Prop} {ds : List PyData} {F : Ft} {s₀ : Shared} {c : Code} {fs : List Frame} {s : Shared}

theorem segI_wrap {α : Type} {m : Sem α} {K : α → Sem Fin} {H : Value → Sem Fin} {gd lv}
    (h : wpAny (MM C) (A.over c fs) m (fun a s' => SegI C A fin ds F s₀ c (K a) fs s') (fun x s' => SegI C A fin ds F s₀ c (H x) fs s') s) :
    SegI C A fin ds F s₀ c (m.wrap K H gd lv) fs s := by
  rw [segI_iff]
  rintro Γ p rfl hΓ
  exact runs_wrap_of_wp K H gd lv m (h (Γ.over fs) p (hΓ.over fs)) (fun a p' s' h' => segI_iff.mp h' Γ p' rfl hΓ) (fun x p' s' h' => segI_iff.mp h' Γ p' rfl hΓ)
theorem segI_bind {α : Type} {m : Sem α} {K : α → Sem Fin}
    (h : wpAny (MM C) (A.over c fs) m (fun a s' => SegI C A fin ds F s₀ c (K a) fs s') (fun x s' => SegI C A fin ds F s₀ c (.raise x) fs s') s) :
    SegI C A fin ds F s₀ c (m >>= K) fs s := by
  rw [Sem.bind_eq_wrap']; exact segI_wrap h
theorem segI_bindW {α β : Type} {m : Sem α} {K : α → Sem β} {K' : β → Sem Fin} {H' : Value → Sem Fin} {gd lv}
    (h : wpAny (MM C) (A.over c fs) m (fun a s' => SegI C A fin ds F s₀ c ((K a).wrap K' H' gd lv) fs s') (fun x s' => SegI C A fin ds F s₀ c (H' x) fs s') s) :
    SegI C A fin ds F s₀ c ((m >>= K).wrap K' H' gd lv) fs s := by
  rw [Sem.bind_eq_wrap', Sem.wrap_wrap]; exact segI_wrap h
theorem segI_at {p' : Pos} {k : Unit → Sem Fin} (h : SegI C A fin ds F s₀ c (k ()) fs s) : SegI C A fin ds F s₀ c (.at p' k) fs s :=
  segI_wrap (m := standAt p') (K := k) (H := .raise) (gd := id) (lv := id) (wpAny_standAt h)
theorem segI_point {l : List Value} {k : Unit → Sem Fin} (h : SegI C A fin ds F s₀ c (k ()) fs s) : SegI C A fin ds F s₀ c (.point l k) fs s :=
  segI_wrap (m := point) (K := k) (H := .raise) (gd := id) (lv := fun _ => l) (wpAny_point h)
theorem segI_call {c' : Code} {h : Option Value} {g : Bool} {l : List Value} {k : Result → Sem Fin} (hc : ∀ p, SegI C A fin ds F s₀ c' ((MM C).den c') (.ret k h g l c p [] :: fs) s) :
    SegI C A fin ds F s₀ c (.call c' h g l k) fs s := by
  rw [segI_iff]
  rintro Γ p rfl hΓ
  obtain ⟨e, s', hr, he⟩ := segI_iff.mp (hc p) (Γ.goto c') p rfl (hΓ.goto c')
  exact ⟨e, s', runs_call_seg hr, he⟩
theorem segI_leaf {k : Result → Sem Fin} {h : Option Value} {g : Bool} {l : List Value} {c₁ : Code} {p₁ : Pos} {kp : List Value} (r : Result) (hk : SegI C A fin ds F s₀ c₁ (k r) fs s) :
    SegI C A fin ds F s₀ c (leafOf r) (.ret k h g l c₁ p₁ kp :: fs) s := by
  rw [segI_iff]
  rintro Γ p rfl hΓ
  obtain ⟨e, s', hr, he⟩ := segI_iff.mp hk (Γ.goto c₁) p₁ rfl (hΓ.goto c₁)
  exact ⟨e, s', Runs.pop r hr, he⟩
theorem segI_again {c' : Code} (hq : c'.quiet = true) (hc : SegI C A fin ds F s₀ c' ((MM C).den c') fs s) : SegI C A fin ds F s₀ c (.pure (.again c')) fs s := by
  rw [segI_iff]
  rintro Γ p rfl hΓ
  obtain ⟨e, s', hr, he⟩ := segI_iff.mp hc (Γ.goto c') p rfl (hΓ.goto c')
  exact ⟨e, s', Runs.head (c₁ := c') (fun _ _ x => .again hq x) hr, he⟩
theorem segI_end (r : Result) (hf : fin r) (h : Stp C F.W F.V s₀ s) : SegI C A fin [] F s₀ c (leafOf r) [] s := by
  rw [segI_iff]
  rintro Γ p rfl _
  exact ⟨.ret r, s, Runs.leaf r, hf, h⟩
theorem segI_yield {d : PyData} {v : Value} {g : Bool} {l : List Value} {k : Resume → Sem Fin} (hfs : splitAtGen fs = none) (hg : g = false) (hfg : fs.any Frame.guarded = false)
    (h : YieldI C d F s₀ v s fun F₂ s'' => SegI C A fin ds F₂ s'' c (k (.send .none)) fs s'') : SegI C A fin (d :: ds) F s₀ c (.yield v g l k) fs s := by
  rintro Γ p rfl _
  exact ⟨_, s, Runs.yield' fs hfs, by simp [End.quiet, hg, hfg], h⟩
end

def GoesI (C : Cx) (A : Around) (fin : Result → Prop) (ds : List PyData) (F : Ft) (gs : GenState) (s : Shared) : Prop :=
  match gs with
  | .fresh c => SegI C A fin ds F s c ((MM C).den c) [] s
  | .suspended k _ c _ fs _ => SegI C A fin ds F s c (k (.send .none)) fs s
  | _ => False

section
variable {C : Cx} {A : Around} {fin : Result → Prop} {F : Ft} {E : Value → Shared → Prop} {s : Shared}
theorem resumeI {α : Type} {ds : List PyData} {g : Nat} {gs : GenState} {l : List Value} {k : GenResult → Sem α} {Q : α → Shared → Prop} (hg : s.gens[g]? = some gs) (hgo : GoesI C A fin ds F gs (s.setGen g .running))
    (hR : ds = [] → ∀ x s₁, fin x → Stp C F.W F.V (s.setGen g .running) s₁ → wpAny (MM C) A (k (End.ret x).result) Q E (s₁.setGen g .finished))
    (hY : ∀ d ds', ds = d :: ds' → ∀ v s₁ gs', gs'.bare = true → YieldI C d F (s.setGen g .running) v s₁ (fun F₂ s'' => GoesI C A fin ds' F₂ gs' s'') → wpAny (MM C) A (k (.yielded v)) Q E (s₁.setGen g gs')) :
    wpAny (MM C) A (.resume g (.send .none) l k) Q E s := by
  intro Γ p hΓ
  rw [Sem.wp_resume]
  have hB : ∀ c, (Γ.wake c p).Woken A := fun c => hΓ.wake c p
  have done : ∀ e₁ s₁, EndI C fin ds (nextI C A fin ds) F (s.setGen g .running) e₁ s₁ →
      Sem.wp (MM C) Γ (k e₁.result) (fun a _ s' => Q a s') (fun e _ s' => E e s') p (s₁.setGen g e₁.genState) := by
    intro e₁ s₁ he
    cases ds with
    | nil =>
      cases e₁ with
      | ret x => exact hR rfl x s₁ he.1 he.2 Γ p hΓ
      | susp => exact he.elim
    | cons d ds' =>
      cases e₁ with
      | ret x => exact he.elim
      | susp v g₀ l₀ k₀ c₀ p₀ fs₀ => exact hY d ds' rfl v s₁ (.suspended k₀ l₀ c₀ p₀ fs₀ (g₀ || fs₀.any Frame.guarded)) (End.bare_of_quiet he.1) he.2 Γ p hΓ
  have hqt : ∀ e₁ s₁, EndI C fin ds (nextI C A fin ds) F (s.setGen g .running) e₁ s₁ → e₁.quiet = true := by
    intro e₁ s₁ he
    cases ds <;> cases e₁ <;> first | rfl | exact he.elim | exact he.1
  cases gs with
  | fresh c =>
    obtain ⟨e₁, s₁, hr, he⟩ := segI_iff.mp hgo (Γ.wake c p) p rfl (hB c)
    exact ⟨_, _, by unfold Wakes; rw [hg]; exact ⟨e₁, s₁, hr, hqt e₁ s₁ he, rfl, rfl⟩, done e₁ s₁ he⟩
  | suspended k₀ l₀ c₀ p₀ fs₀ cl =>
    obtain ⟨e₁, s₁, hr, he⟩ := segI_iff.mp hgo (Γ.wake c₀ p) p₀ rfl (hB c₀)
    exact ⟨_, _, by unfold Wakes; rw [hg]; exact ⟨e₁, s₁, hr, hqt e₁ s₁ he, rfl, rfl⟩, done e₁ s₁ he⟩
  | running => exact hgo.elim
  | finished => exact hgo.elim

theorem setGen_same {s : Shared} {g : Nat} {x : GenState} (h : ∃ gs, s.gens[g]? = some gs) : (s.setGen g x).gens[g]? = some x := let ⟨_, e⟩ := h; setGen_self e
theorem setGen_ne {s : Shared} {g i : Nat} {x : GenState} (h : i ≠ g) : (s.setGen g x).gens[i]? = s.gens[i]? := by simp [Shared.setGen, Ne.symm h]

/-- waking a generator object -/
theorem pyNext_gen {ds : List PyData} {a : Addr} {g : Nat} {gs : GenState} {Q : Option Value → Shared → Prop} (hh : A.handled = none) (hl : s.heap.NoLimit) (hroom : A.depth < recursionLimit)
    (hg : s.heap.IsGen a g) (hgs : s.gens[g]? = some gs) (hfin : ∀ x, fin x → (End.ret x).result = .returned .none)
    (hgo : GoesI C A.in1 fin ds F gs (s.setGen g .running))
    (hY : ∀ d ds', ds = d :: ds' → ∀ v s₁ gs', gs'.bare = true → YieldI C d F (s.setGen g .running) v s₁ (fun F₂ s'' => GoesI C A.in1 fin ds' F₂ gs' s'') → Q (some v) (s₁.setGen g gs'))
    (hP : ds = [] → ∀ s₁, Stp C F.W F.V (s.setGen g .running) s₁ → ∀ h', (∀ b o, s₁.heap.get? b = some o → h'.get? b = some o) → Q none { s₁.setGen g .finished with heap := h' }) :
    wpAny (MM C) A (pyNext (.ref a)) Q E s := by
  unfold pyNext
  refine wpAny_bind (wpAny_attempt (wpAny_callSpecial?_slot (name := Str.ofString "__next__") hg.typeIs slot_gen_next
    (wpAny_call_entry slot_gen_next hg.typeIs entry_gen_next ?_ (args_gen_next _))))
  show wpAny _ _ (Builtin.Generator.genWake (.ref a) (.send .none)) _ _ s
  unfold Builtin.Generator.genWake
  refine wpAny_bind (wpAny_holding (wpAny_genNumber hg (wpAny_bind (wpAny_genState hgs ?_))))
  cases gs with
  | running => exact hgo.elim
  | finished => exact hgo.elim
  | _ =>
    refine wpAny_bind (wpAny_roomToWake hl hroom ?_)
    show wpAny _ _ (.resume g (.send .none) [] _) _ _ s
    refine resumeI hgs hgo (fun hnil x s₁ hx hst => ?_) (fun d ds' hds v s₁ gs' hb hv => ?_)
    · rw [hfin x hx]
      show wpAny _ _ (newExc (.type "StopIteration") [] >>= _) _ _ _
      refine wpAny_bind ?_
      simp only [newExc, newTuple]
      refine wpAny_bind (wpAny_newObj_type ?_ (by size_fits))
      refine wpAny_bind (m := firstArgMember _ _) (wpAny_of_eq (a := Value.none) (by first | rfl | (simp only [firstArgMember]; rfl)) ?_)
      refine wpAny_newObj_type ?_ (by size_fits)
      simp only [raiseNew]
      refine wpAny_bind (wpAny_bind (wpAny_handled ?_))
      rw [show A.in1.handled = none from hh]
      refine wpAny_throw ?_
      refine wpAny_bind (wpAny_isInstance (T := "StopIteration") (b := true) ⟨_, Heap.get?_push_size _ rfl, rfl⟩ isSubtype_stop ?_)
      exact wpAny_pure (hP hnil s₁ hst _ fun b o hb => Heap.get?_push_of_some _ (Heap.get?_push_of_some _ hb))
    · exact wpAny_pure ⟨v, rfl, wpAny_pure (hY d ds' hds v s₁ gs' hb hv)⟩

theorem Room.in1 {k : Nat} (x : Room (k + 1) A) : Room k A.in1 := ⟨x.handled, by have := x.depth; show A.depth + k < _; omega, by have := x.units; show A.units + 1 + 10 * k + 100 < _; omega⟩
theorem bare_setGen {s : Shared} {g : Nat} {x : GenState} (hb : AllBare s.gens) (hx : x.bare = true) : AllBare (s.setGen g x).gens := by
  intro y hy
  obtain ⟨i, hi, rfl⟩ := Array.mem_iff_getElem.mp hy
  have hi' : i < s.gens.size := by simpa [Shared.setGen] using hi
  by_cases q : g = i
  · subst q; simp [Shared.setGen, hx]
  · have e : (s.setGen g x).gens[i] = s.gens[i] := by
      have : (s.setGen g x).gens[i]? = s.gens[i]? := setGen_ne (Ne.symm q)
      rw [Array.getElem?_eq_getElem hi, Array.getElem?_eq_getElem hi'] at this
      exact Option.some.inj this
    rw [e]
    exact hb _ (Array.getElem_mem hi')

theorem iter_gen (FF : Facts C) {k : Nat} (hA : Room (k + 1) A) (hfin : ∀ x, fin x → (End.ret x).result = .returned .none) {a : Addr} {g : Nat} (h₀ : C.h₀.get? a = none) : ∀ (ds : List PyData) (F : Ft) (s : Shared), s.heap.IsGen a g → a ∉ F.W → g ∉ F.V →
    (∃ gs, s.gens[g]? = some gs ∧ ∀ s'', AgreeF C F s s'' → Wd C s''.heap → GoesI C A.in1 fin ds F gs s'') → Iter C A a ds ⟨F.W, a :: F.R, g :: F.V⟩ s := by
  have key : ∀ (ds : List PyData) (F : Ft) (s : Shared), s.heap.IsGen a g → a ∉ F.W → g ∉ F.V → (∃ gs, s.gens[g]? = some gs ∧ ∀ s'', AgreeF C F s s'' → Wd C s''.heap → GoesI C A.in1 fin ds F gs s'') →
      ∀ s₁, AgreeF C ⟨F.W, a :: F.R, g :: F.V⟩ s s₁ → s₁.heap.IsGen a g ∧ ∃ gs, s₁.gens[g]? = some gs ∧ (Wd C s₁.heap → GoesI C A.in1 fin ds F gs (s₁.setGen g .running)) := by
    rintro ds F s ⟨o, nm, qn, e, hc, hd, hs⟩ haW hgV ⟨gs, hgs, go⟩ s₁ ag
    refine ⟨⟨o, nm, qn, ag.keep _ _ (by simp) (.inl (nb h₀)) e, hc, hd, hs⟩, gs, ag.gens _ _ (.head _) hgs, fun hw => go _ ⟨fun b o hb hc e => ag.keep b o (by simp at hb ⊢; rcases hb with h | h <;> simp [h]) hc e, ag.tup, fun i x hi e => ?_⟩ hw⟩
    have : i ≠ g := fun q => hgV (q ▸ hi)
    rw [setGen_ne this]
    exact ag.gens i x (.tail _ hi) e
  have stp : ∀ (F : Ft) (s₁ s' : Shared) (gs' : GenState), gs'.bare = true → Stp C F.W F.V (s₁.setGen g .running) s' → Stp C F.W (g :: F.V) s₁ (s'.setGen g gs') := fun F s₁ s' gs' hb x =>
    ⟨x.keep, x.tup, x.there, fun i y hi e => by
      have q : i ≠ g := fun q => hi (by rw [q]; exact .head _)
      rw [setGen_ne q]
      exact x.gens i y (fun h => hi (.tail _ h)) (by rw [setGen_ne q]; exact e), x.os, fun b => bare_setGen (x.bare (bare_setGen b rfl)) hb, x.wd⟩
  intro ds
  induction ds with
  | nil =>
    intro F s hg haW hgV hgo s₁ ag hw Q E h
    obtain ⟨hg₁, gs, hgs, go⟩ := key [] F s hg haW hgV hgo s₁ ag
    refine pyNext_gen hA.handled (FF.lim _ hw) hA.d hg₁ hgs hfin (go hw) (fun d ds' q => by cases q) fun _ s' st h' hk => h _ ?_
    have st₁ := stp F s₁ s' .finished rfl st
    exact st₁.andThen (W₂ := []) (V₂ := []) (s₁ := s'.setGen g .finished) (Stp.keeps (s := s'.setGen g .finished) (s' := { s'.setGen g .finished with heap := h' }) hk rfl rfl) (fun _ h => .inl h) (fun _ h => .inl h) all0 all0
  | cons d ds ih =>
    intro F s hg haW hgV hgo s₁ ag hw Q E h
    obtain ⟨hg₁, gs, hgs, go⟩ := key _ F s hg haW hgV hgo s₁ ag
    refine pyNext_gen hA.handled (FF.lim _ hw) hA.d hg₁ hgs hfin (go hw) (fun d' ds' q v s' gs' hb hy => ?_) fun q => by cases q
    cases q
    obtain ⟨st, as, F₂, hr, has, hnx, hkap⟩ := hy
    have st₁ := stp F s₁ s' gs' hb st
    have ha₁ : ∃ o, s₁.heap.get? a = some o := let ⟨o, _, _, e, _⟩ := hg₁; ⟨o, e⟩
    have haW₂ : a ∉ F₂.W := fun q => (hnx.W a q).elim haW fun n => by obtain ⟨o, e⟩ := ha₁; rw [show s₁.heap.get? a = none from n] at e; cases e
    have hgr : (s₁.setGen g .running).gens[g]? = some .running := setGen_same ⟨_, hgs⟩
    have hgV₂ : g ∉ F₂.V := fun q => (hnx.V g q).elim hgV fun n => by rw [hgr] at n; cases n
    refine h v _ as ⟨F₂.W, a :: F₂.R, g :: F₂.V⟩ hr (fun b hb => ⟨(has b hb).1, (has b hb).2.imp id fun q => q.imp (fun h => .tail _ h) id⟩) st₁ ⟨hnx.W, fun b hb => ?_, fun i hi => ?_, fun b hb => ?_, fun i hi => ?_⟩ (ih F₂ _ ?_ haW₂ hgV₂ ⟨gs', setGen_same ⟨_, st.gens _ _ hgV hgr⟩, fun s'' ag'' hw'' => hkap s'' ⟨ag''.keep, ag''.tup, fun i x hi e => ag''.gens i x hi ?_⟩ hw''⟩)
    · rcases List.mem_cons.mp hb with rfl | hb
      · exact .inr (.inl (.head _))
      · exact (hnx.R b hb).imp id (fun h => h.imp (fun h => .tail _ h) id)
    · rcases List.mem_cons.mp hi with rfl | hi
      · exact .inl (.head _)
      · rcases hnx.V i hi with q | q
        · exact .inl (.tail _ q)
        · by_cases e : i = g
          · exact .inl (by rw [e]; exact .head _)
          · exact .inr (by rw [setGen_ne e] at q; exact q)
    · by_cases q : b = a
      · subst q
        obtain ⟨o, nm, qn, e, hc, hd, hs⟩ := hg₁
        exact ⟨o, st₁.keep _ _ haW (.inl (nb h₀)) e, .inl (nb h₀)⟩
      · exact hnx.live b (by simp [q] at hb ⊢; exact hb)
    · by_cases e : i = g
      · exact ⟨gs', by rw [e]; exact setGen_same ⟨_, st.gens _ _ hgV hgr⟩⟩
      · rcases List.mem_cons.mp hi with q | hi
        · exact absurd q e
        · obtain ⟨y, hy⟩ := hnx.vlive i hi
          exact ⟨y, by rw [setGen_ne e]; exact hy⟩
    · obtain ⟨o, nm, qn, e, hc, hd, hs⟩ := hg₁
      exact ⟨o, nm, qn, st₁.keep _ _ haW (.inl (nb h₀)) e, hc, hd, hs⟩
    · have : i ≠ g := fun q => hgV₂ (q ▸ hi)
      rw [setGen_ne this]; exact e

/-- a fresh generator object as an iterator -/
theorem itok_gen (FF : Facts C) {k : Nat} (hfin : ∀ x, fin x → (End.ret x).result = .returned .none) {a : Addr} {g : Nat} {ds : List PyData} (h₀ : C.h₀.get? a = none) (hg : s.heap.IsGen a g) (haW : a ∉ F.W) (hgV : g ∉ F.V) (hlive : ∀ b ∈ F.W ++ F.R, Live C s.heap b) (hvl : ∀ i ∈ F.V, ∃ g, s.gens[i]? = some g) {gs : GenState} (hgs : s.gens[g]? = some gs)
    (go : ∀ A, Room k A → ∀ s'', AgreeF C F s s'' → Wd C s''.heap → GoesI C A fin ds F gs s'') : ItOk C (k + 1) a ds ⟨F.W, a :: F.R, g :: F.V⟩ s :=
  ⟨fun A hA => iter_gen FF hA hfin h₀ ds F s hg haW hgV ⟨gs, hgs, fun s'' ag hw => go _ hA.in1 s'' ag hw⟩, fun b hb => (by
    by_cases q : b = a
    · subst q
      obtain ⟨o, nm, qn, e, _⟩ := hg
      exact ⟨o, e, .inl (nb h₀)⟩
    · exact hlive b (by simp [q] at hb ⊢; exact hb)), (fun i hi => (by
    rcases List.mem_cons.mp hi with rfl | hi
    · exact ⟨gs, hgs⟩
    · exact hvl i hi)), fun A s₁ ag hw Q E hq => by
    obtain ⟨o, nm, qn, e, hc, hd, hs⟩ := hg
    exact wpAny_pyIter_gen ⟨o, nm, qn, ag.keep _ _ (by simp) (.inl (nb h₀)) e, hc, hd, hs⟩ hq⟩
end
end Mine

namespace Mine
open PySem PySem.Calls PySem.W PyProof.Rows
section
variable {C : Cx} {A : Around} {E : Value → Shared → Prop} {s : Shared} {env : Env} {R : Result → Shared → Prop}

/-- what a turn gets -/
structure Got (C : Cx) (F F₂ : Ft) (s : Shared) (v : Value) (d : PyData) (as : List Addr) (s₂ : Shared) : Prop where
  reads : Reads s₂.heap v d as
  as : ∀ a ∈ as, a ∉ F₂.W ∧ (a ∈ F.W ∨ a ∈ F.R ∨ s.heap.get? a = none)
  stp : Stp C F.W F.V s s₂
  nx : F.Next C F₂ s s₂

theorem for_iter {x : Str} {px : Pos} {body : List Stmt} {it : Addr} (Inv : List PyData → Shared → Prop)
    (turn : ∀ d ds s, Inv (d :: ds) s → ∃ F, Iter C A it (d :: ds) F s ∧ Wd C s.heap ∧ ∀ v s₂ as F₂ E', Got C F F₂ s v d as s₂ → Iter C A it ds F₂ s₂ →
      wpAny (MM C) A (storeName env x v) (fun _ s₃ => wpAny (MM C) A (execs body env) (fun f s₄ => match f with
        | .next | .cont => Inv ds s₄
        | .brk => R (.ok .next) s₄
        | .ret v => R (.ok (.ret v)) s₄) E' s₃) E' s₂)
    (done : ∀ s, Inv [] s → ∃ F, Iter C A it [] F s ∧ Wd C s.heap ∧ ∀ s₂, Stp C F.W F.V s s₂ → R (.ok .next) s₂) (ds : List PyData) (h : Inv ds s) :
    codeAny (MM C) A (.forLoop (.Name x px) (.ref it) body [] env) R s := by
  refine codeAny_forLoop (fun n s => ∃ ds, n = ds.length ∧ Inv ds s) ?_ ds.length ⟨ds, rfl, h⟩
  rintro n s ⟨ds, rfl, hI⟩
  cases ds with
  | nil =>
    obtain ⟨F, hit, hw, hd⟩ := done s hI
    exact hit s (.refl _) hw _ _ fun s₂ st => wpAny_execs_nil (hd s₂ st)
  | cons d ds =>
    obtain ⟨F, hit, hw, ht⟩ := turn d ds s hI
    refine hit s (.refl _) hw _ _ fun v s₂ as F₂ hr ha st nx hit₂ => wpAny_assign_Name (wpAny_mono (ht v s₂ as F₂ _ ⟨hr, ha, st, nx⟩ hit₂) (fun _ s₃ h₃ => wpAny_mono h₃ (fun f s₄ h₄ => ?_) fun _ _ e => e) fun _ _ e => e)
    cases f with
    | next => exact ⟨ds.length, by simp, ds, rfl, h₄⟩
    | cont => exact ⟨ds.length, by simp, ds, rfl, h₄⟩
    | brk => exact h₄
    | ret v => exact h₄

/-- a for statement over whatever gives an iterator -/
theorem ex_for {x : Str} {px pos : Pos} {iter : Expr} {body : List Stmt} {Q : Flow → Shared → Prop}
    (h : wpAny (MM C) A (eval iter env) (fun xv s₁ => wpAny (MM C) A (pyIter xv) (fun it s₂ => codeAny (MM C) A (.forLoop (.Name x px) it body [] env) (fun r s' => match r with | .ok f => Q f s' | .error e => cameBackBy (MM C) A env E e s') s₂) E s₁) E s)
    (hf : ∀ x, foldedSetIterable iter env x = pure x := by intro _; rfl) : wpAny (MM C) A (exec (.For (.Name x px) iter body [] pos) env) Q E s := wpAny_For h hf

theorem comp_iter {elt iter : Expr} {x : Str} {px : Pos} {ifs : List Expr} {scope : Scope} {pos : Pos} {it D : Addr} {cenv : Env} (FF : Facts C) (hD : C.h₀.get? D = none) (Inv : List PyData → List Value → Shared → Prop)
    (turn : ∀ d ds ys s, Inv (d :: ds) ys s → ∃ F, Iter C A it (d :: ds) F s ∧ Wd C s.heap ∧ ys.length ≤ 100000 ∧ ∀ v s₂ as F₂ E', Got C F F₂ s v d as s₂ → Iter C A it ds F₂ s₂ →
      wpAny (MM C) A (storeName cenv x v) (fun _ s₃ => wpAny (MM C) A (forIn ifs true fun c r => if r = true then do let ok ← isTrue c cenv (eval c cenv); pure (ForInStep.yield ok) else pure (ForInStep.yield r)) (fun ok s₄ =>
        if ok = true then wpAny (MM C) A (eval elt cenv) (fun y s₅ => s₅.heap.PlainList D ys.toArray ∧ ∀ s₆, Stp C [D] [] s₅ s₆ → s₆.gens = s₅.gens → s₆.heap.PlainList D (ys ++ [y]).toArray → Inv ds (ys ++ [y]) s₆) E' s₄
        else Inv ds ys s₄) E' s₃) E' s₂)
    (done : ∀ ys s, Inv [] ys s → ∃ F, Iter C A it [] F s ∧ Wd C s.heap ∧ ∀ s₂, Stp C F.W F.V s s₂ → R (.ok .next) s₂) (ds : List PyData) (ys : List Value) (h : Inv ds ys s) :
    codeAny (MM C) A (.compLoop (.ListComp elt [⟨.Name x px, iter, ifs, 0⟩] scope pos) 0 (.ref it) (.ref D) cenv) R s := by
  refine codeAny_compLoop_tests (fun n s => ∃ ds ys, n = ds.length ∧ Inv ds ys s) ?_ ds.length ⟨ds, ys, rfl, h⟩
  rintro n s ⟨ds, ys, rfl, hI⟩
  cases ds with
  | nil =>
    obtain ⟨F, hit, hw, hd⟩ := done ys s hI
    exact hit s (.refl _) hw _ _ fun s₂ st => hd s₂ st
  | cons d ds =>
    obtain ⟨F, hit, hw, hlen, ht⟩ := turn d ds ys s hI
    refine hit s (.refl _) hw _ _ fun v s₂ as F₂ hr ha st nx hit₂ => wpAny_assign_Name (wpAny_mono (ht v s₂ as F₂ _ ⟨hr, ha, st, nx⟩ hit₂) (fun _ s₃ h₃ => wpAny_mono h₃ (fun ok s₄ h₄ => ?_) fun _ _ e => e) fun _ _ e => e)
    cases ok with
    | false =>
      simp only [Bool.false_eq_true, if_false] at h₄ ⊢
      exact ⟨ds.length, by simp, ds, ys, rfl, h₄⟩
    | true =>
      simp only [if_true] at h₄ ⊢
      refine wpAny_mono h₄ (fun y s₅ h₅ => ?_) fun _ _ e => e
      obtain ⟨hp, h₅⟩ := h₅
      refine wpAny_list_append_plain (hsz := by rw [sizeLine_eq, List.size_toArray]; omega) hp fun h' hp' hs' => ⟨ds.length, by simp, ds, ys ++ [y], rfl, h₅ _ (Stp.same (t := s₅.toks) FF hD hs' (not_tup_list hp.isList)) rfl ?_⟩
      simpa using hp'

/-- the tests of a comprehension without any -/
theorem no_tests {cenv : Env} {Q : Bool → Shared → Prop} (h : Q true s) : wpAny (MM C) A (forIn ([] : List Expr) true fun c r => if r = true then do let ok ← isTrue c cenv (eval c cenv); pure (ForInStep.yield ok) else pure (ForInStep.yield r)) Q E s := by
  rw [List.forIn_nil]; exact wpAny_pure h
theorem one_test {cenv : Env} {c : Expr} {Q : Bool → Shared → Prop} (h : wpAny (MM C) A (isTrue c cenv (eval c cenv)) Q E s) : wpAny (MM C) A (forIn [c] true fun c r => if r = true then do let ok ← isTrue c cenv (eval c cenv); pure (ForInStep.yield ok) else pure (ForInStep.yield r)) Q E s := by
  rw [List.forIn_cons]
  simp only [if_true]
  refine wpAny_bind (wpAny_bind (wpAny_mono h (fun ok s' h' => wpAny_pure ?_) fun _ _ e => e))
  dsimp only
  rw [List.forIn_nil]; exact wpAny_pure h'

abbrev cEnv (scope : Scope) (cl : List (Str × Addr)) (L : Addr) (env : Env) : Env := newEnv (relabel scope env) L env.globals cl env.qual none .none (some env) builtinsNs

/-- what a comprehension starts with: its empty list D, its names' dict L -/
theorem comp_start {elt iter : Expr} {x : Str} {px : Pos} {ifs : List Expr} {scope : Scope} {pos : Pos} {cl : List (Str × Addr)} {RR : Value → Env → Result → Shared → Prop} {it : Addr} {k : Nat} {ds : List PyData} {F : Ft}
    (hw : Wd C s.heap) (hA : Room k A) (hit : ItOk C k it ds F s) (hcell : (scope.names.all fun y => y.2 != .cell) = true) (hkind : scope.kind = .function)
    (h : ∀ D L s₃, s.heap.get? D = none → s.heap.get? L = none → D ≠ L → Stp C [] [] s s₃ → s₃.gens = s.gens → s₃.heap.PlainList D #[] → Loc C s₃.heap L [] → Iter C A it ds F s₃ →
      codeAny (MM C) A (.compLoop (.ListComp elt [⟨.Name x px, iter, ifs, 0⟩] scope pos) 0 (.ref it) (.ref D) (cEnv scope cl L env)) (RR (.ref D) (cEnv scope cl L env)) s₃) :
    wpAny (MM C) A (newList []) (fun acc s₃ => wpAny (MM C) A (newFunctionEnv scope env.globals cl [] env.qual none .none (some env)) (fun cenv s₄ =>
      codeAny (MM C) A (.compStart (.ListComp elt [⟨.Name x px, iter, ifs, 0⟩] scope pos) 0 (.ref it) acc { cenv with scope := relabel scope env }) (RR acc { cenv with scope := relabel scope env }) s₄) E s₃) E s := by
  refine wpAny_newObj_type (wpAny_newFunctionEnv (fun y hy => by have := List.all_eq_true.mp hcell y hy; simpa using this) (by intro y hy; simp at hy) (fun h₁ hns hsb => ?_) hkind)
  dsimp only at hns hsb ⊢
  generalize hH : s.heap.push { cls := .type "list", dict := none, data := .seq ([] : List Value).toArray } = H at hns hsb ⊢
  have hC : H.objs.size = s.heap.objs.size + 1 := by rw [← hH, Heap.size_push]
  have keep : ∀ b o, s.heap.get? b = some o → h₁.get? b = some o := fun b o e => hsb.extBut b o (Nat.ne_of_lt (by rw [hC]; exact Nat.lt_succ_of_lt (Heap.lt_size e))) (Heap.get?_push_of_some _ (hH ▸ Heap.get?_push_of_some _ e))
  have st : Stp C [] [] s { s with heap := h₁, toks := s.toks + ([] : List (Str × Value)).length } := Stp.keeps keep rfl rfl
  have hacc : h₁.PlainList s.heap.objs.size #[] := ⟨0, hsb.extBut _ _ (by rw [hC]; exact Nat.ne_of_lt (Nat.lt_succ_self _)) (Heap.get?_push_of_some _ (hH ▸ Heap.get?_push_size _ rfl))⟩
  have hL : s.heap.get? H.objs.size = none := by
    cases e : s.heap.get? H.objs.size with
    | none => rfl
    | some o => exact absurd (Nat.lt_of_succ_lt (hC ▸ Heap.lt_size e)) (Nat.lt_irrefl _)
  have ag : AgreeF C F s { s with heap := h₁, toks := s.toks + ([] : List (Str × Value)).length } := st.agree (fun _ _ h => nomatch h) (fun _ _ h => nomatch h)
  have loop := h s.heap.objs.size H.objs.size _ (get_size _) hL (by rw [hC]; exact Nat.ne_of_lt (Nat.lt_succ_self _)) st rfl hacc ⟨hns, hw.none hL⟩ ((hit.it A hA).agree ag)
  exact codeAny_compStart_list loop (hit.self A _ ag (st.wd hw) _ _ loop)

theorem ev_comp {elt iter : Expr} {x : Str} {px : Pos} {ifs : List Expr} {scope : Scope} {pos : Pos} {cl : List (Str × Addr)} {Q : Value → Shared → Prop} (hclos : closureFor scope env = pure cl)
    (h : wpAny (MM C) A (eval iter env) (fun xv s₁ => wpAny (MM C) A (pyIter xv) (fun itv s₂ => ∃ it k ds F, itv = .ref it ∧ Wd C s₂.heap ∧ Room k A ∧ ItOk C k it ds F s₂ ∧
      ∀ D L s₃, s₂.heap.get? D = none → s₂.heap.get? L = none → D ≠ L → Stp C [] [] s₂ s₃ → s₃.gens = s₂.gens → s₃.heap.PlainList D #[] → Loc C s₃.heap L [] → Iter C A it ds F s₃ →
      codeAny (MM C) A (.compLoop (.ListComp elt [⟨.Name x px, iter, ifs, 0⟩] scope pos) 0 (.ref it) (.ref D) (cEnv scope cl L env))
        (fun r s' => r = .ok .next ∧ (∃ l, Loc C s'.heap L l) ∧ ∀ s'', Stp C [L] [] s' s'' → s''.gens = s'.gens → Q (.ref D) s'') s₃) E s₁) E s)
    (FF : Facts C) (hcell : (scope.names.all fun y => y.2 != .cell) = true := by rfl) (hkind : scope.kind = .function := by rfl)
    (hnames : (scope.names.all fun y => y.2 != .local || scope.names.lookup y.1 == some .local) = true := by rfl) (hf : ∀ x, foldedSetIterable iter env x = pure x := by intro _; rfl) :
    wpAny (MM C) A (eval (.ListComp elt [⟨.Name x px, iter, ifs, 0⟩] scope pos) env) Q E s := by
  show wpAny (MM C) A (comprehension (.ListComp elt [⟨.Name x px, iter, ifs, 0⟩] scope pos) scope env (firstIterPos [⟨.Name x px, iter, ifs, 0⟩] pos) (newList []) (firstAsync [⟨.Name x px, iter, ifs, 0⟩]) (firstIter [⟨.Name x px, iter, ifs, 0⟩] env)) Q E s
  refine wpAny_comprehension_free (g := ⟨.Name x px, iter, ifs, 0⟩) (gs := []) rfl hf hclos hkind (fun y hy hl => ?_) (wpAny_mono h (fun xv s₁ h₁ => wpAny_mono h₁ (fun itv s₂ h₂ => ?_) fun _ _ e => e) fun _ _ e => e)
  · have := List.all_eq_true.mp hnames y hy
    simpa [hl] using this
  · obtain ⟨it, k, ds, F, rfl, hw, hA, hit, hl⟩ := h₂
    refine comp_start (RR := fun acc cenv => compPost (MM C) A E none Q acc cenv.locals) hw hA hit hcell hkind fun D L s₃ hD hL hne st hg hacc hloc hit₃ => codeAny_mono (hl D L s₃ hD hL hne st hg hacc hloc hit₃) ?_
    rintro r s' ⟨rfl, ⟨l, hn⟩, hq⟩
    exact ⟨_, hn.ns, fun h' hs' => hq _ (Stp.same (t := s'.toks) FF hn.new hs' (not_tup_ns hn.ns)) rfl⟩

/-- t = [..]: the store ahead of the comprehension's own names -/
theorem st_comp {elt iter : Expr} {x t : Str} {px pt pos' : Pos} {ifs : List Expr} {scope : Scope} {pos : Pos} {cl : List (Str × Addr)} {Q : Flow → Shared → Prop} (hclos : closureFor scope env = pure cl)
    (h : wpAny (MM C) A (eval iter env) (fun xv s₁ => wpAny (MM C) A (pyIter xv) (fun itv s₂ => ∃ it k ds F, itv = .ref it ∧ Wd C s₂.heap ∧ Room k A ∧ ItOk C k it ds F s₂ ∧
      ∀ D L s₃, s₂.heap.get? D = none → s₂.heap.get? L = none → D ≠ L → Stp C [] [] s₂ s₃ → s₃.gens = s₂.gens → s₃.heap.PlainList D #[] → Loc C s₃.heap L [] → Iter C A it ds F s₃ →
      codeAny (MM C) A (.compLoop (.ListComp elt [⟨.Name x px, iter, ifs, 0⟩] scope pos) 0 (.ref it) (.ref D) (cEnv scope cl L env))
        (fun r s' => r = .ok .next ∧ wpAny (MM C) A (storeName env t (.ref D)) (fun _ s₄ => (∃ l, Loc C s₄.heap L l) ∧ ∀ s'', Stp C [L] [] s₄ s'' → s''.gens = s₄.gens → Q .next s'') E s') s₃) E s₁) E s)
    (FF : Facts C) (hsw : swapsWith (.ListComp elt [⟨.Name x px, iter, ifs, 0⟩] scope pos) (some (.Name t pt)) pos'.line env = pure true) (hcell : (scope.names.all fun y => y.2 != .cell) = true := by rfl) (hkind : scope.kind = .function := by rfl)
    (hnames : (scope.names.all fun y => y.2 != .local || scope.names.lookup y.1 == some .local) = true := by rfl) (hf : ∀ x, foldedSetIterable iter env x = pure x := by intro _; rfl) :
    wpAny (MM C) A (exec (.Assign [.Name t pt] (.ListComp elt [⟨.Name x px, iter, ifs, 0⟩] scope pos) pos') env) Q E s := by
  rw [exec_Assign_Name_used _ _ _ _ hsw]
  refine wpAny_bind (wpAny_standAt (wpAny_bind ?_))
  show wpAny (MM C) A (do let _ ← comprehension (.ListComp elt [⟨.Name x px, iter, ifs, 0⟩] scope pos) scope env _ (newList []) false (eval iter env) (some (assign (.Name t pt) env))) _ _ s
  refine wpAny_bind (wpAny_mono (wpAny_comprehension_free (use := some (assign (.Name t pt) env)) (Q := fun _ s' => Q .next s') (g := ⟨.Name x px, iter, ifs, 0⟩) (gs := []) rfl hf hclos hkind (fun y hy hl => ?_) (wpAny_mono h (fun xv s₁ h₁ => wpAny_mono h₁ (fun itv s₂ h₂ => ?_) fun _ _ e => e) fun _ _ e => e)) (fun _ s' hq => wpAny_pure (wpAny_pure hq)) fun _ _ e => e)
  · have := List.all_eq_true.mp hnames y hy
    simpa [hl] using this
  · obtain ⟨it, k, ds, F, rfl, hw, hA, hit, hl⟩ := h₂
    refine comp_start (RR := fun acc cenv => compPost (MM C) A E (some (assign (.Name t pt) env)) (fun _ s' => Q .next s') acc cenv.locals) hw hA hit hcell hkind fun D L s₃ hD hL hne st hg hacc hloc hit₃ => codeAny_mono (hl D L s₃ hD hL hne st hg hacc hloc hit₃) ?_
    rintro r s' ⟨rfl, hq⟩
    show wpAny (MM C) A (assign (.Name t pt) env (.ref D)) _ E s'
    refine wpAny_assign_Name (wpAny_mono hq (fun _ s₄ h₄ => ?_) fun _ _ e => e)
    obtain ⟨⟨l, hn⟩, hq⟩ := h₄
    exact ⟨_, hn.ns, fun h' hs' => hq _ (Stp.same (t := s₄.toks) FF hn.new hs' (not_tup_ns hn.ns)) rfl⟩
end
end Mine

namespace Mine
open PySem PySem.Calls PySem.W PyProof.Rows
open PySem.AutoSeq1 (wpAny_loadPart')
section
variable {C : Cx} {A : Around} {E : Value → Shared → Prop} {s : Shared} {env : Env} {R : Result → Shared → Prop}

theorem readsAll_append {h : Heap} : ∀ {vs ws : List Value} {ds es : List PyData} {as bs : List Addr}, ReadsAll h vs ds as → ReadsAll h ws es bs → ReadsAll h (vs ++ ws) (ds ++ es) (as ++ bs)
  | _, _, _, _, _, _, .nil, r => by simpa using r
  | _, _, _, _, _, _, .cons r₁ r₂, r => by
    have := ReadsAll.cons r₁ (readsAll_append r₂ r)
    simpa [List.append_assoc] using this
theorem readsAll_one {h : Heap} {v : Value} {d : PyData} {as : List Addr} (r : Reads h v d as) : ReadsAll h [v] [d] as := by
  have := ReadsAll.cons r .nil
  simpa using this
theorem readsAll_length {h : Heap} : ∀ {vs : List Value} {ds : List PyData} {as : List Addr}, ReadsAll h vs ds as → vs.length = ds.length
  | _, _, _, .nil => rfl
  | _, _, _, .cons _ r => by simp [readsAll_length r]
theorem plain_alive {h : Heap} {S : Addr} {xs : Array Value} (x : h.PlainList S xs) : ∃ o, h.get? S = some o := let ⟨_, e⟩ := x; ⟨_, e⟩
theorem Ft.Next.offW {F F' : Ft} {s' : Shared} (n : F.Next C F' s s') {a : Addr} (ha : ∃ o, s.heap.get? a = some o) (hW : a ∉ F.W) : a ∉ F'.W := fun q => (n.W a q).elim hW fun e => by obtain ⟨o, e'⟩ := ha; rw [e] at e'; cases e'
theorem Ft.Next.offR {F F' : Ft} {s' : Shared} (n : F.Next C F' s s') {a : Addr} (ha : ∃ o, s.heap.get? a = some o) (hW : a ∉ F.W) (hR : a ∉ F.R) : a ∉ F'.R := fun q => (n.R a q).elim hW fun q => q.elim hR fun e => by obtain ⟨o, e'⟩ := ha; rw [e] at e'; cases e'
theorem Ft.Next.off {F F' : Ft} {s' : Shared} (n : F.Next C F' s s') {a : Addr} (ha : ∃ o, s.heap.get? a = some o) (hW : a ∉ F.W) (hR : a ∉ F.R) : a ∉ F'.W ++ F'.R := fun q => (List.mem_append.mp q).elim (n.offW ha hW) (n.offR ha hW hR)

theorem code_extend (FF : Facts C) {it S : Addr} {res : Value} (hS₀ : C.h₀.get? S = none) : ∀ (ds : List PyData) (F : Ft) (s : Shared) (acc : Array Value) (done : List PyData) (as : List Addr),
    Iter C A.in1 it ds F s → Wd C s.heap → S ∉ F.W → S ∉ F.R → s.heap.PlainList S acc → ReadsAll s.heap acc.toList done as → (∀ a ∈ as, a ≠ S ∧ a ∉ F.W) → acc.size + ds.length ≤ 100000 →
    (∀ s' acc' as', Stp C (S :: F.W) F.V s s' → s'.heap.PlainList S acc' → ReadsAll s'.heap acc'.toList (done ++ ds) as' → (∀ a ∈ as', a ∈ as ∨ a ∈ F.W ∨ a ∈ F.R ∨ s.heap.get? a = none) → S ∉ as' → R (.ok (.ret res)) s') →
    codeAny (MM C) A (.builtin "list.extend.loop" ⟨[.ref S, .ref it, res], []⟩) R s
  | [], F, s, acc, done, as, hit, hw, hSW, hSR, hS, hr, has, hsz, hR => by
    refine codeAny_builtin PySem.F.entry_extend_loop ?_
    rw [Around.under_plainId PySem.F.plain_extend_loop _]
    show wpAny _ A.in1 (pyNext (.ref it) >>= _) _ _ s
    refine wpAny_bind (hit s (.refl _) hw _ _ fun s' st => ?_)
    exact wpAny_pure (hR s' acc as (st.mono (fun a h => .tail _ h) fun _ h => h) (st.plain hS hSW) (by simpa using st.readsAll hr fun a ha => (has a ha).2) (fun a ha => .inl ha) fun q => (has S q).1 rfl)
  | d :: ds, F, s, acc, done, as, hit, hw, hSW, hSR, hS, hr, has, hsz, hR => by
    refine codeAny_builtin PySem.F.entry_extend_loop ?_
    rw [Around.under_plainId PySem.F.plain_extend_loop _]
    show wpAny _ A.in1 (pyNext (.ref it) >>= _) _ _ s
    refine wpAny_bind (hit s (.refl _) hw _ _ fun v s₂ bs F₂ hrd hbs st nx hit₂ => ?_)
    have hSa := plain_alive hS
    have hS₂ := st.plain hS hSW
    obtain ⟨c, eS⟩ := id hS₂
    show wpAny _ A.in1 (updateSeq S (·.push v) >>= _) _ _ _
    refine wpAny_bind ?_
    have hSW₂ := nx.offW hSa hSW
    have hSR₂ := nx.offR hSa hSW hSR
    have hbS : ∀ a ∈ bs, a ≠ S := fun a ha q => by
      subst q
      rcases (hbs _ ha).2 with q | q | q
      · exact hSW q
      · exact hSR q
      · obtain ⟨o, e⟩ := hSa; rw [q] at e; cases e
    have haW₂ : ∀ a ∈ as, a ∉ F₂.W := fun a ha => nx.offW (readsAll_alive hr a ha) (has a ha).2
    have st₃ : Stp C [S] [] s₂ { s₂ with heap := s₂.heap.update S (Obj.mapSeq (·.push v)) } := Stp.upd (t := s₂.toks) FF hS₀ eS rfl (not_tup_list hS₂.isList)
    have hS₃ : (s₂.heap.update S (Obj.mapSeq (·.push v))).PlainList S (acc.push v) := ⟨c + 1, by rw [Heap.get?_update_self _ eS rfl]; simp [Obj.mapSeq]⟩
    have hr₂ : ReadsAll s₂.heap acc.toList done as := st.readsAll hr fun a ha => (has a ha).2
    have both : Stp C (S :: F.W) F.V s { s₂ with heap := s₂.heap.update S (Obj.mapSeq (·.push v)) } := st.andThen st₃ (fun a h => .inl (.tail _ h)) (fun _ h => .inl h) (all1 (.inl (.head _))) all0
    refine wpAny_updateSeq eS rfl (wpAny_pure ⟨plainId_quiet PySem.F.plain_extend_loop _, code_extend FF hS₀ ds F₂ _ (acc.push v) (done ++ [d]) (as ++ bs) (hit₂.agree (st₃.agree (fun a h q => ?_) fun _ _ h => nomatch h)) (st₃.wd (st.wd hw)) hSW₂ hSR₂ hS₃ ?_ ?_ ?_ fun s' acc' as' st' hS' hr' ha' hn' => ?_⟩)
      (by rw [sizeLine_eq]; omega) (by show (acc.push v).size ≤ sizeLine + 1; rw [Array.size_push, sizeLine_eq]; omega)
    · rw [List.mem_singleton.mp q] at h
      exact (List.mem_append.mp h).elim hSW₂ hSR₂
    · rw [Array.toList_push]
      exact readsAll_append (st₃.readsAll hr₂ fun a ha => nin1 (has a ha).1) (readsAll_one (st₃.reads hrd fun a ha => nin1 (hbS a ha)))
    · intro a ha
      rcases List.mem_append.mp ha with q | q
      · exact ⟨(has a q).1, haW₂ a q⟩
      · exact ⟨hbS a q, (hbs a q).1⟩
    · rw [Array.size_push]; simp at hsz; omega
    · refine hR s' acc' as' (both.andThen st' (fun _ h => .inl h) (fun _ h => .inl h) (fun a h => ?_) (fun i h => ?_)) hS' (by simpa using hr') (fun a ha => ?_) hn'
      · rcases List.mem_cons.mp h with rfl | h
        · exact .inl (.head _)
        · exact (nx.W a h).imp (fun h => .tail _ h) id
      · exact nx.V i h
      · rcases ha' a ha with q | q | q | q
        · rcases List.mem_append.mp q with q | q
          · exact .inl q
          · exact .inr ((hbs a q).2)
        · exact .inr ((nx.W a q).imp id .inr)
        · exact .inr (nx.R a q)
        · rcases both.none_of q with z | z
          · rcases List.mem_cons.mp z with rfl | z
            · obtain ⟨n, e⟩ := hS₃; rw [show (s₂.heap.update a (Obj.mapSeq (·.push v))).get? a = none from q] at e; cases e
            · exact .inr (.inl z)
          · exact .inr (.inr (.inr z))

structure NoHint (T : String) : Prop where
  nl : (Value.type T == Value.type "list") = false
  nt : (Value.type T == Value.type "tuple") = false
  len : typeLookup (.type T) "__len__" = pure none
  hint : typeLookup (.type T) "__length_hint__" = pure none
theorem noHint_gen : NoHint "generator" := ⟨by decide, by decide, PySem.F.gen_no_len, PySem.F.gen_no_hint⟩
theorem noHint_map : NoHint "map" := ⟨by decide, by decide, by rw [typeLookup_type, builtinLookup_eq_fast]; kernel_rfl, by rw [typeLookup_type, builtinLookup_eq_fast]; kernel_rfl⟩
/-- an iterator whose length nobody tells -/
def Lazy (s : Shared) (it : Addr) : Prop := ∃ T, NoHint T ∧ s.TypeIs (.ref it) T
theorem lazy_gen {s : Shared} {it : Addr} (h : s.TypeIs (.ref it) "generator") : Lazy s it := ⟨_, noHint_gen, h⟩
theorem Lazy.some {s : Shared} {it : Addr} (h : Lazy s it) : ∃ o, s.heap.get? it = some o := let ⟨_, _, o, e, _⟩ := h; ⟨o, e⟩

theorem extend_with (FF : Facts C) {it S : Addr} {res : Value} {ds : List PyData} {F : Ft} {c₀ : Nat} (hS₀ : C.h₀.get? S = none) (hw : Wd C s.heap) (hit : Iter C A.in1 it ds F s) (hself : SelfIt C A.in1 it F s) (hT : Lazy s it)
    (hSI : S ≠ it) (hSW : S ∉ F.W) (hSR : S ∉ F.R) (hS : s.heap.get? S = some { cls := .type "list", data := .seq #[] c₀ }) (hsz : ds.length ≤ 100000)
    (hR : ∀ s' acc' as', Stp C (S :: F.W) F.V s s' → s'.heap.PlainList S acc' → ReadsAll s'.heap acc'.toList ds as' → (∀ a ∈ as', a ∈ F.W ∨ a ∈ F.R ∨ s.heap.get? a = none) → S ∉ as' → R (.ok (.ret res)) s') :
    wpAny (MM C) A.in1 (Builtin.List.listExtendWith (.ref S) (.ref it) res)
      (fun fin s' => match fin with | .done f => R (.ok f) s' | .again c' => c'.quiet = true ∧ codeAny (MM C) A c' R s') (fun e s' => R (.error e) s') s := by
  obtain ⟨T, nh, hT⟩ := hT
  unfold Builtin.List.listExtendWith
  refine wpAny_bind (wpAny_typeOf hT ?_)
  have h1 : Builtin.List.listSameRef (.ref S) (.ref it) = false := by simp [Builtin.List.listSameRef, hSI]
  have h2 := nh.nl
  have h3 := nh.nt
  simp only [h1, h2, h3, Bool.or_false, Bool.false_eq_true, if_false]
  refine wpAny_bind (hself s (.refl _) hw _ _ ?_)
  refine wpAny_bind (wpAny_holding ?_)
  unfold Builtin.List.listLengthHint
  refine wpAny_bind (wpAny_specialOf hT nh.len ?_)
  show wpAny _ A.in1 (specialOf (Value.ref it) (Str.ofString "__length_hint__") >>= _) _ _ _
  refine wpAny_bind (wpAny_specialOf hT nh.hint ?_)
  refine wpAny_pure ?_
  show wpAny _ A.in1 (rule "list.extend.makes-room" >>= fun _ => Builtin.List.listTouch (.ref S) >>= fun _ =>
    again (.builtin "list.extend.loop" ⟨[.ref S, .ref it, res], []⟩)) _ _ _
  refine wpAny_bind (wpAny_rule ?_)
  refine wpAny_bind ?_
  show wpAny _ A.in1 (updateSeq S (·.push .none) >>= fun _ => updateSeq S (·.pop)) _ _ _
  refine wpAny_bind (wpAny_updateSeq hS rfl ?_)
  have hl : s.heap.IsList S #[] := ⟨_, hS, rfl, c₀, rfl⟩
  have st₁ : Stp C [S] [] s { s with heap := s.heap.update S (Obj.mapSeq (·.push Value.none)) } := Stp.upd (t := s.toks) FF hS₀ hS rfl (not_tup_list hl)
  have hS₂ := Heap.get?_update_self (Obj.mapSeq (·.push Value.none)) hS rfl
  refine wpAny_updateSeq (hz := by seq_fits) hS₂ rfl ?_
  have st₂ : Stp C [S] [] { s with heap := s.heap.update S (Obj.mapSeq (·.push Value.none)) } { s with heap := (s.heap.update S (Obj.mapSeq (·.push Value.none))).update S (Obj.mapSeq (·.pop)) } :=
    Stp.upd (s := { s with heap := s.heap.update S (Obj.mapSeq (·.push Value.none)) }) (t := s.toks) FF hS₀ hS₂ rfl (not_tup_list (xs := #[Value.none]) ⟨_, hS₂, rfl, _, rfl⟩)
  have hS₃ := Heap.get?_update_self (Obj.mapSeq (·.pop)) hS₂ rfl
  have st := st₁.trans st₂
  refine wpAny_pure ⟨plainId_quiet PySem.F.plain_extend_loop _, code_extend FF hS₀ ds F _ #[] [] [] (hit.agree (st.agree (fun a h q => ?_) fun _ _ h => nomatch h)) (st.wd hw) hSW hSR ⟨_, hS₃⟩ (by simpa using ReadsAll.nil) (fun _ h => nomatch h) (by simpa using hsz) fun s' acc' as' st' hS' hr' ha' hn' => ?_⟩
  · rw [List.mem_singleton.mp q] at h
    exact (List.mem_append.mp h).elim hSW hSR
  · refine hR s' acc' as' ((st.mono (W' := S :: F.W) (V' := F.V) (fun a h => by rw [List.mem_singleton.mp h]; exact .head _) (fun _ h => nomatch h)).trans st') hS' (by simpa using hr') (fun a ha => ?_) hn'
    rcases ha' a ha with q | q | q | q
    · exact nomatch q
    · exact .inl q
    · exact .inr (.inl q)
    · rcases st.none_of q with z | z
      · rw [List.mem_singleton.mp z, hS₃] at q; cases q
      · exact .inr (.inr z)

theorem Agree.typeIs {F : List Addr} {V : List Nat} {s' : Shared} {it : Addr} {T : String} (ag : Agree C F V s s') (h : s.TypeIs (.ref it) T) (hit : it ∈ F) : s'.TypeIs (.ref it) T :=
  let ⟨o, e, hc⟩ := h; ⟨o, ag.keep _ _ hit (.inr (by rw [hc]; nofun)) e, hc⟩

theorem Room.in2 {k : Nat} (x : Room (k + 2) A) : Room k A.in1.in1 := x.in1.in1
/-- list(generator) -/
theorem call_list_it (FF : Facts C) {hp : Heap} (hw : Wd C hp) {k : Nat} {it : Addr} {ds : List PyData} {F : Ft} {Q : Value → Shared → Prop} (hit : ItOk C k it ds F s) (hA : Room (k + 2) A) (hT : Lazy s it)
    (hsz : ds.length ≤ 100000)
    (h : ∀ s' S acc' as', s.heap.get? S = none → Stp C F.W F.V s s' → s'.heap.PlainList S acc' → ReadsAll s'.heap acc'.toList ds as' → (∀ a ∈ as', a ∈ F.W ∨ a ∈ F.R ∨ s.heap.get? a = none) → S ∉ as' → Q (.ref S) s')
    (hs : s.heap = hp := by rfl) : wpAny (MM C) A (call (.type "list") [.ref it]) Q E s := by
  subst hs
  have hSf := get_size s.heap
  refine callType_codes (Q₁ := fun obj s₁ => obj = .ref s.heap.objs.size ∧ s₁ = { s with heap := s.heap.push { cls := .type "list", data := .seq #[] } }) PySem.F.called_list (PySem.F.typeCall_list_1 _) PySem.F.entry_list_init
    (code_list_new _ ⟨rfl, rfl⟩) fun obj s₁ h₁ => ?_
  obtain ⟨rfl, rfl⟩ := h₁
  have hS : (s.heap.push { cls := .type "list", data := .seq #[] }).get? s.heap.objs.size = some { cls := .type "list", data := .seq #[] } := Heap.get?_push_size _ rfl
  have st : Stp C [] [] s { s with heap := s.heap.push { cls := .type "list", data := .seq #[] } } := Stp.push _
  have ag : AgreeF C F s { s with heap := s.heap.push { cls := .type "list", data := .seq #[] } } := st.agree (fun _ _ h => nomatch h) fun _ _ h => nomatch h
  have off : s.heap.objs.size ∉ F.W ++ F.R := fun q => by obtain ⟨o, e, _⟩ := hit.live _ q; rw [hSf] at e; cases e
  have hw₁ := st.wd hw
  refine ⟨⟨_, hS, rfl⟩, PySem.F.args_list_init_2 _ _, ?_⟩
  show wpAny _ A.in1.in1 (do let old ← Builtin.List.listItems (.ref s.heap.objs.size); Builtin.List.listUpdate (.ref s.heap.objs.size) (fun _ => #[]); letGo old.toList.reverse; Builtin.List.listExtendWith (.ref s.heap.objs.size) (.ref it) .none) _ _ _
  refine wpAny_bind ?_
  unfold Builtin.List.listItems
  refine wpAny_bind (wpAny_seqItems hS rfl (wpAny_pure ?_))
  show wpAny _ A.in1.in1 (updateSeq s.heap.objs.size (fun _ => #[]) >>= fun _ => letGo (#[] : Array Value).toList.reverse >>= fun _ => Builtin.List.listExtendWith (.ref s.heap.objs.size) (.ref it) .none) _ _ _
  refine wpAny_bind (wpAny_updateSeq hS rfl ?_)
  have hS₂ := Heap.get?_update_self (Obj.mapSeq (fun _ => (#[] : Array Value))) hS rfl
  have hS₀ := hw.none hSf
  have st₂ : Stp C [s.heap.objs.size] [] { s with heap := s.heap.push { cls := .type "list", data := .seq #[] } } { s with heap := (s.heap.push { cls := .type "list", data := .seq #[] }).update s.heap.objs.size (Obj.mapSeq (fun _ => (#[] : Array Value))) } :=
    Stp.upd (s := { s with heap := s.heap.push { cls := .type "list", data := .seq #[] } }) (t := s.toks) FF hS₀ hS rfl (not_tup_list (xs := #[]) ⟨_, hS, rfl, _, rfl⟩)
  have ag₂ : AgreeF C F s { s with heap := (s.heap.push { cls := .type "list", data := .seq #[] }).update s.heap.objs.size (Obj.mapSeq (fun _ => (#[] : Array Value))) } := ag.trans (st₂.agree (fun a ha q => off (List.mem_singleton.mp q ▸ ha)) fun _ _ h => nomatch h)
  refine wpAny_bind (wpAny_letGo ?_)
  have hT₂ : (({ s with heap := (s.heap.push { cls := .type "list", data := .seq #[] }).update s.heap.objs.size (Obj.mapSeq (fun _ => (#[] : Array Value))) } : Shared) |> fun s => Lazy s it) := by
    obtain ⟨T, nh, o, e, hc⟩ := hT
    exact ⟨T, nh, o, st₂.keep _ _ (nin1 (ne_of_fresh hSf ⟨o, e⟩)) (.inr (by rw [hc]; nofun)) (st.keep _ _ (by simp) (.inr (by rw [hc]; nofun)) e), hc⟩
  refine extend_with FF hS₀ (st₂.wd hw₁) ((hit.it _ hA.in2).agree ag₂) (fun s₁ a => hit.self _ s₁ (ag₂.trans a)) hT₂ (Ne.symm (ne_of_fresh hSf hT.some)) (fun q => off (List.mem_append_left _ q)) (fun q => off (List.mem_append_right _ q)) hS₂ hsz fun s' acc' as' st' hS' hr' ha' hn' => ⟨rfl, ?_⟩
  refine h s' s.heap.objs.size acc' as' hSf ?_ hS' hr' (fun a ha => ?_) hn'
  · exact (st.andThen (W := F.W) (V := F.V) st₂ all0 all0 (all1 (.inr hSf)) all0).andThen st' (fun _ h => .inl h) (fun _ h => .inl h) (fun a h => by
      rcases List.mem_cons.mp h with rfl | h
      · exact .inr hSf
      · exact .inl h) (fun _ h => .inl h)
  · rcases ha' a ha with q | q | q
    · exact .inl q
    · exact .inr (.inl q)
    · rcases st₂.none_of q with z | z
      · rw [List.mem_singleton.mp z] at ha; exact (hn' ha).elim
      · exact .inr (.inr ((st.none_of z).elim (fun h => nomatch h) id))

theorem collect_it (FF : Facts C) {hp : Heap} (hw : Wd C hp) {k : Nat} {it : Addr} {ds : List PyData} {F : Ft} {Q : List Value → Shared → Prop} (hit : ItOk C k it ds F s) (hA : Room (k + 1) A) (hT : Lazy s it)
    (hsz : ds.length ≤ 100000)
    (h : ∀ s' acc' as', Stp C F.W F.V s s' → ReadsAll s'.heap acc' ds as' → (∀ a ∈ as', a ∈ F.W ∨ a ∈ F.R ∨ s.heap.get? a = none) → Q acc' s') (hs : s.heap = hp := by rfl) : wpAny (MM C) A (collect (.ref it)) Q E s := by
  subst hs
  have hSf := get_size s.heap
  have hS₀ := hw.none hSf
  unfold collect
  refine wpAny_bind (wpAny_runValue (codeAny_builtin PySem.F.entry_proto_collect ?_))
  rw [Around.under_plainId PySem.F.plain_proto_collect _]
  show wpAny _ A.in1 (newList [] >>= fun l => again (.builtin "list.__iadd__" ⟨[l, .ref it], []⟩)) _ _ s
  refine wpAny_bind (wpAny_newObj_type ?_)
  refine wpAny_pure ⟨plainId_quiet PySem.F.plain_list_iadd _, codeAny_builtin PySem.F.entry_list_iadd ?_⟩
  rw [Around.under_plainId PySem.F.plain_list_iadd _]
  have hS : (s.heap.push { cls := .type "list", data := .seq ([] : List Value).toArray }).get? s.heap.objs.size = some { cls := .type "list", data := .seq #[] } := Heap.get?_push_size _ rfl
  have st : Stp C [] [] s { s with heap := s.heap.push { cls := .type "list", data := .seq ([] : List Value).toArray } } := Stp.push _
  have ag : AgreeF C F s { s with heap := s.heap.push { cls := .type "list", data := .seq ([] : List Value).toArray } } := st.agree (fun _ _ h => nomatch h) fun _ _ h => nomatch h
  have off : s.heap.objs.size ∉ F.W ++ F.R := fun q => by obtain ⟨o, e, _⟩ := hit.live _ q; rw [hSf] at e; cases e
  have hit₀ : ∃ o, s.heap.get? it = some o := hT.some
  have hT₁ : (({ s with heap := s.heap.push { cls := .type "list", data := .seq ([] : List Value).toArray } } : Shared) |> fun s => Lazy s it) := by
    obtain ⟨T, nh, o, e, hc⟩ := hT
    exact ⟨T, nh, o, st.keep _ _ (by simp) (.inr (by rw [hc]; nofun)) e, hc⟩
  show wpAny _ A.in1 (Builtin.List.listExtendWith (.ref s.heap.objs.size) (.ref it) (.ref s.heap.objs.size)) _ _ _
  refine wpAny_mono (extend_with (R := fun r s' => match r with | .ok (.ret v) => v = .ref s.heap.objs.size ∧ ∃ acc' as', Stp C (s.heap.objs.size :: F.W) F.V { s with heap := s.heap.push { cls := .type "list", data := .seq ([] : List Value).toArray } } s' ∧ s'.heap.PlainList s.heap.objs.size acc' ∧ ReadsAll s'.heap acc'.toList ds as' ∧ (∀ a ∈ as', a ∈ F.W ∨ a ∈ F.R ∨ (s.heap.push { cls := .type "list", data := .seq ([] : List Value).toArray }).get? a = none) ∧ s.heap.objs.size ∉ as' | _ => False)
    FF hS₀ (st.wd hw) ((hit.it _ hA.in1).agree ag) (fun s₁ a => hit.self _ s₁ (ag.trans a)) hT₁ (Ne.symm (ne_of_fresh hSf hit₀)) (fun q => off (List.mem_append_left _ q)) (fun q => off (List.mem_append_right _ q)) hS hsz
      fun s' acc' as' st' hS' hr' ha' hn' => ⟨rfl, acc', as', st', hS', hr', ha', hn'⟩) (fun fin s' hf => ?_) (fun e s' he => he.elim)
  have key : ∀ s', (∃ acc' as', Stp C (s.heap.objs.size :: F.W) F.V { s with heap := s.heap.push { cls := .type "list", data := .seq ([] : List Value).toArray } } s' ∧ s'.heap.PlainList s.heap.objs.size acc' ∧ ReadsAll s'.heap acc'.toList ds as' ∧
      (∀ a ∈ as', a ∈ F.W ∨ a ∈ F.R ∨ (s.heap.push { cls := .type "list", data := .seq ([] : List Value).toArray }).get? a = none) ∧ s.heap.objs.size ∉ as') →
      wpAny (MM C) A (match Value.ref s.heap.objs.size with
        | .ref a => do match (← load a).data with
          | .seq xs _ => pure xs.toList
          | _ => unsupported "internal:collect"
        | _ => unsupported "internal:collect") Q E s' := by
    rintro s' ⟨acc', as', st', ⟨n, hS'⟩, hr', ha', hn'⟩
    refine wpAny_bind (wpAny_load hS' (wpAny_pure (h s' acc'.toList as' ?_ hr' fun a ha => ?_)))
    · exact st.andThen (W := F.W) (V := F.V) st' all0 all0 (fun a h => by
        rcases List.mem_cons.mp h with rfl | h
        · exact .inr hSf
        · exact .inl h) (fun _ h => .inl h)
    · rcases ha' a ha with q | q | q
      · exact .inl q
      · exact .inr (.inl q)
      · exact .inr (.inr ((st.none_of q).elim (fun h => nomatch h) id))
  cases fin with
  | done f =>
    cases f with
    | ret v => obtain ⟨rfl, hq⟩ := hf; exact key s' hq
    | _ => exact hf.elim
  | again c' =>
    refine ⟨hf.1, codeAny_mono hf.2 fun r s₂ hr => ?_⟩
    cases r with
    | error e => exact hr.elim
    | ok fl =>
      cases fl with
      | ret v => obtain ⟨rfl, hq⟩ := hr; exact key s₂ hq
      | _ => exact hr.elim

theorem code_tuple_it (FF : Facts C) {hp : Heap} (hw : Wd C hp) {k : Nat} {it : Addr} {ds : List PyData} {F : Ft} {Q₁ : Value → Shared → Prop} (hit : ItOk C k it ds F s) (hA : Room (k + 2) A) (hT : Lazy s it)
    (hsz : ds.length ≤ 100000)
    (h : ∀ s' t acc' as', Stp C F.W F.V s s' → s'.heap.get? t = some { cls := .type "tuple", data := .seq (List.toArray acc') } → ReadsAll s'.heap acc' ds as' → (∀ a ∈ as', a ∈ F.W ∨ a ∈ F.R ∨ s.heap.get? a = none) → Q₁ (.ref t) s') (hs : s.heap = hp := by rfl) :
    codeAny (MM C) A (.call (.builtin "tuple.__new__") ⟨[.type "tuple", .ref it], []⟩) (wants Q₁ E) s := by
  subst hs
  refine codeAny_of_tree ?_
  show wpAny _ A.in1 (do checkBuiltinCall "tuple.__new__" ⟨[.type "tuple", .ref it], []⟩; again (.builtin "tuple.__new__" ⟨[.type "tuple", .ref it], []⟩)) _ _ s
  refine wpAny_bind (wpAny_of_eq (PySem.F.newCall_tuple_1 _) (wpAny_pure ⟨plainId_quiet PySem.F.plain_tuple_new _, codeAny_builtin PySem.F.entry_tuple_new ?_⟩))
  rw [Around.under_plainId PySem.F.plain_tuple_new _]
  have hsub := sub_tuple_self
  have hinit := init_tuple_lookup
  have hmh := madeHere_tuple
  have hA₁ : Room (k + 1) A.in1 := hA.in1
  obtain ⟨T, nh, hT'⟩ := id hT
  have nt : ¬ ((Value.type T == Value.type "tuple") = true) := by rw [nh.nt]; exact Bool.false_ne_true
  wp_walk using wpAny_typeOf hT', collect_it FF hw hit hA₁ hT hsz
  intro s' acc' as' st hr ha
  show wpAny _ _ (Builtin.Tuple.tupleExact acc'.toArray >>= fun v => ret v) _ _ _
  unfold Builtin.Tuple.tupleExact
  refine wpAny_bind (wpAny_newObj_type ?_ (by show acc'.toArray.size ≤ sizeLine; rw [List.size_toArray, readsAll_length hr, sizeLine_eq]; omega))
  refine wpAny_pure ?_
  have st₂ : Stp C [] [] s' { s' with heap := s'.heap.push { cls := .type "tuple", data := .seq acc'.toArray } } := Stp.push _
  refine h _ s'.heap.objs.size acc' as' (st.andThen st₂ (fun _ h => .inl h) (fun _ h => .inl h) all0 all0) (Heap.get?_push_size _ rfl) (st₂.readsAll hr (by simp)) ha

/-- tuple(generator) -/
theorem call_tuple_it (FF : Facts C) {hp : Heap} (hw : Wd C hp) {k : Nat} {it : Addr} {ds : List PyData} {F : Ft} {Q : Value → Shared → Prop} (hit : ItOk C k it ds F s) (hA : Room (k + 3) A) (hT : Lazy s it)
    (hsz : ds.length ≤ 100000)
    (h : ∀ s' t acc' as', Stp C F.W F.V s s' → s'.heap.get? t = some { cls := .type "tuple", data := .seq (List.toArray acc') } → ReadsAll s'.heap acc' ds as' → (∀ a ∈ as', a ∈ F.W ∨ a ∈ F.R ∨ s.heap.get? a = none) → Q (.ref t) s') (hs : s.heap = hp := by rfl) :
    wpAny (MM C) A (call (.type "tuple") [.ref it]) Q E s := by
  refine callType_codes (Q₁ := fun obj s₁ => s₁.TypeIs obj "tuple" ∧ Q obj s₁) PySem.F.called_tuple (PySem.F.typeCall_tuple_1 _) PySem.F.entry_object_init
    (code_tuple_it FF hw hit hA.in1 hT hsz (fun s' t acc' as' st ht hr ha => ⟨⟨_, ht, rfl⟩, h s' t acc' as' st ht hr ha⟩) hs) fun obj s₁ h₁ => ?_
  exact ⟨h₁.1, PySem.F.args_object_init_2 obj _, object_init_meets PySem.F.called_tuple.init.lookup PySem.F.called_tuple.made (by decide) thePw C.w A.in1 _ s₁ ⟨h₁.1, rfl, h₁.2⟩⟩
/-- tuple(list) -/
theorem call_tuple_l (FF : Facts C) {hp : Heap} {l : Addr} {xs : Array Value} {ds : List PyData} {as : List Addr} {Q : Value → Shared → Prop} (hl : hp.IsList l xs) (hr : ReadsAll hp xs.toList ds as)
    (h : ∀ s' t, Stp C [] [] s s' → s'.gens = s.gens → s'.heap.get? t = some { cls := .type "tuple", data := .seq xs } → ReadsAll s'.heap xs.toList ds as → Q (.ref t) s') (hsz : xs.size ≤ 100000) (hs : s.heap = hp := by rfl) :
    wpAny (MM C) A (call (.type "tuple") [.ref l]) Q E s := by
  subst hs
  refine call_tuple_list (hsz := by rw [sizeLine_eq]; omega) hl fun h' hk => ?_
  have st₁ : Stp C [] [] s { s with heap := h' } := Stp.keeps hk rfl rfl
  have st₂ : Stp C [] [] { s with heap := h' } { s with heap := h'.push { cls := .type "tuple", data := .seq xs } } := Stp.push (s := { s with heap := h' }) _
  have st := st₁.trans st₂
  exact h _ _ st rfl (Heap.get?_push_size _ rfl) (st.readsAll hr (by simp))
end
end Mine

namespace Mine
open PySem PySem.Calls PySem.W PyProof.Rows
section
variable {C : Cx} {A : Around} {E : Value → Shared → Prop} {s : Shared} {env : Env}

theorem genCode (FF : Facts C) {i : Nat} (hi : i ∈ tabIx) {hp : Heap} (hw : Wd C hp) {pos : Pos} {q : Str} {scope : Scope} {Q : Value → Shared → Prop} (hc : env.code = .ref (C.fc i))
    (h : ∀ c s', Stp C [] [] s s' → s'.gens = s.gens → Q c s') (hs : s.heap = hp := by rfl) : wpAny (MM C) A (genexprCode env pos q scope) Q E s := by
  subst hs
  obtain ⟨ps, hok, htab⟩ := hw.tabs i hi
  cases hf : codeAmong pos ps.toList with
  | some c' => exact wpAny_genexprCode_hit hc hok hf (h _ _ (.refl _) rfl)
  | none =>
    refine wpAny_genexprCodeX hc hok htab hf fun c' h' tk hx _ _ hok' _ htab' _ => h _ _ ?_ rfl
    obtain ⟨ht₀, hP⟩ := FF.tab0 i hi
    have neP : ∀ b o, (C.hb.get? b = none ∨ o.cls ≠ .none) → s.heap.get? b = some o → b ≠ C.fp i := by
      rintro b o hb e rfl
      rcases hb with hb | hb
      · rw [ht₀.2] at hb; cases hb
      · rw [htab.2] at e; cases e; exact hb rfl
    refine ⟨fun b o _ hb e => hx b o (neP b o hb e) e, fun b o xs n hcl hd e => hx b o (neP b o (.inr (by rw [hcl]; nofun)) e) e, fun b o _ e => ?_, fun _ _ _ e => e, rfl, id, fun w => ?_⟩
    · by_cases hb : b = C.fp i
      · exact ⟨_, hb ▸ htab'.2⟩
      · exact ⟨o, hx b o hb e⟩
    · refine ⟨w.old.step_table ht₀ htab htab' hx hP, fun o e => hx _ _ (Ne.symm hP) (w.stat o e), fun j hj => ?_, fun p hp => ?_⟩
      · by_cases q : j = i
        · subst q; exact ⟨_, hok', htab'⟩
        obtain ⟨ps', a, b⟩ := w.tabs j hj
        have d1 := (FF.tabd j hj i hi).1
        have d2 := (FF.tabd j hj i hi).2 q
        exact ⟨ps', a.extBut hx d1 d2, b.extBut hx d1 d2⟩
      · obtain ⟨o, e, d⟩ := w.pin p hp
        have hn := FF.pinf p hp
        exact ⟨o, hx _ _ (fun z => by rw [z, ht₀.2] at hn; cases hn) e, d⟩

theorem Room.over {k : Nat} (x : Room (k + 1) A) {c : Code} (hf : c.weight ≤ 1) (hu : c.cUnits ≤ 3) : Room k (A.over c []) :=
  ⟨x.handled, by have := x.depth; show A.depth + 0 + c.weight + k < _; omega, by have := x.units; show A.units + 0 + c.cUnits + 10 * k + 100 < _; omega⟩

theorem weight_gl (elt : Expr) (gs : List Comprehension) (scope : Scope) (pos : Pos) (it acc : Value) (env : Env) : (Code.compLoop (.GeneratorExp elt gs scope pos) 0 it acc env).weight = 1 := rfl
theorem units_gl (elt : Expr) (gs : List Comprehension) (scope : Scope) (pos : Pos) (it acc : Value) (env : Env) : (Code.compLoop (.GeneratorExp elt gs scope pos) 0 it acc env).cUnits = 3 := rfl
/-- what a generator expression's element does with an item -/
def EltOk (C : Cx) (k : Nat) (genv : Env) (x : Str) (elt : Expr) (RC : List Addr) (s₂ : Shared) (d d' : PyData) : Prop :=
  ∀ (A : Around) (s : Shared) (l : List (Str × Value)) (v : Value) (as : List Addr) (Q : Value → Shared → Prop) (E : Value → Shared → Prop), Room k A → Wd C s.heap → Loc C s.heap genv.locals l → l.lookup x = some v → Reads s.heap v d as → Agree C RC [] s₂ s →
    (∀ y s' bs, Reads s'.heap y d' bs → (∀ b ∈ bs, b ∈ as ∨ s.heap.get? b = none) → Stp C [] [] s s' → Q y s') → wpAny (MM C) A (eval elt genv) Q E s

theorem bind_step {α β : Type} (x : α) (f : α → Sem β) : (pure x >>= f : Sem β) = f x := rfl

set_option maxHeartbeats 400000 in
theorem seg_genloop (FF : Facts C) {k : Nat} (hA : Room (k + 1) A) {elt iter : Expr} {x : Str} {px pos : Pos} {scope : Scope} {it : Addr} {genv : Env} {RC : List Addr} {s₂ : Shared} (hL₂ : s₂.heap.get? genv.locals = none) (hRC : ∀ a ∈ RC, Live C s₂.heap a)
    (hx : genv.kindOf x = some .local) (hp : (genv.scope.kind == .class || (genv.scope.kind == .module && genv.locals != genv.globals)) = false) (hco : genv.scope.isCoroutine = false) :
    ∀ (ds ds' : List PyData), Paired (EltOk C k genv x elt RC s₂) ds ds' → ∀ (F : Ft) (s : Shared) (l : List (Str × Value)), Iter C (A.over (.compLoop (.GeneratorExp elt [⟨.Name x px, iter, [], 0⟩] scope pos) 0 (.ref it) .none genv) []) it ds F s → Wd C s.heap → Loc C s.heap genv.locals l →
      genv.locals ∉ F.W → genv.locals ∉ F.R → Agree C RC [] s₂ s → (∀ a ∈ RC, a ∉ F.W) →
      SegI C A (fun r => r = .ok .next) ds' ⟨genv.locals :: F.W, F.R ++ RC, F.V⟩ s (.compLoop (.GeneratorExp elt [⟨.Name x px, iter, [], 0⟩] scope pos) 0 (.ref it) .none genv)
        ((MM C).den (.compLoop (.GeneratorExp elt [⟨.Name x px, iter, [], 0⟩] scope pos) 0 (.ref it) .none genv)) [] s := by
  intro ds ds' hpd
  induction hpd with
  | nil =>
    intro F s l hit hw hloc hLW hLR hag hRW
    show SegI C A _ _ _ s _ ((compTurn (.GeneratorExp elt [⟨.Name x px, iter, [], 0⟩] scope pos) 0 (.ref it) .none genv).onRaise (leaving genv)) [] s
    rw [compTurn_gen, Sem.onRaise_eq_wrap]
    refine segI_bindW (wpAny_standAt ?_)
    refine segI_bindW (hit s (.refl _) hw _ _ fun s₁ st => ?_)
    exact segI_end (.ok .next) rfl (st.mono (fun a h => .tail _ h) fun _ h => h)
  | @cons d d' ds ds' helt helts ih =>
    intro F s l hit hw hloc hLW hLR hag hRW
    show SegI C A _ _ _ s _ ((compTurn (.GeneratorExp elt [⟨.Name x px, iter, [], 0⟩] scope pos) 0 (.ref it) .none genv).onRaise (leaving genv)) [] s
    rw [compTurn_gen, Sem.onRaise_eq_wrap]
    refine segI_bindW (wpAny_standAt ?_)
    refine segI_bindW (hit s (.refl _) hw _ _ fun v s₁ as F₂ hr has st nx hit₂ => ?_)
    refine segI_bindW (wpAny_of_eq (rfl : letOwnedTupleGo (.Name x px) (.ref it) v = pure ()) ?_)
    have hLa : ∃ o, s.heap.get? genv.locals = some o := let ⟨o, _, _, e, _⟩ := hloc.ns; ⟨o, e⟩
    have hLW₂ := nx.offW hLa hLW
    have hLR₂ := nx.offR hLa hLW hLR
    refine segI_bindW (wpAny_assign_Name (st_local FF (st.loc hloc hLW) (fun s₃ hloc₃ st₃ _ => ?_) (hl := hx) (hcl := hp)))
    have hasL : ∀ a ∈ as, a ≠ genv.locals := fun a ha q => by
      subst q
      rcases (has _ ha).2 with q | q | q
      · exact hLW q
      · exact hLR q
      · obtain ⟨o, e⟩ := hLa; rw [q] at e; cases e
    have hRCL : ∀ a ∈ RC, a ≠ genv.locals := fun a ha q => by subst q; obtain ⟨o, e, _⟩ := hRC _ ha; rw [hL₂] at e; cases e
    have hag₃ : Agree C RC [] s₂ s₃ := (hag.trans (st.agree hRW fun _ h => nomatch h)).trans (st₃.agree (fun a ha => nin1 (hRCL a ha)) fun _ h => nomatch h)
    have hw₃ := st₃.wd (st.wd hw)
    have hr₃ := st₃.reads hr fun a ha => nin1 (hasL a ha)
    have hpl : (put x v l).lookup x = some v := by rw [put_lookup, if_pos rfl]
    refine segI_bindW ?_
    rw [List.forIn_nil]
    refine wpAny_pure ?_
    simp only [if_true]
    have hy : ∀ v, yieldOut genv v = yieldValue v := fun v => by simp only [yieldOut, hco, Bool.false_eq_true, if_false]
    simp only [hy]
    rw [Sem.bind_eq_wrap', Sem.bind_eq_wrap', Sem.wrap_wrap, Sem.wrap_wrap]
    refine segI_wrap (helt _ s₃ _ v as _ _ (hA.over (Nat.le_of_eq (weight_gl ..)) (Nat.le_of_eq (units_gl ..))) hw₃ hloc₃ hpl hr₃ hag₃ fun y s₄ bs hry hbs st₄ => ?_)
    have all : Stp C (genv.locals :: F.W) F.V s s₄ := ((st.mono (W' := genv.locals :: F.W) (V' := F.V) (fun a h => .tail _ h) fun _ h => h).more st₃ (all1 (.inl (.head _)))).more st₄ all0
    have st13 : Stp C [genv.locals] [] s₁ s₃ := st₃
    have frsh : ∀ b, s₃.heap.get? b = none → b ∈ F.W ∨ s.heap.get? b = none := fun b hb => by
      rcases st₃.none_of hb with q | q
      · rw [List.mem_singleton.mp q] at hb
        obtain ⟨o, _, _, e, _⟩ := hloc₃.ns
        rw [e] at hb; cases hb
      · exact st.none_of q
    have live₃ : ∀ a ∈ F₂.W ++ F₂.R, Live C s₃.heap a := fun a ha => st₃.live (nx.live a ha) (nin1 fun q => by subst q; exact (List.mem_append.mp ha).elim hLW₂ hLR₂)
    have bsW : ∀ b ∈ bs, b ∉ F₂.W := fun b hb => by
      rcases hbs b hb with q | q
      · exact (has b q).1
      · intro z
        obtain ⟨o, e, _⟩ := live₃ b (List.mem_append_left _ z)
        rw [q] at e; cases e
    have bsL : ∀ b ∈ bs, b ≠ genv.locals := fun b hb z => by
      subst z
      rcases hbs _ hb with q | q
      · exact hasL _ q rfl
      · obtain ⟨o, _, _, e, _⟩ := hloc₃.ns
        rw [e] at q; cases q
    refine segI_at (segI_yield rfl rfl rfl ⟨all, bs, ⟨genv.locals :: F₂.W, F₂.R ++ RC, F₂.V⟩, hry, fun b hb => ?_, ⟨fun a h => ?_, fun a h => ?_, nx.V, fun a h => ?_, fun i hi => (let ⟨g, e⟩ := nx.vlive i hi; ⟨g, st₄.gens i g (by simp) (st₃.gens i g (by simp) e)⟩)⟩, fun s'' ag hw'' => ?_⟩)
    · refine ⟨fun q => (List.mem_cons.mp q).elim (bsL b hb) (bsW b hb), ?_⟩
      rcases hbs b hb with q | q
      · rcases (has b q).2 with z | z | z
        · exact .inl (.tail _ z)
        · exact .inr (.inl (List.mem_append_left _ z))
        · exact .inr (.inr z)
      · rcases frsh b q with z | z
        · exact .inl (.tail _ z)
        · exact .inr (.inr z)
    · rcases List.mem_cons.mp h with rfl | h
      · exact .inl (.head _)
      · exact (nx.W a h).imp (fun h => .tail _ h) id
    · rcases List.mem_append.mp h with h | h
      · rcases nx.R a h with z | z | z
        · exact .inl (.tail _ z)
        · exact .inr (.inl (List.mem_append_left _ z))
        · exact .inr (.inr z)
      · exact .inr (.inl (List.mem_append_right _ h))
    · have st04 : Stp C [] [] s₃ s₄ := st₄
      rcases List.mem_cons.mp (by simpa using h : a ∈ genv.locals :: (F₂.W ++ (F₂.R ++ RC))) with rfl | h
      · obtain ⟨o, _, _, e, _⟩ := (st04.loc hloc₃).ns
        exact ⟨o, e, .inl (nb hloc.new)⟩
      · rw [← List.append_assoc] at h
        rcases List.mem_append.mp h with h | h
        · exact st04.live (live₃ a h) (by simp)
        · exact st04.live (hag₃.live (hRC a h) h) (by simp)
    · have agF : ∀ a ∈ F₂.W ++ F₂.R, a ∈ (genv.locals :: F₂.W) ++ (F₂.R ++ RC) := fun a h => by
        rcases List.mem_append.mp h with h | h
        · exact List.mem_append_left _ (.tail _ h)
        · exact List.mem_append_right _ (List.mem_append_left _ h)
      have agRC : Agree C RC [] s₄ s'' := ag.mono (fun a h => List.mem_append_right _ (List.mem_append_right _ h)) (fun _ h => nomatch h)
      refine segI_again rfl (ih F₂ s'' (put x v l) (hit₂.agree ?_) hw'' ?_ hLW₂ hLR₂ ?_ ?_)
      · exact ((st₃.agree (fun a h q => (List.mem_append.mp (List.mem_singleton.mp q ▸ h : genv.locals ∈ F₂.W ++ F₂.R)).elim hLW₂ hLR₂) fun _ _ h => nomatch h).trans (st₄.agree (fun _ _ h => nomatch h) fun _ _ h => nomatch h)).trans (ag.mono agF fun _ h => h)
      · have hl₄ := st₄.loc hloc₃
        obtain ⟨o, es, ep, e, r⟩ := hl₄.ns
        exact ⟨⟨o, es, ep, ag.keep _ _ (.head _) (.inl (nb hloc.new)) e, r⟩, hloc.new⟩
      · exact (hag₃.trans (st₄.agree (fun _ _ h => nomatch h) fun _ h => nomatch h)).trans agRC
      · intro a ha q
        rcases nx.W a q with z | z
        · exact hRW a ha z
        · obtain ⟨o, e, _⟩ := hag.live (hRC a ha) ha
          rw [z] at e; cases e
end
end Mine

namespace Mine
open PySem PySem.Calls PySem.W PyProof.Rows
section
variable {C : Cx} {A : Around} {E : Value → Shared → Prop} {s : Shared} {env : Env}

theorem weight_gs (elt : Expr) (gs : List Comprehension) (scope : Scope) (pos : Pos) (it acc : Value) (env : Env) : (Code.compStart (.GeneratorExp elt gs scope pos) 0 it acc env).weight = 1 := rfl

theorem seg_genstart (FF : Facts C) {k : Nat} (hA : Room (k + 1) A) {elt iter : Expr} {x : Str} {px pos : Pos} {scope : Scope} {it : Addr} {genv : Env} {RC : List Addr} {s₂ s : Shared} {l : List (Str × Value)} {ds ds' : List PyData} {F : Ft} (hL₂ : s₂.heap.get? genv.locals = none) (hRC : ∀ a ∈ RC, Live C s₂.heap a)
    (hx : genv.kindOf x = some .local) (hp : (genv.scope.kind == .class || (genv.scope.kind == .module && genv.locals != genv.globals)) = false) (hco : genv.scope.isCoroutine = false)
    (hpd : Paired (EltOk C k genv x elt RC s₂) ds ds') (hit : ItOk C k it ds F s) (hw : Wd C s.heap) (hloc : Loc C s.heap genv.locals l) (hLW : genv.locals ∉ F.W) (hLR : genv.locals ∉ F.R) (hag : Agree C RC [] s₂ s) (hRW : ∀ a ∈ RC, a ∉ F.W) :
    SegI C A (fun r => r = .ok .next) ds' ⟨genv.locals :: F.W, F.R ++ RC, F.V⟩ s (.compStart (.GeneratorExp elt [⟨.Name x px, iter, [], 0⟩] scope pos) 0 (.ref it) .none genv)
        ((MM C).den (.compStart (.GeneratorExp elt [⟨.Name x px, iter, [], 0⟩] scope pos) 0 (.ref it) .none genv)) [] s := by
  have loop := seg_genloop FF hA hL₂ hRC hx hp hco ds ds' hpd F s l (elt := elt) (iter := iter) (px := px) (pos := pos) (scope := scope) (hit.it _ (hA.over (Nat.le_of_eq (weight_gl ..)) (Nat.le_of_eq (units_gl ..)))) hw hloc hLW hLR hag hRW
  show SegI C A _ _ _ s _ ((compStart (.GeneratorExp elt [⟨.Name x px, iter, [], 0⟩] scope pos) 0 (.ref it) .none genv).onRaise (leaving genv)) [] s
  unfold compStart
  rw [Sem.onRaise_eq_wrap]
  show SegI C A _ _ _ s _ ((ask >>= _).wrap _ _ _ _) [] s
  refine segI_bindW (wpAny_askSetting ?_)
  split
  · exact segI_again rfl loop
  · refine segI_bindW (wpAny_rule ?_)
    show SegI C A _ _ _ s _ ((standAt iter.pos >>= _).wrap _ _ _ _) [] s
    exact segI_bindW (wpAny_standAt (segI_bindW (hit.self _ s (.refl _) hw _ _ (segI_again rfl loop))))

theorem ItOk.less {j k : Nat} {it : Addr} {ds : List PyData} {F : Ft} (x : ItOk C j it ds F s) (h : j ≤ k) : ItOk C k it ds F s := ⟨fun A hA => x.it A (hA.less h), x.live, x.vlive, x.self⟩

set_option maxHeartbeats 400000 in
theorem ev_genexp (FF : Facts C) {i : Nat} {elt iter : Expr} {x : Str} {px pos : Pos} {scope : Scope} {cl : List (Str × Addr)} {Q : Value → Shared → Prop} (hclos : closureFor scope env = pure cl) (hcode : env.code = .ref (C.fc i)) (hroom : A.depth < recursionLimit)
    (h : wpAny (MM C) A (eval iter env) (fun xv s₁ => wpAny (MM C) A (pyIter xv) (fun itv s₂ => ∃ it k ds ds' F RC, itv = .ref it ∧ Wd C s₂.heap ∧ ItOk C k it ds F s₂ ∧ (∀ a ∈ RC, Live C s₂.heap a) ∧ (∀ a ∈ RC, a ∉ F.W) ∧
      (∀ L code, s₂.heap.get? L = none → Paired (EltOk C k (genEnv scope cl L code builtinsNs env) x elt RC s₂) ds ds') ∧
      ∀ s' a F', Stp C [] [] s₂ s' → ItOk C (k + 2) a ds' F' s' → s'.TypeIs (.ref a) "generator" → (∀ b ∈ F'.W, b ∈ F.W ∨ s₂.heap.get? b = none) → (∀ b ∈ F'.R, b ∈ F.R ∨ b ∈ RC ∨ s₂.heap.get? b = none) → (∀ j ∈ F'.V, j ∈ F.V ∨ s₂.gens[j]? = none) → Q (.ref a) s') E s₁) E s)
    (hi : i ∈ tabIx := by decide) (hg : env.globals = mainGlobals := by rfl) (hco : scope.isCoroutine = false := by rfl) (hcell : (scope.names.all fun y => y.2 != .cell) = true := by rfl) (h0 : scope.names.lookup (Str.ofString ".0") = some NameKind.local := by rfl) (hkind : scope.kind = .function := by rfl)
    (hx : scope.names.lookup x = some .local := by rfl) (hf : ∀ x, genFold iter env x = pure x := by intro _; rfl) :
    wpAny (MM C) A (eval (.GeneratorExp elt [⟨.Name x px, iter, [], 0⟩] scope pos) env) Q E s := by
  refine wpAny_GeneratorExp_make hco hclos (fun y hy => by have := List.all_eq_true.mp hcell y hy; simpa using this) h0 hkind hroom (wpAny_mono h (fun xv s₁ h₁ => wpAny_mono h₁ (fun itv s₂ h₂ => ?_) fun _ _ e => e) fun _ _ e => e) hf
  obtain ⟨it, k, ds, ds', F, RC, rfl, hw, hit, hRC, hRW, hpd, hQ⟩ := h₂
  refine ⟨FF.lim _ hw, genCode FF hi hw hcode fun code s₃ st₃ hg₃ => ?_⟩
  have hw₃ := st₃.wd hw
  obtain ⟨bn, bname, bne, bobj, bcls, bdict, bdata⟩ := FF.bmod _ hw₃
  refine wpAny_builtinsFor (hg ▸ bn) bname bne bobj bcls bdict bdata fun h' hn hsb => ?_
  have hL₃ := get_size s₃.heap
  have hk : ∀ b o, s₃.heap.get? b = some o → h'.get? b = some o := fun b o e => (hsb.2 b (Nat.ne_of_lt (Heap.lt_size e))).trans (Heap.get?_push_of_some _ e)
  have hL₂ : s₂.heap.get? s₃.heap.objs.size = none := (st₃.none_of hL₃).elim (fun h => nomatch h) id
  have hLa : ∃ o, h'.get? s₃.heap.objs.size = some o := let ⟨o, _, _, e, _⟩ := hn; ⟨o, e⟩
  generalize hgo : ({ cls := .type "generator", data := .fields #[.int s₃.gens.size 0, .str "<genexpr>" (s₃.toks + 1), .str (env.qual ++ "<genexpr>") (s₃.toks + 1 + 1)] } : Obj) = go
  generalize hcd : Code.compStart (.GeneratorExp elt [⟨.Name x px, iter, [], 0⟩] scope pos) 0 (.ref it) .none (genEnv scope cl s₃.heap.objs.size code builtinsNs env) = cd
  have st₄ : Stp C [] [] s₃ { heap := h'.push go, gens := s₃.gens.push (.fresh cd), drawn := s₃.drawn, toks := s₃.toks + 1 + 1 + 1, os := s₃.os } :=
    ⟨fun b o _ _ e => Heap.get?_push_of_some _ (hk b o e), fun b o _ _ _ _ e => Heap.get?_push_of_some _ (hk b o e), fun b o _ e => ⟨o, Heap.get?_push_of_some _ (hk b o e)⟩,
     fun j y _ e => by
       have hj : j < s₃.gens.size := by
         rcases Nat.lt_or_ge j s₃.gens.size with q | q
         · exact q
         · rw [Array.getElem?_eq_none q] at e; cases e
       show (s₃.gens.push _)[j]? = some y
       rw [Array.getElem?_push_lt hj, ← Array.getElem?_eq_getElem hj]; exact e,
     rfl, fun b => AllBare.push b rfl, fun w => w.keeps fun b o e => Heap.get?_push_of_some _ (hk b o e)⟩
  have st := st₃.trans st₄
  have hga : h'.get? h'.objs.size = none := get_size h'
  have ha₂ : s₂.heap.get? h'.objs.size = none := by
    rcases st₃.none_of (show s₃.heap.get? h'.objs.size = none from by
      cases e : s₃.heap.get? h'.objs.size with
      | none => rfl
      | some o => have := hk _ _ e; rw [hga] at this; cases this) with q | q
    · exact nomatch q
    · exact q
  have hv₂ : s₂.gens[s₃.gens.size]? = none := by rw [← hg₃]; simp
  have noF : ∀ b ∈ F.W ++ F.R, s₂.heap.get? b ≠ none := fun b hb q => by obtain ⟨o, e, _⟩ := hit.live b hb; rw [q] at e; cases e
  have lk : (fun y => if y = Str.ofString ".0" then some (Value.ref it) else none) = fun y => (put ".0" (.ref it) []).lookup y := funext fun y => (put_lookup ".0" (.ref it) [] y).symm
  have hloc : Loc C (h'.push go) s₃.heap.objs.size (put ".0" (.ref it) []) := ⟨by rw [lk] at hn; exact hn.push _, hw.none hL₂⟩
  have hg₄ : (s₃.gens.push (.fresh cd))[s₃.gens.size]? = some (.fresh cd) := by simp
  have hIs : (h'.push go).IsGen h'.objs.size s₃.gens.size := ⟨go, _, _, Heap.get?_push_size _ (by rw [← hgo]; rfl), by rw [← hgo], by rw [← hgo], by rw [← hgo]⟩
  have ag4 : ∀ (X : List Addr) (Y : List Nat), Agree C X Y s₂ { heap := h'.push go, gens := s₃.gens.push (.fresh cd), drawn := s₃.drawn, toks := s₃.toks + 1 + 1 + 1, os := s₃.os } := fun X Y => st.agree (fun _ _ h => nomatch h) fun _ _ h => nomatch h
  have hLW : s₃.heap.objs.size ∉ F.W := fun q => noF _ (List.mem_append_left _ q) hL₂
  have hLR : s₃.heap.objs.size ∉ F.R := fun q => noF _ (List.mem_append_right _ q) hL₂
  refine hQ _ h'.objs.size ⟨s₃.heap.objs.size :: F.W, h'.objs.size :: (F.R ++ RC), s₃.gens.size :: F.V⟩ st
    (itok_gen (F := ⟨s₃.heap.objs.size :: F.W, F.R ++ RC, F.V⟩) (fin := fun r => r = .ok .next) FF (k := k + 1) (fun x hx => by rw [hx]; rfl) (hw.none ha₂) hIs ?_ ?_ ?_ ?_ hg₄ fun A' hA' s'' ag hw'' => ?_)
    ⟨go, Heap.get?_push_size _ (by rw [← hgo]; rfl), by rw [← hgo]⟩ ?_ ?_ ?_
  · intro q
    rcases List.mem_cons.mp q with q | q
    · obtain ⟨o, e⟩ := hLa; rw [← q, hga] at e; cases e
    · exact noF _ (List.mem_append_left _ q) ha₂
  · intro q
    obtain ⟨y, e⟩ := hit.vlive _ q
    rw [hv₂] at e; cases e
  · intro b hb
    rcases List.mem_cons.mp (show b ∈ s₃.heap.objs.size :: (F.W ++ (F.R ++ RC)) from hb) with rfl | hb
    · obtain ⟨o, _, _, e, _⟩ := hloc.ns
      exact ⟨o, e, .inl (nb hloc.new)⟩
    · rw [← List.append_assoc] at hb
      rcases List.mem_append.mp hb with hb | hb
      · exact st.live (hit.live b hb) (by simp)
      · exact st.live (hRC b hb) (by simp)
  · intro j hj
    obtain ⟨y, e⟩ := hit.vlive j hj
    exact ⟨y, st.gens j y (by simp) e⟩
  · rw [← hcd]
    show SegI C A' _ _ _ s'' _ _ [] s''
    refine seg_genstart (genv := genEnv scope cl s₃.heap.objs.size code builtinsNs env) FF hA' (s₂ := s₂) (l := put (Str.ofString ".0") (.ref it) []) hL₂ hRC hx (by show (scope.kind == .class || (scope.kind == .module && _)) = false; rw [hkind]; rfl) hco (hpd _ code hL₂) (hit.agree ((ag4 _ _).trans (ag.mono (fun a h => ?_) fun _ h => h))) hw'' ?_ hLW hLR ((ag4 _ _).trans (ag.mono (fun a h => List.mem_append_right _ (List.mem_append_right _ h)) fun _ h => nomatch h)) hRW
    · rcases List.mem_append.mp h with h | h
      · exact List.mem_append_left _ (.tail _ h)
      · exact List.mem_append_right _ (List.mem_append_left _ h)
    · obtain ⟨o, es, ep, e, r⟩ := hloc.ns
      exact ⟨⟨o, es, ep, ag.keep _ _ (.head _) (.inl (nb hloc.new)) e, r⟩, hloc.new⟩
  · intro b hb
    rcases List.mem_cons.mp hb with rfl | hb
    · exact .inr hL₂
    · exact .inl hb
  · intro b hb
    rcases List.mem_cons.mp hb with rfl | hb
    · exact .inr (.inr ha₂)
    · exact (List.mem_append.mp hb).imp id .inl
  · intro j hj
    rcases List.mem_cons.mp hj with rfl | hj
    · exact .inr hv₂
    · exact .inl hj
end
end Mine

namespace Mine
open PySem PySem.Calls PySem.W PyProof.Rows
section
variable {C : Cx} {A : Around} {E : Value → Shared → Prop} {s : Shared} {env : Env}

def bindP (kindOf : Str → Option NameKind) : List (Str × Value) → List (Str × Value) → List (Str × Value)
  | [], l => l
  | (n, v) :: r, l => bindP kindOf r (if kindOf n = some .local then put n v l else l)
theorem bindL_eq (kindOf : Str → Option NameKind) : ∀ (binds l : List (Str × Value)), bindL kindOf binds (fun y => l.lookup y) = fun y => (bindP kindOf binds l).lookup y
  | [], l => rfl
  | (n, v) :: r, l => by
    unfold bindL bindP
    by_cases h : kindOf n = some .local
    · rw [if_pos h, if_pos h, ← bindL_eq kindOf r]
      congr 1
      funext y
      exact (put_lookup n v l y).symm
    · rw [if_neg h, if_neg h]
      exact bindL_eq kindOf r l
theorem get_ge {h : Heap} {a : Addr} (ha : h.objs.size ≤ a) : h.get? a = none := by
  cases e : h.get? a with
  | none => rfl
  | some o => exact absurd (Heap.lt_size e) (Nat.not_lt.mpr ha)

abbrev fnEnvC (C : Cx) (i : Nat) (L : Addr) (pm doc : Value) : Env := callEnvC (docDef (nameOf (fnStmt i)) (paramsOf (fnStmt i)) (bodyOf (fnStmt i)) (scopeOf (fnStmt i)) pm (.ref (C.fc i)) doc) L (C.fa i)
/-- entering a def with cells -/
theorem enter_fnC (FF : Facts C) {i : Nat} {vals : List Value} {binds : List (Str × Value)} {Q : Value → Shared → Prop} {k : Nat} {hp : Heap} (hi : i ∈ fnIx) (hw : Wd C hp) (hA : Room (k + 1) A)
    (hbind : ∀ pm doc, bindArgs (docDef (nameOf (fnStmt i)) (paramsOf (fnStmt i)) (bodyOf (fnStmt i)) (scopeOf (fnStmt i)) pm (.ref (C.fc i)) doc) ⟨vals, []⟩ = pure binds)
    (h : ∀ (s₁ : Shared) (L : Addr) (pm doc : Value) (E' : Value → Shared → Prop), Loc C s₁.heap L (bindP (fun x => (scopeOf (fnStmt i)).names.lookup x) binds []) →
      (∀ n c, (cellsFrom (L + 1) (scopeOf (fnStmt i)).names []).lookup n = some c → s₁.heap.IsCell c (bindC (fun x => (scopeOf (fnStmt i)).names.lookup x) binds (fun _ => none) n)) →
      (∀ a, L ≤ a → s.heap.get? a = none) → (∀ a, L ≤ a → C.h₀.get? a = none) → Stp C [] [] s s₁ → s₁.gens = s.gens → Wd C s₁.heap → Room k (A.deeper (fnEnvC C i L pm doc)) →
      wpAny (MM C) (A.deeper (fnEnvC C i L pm doc)) (execs (bodyOf (fnStmt i)) (fnEnvC C i L pm doc)) (fun f s' => Q (match f with | .ret v => v | _ => .none) s') E' s₁) (hs : s.heap = hp := by rfl)
    (hkind : (binds.all fun x => (scopeOf (fnStmt i)).names.lookup x.1 == some NameKind.local || (scopeOf (fnStmt i)).names.lookup x.1 == some NameKind.cell) = true := by rfl)
    (hco : (scopeOf (fnStmt i)).isCoroutine = false := by rfl) (hgen : (scopeOf (fnStmt i)).isGenerator = false := by rfl) (hk : (scopeOf (fnStmt i)).kind = .function := by rfl) :
    wpAny (MM C) A (call (.ref (C.fa i)) vals) Q E s := by
  subst hs
  obtain ⟨o, pm, doc, ho, hc, hd, hcd⟩ := FF.fn i hi _ hw
  refine wpAny_call (codeAny_call_cells (fd := docDef (nameOf (fnStmt i)) (paramsOf (fnStmt i)) (bodyOf (fnStmt i)) (scopeOf (fnStmt i)) pm (.ref (C.fc i)) doc) (binds := binds) hA.d ho hd (FF.lim _ hw) hcd rfl (hbind pm doc) rfl
    (fun x hx => by
      have := List.all_eq_true.mp hkind x hx
      rcases Bool.or_eq_true_iff.mp this with q | q
      · exact .inl (beq_iff_eq.mp q)
      · exact .inr ⟨beq_iff_eq.mp q, cellsFrom_some _ _ _ (.inl (beq_iff_eq.mp q))⟩) (fun s₁ x => ?_) hco hgen hk)
  obtain ⟨h', tk, rfl, hk₁⟩ := x.done
  refine h _ s.heap.objs.size pm doc _ ⟨?_, hw.none (get_size _)⟩ x.cell (fun a ha => get_ge ha) (fun a ha => hw.none (get_ge ha)) (Stp.keeps hk₁ rfl rfl) rfl (hw.keeps hk₁) hA.deeper
  have := x.toInCall.ns
  rw [show (bindL (callEnvC (docDef (nameOf (fnStmt i)) (paramsOf (fnStmt i)) (bodyOf (fnStmt i)) (scopeOf (fnStmt i)) pm (.ref (C.fc i)) doc) s.heap.objs.size (C.fa i)).kindOf binds fun _ => none) = fun y => (bindP (fun x => (scopeOf (fnStmt i)).names.lookup x) binds []).lookup y from bindL_eq _ binds []] at this
  exact this

/-- a call of a type or of a built-in, plain arguments -/
theorem callWith_bi {pos : Pos} {f : Value} {e : Expr} {rest : List Expr} {Q : Value → Shared → Prop} (h : wpAny (MM C) A (spliced (backTo pos (starEach (e :: rest) env))) (fun vs s₁ => wpAny (MM C) A (call f vs) Q E s₁) E s)
    (hk : keeperOf f = pure .machine := by rfl) (he : starEach (e :: rest) env = (false, eval e env) :: starEach rest env := by rfl) (hplain : (backTo pos (starEach rest env)).any (·.1) = false := by rfl) :
    wpAny (MM C) A (callWith pos f [] (backTo pos (starEach (e :: rest) env)) []) Q E s := by
  rw [he] at h ⊢
  exact callWith_of (P := fun _ => True) (by show ((false || (backTo pos (starEach rest env)).any (·.1)) || false) = false; rw [hplain]; rfl) (fun _ _ => ⟨.machine, .inr (.inl rfl), fun A Q E s _ h => by rw [hk]; exact wpAny_pure h⟩) (evalArgs_plain (wpAny_mono h (fun _ _ h => ⟨trivial, h⟩) fun _ _ e => e))
/-- T(a): a built-in type or function by its name -/
theorem ev_callb (FF : Facts C) {hp : Heap} (hw : Wd C hp) (f : Value) {x : Str} {np pos : Pos} {e : Expr} {rest : List Expr} {Q : Value → Shared → Prop}
    (h : wpAny (MM C) A (spliced (backTo pos (starEach (e :: rest) env))) (fun vs s₁ => wpAny (MM C) A (call f vs) Q E s₁) E s) (hs : s.heap = hp := by rfl) (hm : x ∈ biNames := by decide) (hv : bootBuiltins x = some f := by rfl)
    (hn : x ≠ "__name__" := by decide)
    (hk : env.scope.kind = .function := by rfl) (hx : env.kindOf x = some .globalImplicit := by rfl) (hg : env.globals = mainGlobals := by rfl) (hb : env.builtins = builtinsNs := by rfl)
    (hd : (x == ("__debug__" : Str)) = false := by decide) (hkp : keeperOf f = pure .machine := by rfl)
    (he : starEach (e :: rest) env = (false, eval e env) :: starEach rest env := by rfl) (hplain : (backTo pos (starEach rest env)).any (·.1) = false := by rfl) :
    wpAny (MM C) A (eval (.Call (.Name x np) (e :: rest) [] pos) env) Q E s :=
  wpAny_Call_NameR (ev_b FF hw (callWith_bi h hkp he hplain) hs hm hv hn hk hx hg hb hd)
/-- the arguments one by one -/
theorem arg1 {pos : Pos} {e : Expr} {Q : List Value → Shared → Prop} (h : wpAny (MM C) A (eval e env) (fun v s₁ => Q [v] s₁) E s) (he : starEach [e] env = (false, eval e env) :: starEach [] env := by rfl) :
    wpAny (MM C) A (spliced (backTo pos (starEach [e] env))) Q E s := wpAny_items_cons (wpAny_mono h (fun v s₁ h₁ => wpAny_items_nil h₁) fun _ _ e => e) he
theorem arg2 {pos : Pos} {e e' : Expr} {Q : List Value → Shared → Prop} (h : wpAny (MM C) A (eval e env) (fun v s₁ => wpAny (MM C) A (eval e' env) (fun v' s₂ => Q [v, v'] s₂) E s₁) E s)
    (he : starEach [e, e'] env = (false, eval e env) :: starEach [e'] env := by rfl) (he' : starEach [e'] env = (false, eval e' env) :: starEach [] env := by rfl) :
    wpAny (MM C) A (spliced (backTo pos (starEach [e, e'] env))) Q E s := wpAny_items_cons (wpAny_mono h (fun v s₁ h₁ => arg1 h₁ he') fun _ _ e => e) he

theorem Stp.cell {W : List Addr} {V : List Nat} {s s' : Shared} {c : Addr} {v : Option Value} (x : Stp C W V s s') (h : s.heap.IsCell c v) (h₀ : C.h₀.get? c = none) (hW : c ∉ W := by simp) : s'.heap.IsCell c v :=
  let ⟨o, e, d⟩ := h; ⟨o, x.keep _ _ hW (.inl (nb h₀)) e, d⟩
theorem Agree.cell {F : List Addr} {V : List Nat} {s s' : Shared} {c : Addr} {v : Option Value} (x : Agree C F V s s') (h : s.heap.IsCell c v) (h₀ : C.h₀.get? c = none) (hF : c ∈ F := by simp) : s'.heap.IsCell c v :=
  let ⟨o, e, d⟩ := h; ⟨o, x.keep _ _ hF (.inl (nb h₀)) e, d⟩

/-- t[k] on a tuple -/
theorem ev_item_tuple {value slice : Expr} {pos : Pos} {Q : Value → Shared → Prop}
    (h : wpAny (MM C) A (eval value env) (fun o s₁ => wpAny (MM C) A (eval slice env) (fun i s₂ => ∃ l vs k u x, o = .ref l ∧ i = .int k u ∧ s₂.heap.IsTuple l vs ∧ 0 ≤ k ∧ k < 2 ^ 63 ∧ vs[k.toNat]? = some x ∧ Q x s₂) E s₁) E s)
    (hs : ∀ o i, subscripted slice false o i = operate [o, i] (getItem o i) := by intros; rfl) : wpAny (MM C) A (eval (.Subscript value slice pos) env) Q E s := by
  refine Subscript_ (wpAny_mono h (fun o s₁ h₁ => wpAny_mono h₁ (fun i s₂ h₂ => ?_) fun _ _ e => e) fun _ _ e => e)
  obtain ⟨l, vs, k, u, x, rfl, rfl, hl, h0, hhi, hx, hq⟩ := h₂
  have hlt : k.toNat < vs.size := by
    rcases Nat.lt_or_ge k.toNat vs.size with q | q
    · exact q
    · rw [Array.getElem?_eq_none q] at hx; cases hx
  have hsi : seqIndex? k vs.size = some k.toNat := by
    unfold seqIndex?
    have : ¬ k < 0 := by omega
    simp [this]; omega
  exact tail_any hl.typeIs PySem.F.slot_tuple_getitem.lookup (getItem_tuple hl (by omega) hhi hsi hx hq) (hs _ _)
end
end Mine

namespace Mine
open PySem PySem.Calls PySem.W PyProof.Rows
section
variable {C : Cx} {A : Around} {E : Value → Shared → Prop} {s : Shared} {env : Env}

abbrev iL (ns : List Int) : List PyData := ns.map PyData.int
theorem reads_int {h : Heap} {v : Value} {n : Int} {as : List Addr} (r : Reads h v (.int n) as) : ∃ t, v = .int n t ∧ as = [] := by
  cases r; exact ⟨_, rfl, rfl⟩
theorem reads_ints {h : Heap} : ∀ {ns : List Int} {vs : List Value} {as : List Addr}, ReadsAll h vs (iL ns) as → as = [] ∧ IntsAre vs ns
  | [], vs, as, r => by cases r; exact ⟨rfl, .nil⟩
  | n :: ns, vs, as, r => by
    obtain ⟨v, vs', a, b, rfl, rfl, r₁, r₂⟩ := readsAll_cons r
    obtain ⟨t, rfl, rfl⟩ := reads_int r₁
    obtain ⟨rfl, hI⟩ := reads_ints r₂
    exact ⟨rfl, .cons n t hI⟩
theorem intsAre_reads {h : Heap} : ∀ {vs : List Value} {ns : List Int}, IntsAre vs ns → ReadsAll h vs (iL ns) []
  | _, _, .nil => .nil
  | _, _, .cons n t r => by simpa using ReadsAll.cons (Reads.int n t) (intsAre_reads r)
theorem intsAre_get {vs : List Value} {ns : List Int} (h : IntsAre vs ns) : ∀ {i : Nat} {n : Int}, ns[i]? = some n → ∃ t, vs[i]? = some (.int n t) := by
  induction h with
  | nil => intro i n e; simp at e
  | cons m t _ ih =>
    intro i n e
    cases i with
    | zero => simp at e; subst e; exact ⟨t, by simp⟩
    | succ i => simpa using ih (by simpa using e)
/-- a tuple of iL -/
def TupI (h : Heap) (v : Value) (ns : List Int) : Prop := ∃ t vs, v = .ref t ∧ h.IsTuple t (List.toArray vs) ∧ IntsAre vs ns
theorem TupI.keep {W : List Addr} {V : List Nat} {s s' : Shared} {v : Value} {ns : List Int} (st : Stp C W V s s') (x : TupI s.heap v ns) : TupI s'.heap v ns :=
  let ⟨t, vs, e, ⟨o, g, c, n, d⟩, hI⟩ := x; ⟨t, vs, e, ⟨o, st.tup _ _ _ _ c d g, c, n, d⟩, hI⟩
theorem TupI.agree {F : List Addr} {V : List Nat} {s s' : Shared} {v : Value} {ns : List Int} (st : Agree C F V s s') (x : TupI s.heap v ns) : TupI s'.heap v ns :=
  let ⟨t, vs, e, ⟨o, g, c, n, d⟩, hI⟩ := x; ⟨t, vs, e, ⟨o, st.tup _ _ _ _ c d g, c, n, d⟩, hI⟩
theorem TupI.reads {h : Heap} {v : Value} {ns : List Int} (x : TupI h v ns) : Reads h v (.tuple (iL ns)) [] := by
  obtain ⟨t, vs, rfl, ⟨o, g, c, n, d⟩, hI⟩ := x
  exact .tuple g c d (by simpa using intsAre_reads hI)
theorem tupI_of {h : Heap} {v : Value} {ns : List Int} {as : List Addr} (r : Reads h v (.tuple (iL ns)) as) : as = [] ∧ TupI h v ns := by
  cases r with
  | tuple e hc hd r =>
    obtain ⟨rfl, hI⟩ := reads_ints r
    exact ⟨rfl, _, _, rfl, ⟨_, e, hc, _, by simpa using hd⟩, by simpa using hI⟩
theorem list_of {h : Heap} {v : Value} {ds : List PyData} {as : List Addr} (r : Reads h v (.list ds) as) : ∃ l xs bs, v = .ref l ∧ as = l :: bs ∧ h.IsList l xs ∧ ReadsAll h xs.toList ds bs := by
  cases r with
  | list e hc hd r => exact ⟨_, _, _, rfl, rfl, ⟨_, e, hc, _, hd⟩, r⟩

theorem paired_iL {P : PyData → PyData → Prop} {f : Int → Int} : ∀ {is : List Int}, (∀ i ∈ is, P (.int i) (.int (f i))) → Paired P (iL is) (iL (is.map f))
  | [], _ => .nil
  | i :: is, h => .cons (h i (.head _)) (paired_iL fun j hj => h j (.tail _ hj))
theorem paired_map {α : Type} {P : PyData → PyData → Prop} {f g : α → PyData} : ∀ {xs : List α}, (∀ x ∈ xs, P (f x) (g x)) → Paired P (xs.map f) (xs.map g)
  | [], _ => .nil
  | i :: is, h => .cons (h i (.head _)) (paired_map fun j hj => h j (.tail _ hj))
theorem live_cell {h : Heap} {c : Addr} {v : Option Value} (x : h.IsCell c v) (h₀ : C.h₀.get? c = none) : Live C h c := let ⟨o, e, _⟩ := x; ⟨o, e, .inl (nb h₀)⟩
theorem alive_cell {h : Heap} {c : Addr} {v : Option Value} (x : h.IsCell c v) : ∃ o, h.get? c = some o := let ⟨o, e, _⟩ := x; ⟨o, e⟩

/-- index(tup, ind) -/
theorem index_ok (FF : Facts C) {hp : Heap} (hw : Wd C hp) {k : Nat} (hA : Room (k + 8) A) {tup ind : Value} {ns is : List Int} {as : List Addr} {Q : Value → Shared → Prop} (ht : TupI hp tup ns) (hi : Reads hp ind (.list (iL is)) as)
    (hin : ∀ i ∈ is, 0 ≤ i ∧ i < ns.length) (hlen : is.length ≤ 1000) (hnl : ns.length ≤ 1000)
    (h : ∀ s' r, Stp C [] [] s s' → TupI s'.heap r (is.map fun i => ns.getD i.toNat 0) → Q r s') (hs : s.heap = hp := by rfl) : wpAny (MM C) A (call (.ref (C.fa 6)) [tup, ind]) Q E s := by
  subst hs
  refine enter_fnC FF (i := 6) (binds := [("tup", tup), ("ind", ind)]) (by decide) hw hA (fun _ _ => rfl) (fun s₁ L pm doc E' hn hcell hLf hL₀ st hg hw₁ hA₁ => ?_)
  have ht := ht.keep st
  have hi := st.reads hi (by simp)
  have hc : s₁.heap.IsCell (L + 1) (some tup) := hcell "tup" (L + 1) rfl
  obtain ⟨l, xs, bs, rfl, rfl, hl, hr⟩ := list_of hi
  refine wpAny_execs_cons (wpAny_Return_some (ev_callb FF hw₁ (.type "tuple") (arg1 (ev_genexp FF (i := 6) (cl := [("tup", L + 1)]) rfl rfl hA₁.d
    (ev_local hn rfl (pyIter_list FF hw₁ hl hr fun s₂ it st₂ hg₂ hitf hit => ⟨it, 0, iL is, iL (is.map fun i => ns.getD i.toNat 0), _, [L + 1], rfl, st₂.wd hw₁, hit, ?_, ?_, ?_, fun s₃ a F' st₃ hga hT hFW hFR hFV => ?_⟩))))))
  · exact all1 (live_cell (st₂.cell hc (hL₀ _ (Nat.le_succ L))) (hL₀ _ (Nat.le_succ L)))
  · exact all1 (nin1 (ne_of_fresh hitf (alive_cell hc)))
  · intro L' code hL'
    refine paired_iL fun i hi => ?_
    intro A₂ s₄ l v as Q₂ E₂ hA₂ hw₄ hloc hlk hrd hag hq
    obtain ⟨t, rfl, rfl⟩ := reads_int hrd
    obtain ⟨tt, vs, rfl, htt, hI⟩ := (ht.keep st₂).agree hag
    obtain ⟨h0, hlt⟩ := hin i hi
    have hget : ns[i.toNat]? = some (ns.getD i.toNat 0) := by
      have : i.toNat < ns.length := by omega
      simp [List.getD, this]
    obtain ⟨u, hu⟩ := intsAre_get hI hget
    refine ev_item_tuple (ev_free (hag.cell (st₂.cell hc (hL₀ _ (Nat.le_succ L))) (hL₀ _ (Nat.le_succ L))) (ev_local hloc hlk ⟨tt, _, i, t, _, rfl, rfl, htt, h0, by omega, by simpa using hu, hq _ _ [] (.int _ _) (fun _ h => nomatch h) (.refl _)⟩) rfl)
  · refine call_tuple_it FF (st₃.wd (st₂.wd hw₁)) hga (hA₁.less (by omega)) (lazy_gen hT) (by simpa using Nat.le_trans hlen (by omega)) fun s₄ r acc' as' st₄ hrt hra _ => ?_
    obtain ⟨_, hI⟩ := reads_ints hra
    refine h s₄ _ (((st.trans st₂).trans st₃).andThen st₄ all0 all0 (fun a ha => ?_) fun j hj => ?_) ⟨r, acc', rfl, ⟨_, hrt, rfl, 0, rfl⟩, hI⟩
    · rcases hFW a ha with q | q
      · exact .inr ((st.none_of (List.mem_singleton.mp q ▸ hitf)).elim (fun h => nomatch h) id)
      · exact .inr (((st.trans st₂).none_of q).elim (fun h => nomatch h) id)
    · rcases hFV j hj with q | q
      · exact nomatch q
      · exact .inr (((st.trans st₂).gnone_of q).elim (fun h => nomatch h) id)
end
end Mine

namespace Mine
open PySem PySem.Calls PySem.W PyProof.Rows
section
variable {C : Cx} {A : Around} {E : Value → Shared → Prop} {s : Shared} {env : Env}

theorem Stp.fresh {s s' : Shared} (x : Stp C [] [] s s') {a : Addr} (h : s'.heap.get? a = none) : s.heap.get? a = none := (x.none_of h).elim (fun h => nomatch h) id
theorem Stp.gfresh {s s' : Shared} (x : Stp C [] [] s s') {i : Nat} (h : s'.gens[i]? = none) : s.gens[i]? = none := (x.gnone_of h).elim (fun h => nomatch h) id

abbrev testsOf (genv : Env) (ifs : List Expr) : Sem Bool := forIn ifs true fun c r => if r = true then do let ok ← isTrue c genv (eval c genv); pure (ForInStep.yield ok) else pure (ForInStep.yield r)

/-- what a comprehension's tests and element do with an item d -/
structure CompOk (C : Cx) (k : Nat) (genv : Env) (x : Str) (ifs : List Expr) (elt : Expr) (RC WJ : List Addr) (J : Heap → Prop) (p : PyData → Bool) (P : PyData → PyData → Prop) (s₂ : Shared) (d : PyData) : Prop where
  test : ∀ (A : Around) (s : Shared) (l : List (Str × Value)) (v : Value) (as : List Addr) (Q : Bool → Shared → Prop) (E : Value → Shared → Prop), Room k A → Wd C s.heap → Loc C s.heap genv.locals l → l.lookup x = some v → Reads s.heap v d as →
    Agree C RC [] s₂ s → J s.heap → (∀ s', Stp C [] [] s s' → Q (p d) s') → wpAny (MM C) A (testsOf genv ifs) Q E s
  elt : p d = true → ∀ (A : Around) (s : Shared) (l : List (Str × Value)) (v : Value) (as : List Addr) (Q : Value → Shared → Prop) (E : Value → Shared → Prop), Room k A → Wd C s.heap → Loc C s.heap genv.locals l → l.lookup x = some v → Reads s.heap v d as →
    Agree C RC [] s₂ s → J s.heap → (∀ y s' bs d', P d d' → Reads s'.heap y d' bs → (∀ b ∈ bs, b ∈ as ∨ s.heap.get? b = none) → Stp C WJ [] s s' → J s'.heap → Q y s') → wpAny (MM C) A (eval elt genv) Q E s

theorem paired_snoc {P : PyData → PyData → Prop} {p : PyData → Bool} {done : List PyData} {d d' : PyData} {ds' : List PyData} (h : Paired P (done.filter p) ds') (hp : p d = true) (hd : P d d') : Paired P ((done ++ [d]).filter p) (ds' ++ [d']) := by
  rw [List.filter_append]
  have : [d].filter p = [d] := by simp [hp]
  rw [this]
  exact h.snoc hd
theorem paired_skip {P : PyData → PyData → Prop} {p : PyData → Bool} {done : List PyData} {d : PyData} {ds' : List PyData} (h : Paired P (done.filter p) ds') (hp : p d = false) : Paired P ((done ++ [d]).filter p) ds' := by
  rw [List.filter_append]
  have : [d].filter p = [] := by simp [hp]
  rw [this, List.append_nil]
  exact h

theorem dead_of {h : Heap} {a b : Addr} (ha : h.get? a = none) (hb : ∃ o, h.get? b = some o) : a ≠ b := fun e => by obtain ⟨o, q⟩ := hb; rw [← e, ha] at q; cases q

set_option maxHeartbeats 1000000 in
theorem comp_loop (FF : Facts C) {R : Result → Shared → Prop} {k : Nat} (hA : Room k A) {elt iter : Expr} {x : Str} {px pos : Pos} {ifs : List Expr} {scope : Scope} {it D : Addr} {cenv : Env} {RC WJ : List Addr} {J : Heap → Prop} {p : PyData → Bool} {P : PyData → PyData → Prop} {s₂ s : Shared} {F : Ft} {ds : List PyData}
    (hx : cenv.kindOf x = some .local) (hcl : (cenv.scope.kind == .class || (cenv.scope.kind == .module && cenv.locals != cenv.globals)) = false)
    (hL₂ : s₂.heap.get? cenv.locals = none) (hD₂ : s₂.heap.get? D = none) (hDL : D ≠ cenv.locals) (hD₀ : C.h₀.get? D = none)
    (st₂ : Stp C [] [] s₂ s) (hit : Iter C A it ds F s) (hFl : ∀ a ∈ F.W ++ F.R, ∃ o, s₂.heap.get? a = some o) (hw : Wd C s.heap) (hacc : s.heap.PlainList D #[]) (hloc : Loc C s.heap cenv.locals [])
    (hRC : ∀ a ∈ RC, Live C s₂.heap a) (hRW : ∀ a ∈ RC, a ∉ F.W) (hRJ : ∀ a ∈ RC, a ∉ WJ) (hWF : ∀ a ∈ WJ, a ∉ F.W ∧ a ∉ F.R)
    (hJ : ∀ (W : List Addr) (V : List Nat) (s s' : Shared), Stp C W V s s' → (∀ a ∈ WJ, a ∉ W) → J s.heap → J s'.heap) (hJl : ∀ h, J h → ∀ a ∈ WJ, ∃ o, h.get? a = some o) (hJ₂ : J s₂.heap) (hlen : ds.length ≤ 10000)
    (hc : ∀ d ∈ ds, CompOk C k cenv x ifs elt RC WJ J p P s₂ d)
    (hR : ∀ s' ys ds' as', Paired P (ds.filter p) ds' → Stp C (D :: cenv.locals :: (F.W ++ WJ)) F.V s s' → J s'.heap → s'.heap.PlainList D (List.toArray ys) → (∃ l, Loc C s'.heap cenv.locals l) → ReadsAll s'.heap ys ds' as' →
      (∀ a ∈ as', a ∈ F.W ∨ a ∈ F.R ∨ s₂.heap.get? a = none) → D ∉ as' → cenv.locals ∉ as' → R (.ok .next) s') :
    codeAny (MM C) A (.compLoop (.ListComp elt [⟨.Name x px, iter, ifs, 0⟩] scope pos) 0 (.ref it) (.ref D) cenv) R s := by
  have memW : ∀ a, a = D ∨ a = cenv.locals ∨ a ∈ F.W ∨ a ∈ WJ → a ∈ D :: cenv.locals :: (F.W ++ WJ) := fun a h => by
    rcases h with rfl | rfl | h | h
    · exact .head _
    · exact .tail _ (.head _)
    · exact .tail _ (.tail _ (List.mem_append_left _ h))
    · exact .tail _ (.tail _ (List.mem_append_right _ h))
  let Inv : List PyData → List Value → Shared → Prop := fun rem ys s₁ => ∃ F₁ l done ds' as, Iter C A it rem F₁ s₁ ∧ Wd C s₁.heap ∧ Loc C s₁.heap cenv.locals l ∧ D ∉ F₁.W ∧ D ∉ F₁.R ∧ cenv.locals ∉ F₁.W ∧ cenv.locals ∉ F₁.R ∧
    (∀ a ∈ RC ++ WJ, a ∉ F₁.W) ∧ (∀ a ∈ WJ, a ∉ F₁.R) ∧ Agree C RC [] s₂ s₁ ∧ J s₁.heap ∧ s₁.heap.PlainList D ys.toArray ∧ ds = done ++ rem ∧ Paired P (done.filter p) ds' ∧ ReadsAll s₁.heap ys ds' as ∧
    (∀ a ∈ as, (a ∈ F.W ∨ a ∈ F.R ∨ s₂.heap.get? a = none) ∧ a ≠ D ∧ a ≠ cenv.locals ∧ a ∉ F₁.W ∧ a ∉ WJ) ∧ Stp C (D :: cenv.locals :: (F.W ++ WJ)) F.V s s₁ ∧
    (∀ a ∈ F₁.W, a ∈ F.W ∨ s.heap.get? a = none) ∧ (∀ a ∈ F₁.R, a ∈ F.W ∨ a ∈ F.R ∨ s.heap.get? a = none) ∧ (∀ i ∈ F₁.V, i ∈ F.V ∨ s.gens[i]? = none) ∧ ys.length ≤ done.length
  refine comp_iter FF hD₀ Inv (fun d rem ys s₁ hI => ?_) (fun ys s₁ hI => ?_) ds [] ?_
  · obtain ⟨F₁, l, done, ds', as, hit₁, hw₁, hloc₁, hDW, hDR, hLW, hLR, hRW₁, hWR₁, hag₁, hJ₁, hp₁, hds, hpd, hra, has, st₁, hFW, hFR, hFV, hys⟩ := hI
    have hdm : d ∈ ds := by rw [hds]; simp
    refine ⟨F₁, hit₁, hw₁, ?_, fun v s₃ bs F₃ E' got hit₃ => ?_⟩
    · have := congrArg List.length hds
      simp at this
      omega
    obtain ⟨hrd, hbs, st₃, nx⟩ := got
    have hDal := plain_alive hp₁
    have hLal : ∃ o, s₁.heap.get? cenv.locals = some o := let ⟨o, _, _, e, _⟩ := hloc₁.ns; ⟨o, e⟩
    have hJal := hJl _ hJ₁
    have hDW₃ := nx.offW hDal hDW
    have hDR₃ := nx.offR hDal hDW hDR
    have hLW₃ := nx.offW hLal hLW
    have hLR₃ := nx.offR hLal hLW hLR
    have bsO : ∀ a ∈ bs, a ≠ D ∧ a ≠ cenv.locals ∧ a ∉ WJ := fun a ha => by
      rcases (hbs a ha).2 with q | q | q
      · exact ⟨fun z => hDW (z ▸ q), fun z => hLW (z ▸ q), fun z => hRW₁ a (List.mem_append_right _ z) q⟩
      · exact ⟨fun z => hDR (z ▸ q), fun z => hLR (z ▸ q), fun z => hWR₁ a z q⟩
      · exact ⟨dead_of q hDal, dead_of q hLal, fun z => dead_of q (hJal a z) rfl⟩
    have hw₃ := st₃.wd hw₁
    have hRC₁ : ∀ a ∈ RC, ∃ o, s₁.heap.get? a = some o := fun a ha => (hag₁.live (hRC a ha) ha).some
    have hRCL : ∀ a ∈ RC, a ∉ [cenv.locals] := fun a ha z => dead_of hL₂ (hRC a ha).some (List.mem_singleton.mp z).symm
    have hRCD : ∀ a ∈ RC, a ∉ [D] := fun a ha z => dead_of hD₂ (hRC a ha).some (List.mem_singleton.mp z).symm
    have hJL : ∀ a ∈ WJ, a ∉ [cenv.locals] := fun a ha z => dead_of hL₂ (hJl _ hJ₂ a ha) (List.mem_singleton.mp z).symm
    have hJD : ∀ a ∈ WJ, a ∉ [D] := fun a ha z => dead_of hD₂ (hJl _ hJ₂ a ha) (List.mem_singleton.mp z).symm
    have hJ₃ : J s₃.heap := hJ _ _ _ _ st₃ (fun a ha => hRW₁ a (List.mem_append_right _ ha)) hJ₁
    have hloc₃ := st₃.loc hloc₁ hLW
    have hp₃ := st₃.plain hp₁ hDW
    refine st_local FF hloc₃ (fun s₄ hloc₄ st₄ hg₄ => ?_) rfl hx hcl
    have hw₄ := st₄.wd hw₃
    have hrd₄ : Reads s₄.heap v d bs := st₄.reads hrd fun a ha => nin1 (bsO a ha).2.1
    have hag₄ : Agree C RC [] s₂ s₄ := (hag₁.trans (st₃.agree (fun a ha => hRW₁ a (List.mem_append_left _ ha)) all0)).trans (st₄.agree hRCL all0)
    have hJ₄ : J s₄.heap := hJ _ _ _ _ st₄ hJL hJ₃
    have hp₄ := st₄.plain hp₃ (nin1 hDL)
    refine (hc d hdm).test A s₄ _ v bs _ _ hA hw₄ hloc₄ (by rw [put_lookup]; simp) hrd₄ hag₄ hJ₄ fun s₅ st₅ => ?_
    have asO : ∀ a ∈ as, ∃ o, s₁.heap.get? a = some o := fun a ha => readsAll_alive hra a ha
    have hra₅ : ReadsAll s₅.heap ys ds' as := st₅.readsAll (st₄.readsAll (st₃.readsAll hra fun a ha => (has a ha).2.2.2.1) fun a ha => nin1 (has a ha).2.2.1) fun _ _ h => nomatch h
    have as₃ : ∀ a ∈ as, a ∉ F₃.W := fun a ha => nx.offW (asO a ha) (has a ha).2.2.2.1
    have hfr : ∀ a, s₁.heap.get? a = none → a ∈ F.W ∨ s.heap.get? a = none := fun a q => (st₁.none_of q).elim (fun z => by
      rcases List.mem_cons.mp z with z | z
      · exact (dead_of q hDal z).elim
      rcases List.mem_cons.mp z with z | z
      · exact (dead_of q hLal z).elim
      rcases List.mem_append.mp z with z | z
      · exact .inl z
      · exact (dead_of q (hJal a z) rfl).elim) .inr
    have hfg : ∀ i, s₁.gens[i]? = none → i ∈ F.V ∨ s.gens[i]? = none := fun i q => st₁.gnone_of q
    have hW₃ : ∀ a ∈ F₃.W, a ∈ F.W ∨ s.heap.get? a = none := fun a ha => (nx.W a ha).elim (hFW a) (hfr a)
    have hR₃ : ∀ a ∈ F₃.R, a ∈ F.W ∨ a ∈ F.R ∨ s.heap.get? a = none := fun a ha => (nx.R a ha).elim (fun q => (hFW a q).elim .inl fun q => .inr (.inr q)) fun q => q.elim (hFR a) fun q => (hfr a q).elim .inl fun q => .inr (.inr q)
    have hV₃ : ∀ i ∈ F₃.V, i ∈ F.V ∨ s.gens[i]? = none := fun i hi => (nx.V i hi).elim (hFV i) (hfg i)
    have bs₂ : ∀ a ∈ bs, a ∈ F.W ∨ a ∈ F.R ∨ s₂.heap.get? a = none := fun a ha => by
      have back : (a ∈ F.W ∨ s.heap.get? a = none) → a ∈ F.W ∨ a ∈ F.R ∨ s₂.heap.get? a = none := fun q => q.elim .inl fun q => .inr (.inr (st₂.fresh q))
      rcases (hbs a ha).2 with q | q | q
      · exact back (hFW a q)
      · exact (hFR a q).elim .inl fun q => q.elim (fun q => .inr (.inl q)) fun q => .inr (.inr (st₂.fresh q))
      · exact back (hfr a q)
    have wj₃W : ∀ a ∈ WJ, a ∉ F₃.W := fun a ha => nx.offW (hJal a ha) (hRW₁ a (List.mem_append_right _ ha))
    have wj₃R : ∀ a ∈ WJ, a ∉ F₃.R := fun a ha => nx.offR (hJal a ha) (hRW₁ a (List.mem_append_right _ ha)) (hWR₁ a ha)
    have rc₃W : ∀ a ∈ RC ++ WJ, a ∉ F₃.W := fun a ha => (List.mem_append.mp ha).elim (fun q => nx.offW (hRC₁ a q) (hRW₁ a ha)) (wj₃W a)
    have f₃L : ∀ a ∈ F₃.W ++ F₃.R, a ∉ [cenv.locals] := fun a ha z => by
      rw [List.mem_singleton.mp z] at ha
      exact (List.mem_append.mp ha).elim hLW₃ hLR₃
    have f₃D : ∀ a ∈ F₃.W ++ F₃.R, a ∉ [D] := fun a ha z => by
      rw [List.mem_singleton.mp z] at ha
      exact (List.mem_append.mp ha).elim hDW₃ hDR₃
    have f₃J : ∀ a ∈ F₃.W ++ F₃.R, a ∉ WJ := fun a ha z => (List.mem_append.mp ha).elim (wj₃W a z) (wj₃R a z)
    have wL : ∀ a ∈ [cenv.locals], a ∈ D :: cenv.locals :: (F.W ++ WJ) ∨ s.heap.get? a = none := all1 (.inl (.tail _ (.head _)))
    have wD : ∀ a ∈ [D], a ∈ D :: cenv.locals :: (F.W ++ WJ) ∨ s.heap.get? a = none := all1 (.inl (.head _))
    have wJ : ∀ a ∈ WJ, a ∈ D :: cenv.locals :: (F.W ++ WJ) ∨ s.heap.get? a = none := fun a ha => .inl (memW a (.inr (.inr (.inr ha))))
    have st₃' : Stp C (D :: cenv.locals :: (F.W ++ WJ)) F.V s s₃ := st₁.andThen st₃ (fun _ h => .inl h) (fun _ h => .inl h) (fun a ha => (hFW a ha).elim (fun q => .inl (memW a (.inr (.inr (.inl q))))) .inr) hFV
    have st₅' : Stp C (D :: cenv.locals :: (F.W ++ WJ)) F.V s s₅ := (st₃'.more st₄ wL).more st₅ all0
    have hw₅ := st₅.wd hw₄
    have hloc₅ := st₅.loc hloc₄ (by simp)
    have hag₅ : Agree C RC [] s₂ s₅ := hag₄.trans (st₅.agree (fun _ _ h => nomatch h) all0)
    have hJ₅ : J s₅.heap := hJ _ _ _ _ st₅ (fun _ _ h => nomatch h) hJ₄
    have hp₅ := st₅.plain hp₄ (by simp)
    have hit₅ : Iter C A it rem F₃ s₅ := (hit₃.agree (st₄.agree f₃L (fun _ _ h => nomatch h))).agree (st₅.agree (fun _ _ h => nomatch h) (fun _ _ h => nomatch h))
    cases hpv : p d with
    | false =>
      refine ⟨F₃, _, done ++ [d], ds', as, hit₅, hw₅, hloc₅, hDW₃, hDR₃, hLW₃, hLR₃, rc₃W, wj₃R, hag₅, hJ₅, hp₅, by rw [hds, List.append_assoc]; rfl, paired_skip hpd hpv, hra₅, fun a ha => ⟨(has a ha).1, (has a ha).2.1, (has a ha).2.2.1, as₃ a ha, (has a ha).2.2.2.2⟩, st₅', hW₃, hR₃, hV₃, ?_⟩
      rw [List.length_append]
      exact Nat.le_add_right_of_le hys
    | true =>
      refine (hc d hdm).elt hpv A s₅ _ v bs _ _ hA hw₅ hloc₅ (by rw [put_lookup]; simp) (st₅.reads hrd₄ fun _ _ h => nomatch h) hag₅ hJ₅ fun y s₆ bs' d' hP hry hbs' st₆ hJ₆ => ?_
      have hDJ : D ∉ WJ := fun z => hJD D z (.head _)
      have hLJ : cenv.locals ∉ WJ := fun z => hJL cenv.locals z (.head _)
      refine ⟨st₆.plain hp₅ hDJ, fun s₇ st₇ hg₇ hp₇ => ?_⟩
      have bs'D : ∀ a ∈ bs', a ≠ D := fun a ha => (hbs' a ha).elim (fun q => (bsO a q).1) fun q => dead_of q (plain_alive hp₅)
      have hLal₅ : ∃ o, s₅.heap.get? cenv.locals = some o := let ⟨o, _, _, e, _⟩ := hloc₅.ns; ⟨o, e⟩
      have bs'L : ∀ a ∈ bs', a ≠ cenv.locals := fun a ha => (hbs' a ha).elim (fun q => (bsO a q).2.1) fun q => dead_of q hLal₅
      have bs'J : ∀ a ∈ bs', a ∉ WJ := fun a ha z => (hbs' a ha).elim (fun q => (bsO a q).2.2 z) fun q => dead_of q (hJl _ hJ₅ a z) rfl
      have lv₃ : ∀ a ∈ F₃.W ++ F₃.R, Live C s₅.heap a := fun a ha => st₅.live (st₄.live (nx.live a ha) (f₃L a ha)) (by simp)
      have bs'W : ∀ a ∈ bs', a ∉ F₃.W := fun a ha z => (hbs' a ha).elim (fun q => (hbs a q).1 z) fun q => dead_of q (lv₃ a (List.mem_append_left _ z)).some rfl
      have st₆' : Stp C (D :: cenv.locals :: (F.W ++ WJ)) F.V s s₆ := st₅'.more st₆ wJ
      refine ⟨F₃, _, done ++ [d], ds' ++ [d'], as ++ bs', ?_, st₇.wd (st₆.wd hw₅), st₇.loc (st₆.loc hloc₅ hLJ) (nin1 hDL.symm), hDW₃, hDR₃, hLW₃, hLR₃, rc₃W, wj₃R, ?_, hJ _ _ _ _ st₇ hJD hJ₆, hp₇, by rw [hds, List.append_assoc]; rfl, paired_snoc hpd hpv hP, ?_, fun a ha => ?_, st₆'.more st₇ wD, hW₃, hR₃, hV₃, ?_⟩
      · exact (hit₅.agree (st₆.agree f₃J (fun _ _ h => nomatch h))).agree (st₇.agree f₃D (fun _ _ h => nomatch h))
      · exact (hag₅.trans (st₆.agree hRJ all0)).trans (st₇.agree hRCD all0)
      · exact readsAll_append (st₇.readsAll (st₆.readsAll hra₅ fun a ha => (has a ha).2.2.2.2) fun a ha => nin1 (has a ha).2.1) (readsAll_one (st₇.reads hry fun a ha => nin1 (bs'D a ha)))
      · rcases List.mem_append.mp ha with q | q
        · exact ⟨(has a q).1, (has a q).2.1, (has a q).2.2.1, as₃ a q, (has a q).2.2.2.2⟩
        · refine ⟨(hbs' a q).elim (bs₂ a) fun z => ?_, bs'D a q, bs'L a q, bs'W a q, bs'J a q⟩
          rcases st₅'.none_of z with z' | z'
          · rcases List.mem_cons.mp z' with z' | z'
            · exact (bs'D a q z').elim
            rcases List.mem_cons.mp z' with z' | z'
            · exact (bs'L a q z').elim
            rcases List.mem_append.mp z' with z' | z'
            · exact .inl z'
            · exact (bs'J a q z').elim
          · exact .inr (.inr (st₂.fresh z'))
      · rw [List.length_append, List.length_append]
        exact Nat.add_le_add_right hys 1
  · obtain ⟨F₁, l, done, ds', as, hit₁, hw₁, hloc₁, hDW, hDR, hLW, hLR, hRW₁, hWR₁, hag₁, hJ₁, hp₁, hds, hpd, hra, has, st₁, hFW, hFR, hFV, hys⟩ := hI
    refine ⟨F₁, hit₁, hw₁, fun s₃ st₃ => ?_⟩
    rw [List.append_nil] at hds
    rw [← hds] at hpd
    exact hR s₃ ys ds' as hpd (st₁.andThen st₃ (fun _ h => .inl h) (fun _ h => .inl h) (fun a ha => (hFW a ha).elim (fun q => .inl (memW a (.inr (.inr (.inl q))))) .inr) hFV) (hJ _ _ _ _ st₃ (fun a ha => hRW₁ a (List.mem_append_right _ ha)) hJ₁) (st₃.plain hp₁ hDW) ⟨l, st₃.loc hloc₁ hLW⟩
      (st₃.readsAll hra fun a ha => (has a ha).2.2.2.1) (fun a ha => (has a ha).1) (fun z => (has D z).2.1 rfl) fun z => (has cenv.locals z).2.2.1 rfl
  · have off : ∀ a, s₂.heap.get? a = none → a ∉ F.W ∧ a ∉ F.R := fun a ha => ⟨fun q => dead_of ha (hFl a (List.mem_append_left _ q)) rfl, fun q => dead_of ha (hFl a (List.mem_append_right _ q)) rfl⟩
    exact ⟨F, [], [], [], [], hit, hw, hloc, (off D hD₂).1, (off D hD₂).2, (off _ hL₂).1, (off _ hL₂).2, fun a ha => (List.mem_append.mp ha).elim (hRW a) fun q => (hWF a q).1, fun a ha => (hWF a ha).2, st₂.agree (fun _ _ h => nomatch h) all0, hJ _ _ _ _ st₂ (fun _ _ h => nomatch h) hJ₂, hacc, rfl, .nil, .nil, (fun a ha => nomatch ha), .refl _, fun _ h => .inl h, fun _ h => .inr (.inl h), fun _ h => .inl h, Nat.le_refl _⟩
end
end Mine

namespace Mine
open PySem PySem.Calls PySem.W PyProof.Rows
section
variable {C : Cx} {A : Around} {E : Value → Shared → Prop} {s : Shared} {env : Env}

/-- a fresh iterator over the data ds -/
def IterOf (C : Cx) (xv : Value) (ds : List PyData) (Fr : List Addr) (s : Shared) : Prop :=
  ∀ (A : Around) (Q : Value → Shared → Prop) (E : Value → Shared → Prop), (∀ s' it, Stp C [] [] s s' → s'.gens = s.gens → s.heap.get? it = none → ItOk C 0 it ds ⟨[it], Fr, []⟩ s' → Q (.ref it) s') → wpAny (MM C) A (pyIter xv) Q E s
theorem iterOf_list (FF : Facts C) {hp : Heap} (hw : Wd C hp) {l : Addr} {xs : Array Value} {ds : List PyData} {as : List Addr} (hl : hp.IsList l xs) (hr : ReadsAll hp xs.toList ds as) (hs : s.heap = hp := by rfl) : IterOf C (.ref l) ds (l :: as) s :=
  fun A Q E h => pyIter_list FF hw hl hr h hs
theorem iterOf_tuple (FF : Facts C) {hp : Heap} (hw : Wd C hp) {l : Addr} {xs : Array Value} {ds : List PyData} {as : List Addr} (hl : hp.IsTuple l xs) (hr : ReadsAll hp xs.toList ds as) (hs : s.heap = hp := by rfl) : IterOf C (.ref l) ds as s :=
  fun A Q E h => pyIter_tuple FF hw hl hr h hs
theorem iterOf_range (FF : Facts C) {hp : Heap} (hw : Wd C hp) {r : Addr} {a b : Int} {t u v : Tok} {n : Nat} (hr : IsRange hp r a b 1 t u v) (hn : Builtin.Range.rangeSize a b 1 = n) (hsm : Builtin.Range.small a b 1 = true) (hs : s.heap = hp := by rfl) : IterOf C (.ref r) (intsFrom a n) [] s :=
  fun A Q E h => pyIter_range FF hw hr hn hsm h hs

/-- the side conditions of a comprehension, at the state s₁ where its iterator is made -/
structure CompIn (C : Cx) (A : Around) (k : Nat) (genv : Addr → Env) (x : Str) (ifs : List Expr) (elt : Expr) (xv : Value) (ds : List PyData) (Fr RC WJ : List Addr) (J : Heap → Prop) (p : PyData → Bool) (P : PyData → PyData → Prop) (s₁ : Shared) : Prop where
  it : IterOf C xv ds Fr s₁
  fr : ∀ a ∈ Fr, ∃ o, s₁.heap.get? a = some o
  hw : Wd C s₁.heap
  len : ds.length ≤ 10000
  rcl : ∀ a ∈ RC, Live C s₁.heap a
  RJ : ∀ a ∈ RC, a ∉ WJ
  WF : ∀ a ∈ WJ, a ∉ Fr
  step : ∀ (W : List Addr) (V : List Nat) (s s' : Shared), Stp C W V s s' → (∀ a ∈ WJ, a ∉ W) → J s.heap → J s'.heap
  Jl : ∀ h, J h → ∀ a ∈ WJ, ∃ o, h.get? a = some o
  start : J s₁.heap
  turn : ∀ L, s₁.heap.get? L = none → ∀ d ∈ ds, CompOk C k (genv L) x ifs elt RC WJ J p P s₁ d

theorem CompOk.later {k : Nat} {genv : Env} {x : Str} {ifs : List Expr} {elt : Expr} {RC WJ : List Addr} {J : Heap → Prop} {p : PyData → Bool} {P : PyData → PyData → Prop} {s₁ s₂ : Shared} {d : PyData} (o : CompOk C k genv x ifs elt RC WJ J p P s₁ d) (st : Stp C [] [] s₁ s₂) : CompOk C k genv x ifs elt RC WJ J p P s₂ d :=
  have ag : Agree C RC [] s₁ s₂ := st.agree (fun _ _ h => nomatch h) all0
  ⟨fun A s l v as Q E hA hw hl hv hr ha => o.test A s l v as Q E hA hw hl hv hr (ag.trans ha), fun hp A s l v as Q E hA hw hl hv hr ha => o.elt hp A s l v as Q E hA hw hl hv hr (ag.trans ha)⟩

theorem ev_lc (FF : Facts C) {elt iter : Expr} {x : Str} {px pos : Pos} {ifs : List Expr} {scope : Scope} {cl : List (Str × Addr)} {Q : Value → Shared → Prop} {k : Nat} (hclos : closureFor scope env = pure cl) (hA : Room k A)
    (h : wpAny (MM C) A (eval iter env) (fun xv s₁ => ∃ ds Fr RC WJ J p P, CompIn C A k (fun L => cEnv scope cl L env) x ifs elt xv ds Fr RC WJ J p P s₁ ∧
      ∀ D s' ys ds' as', Paired P (ds.filter p) ds' → Stp C WJ [] s₁ s' → J s'.heap → s'.heap.PlainList D (List.toArray ys) → s₁.heap.get? D = none → ReadsAll s'.heap ys ds' as' → (∀ a ∈ as', a ∈ Fr ∨ s₁.heap.get? a = none) → D ∉ as' → Q (.ref D) s') E s)
    (hcell : (scope.names.all fun y => y.2 != .cell) = true := by rfl) (hkind : scope.kind = .function := by rfl)
    (hnames : (scope.names.all fun y => y.2 != .local || scope.names.lookup y.1 == some .local) = true := by rfl) (hf : ∀ x, foldedSetIterable iter env x = pure x := by intro _; rfl)
    (hx : ∀ L, (cEnv scope cl L env).kindOf x = some .local := by intro _; rfl) (hcl : ∀ L, ((cEnv scope cl L env).scope.kind == .class || ((cEnv scope cl L env).scope.kind == .module && (cEnv scope cl L env).locals != (cEnv scope cl L env).globals)) = false := by intro _; rfl) :
    wpAny (MM C) A (eval (.ListComp elt [⟨.Name x px, iter, ifs, 0⟩] scope pos) env) Q E s := by
  refine ev_comp hclos (wpAny_mono h (fun xv s₁ h₁ => ?_) fun _ _ e => e) FF hcell hkind hnames hf
  obtain ⟨ds, Fr, RC, WJ, J, p, P, ci, hq⟩ := h₁
  refine ci.it A _ _ fun s₂ it st₁ hg₁ hitf hit => ?_
  refine ⟨it, k, ds, _, rfl, st₁.wd ci.hw, hA, ⟨fun A hA => hit.it A (hA.less (Nat.zero_le _)), hit.live, hit.vlive, hit.self⟩, fun D L s₃ hD hL hne st₂ hg₂ hacc hloc hit₃ => ?_⟩
  have hw₂ := st₁.wd ci.hw
  have hnW : ∀ a, (∃ o, s₁.heap.get? a = some o) → a ∉ [it] := fun a ha z => dead_of hitf ha (List.mem_singleton.mp z).symm
  have hDf := st₁.fresh hD
  have hLf := st₁.fresh hL
  refine comp_loop FF (k := k) hA (RC := RC) (WJ := WJ) (J := J) (p := p) (P := P) (s₂ := s₂) (hx L) (hcl L) hL hD hne (hw₂.none hD) st₂ hit₃ (fun a ha => (hit.live a ha).some) (st₂.wd hw₂) hacc hloc (fun a ha => st₁.live (ci.rcl a ha) (by simp)) (fun a ha => hnW a (ci.rcl a ha).some) ci.RJ (fun a ha => ⟨hnW a (ci.Jl _ ci.start a ha), ci.WF a ha⟩)
    ci.step ci.Jl (ci.step _ _ _ _ st₁ (fun _ _ h => nomatch h) ci.start) ci.len (fun d hd => (ci.turn L hLf d hd).later st₁) fun s' ys ds' as' hP st hJ' hp hl hra has hDa hLa => ?_
  refine ⟨rfl, hl, fun s₄ st₄ hg₄ => ?_⟩
  have hJL : ∀ a ∈ WJ, a ∉ [L] := fun a ha z => dead_of hLf (ci.Jl _ ci.start a ha) (List.mem_singleton.mp z).symm
  refine hq D s₄ ys ds' as' hP ?_ (ci.step _ _ _ _ st₄ hJL hJ') (st₄.plain hp (nin1 hne)) hDf (st₄.readsAll hra fun a ha z => hLa (by rw [← List.mem_singleton.mp z]; exact ha)) (fun a ha => ?_) hDa
  · have st₅ : Stp C WJ [] s₁ s' := (st₁.trans st₂).andThen st (fun _ h => nomatch h) all0 (fun a ha => ?_) all0
    · exact st₅.andThen st₄ (fun _ h => .inl h) all0 (all1 (.inr hLf)) all0
    · rcases List.mem_cons.mp ha with rfl | ha
      · exact .inr hDf
      rcases List.mem_cons.mp ha with rfl | ha
      · exact .inr hLf
      rcases List.mem_cons.mp ha with rfl | ha
      · exact .inr hitf
      exact .inl ha
  · rcases has a ha with q | q | q
    · exact .inr (List.mem_singleton.mp q ▸ hitf)
    · exact .inl q
    · exact .inr (st₁.fresh q)

theorem st_lc (FF : Facts C) {elt iter : Expr} {x t : Str} {px pt pos' pos : Pos} {ifs : List Expr} {scope : Scope} {cl : List (Str × Addr)} {Q : Flow → Shared → Prop} {k : Nat} (hclos : closureFor scope env = pure cl) (hA : Room k A)
    (h : wpAny (MM C) A (eval iter env) (fun xv s₁ => ∃ ds Fr RC WJ J p P l₀, CompIn C A k (fun L => cEnv scope cl L env) x ifs elt xv ds Fr RC WJ J p P s₁ ∧ Loc C s₁.heap env.locals l₀ ∧ env.locals ∉ Fr ∧ env.locals ∉ WJ ∧
      ∀ D s' ys ds' as', Paired P (ds.filter p) ds' → Stp C (env.locals :: WJ) [] s₁ s' → J s'.heap → s'.heap.PlainList D (List.toArray ys) → s₁.heap.get? D = none → ReadsAll s'.heap ys ds' as' → (∀ a ∈ as', a ∈ Fr ∨ s₁.heap.get? a = none) → D ∉ as' → Loc C s'.heap env.locals (put t (.ref D) l₀) → Q .next s') E s)
    (hsw : swapsWith (.ListComp elt [⟨.Name x px, iter, ifs, 0⟩] scope pos) (some (.Name t pt)) pos'.line env = pure true) 
    (hl : env.kindOf t = some .local := by rfl) (hcl' : (env.scope.kind == .class || (env.scope.kind == .module && env.locals != env.globals)) = false := by rfl)
    (hcell : (scope.names.all fun y => y.2 != .cell) = true := by rfl) (hkind : scope.kind = .function := by rfl)
    (hnames : (scope.names.all fun y => y.2 != .local || scope.names.lookup y.1 == some .local) = true := by rfl) (hf : ∀ x, foldedSetIterable iter env x = pure x := by intro _; rfl)
    (hx : ∀ L, (cEnv scope cl L env).kindOf x = some .local := by intro _; rfl) (hcl : ∀ L, ((cEnv scope cl L env).scope.kind == .class || ((cEnv scope cl L env).scope.kind == .module && (cEnv scope cl L env).locals != (cEnv scope cl L env).globals)) = false := by intro _; rfl) :
    wpAny (MM C) A (exec (.Assign [.Name t pt] (.ListComp elt [⟨.Name x px, iter, ifs, 0⟩] scope pos) pos') env) Q E s := by
  refine st_comp hclos (wpAny_mono h (fun xv s₁ h₁ => ?_) fun _ _ e => e) FF hsw hcell hkind hnames hf
  obtain ⟨ds, Fr, RC, WJ, J, p, P, l₀, ci, hl₀, hLFr, hLWJ, hq⟩ := h₁
  refine ci.it A _ _ fun s₂ it st₁ hg₁ hitf hit => ?_
  refine ⟨it, k, ds, _, rfl, st₁.wd ci.hw, hA, ⟨fun A hA => hit.it A (hA.less (Nat.zero_le _)), hit.live, hit.vlive, hit.self⟩, fun D L s₃ hD hL hne st₂ hg₂ hacc hloc hit₃ => ?_⟩
  have hw₂ := st₁.wd ci.hw
  have hnW : ∀ a, (∃ o, s₁.heap.get? a = some o) → a ∉ [it] := fun a ha z => dead_of hitf ha (List.mem_singleton.mp z).symm
  have hDf := st₁.fresh hD
  have hLf := st₁.fresh hL
  have hEal : ∃ o, s₁.heap.get? env.locals = some o := let ⟨o, _, _, e, _⟩ := hl₀.ns; ⟨o, e⟩
  refine comp_loop FF (k := k) hA (RC := RC) (WJ := WJ) (J := J) (p := p) (P := P) (s₂ := s₂) (hx L) (hcl L) hL hD hne (hw₂.none hD) st₂ hit₃ (fun a ha => (hit.live a ha).some) (st₂.wd hw₂) hacc hloc (fun a ha => st₁.live (ci.rcl a ha) (by simp)) (fun a ha => hnW a (ci.rcl a ha).some) ci.RJ (fun a ha => ⟨hnW a (ci.Jl _ ci.start a ha), ci.WF a ha⟩)
    ci.step ci.Jl (ci.step _ _ _ _ st₁ (fun _ _ h => nomatch h) ci.start) ci.len (fun d hd => (ci.turn L hLf d hd).later st₁) fun s' ys ds' as' hP st hJ' hp hlo hra has hDa hLa => ?_
  refine ⟨rfl, ?_⟩
  have hED : env.locals ≠ D := fun z => dead_of hDf hEal z.symm
  have hEL : env.locals ≠ L := fun z => dead_of hLf hEal z.symm
  have hEit : env.locals ≠ it := fun z => dead_of hitf hEal z.symm
  have hJE : ∀ a ∈ WJ, a ∉ [env.locals] := fun a ha z => hLWJ (by rw [← List.mem_singleton.mp z]; exact ha)
  have hJL : ∀ a ∈ WJ, a ∉ [L] := fun a ha z => dead_of hLf (ci.Jl _ ci.start a ha) (List.mem_singleton.mp z).symm
  have hasE : ∀ a ∈ as', a ≠ env.locals := fun a ha z => by
    rcases has a ha with q | q | q
    · exact hEit (by rw [← z]; exact List.mem_singleton.mp q)
    · exact hLFr (by rw [← z]; exact q)
    · exact dead_of (st₁.fresh q) hEal z
  have hl' : Loc C s'.heap env.locals l₀ := st.loc (st₂.loc (st₁.loc hl₀)) (by
    intro z
    rcases List.mem_cons.mp z with z | z
    · exact hED z
    rcases List.mem_cons.mp z with z | z
    · exact hEL z
    rcases List.mem_cons.mp z with z | z
    · exact hEit z
    exact hLWJ z)
  refine st_local FF hl' (fun s₄ hl₄ st₄ hg₄ => ?_) rfl hl hcl'
  obtain ⟨lo, hlo⟩ := hlo
  refine ⟨⟨lo, st₄.loc hlo (nin1 hEL.symm)⟩, fun s₅ st₅ hg₅ => ?_⟩
  refine hq D s₅ ys ds' as' hP ?_ (ci.step _ _ _ _ st₅ hJL (ci.step _ _ _ _ st₄ hJE hJ')) (st₅.plain (st₄.plain hp (nin1 hED.symm)) (nin1 hne)) hDf (st₅.readsAll (st₄.readsAll hra fun a ha => nin1 (hasE a ha)) fun a ha z => hLa (by rw [← List.mem_singleton.mp z]; exact ha)) (fun a ha => ?_) hDa (st₅.loc hl₄ (nin1 hEL))
  · have st₆ : Stp C (env.locals :: WJ) [] s₁ s' := (st₁.trans st₂).andThen st (fun _ h => nomatch h) all0 (fun a ha => ?_) all0
    · exact (st₆.more st₄ (all1 (.inl (.head _)))).andThen st₅ (fun _ h => .inl h) all0 (all1 (.inr hLf)) all0
    · rcases List.mem_cons.mp ha with rfl | ha
      · exact .inr hDf
      rcases List.mem_cons.mp ha with rfl | ha
      · exact .inr hLf
      rcases List.mem_cons.mp ha with rfl | ha
      · exact .inr hitf
      exact .inl (.tail _ ha)
  · rcases has a ha with q | q | q
    · exact .inr (List.mem_singleton.mp q ▸ hitf)
    · exact .inl q
    · exact .inr (st₁.fresh q)

/-- a comprehension without tests, whose element changes nothing but the objects WJ -/
theorem compOk_elt {k : Nat} {genv : Env} {x : Str} {elt : Expr} {RC WJ : List Addr} {J : Heap → Prop} {P : PyData → PyData → Prop} {s₁ : Shared} {d : PyData}
    (h : ∀ (A : Around) (s : Shared) (l : List (Str × Value)) (v : Value) (as : List Addr) (Q : Value → Shared → Prop) (E : Value → Shared → Prop), Room k A → Wd C s.heap → Loc C s.heap genv.locals l → l.lookup x = some v → Reads s.heap v d as →
    Agree C RC [] s₁ s → J s.heap → (∀ y s' bs d', P d d' → Reads s'.heap y d' bs → (∀ b ∈ bs, b ∈ as ∨ s.heap.get? b = none) → Stp C WJ [] s s' → J s'.heap → Q y s') → wpAny (MM C) A (eval elt genv) Q E s) : CompOk C k genv x [] elt RC WJ J (fun _ => true) P s₁ d :=
  ⟨fun A s l v as Q E _ _ _ _ _ _ _ hq => no_tests (hq s (.refl s)), fun _ => h⟩
theorem filter_all {α : Type} (ds : List α) : ds.filter (fun _ => true) = ds := by simp
end
end Mine

namespace Mine
open PySem PySem.Calls PySem.W PyProof.Rows
section
variable {C : Cx} {A : Around} {E : Value → Shared → Prop} {s : Shared} {env : Env}
def tupL (is : List Int) : PyData := .tuple (iL is)
def lstL (is : List Int) : PyData := .list (iL is)
theorem readsAll_tuples {h : Heap} : ∀ {iss : List (List Int)} {vs : List Value} {as : List Addr}, ReadsAll h vs (iss.map tupL) as → as = []
  | [], _, _, r => by cases r; rfl
  | is :: iss, _, _, r => by
    obtain ⟨v, vs, a, b, rfl, rfl, r, rs⟩ := readsAll_cons r
    rw [(tupI_of r).1, readsAll_tuples rs]; rfl
theorem map_inv {α β : Type} {f : α → β} {xs : List α} {P : β → Prop} (h : ∀ x ∈ xs, P (f x)) : ∀ y ∈ xs.map f, P y := fun y hy => by
  obtain ⟨x, hx, rfl⟩ := List.mem_map.mp hy
  exact h x hx
theorem paired_fn {P : PyData → PyData → Prop} {f : PyData → PyData} {xs ys : List PyData} (h : Paired P xs ys) (hP : ∀ x y, P x y → y = f x) : ys = xs.map f := by
  induction h with
  | nil => rfl
  | cons h _ ih => rw [hP _ _ h, ih]; rfl
theorem paired_to {α : Type} {P : PyData → PyData → Prop} {f g : α → PyData} : ∀ {xs : List α} {ys : List PyData}, Paired P (xs.map f) ys → (∀ x ∈ xs, ∀ y, P (f x) y → y = g x) → ys = xs.map g
  | [], _, h, _ => by cases h; rfl
  | x :: xs, _, h, hP => by
    cases h with
    | cons h hs => rw [hP x (.head _) _ h, paired_to hs fun z hz => hP z (.tail _ hz)]; rfl
theorem plain_reads {h : Heap} {D : Addr} {ys : List Value} {ds : List PyData} {as : List Addr} (hp : h.PlainList D ys.toArray) (hr : ReadsAll h ys ds as) : Reads h (.ref D) (.list ds) (D :: as) := by
  obtain ⟨n, e⟩ := hp
  exact .list e rfl rfl (by simpa using hr)
theorem Stp.tup2 {W : List Addr} {V : List Nat} {s s' : Shared} {t : Addr} {vs : Array Value} (st : Stp C W V s s') (x : s.heap.IsTuple t vs) : s'.heap.IsTuple t vs := let ⟨o, g, c, n, d⟩ := x; ⟨o, st.tup _ _ _ _ c d g, c, n, d⟩

theorem iL_inj : ∀ {is is' : List Int}, iL is = iL is' → is = is'
  | [], [], _ => rfl
  | [], _ :: _, h => by simp [iL] at h
  | _ :: _, [], h => by simp [iL] at h
  | i :: is, i' :: is', h => by
    simp only [iL, List.map_cons, List.cons.injEq, PyData.int.injEq] at h
    rw [h.1, iL_inj h.2]

def selI (ns is : List Int) : List Int := is.map fun i => ns.getD i.toNat 0

/-- partition(tup, part) -/
theorem partition_ok (FF : Facts C) {hp : Heap} (hw : Wd C hp) {k : Nat} (hA : Room (k + 10) A) {tup part : Value} {ns : List Int} {iss : List (List Int)} {as : List Addr} {Q : Value → Shared → Prop} (ht : TupI hp tup ns) (hi : Reads hp part (.list (iss.map lstL)) as)
    (hin : ∀ is ∈ iss, is.length ≤ 1000 ∧ ∀ i ∈ is, 0 ≤ i ∧ i < ns.length) (hlen : iss.length ≤ 1000) (hnl : ns.length ≤ 1000)
    (h : ∀ s' D, Stp C [] [] s s' → Reads s'.heap (.ref D) (.list (iss.map fun is => tupL (selI ns is))) [D] → hp.get? D = none → Q (.ref D) s') (hs : s.heap = hp := by rfl) : wpAny (MM C) A (call (.ref (C.fa 12)) [tup, part]) Q E s := by
  subst hs
  refine enter_fnC FF (i := 12) (binds := [("tup", tup), ("part", part)]) (by decide) hw hA (fun _ _ => rfl) (fun s₁ L pm doc E' hn hcell hLf hL₀ st hg hw₁ hA₁ => ?_)
  have ht := ht.keep st
  have hi := st.reads hi (by simp)
  have hc : s₁.heap.IsCell (L + 1) (some tup) := hcell "tup" (L + 1) rfl
  obtain ⟨l, xs, bs, rfl, rfl, hl, hr⟩ := list_of hi
  refine wpAny_execs_cons (wpAny_Return_some (ev_lc FF (cl := [("tup", L + 1)]) rfl hA₁ (ev_local hn rfl ⟨_, _, [L + 1], [], fun _ => True, fun _ => true, fun d d' => ∀ is, d = lstL is → d' = tupL (selI ns is), ⟨iterOf_list FF hw₁ hl hr, ?_, hw₁, by simpa using Nat.le_trans hlen (by omega), ?_, fun _ _ h => (nomatch h), fun _ h => (nomatch h), fun _ _ _ _ _ _ _ => trivial, fun _ _ _ h => (nomatch h), trivial, ?_⟩, ?_⟩)))
  · intro a ha
    rcases List.mem_cons.mp ha with rfl | ha
    · obtain ⟨o, e, _⟩ := hl; exact ⟨o, e⟩
    · exact readsAll_alive hr a ha
  · exact all1 (live_cell hc (hL₀ _ (Nat.le_succ L)))
  · intro L' hL'
    refine map_inv fun is his => compOk_elt fun A s l v as Q E hA hw hloc hlk hrd hag _ hq => ?_
    refine ev_call FF hw 6 (arg2 (ev_cell (hag.cell hc (hL₀ _ (Nat.le_succ L))) (ev_local hloc hlk ⟨hw, index_ok FF (k := k + 1) hw hA (ht.agree hag) hrd (hin is his).2 (hin is his).1 hnl fun s' r st' hr' => hq r s' [] (tupL (selI ns is)) (fun is' e => ?_) hr'.reads (fun _ h => (nomatch h)) st' trivial⟩) rfl))
    have e' : iL is = iL is' := by simpa [lstL] using e
    rw [(iL_inj e' : is = is')]
  · intro D s' ys ds' as' hP st' _ hp hD hra has hDa
    rw [filter_all] at hP
    have e := paired_to hP fun is _ y hy => hy is rfl
    subst e
    have e := readsAll_tuples (iss := iss.map (selI ns)) (by simpa [Function.comp_def] using hra)
    subst e
    exact h s' D (st.trans st') (plain_reads hp hra) (st.fresh hD)
end
end Mine

namespace Mine
open PySem PySem.Calls PySem.W PyProof.Rows
section
variable {C : Cx} {A : Around} {E : Value → Shared → Prop} {s : Shared} {env : Env}

theorem isTuple_push {h : Heap} {vs : Array Value} : (h.push { cls := .type "tuple", data := .seq vs }).IsTuple h.objs.size vs := ⟨_, Heap.get?_push_size _ rfl, rfl, 0, rfl⟩
theorem isTuple_of {h : Heap} {t : Addr} {vs : Array Value} (e : h.get? t = some { cls := .type "tuple", data := .seq vs }) : h.IsTuple t vs := ⟨_, e, rfl, 0, rfl⟩
theorem add_tup {t b : Addr} {vs ws : List Value} {Q : Value → Shared → Prop} (ht : s.heap.IsTuple t vs.toArray) (hb : s.heap.IsTuple b ws.toArray)
    (h : ∀ s' r, Stp C [] [] s s' → s'.heap.IsTuple r (vs ++ ws).toArray → Q (.ref r) s') (hsz : vs.length + ws.length ≤ 100000) : wpAny (MM C) A (binaryOp .Add (.ref t) (.ref b)) Q E s := by
  obtain ⟨⟨cls, dd, data, sl⟩, ho, hc, n, hd⟩ := id ht
  obtain ⟨⟨cls2, dd2, data2, sl2⟩, ho2, hc2, n2, hd2⟩ := id hb
  simp only at hc hd hc2 hd2
  subst hc hd hc2 hd2
  have e : vs.toArray ++ ws.toArray = (vs ++ ws).toArray := by simp
  have hsz' : vs.toArray.size + ws.toArray.size ≤ sizeLine := by rw [sizeLine_eq, List.size_toArray, List.size_toArray]; omega
  by_cases hv : vs = []
  · exact concat_meets ⟨_, ho, rfl⟩ ⟨_, ho2, rfl⟩ noFill_tuple_add seq_tuple_add PySem.F.slot_tuple_add PySem.F.entry_tuple_add (PySem.F.args_tuple_add_2 _ _)
      (tuple_addW0 t b vs.toArray ws.toArray n n2 dd dd2 sl sl2 (by simp [hv])) ⟨ho, ho2, h s b (.refl s) (by subst hv; exact hb)⟩
  · by_cases hw : ws = []
    · exact concat_meets ⟨_, ho, rfl⟩ ⟨_, ho2, rfl⟩ noFill_tuple_add seq_tuple_add PySem.F.slot_tuple_add PySem.F.entry_tuple_add (PySem.F.args_tuple_add_2 _ _)
        (tuple_addW1 t b vs.toArray ws.toArray n n2 dd dd2 sl sl2 (by simpa using hv) (by simp [hw])) ⟨ho, ho2, h s t (.refl s) (by subst hw; simpa using ht)⟩
    · refine concat_meets ⟨_, ho, rfl⟩ ⟨_, ho2, rfl⟩ noFill_tuple_add seq_tuple_add PySem.F.slot_tuple_add PySem.F.entry_tuple_add (PySem.F.args_tuple_add_2 _ _)
        (tuple_addW2 t b vs.toArray ws.toArray n n2 dd dd2 sl sl2 (by simpa using hv) (by simpa using hw) hsz') ⟨ho, ho2, ?_⟩
      rw [e]
      exact h _ _ (Stp.push _) isTuple_push
theorem add_lst {t b : Addr} {vs ws : List Value} {Q : Value → Shared → Prop} (ht : s.heap.IsList t vs.toArray) (hb : s.heap.IsList b ws.toArray)
    (h : ∀ s' r, Stp C [] [] s s' → s.heap.get? r = none → s'.heap.PlainList r (vs ++ ws).toArray → Q (.ref r) s') (hsz : vs.length + ws.length ≤ 100000) : wpAny (MM C) A (binaryOp .Add (.ref t) (.ref b)) Q E s := by
  obtain ⟨⟨cls, dd, data, sl⟩, ho, hc, n, hd⟩ := id ht
  obtain ⟨⟨cls2, dd2, data2, sl2⟩, ho2, hc2, n2, hd2⟩ := id hb
  simp only at hc hd hc2 hd2
  subst hc hd hc2 hd2
  have e : vs.toArray ++ ws.toArray = (vs ++ ws).toArray := by simp
  have hsz' : vs.toArray.size + ws.toArray.size ≤ sizeLine := by rw [sizeLine_eq, List.size_toArray, List.size_toArray]; omega
  refine concat_meets ⟨_, ho, rfl⟩ ⟨_, ho2, rfl⟩ noFill_list_add seq_list_add PySem.F.slot_list_add PySem.F.entry_list_add (PySem.F.args_list_add_2 _ _) (list_addW t b vs.toArray ws.toArray n n2 dd dd2 sl sl2 hsz') ⟨ho, ho2, ?_⟩
  rw [e]
  exact h _ _ (Stp.push _) (get_size _) ⟨0, Heap.get?_push_size _ rfl⟩
/-- a + b -/
theorem ev_add {l r : Expr} {pos : Pos} {Q : Value → Shared → Prop} (h : wpAny (MM C) A (eval l env) (fun a s₁ => wpAny (MM C) A (eval r env) (fun b s₂ => wpAny (MM C) A (binaryOp .Add a b) Q E s₂) E s₁) E s) :
    wpAny (MM C) A (eval (.BinOp l .Add r pos) env) Q E s := wpAny_BinOp h
/-- len(x) -/
theorem len_t {t : Addr} {vs : List Value} {Q : Value → Shared → Prop} (ht : s.heap.IsTuple t vs.toArray) (hsz : vs.length ≤ 100000) (h : ∀ u s', Stp C [] [] s s' → Q (.int vs.length u) s') : wpAny (MM C) A (call (.builtin "len") [.ref t]) Q E s := by
  have := h (s.toks + 1) { s with toks := s.toks + 1 + 1 } (Stp.tok (.refl s))
  exact PyProof.Rows.len_tuple ht (by rw [List.size_toArray]; omega) (by simpa using this)
theorem len_l {t : Addr} {vs : List Value} {Q : Value → Shared → Prop} (ht : s.heap.IsList t vs.toArray) (hsz : vs.length ≤ 100000) (h : ∀ u s', Stp C [] [] s s' → Q (.int vs.length u) s') : wpAny (MM C) A (call (.builtin "len") [.ref t]) Q E s := by
  have := h (s.toks + 1) { s with toks := s.toks + 1 + 1 } (Stp.tok (.refl s))
  exact len_list ht (by rw [List.size_toArray]; omega) (by simpa using this)
/-- isinstance(x, (list, tuple)) -/
theorem isi2 {x : Value} {Tx : String} {tp : Addr} {cs : List Value} {vs : List Bool} {b : Bool} {Q : Value → Shared → Prop} (ha : AnswersAll (fun s => s.TypeIs x Tx) x cs vs) (hx : s.TypeIs x Tx)
    (ht : s.heap.get? tp = some { cls := .type "tuple", data := .seq cs.toArray }) (hb : vs.any id = b) (h : ∀ s', Stp C [] [] s s' → Q (.bool b) s') :
    wpAny (MM C) A (call (.builtin "isinstance") [x, .ref tp]) Q E s := IsiPair.tupleOfB ha hx ht hb fun tk => h _ (Stp.tok (.refl s))
theorem ans_tl {t : Addr} : AnswersAll (fun s => s.TypeIs (.ref t) "tuple") (.ref t) [.type "tuple", .type "list"] [true, false] := by pv_isi_answers
theorem ans_lt {t : Addr} : AnswersAll (fun s => s.TypeIs (.ref t) "tuple") (.ref t) [.type "list", .type "tuple"] [false, true] := by pv_isi_answers
theorem ans_lt_l {t : Addr} : AnswersAll (fun s => s.TypeIs (.ref t) "list") (.ref t) [.type "list", .type "tuple"] [true, false] := by pv_isi_answers
theorem ans_lt_i {i : Int} {u : Tok} : AnswersAll (fun s => s.TypeIs (.int i u) "int") (.int i u) [.type "list", .type "tuple"] [false, false] := by pv_isi_answers
theorem ans_lt_s {x : Str} {u : Tok} : AnswersAll (fun s => s.TypeIs (.str x u) "str") (.str x u) [.type "list", .type "tuple"] [false, false] := by pv_isi_answers
end
end Mine

namespace Mine
open PySem PySem.Calls PySem.W PyProof.Rows
section
variable {C : Cx} {A : Around} {E : Value → Shared → Prop} {s : Shared} {env : Env}

/-- term(op, args) -/
theorem term_ok (FF : Facts C) {hp : Heap} (hw : Wd C hp) {k : Nat} (hA : Room (k + 1) A) {x : Str} {u : Tok} {args : Value} {ns : List Int} {Q : Value → Shared → Prop} (ht : TupI hp args ns) (hlen : ns.length ≤ 1000)
    (h : ∀ s' r, Stp C [] [] s s' → Reads s'.heap r (.tuple (.str x :: iL ns)) [] → Q r s') (hs : s.heap = hp := by rfl) : wpAny (MM C) A (call (.ref (C.fa 8)) [.str x u, args]) Q E s := by
  subst hs
  refine enter_fn FF (i := 8) (binds := [("op", .str x u), ("args", args)]) (by decide) hw hA (fun _ _ => .of_eq rfl) (fun s₁ L pm doc E' hn hL st hg hw₁ hA₁ => ?_)
  obtain ⟨t, vs, rfl, htt, hI⟩ := ht.keep st
  have hvl : vs.length = ns.length := hI.length
  refine wpAny_execs_cons (wpAny_If (isTrue_not (isTrue_plain (ev_callb FF hw₁ (.builtin "isinstance") (arg2 (ev_local hn rfl (ev_tuple (arg2 (ev_b FF hw₁ (ev_b FF hw₁ ⟨by rw [sizeLine_eq]; simp, fun s₂ tp st₂ hg₂ hf₂ htp => ?_⟩))))))))))
  refine isi2 (Tx := "tuple") (b := true) ans_tl (by obtain ⟨o, e, c, _⟩ := st₂.tup2 htt; exact ⟨o, e, c⟩) htp rfl fun s₃ st₃ => wpAny_truthy_bool ?_
  have st₃ := st₂.trans st₃
  have hw₃ := st₃.wd hw₁
  refine wpAny_execs_nil ?_
  refine wpAny_execs_cons (wpAny_Return_some (ev_add (ev_tuple (arg1 (ev_local (st₃.loc hn) rfl ⟨by rw [sizeLine_eq]; simp, fun s₄ a st₄ hg₄ hf₄ ha => ?_⟩)))))
  have st₄ := st₃.trans st₄
  refine ev_callb FF (st₄.wd hw₁) (.type "tuple") (arg1 (ev_local (st₄.loc hn) rfl ?_))
  refine call_tuple_same (st₄.tup2 htt) ?_
  refine add_tup (vs := [.str x u]) (ws := vs) (isTuple_of ha) (st₄.tup2 htt) (fun s₅ r st₅ hr => ?_) (by simp; omega)
  obtain ⟨o, e, c, n, d⟩ := hr
  exact h s₅ _ ((st.trans st₄).trans st₅) (.tuple e c d (as := [] ++ []) (by simpa using ReadsAll.cons (Reads.str x u) (intsAre_reads hI)))

/-- build(op, args) -/
theorem build_ok (FF : Facts C) {hp : Heap} (hw : Wd C hp) {k : Nat} (hA : Room (k + 2) A) {x : Str} {u : Tok} {args : Value} {ns : List Int} {Q : Value → Shared → Prop} (ht : TupI hp args ns) (hlen : ns.length ≤ 1000)
    (h : ∀ s' r, Stp C [] [] s s' → Reads s'.heap r (.tuple (.str x :: iL ns)) [] → Q r s') (hs : s.heap = hp := by rfl) : wpAny (MM C) A (call (.ref (C.fa 14)) [.str x u, args]) Q E s := by
  subst hs
  refine enter_fn FF (i := 14) (binds := [("op", .str x u), ("args", args)]) (by decide) hw hA (fun _ _ => .of_eq rfl) (fun s₁ L pm doc E' hn hL st hg hw₁ hA₁ => ?_)
  refine wpAny_execs_cons (wpAny_Try_except (wpAny_execs_cons (wpAny_Return_some (ev_call FF hw₁ 8 (arg2 (ev_local hn rfl (ev_local hn rfl ⟨hw₁, term_ok FF hw₁ hA₁ (ht.keep st) hlen fun s₂ r st₂ hr => ?_⟩)))))))
  exact h s₂ r (st.trans st₂) hr

def opOf (x : Str) (ns : List Int) : PyData := if ns.length = 1 then .int (ns.getD 0 0) else .tuple (.str x :: iL ns)
theorem readsAll_ops {x : Str} {h : Heap} : ∀ {iss : List (List Int)} {vs : List Value} {as : List Addr}, ReadsAll h vs (iss.map (opOf x)) as → as = []
  | [], _, _, r => by cases r; rfl
  | is :: iss, _, _, r => by
    obtain ⟨v, vs, a, b, rfl, rfl, r, rs⟩ := readsAll_cons r
    rw [readsAll_ops rs, List.append_nil]
    simp only [opOf] at r
    split at r
    · exact (reads_int r).choose_spec.2
    · cases r with
      | tuple e hc hd r =>
        obtain ⟨v, vs, a, b, _, rfl, r, rs⟩ := readsAll_cons r
        cases r
        rw [(reads_ints rs).1]; rfl

/-- makeops(op, lists) -/
theorem makeops_ok (FF : Facts C) {hp : Heap} (hw : Wd C hp) {k : Nat} (hA : Room (k + 12) A) {x : Str} {u : Tok} {lists : Value} {nss : List (List Int)} {as : List Addr} {Q : Value → Shared → Prop} (hi : Reads hp lists (.list (nss.map tupL)) as)
    (hin : ∀ ns ∈ nss, ns.length ≤ 1000) (hlen : nss.length ≤ 1000)
    (h : ∀ s' r, Stp C [] [] s s' → Reads s'.heap r (.tuple (nss.map (opOf x))) [] → Q r s') (hs : s.heap = hp := by rfl) : wpAny (MM C) A (call (.ref (C.fa 11)) [.str x u, lists]) Q E s := by
  subst hs
  refine enter_fnC FF (i := 11) (binds := [("op", .str x u), ("lists", lists)]) (by decide) hw hA (fun _ _ => rfl) (fun s₁ L pm doc E' hn hcell hLf hL₀ st hg hw₁ hA₁ => ?_)
  have hi := st.reads hi (by simp)
  have hc : s₁.heap.IsCell (L + 1) (some (.str x u)) := hcell "op" (L + 1) rfl
  obtain ⟨l, xs, bs, rfl, rfl, hl, hr⟩ := list_of hi
  refine wpAny_execs_cons (wpAny_Return_some (ev_callb FF hw₁ (.type "tuple") (arg1 (ev_genexp FF (i := 11) (cl := [("op", L + 1)]) rfl rfl hA₁.d
    (ev_local hn rfl (pyIter_list FF hw₁ hl hr fun s₂ it st₂ hg₂ hitf hit => ⟨it, 5, nss.map tupL, nss.map (opOf x), _, [L + 1], rfl, st₂.wd hw₁, hit.less (Nat.zero_le 5), ?_, ?_, ?_, fun s₃ a F' st₃ hga hT hFW hFR hFV => ?_⟩))))))
  · exact all1 (live_cell (st₂.cell hc (hL₀ _ (Nat.le_succ L))) (hL₀ _ (Nat.le_succ L)))
  · exact all1 (nin1 (ne_of_fresh hitf (alive_cell hc)))
  · intro L' code hL'
    refine paired_map fun ns hns => ?_
    intro A₂ s₄ l v as Q₂ E₂ hA₂ hw₄ hloc hlk hrd hag hq
    obtain ⟨rfl, tt, vs, rfl, htt, hI⟩ := tupI_of hrd
    have hvl : vs.length = ns.length := hI.length
    have hns' := hin ns hns
    refine IfExp_ (wpAny_isTrue_Compare1 (ev_callb FF hw₄ (.builtin "len") (arg1 (ev_local hloc hlk (len_t htt (by omega) fun u' s₅ st₅ => wpAny_Constant_int ?_)))))
    refine eq_int (wpAny_truthy_bool ?_)
    have hl₅ : Loc C s₅.heap _ l := st₅.loc hloc
    have hw₅ := st₅.wd hw₄
    have hag₅ : Agree C [L + 1] [] s₂ s₅ := hag.trans (st₅.agree (fun _ _ h => nomatch h) all0)
    by_cases h1 : ns.length = 1
    · have hb : ((vs.length : Int) == 1) = true := by rw [hvl, h1]; rfl
      rw [hb]
      simp only [if_true]
      have hget : ns[0]? = some (ns.getD 0 0) := by simp [List.getD, h1]
      obtain ⟨u₂, hu⟩ := intsAre_get hI hget
      refine ev_item_tuple (ev_local hl₅ hlk (wpAny_Constant_int ⟨tt, _, 0, _, _, rfl, rfl, st₅.tup2 htt, by omega, by omega, by simpa using hu, ?_⟩))
      refine hq _ _ [] ?_ (fun _ h => nomatch h) (Stp.tok (s' := s₅) st₅)
      simp only [opOf, h1, if_true]
      exact .int _ _
    · have hb : ((vs.length : Int) == 1) = false := by rw [hvl]; simp; omega
      rw [hb]
      simp only [Bool.false_eq_true, if_false]
      refine ev_call FF hw₅ 14 (arg2 (ev_free (hag₅.cell (st₂.cell hc (hL₀ _ (Nat.le_succ L))) (hL₀ _ (Nat.le_succ L))) (ev_local hl₅ hlk ⟨hw₅, build_ok FF (k := 3) hw₅ hA₂ ⟨tt, vs, rfl, st₅.tup2 htt, hI⟩ hns' fun s₆ r st₆ hr => hq _ _ [] ?_ (fun _ h => nomatch h) (st₅.trans st₆)⟩) rfl))
      simpa only [opOf, h1, if_false] using hr
  · refine call_tuple_it FF (st₃.wd (st₂.wd hw₁)) hga (hA₁.less (by omega)) (lazy_gen hT) (by simpa using Nat.le_trans hlen (by omega)) fun s₄ r acc' as' st₄ hrt hra _ => ?_
    have e := readsAll_ops hra
    subst e
    refine h s₄ _ (((st.trans st₂).trans st₃).andThen st₄ all0 all0 (fun a ha => ?_) fun j hj => ?_) (.tuple hrt rfl rfl (by simpa using hra))
    · rcases hFW a ha with q | q
      · exact .inr ((st.none_of (List.mem_singleton.mp q ▸ hitf)).elim (fun h => nomatch h) id)
      · exact .inr (((st.trans st₂).none_of q).elim (fun h => nomatch h) id)
    · rcases hFV j hj with q | q
      · exact nomatch q
      · exact .inr (((st.trans st₂).gnone_of q).elim (fun h => nomatch h) id)
end
end Mine

namespace Mine
open PySem PySem.Calls PySem.W PyProof.Rows
section
variable {C : Cx} {A : Around} {E : Value → Shared → Prop} {s : Shared} {env : Env}

theorem notIter_tuple {t : Addr} {Q : Bool → Shared → Prop} (ht : s.TypeIs (.ref t) "tuple") (h : Q false s) : wpAny (MM C) A (notIterableAtAll (.ref t)) Q E s := by
  unfold notIterableAtAll
  exact wpAny_bind (wpAny_specialOf ht PySem.F.slot_tuple_iter.lookup (wpAny_pure h))
theorem collect_tuple {t : Addr} {vs : List Value} {Q : List Value → Shared → Prop} (ht : s.heap.IsTuple t vs.toArray) (hlen : vs.length ≤ 100000) (h : ∀ s', Stp C [] [] s s' → Q vs s') : wpAny (MM C) A (collect (.ref t)) Q E s := by
  obtain ⟨o, e, c, n, d⟩ := ht
  exact wpAny_collect_seq (hsz := by rw [sizeLine_eq, List.size_toArray]; omega) t (.inr rfl) e c d fun h' hk => by
    have := h _ (Stp.keeps (s := s) (s' := { s with heap := h' }) hk rfl rfl)
    simpa using this
/-- f( *t ) -/
theorem callWith_star (FF : Facts C) {pos : Pos} {i : Nat} {x : Sem Value} {Q : Value → Shared → Prop} (hi : i ∈ fnIx)
    (h : wpAny (MM C) A x (fun v s₁ => ∃ t vs, v = .ref t ∧ Wd C s₁.heap ∧ s₁.heap.IsTuple t (List.toArray vs) ∧ vs.length ≤ 100000 ∧ ∀ s₂, Stp C [] [] s₁ s₂ → wpAny (MM C) A (call (.ref (C.fa i)) vs) Q E s₂) E s) :
    wpAny (MM C) A (callWith pos (.ref (C.fa i)) [] [(true, x)] []) Q E s := by
  unfold callWith
  refine wpAny_bind (wpAny_holding (wpAny_mono (?_ : wpAny (MM C) A (evalArgs (.ref (C.fa i)) true [(true, x)] []) (fun a s₁ => Wd C s₁.heap ∧ a.kw = [] ∧ wpAny (MM C) A (call (.ref (C.fa i)) a.pos) Q E s₁) E s) (fun a s₁ h₁ => wpAny_bind (wpAny_standAt ?_)) fun _ _ x => x))
  · unfold evalArgs
    refine wpAny_bind (wpAny_mono h (fun v s₁ h₁ => wpAny_bind (wpAny_pure ?_)) fun _ _ x => x)
    obtain ⟨t, vs, rfl, hw, ht, hl, hq⟩ := h₁
    refine wpAny_holding ?_
    show wpAny (MM C) A (evalAll [] >>= _) _ _ _
    refine wpAny_bind (wpAny_evalAll_nil (wpAny_bind ?_))
    refine wpAny_bind (notIter_tuple (by obtain ⟨o, e, c, _⟩ := ht; exact ⟨o, e, c⟩) ?_)
    show wpAny (MM C) A (holding [] (collect (.ref t))) _ E s₁
    refine wpAny_holding (collect_tuple ht hl fun s₂ st => ?_)
    exact wpAny_pure ⟨st.wd hw, rfl, hq s₂ st⟩
  · obtain ⟨hw, hkw, hc⟩ := h₁
    obtain ⟨k, hk', L⟩ := looks_fn FF hi _ hw
    obtain ⟨pos', kw⟩ := a
    subst hkw
    show wpAny (MM C) A (keeperOf (.ref (C.fa i)) >>= _) _ _ _
    refine wpAny_bind (L.here ?_)
    have tail : ∀ {t : Sem Value}, wpAny (MM C) A t Q E s₁ → wpAny (MM C) A (t >>= fun r => holding [r] point >>= fun _ => pure r) Q E s₁ :=
      fun ht => wpAny_bind (wpAny_mono ht (fun r s₂ hr => wpAny_bind (wpAny_holding (wpAny_point (wpAny_pure hr)))) fun _ _ x => x)
    have marked (mk : Value) : wpAny (MM C) A (callMarked mk (.ref (C.fa i)) pos' []) Q E s₁ := by unfold callMarked; exact Calls.wpAny_keep hc
    rcases hk' with rfl | rfl | rfl
    · exact tail (marked _)
    · exact tail (wpAny_operateT hc)
    · exact tail (wpAny_operateT hc)

/-- entering a def whose only parameter is *x -/
theorem bind_var {fd : FuncData} {vals : List Value} {n : Str} (hb : bindArgs fd ⟨vals, []⟩ = (newTuple vals >>= fun v => pure [(n, v)])) {Q : List (Str × Value) → Shared → Prop} (hlen : vals.length ≤ 100000)
    (h : ∀ s' t, Stp C [] [] s s' → s'.gens = s.gens → s'.heap.IsTuple t vals.toArray → Q [(n, .ref t)] s') : wpAny (MM C) A (bindArgs fd ⟨vals, []⟩) Q E s := by
  rw [hb]
  exact wpAny_bind (wpAny_newObj_type (wpAny_pure (h _ _ (Stp.push _) rfl isTuple_push)) (by show vals.toArray.size ≤ sizeLine; rw [List.size_toArray, sizeLine_eq]; omega))
theorem bind13 (pm doc c : Value) (vals : List Value) : bindArgs (docDef (nameOf (fnStmt 13)) (paramsOf (fnStmt 13)) (bodyOf (fnStmt 13)) (scopeOf (fnStmt 13)) pm c doc) ⟨vals, []⟩ = (newTuple vals >>= fun v => pure [(("gsizes" : Str), v)]) := by
  cases vals <;> rfl
theorem enter_fnV (FF : Facts C) {i : Nat} {vals : List Value} {n : Str} {Q : Value → Shared → Prop} {k : Nat} {hp : Heap} (hi : i ∈ fnIx) (hw : Wd C hp) (hA : Room (k + 1) A) (hlen : vals.length ≤ 100000)
    (hbind : ∀ pm doc, bindArgs (docDef (nameOf (fnStmt i)) (paramsOf (fnStmt i)) (bodyOf (fnStmt i)) (scopeOf (fnStmt i)) pm (.ref (C.fc i)) doc) ⟨vals, []⟩ = (newTuple vals >>= fun v => pure [(n, v)]))
    (h : ∀ (s₁ : Shared) (t L : Addr) (pm doc : Value) (E' : Value → Shared → Prop), Loc C s₁.heap L [(n, .ref t)] → s.heap.get? L = none → s₁.heap.IsTuple t vals.toArray → Stp C [] [] s s₁ → s₁.gens = s.gens → Wd C s₁.heap → Room k (A.deeper (fnEnv C i L pm doc)) →
      wpAny (MM C) (A.deeper (fnEnv C i L pm doc)) (execs (bodyOf (fnStmt i)) (fnEnv C i L pm doc)) (fun f s' => Q (match f with | .ret v => v | _ => .none) s') E' s₁) (hs : s.heap = hp := by rfl)
    (hcell : ((scopeOf (fnStmt i)).names.all fun x => x.2 != .cell) = true := by rfl) (hloc : (scopeOf (fnStmt i)).names.lookup n = some .local := by rfl)
    (hco : (scopeOf (fnStmt i)).isCoroutine = false := by rfl) (hgen : (scopeOf (fnStmt i)).isGenerator = false := by rfl) (hk : (scopeOf (fnStmt i)).kind = .function := by rfl) :
    wpAny (MM C) A (call (.ref (C.fa i)) vals) Q E s := by
  subst hs
  obtain ⟨o, pm, doc, ho, hc, hd, hcd⟩ := FF.fn i hi _ hw
  refine wpAny_call (codeAny_call_function (body := bodyOf (fnStmt i)) hA.d ho hd hco hgen rfl hcd (bind_var (hbind pm doc) hlen fun s₁ t st₁ hg₁ ht => ?_))
  have hf := get_size s₁.heap
  refine wpAny_newFunctionEnv (fun x hx => by have := List.all_eq_true.mp hcell x hx; simpa using this) (fun x hx => by rw [List.mem_singleton.mp hx]; exact hloc) (fun h₀ hns hsb => ⟨?_, codeAny_func ?_⟩) hk
  · exact (FF.lim _ (st₁.wd hw)).fresh _ hsb
  · have hk : ∀ b o, s₁.heap.get? b = some o → h₀.get? b = some o := fun b o e => hsb.extBut b o (Nat.ne_of_lt (Heap.lt_size e)) (Heap.get?_push_of_some _ e)
    have st₂ : Stp C [] [] s₁ { s₁ with heap := h₀, toks := s₁.toks + 1 } := Stp.keeps hk rfl rfl
    exact h _ t s₁.heap.objs.size pm doc _ ⟨hns, (st₁.wd hw).none hf⟩ (st₁.fresh hf) (st₂.tup2 ht) (st₁.trans st₂) hg₁ (st₂.wd (st₁.wd hw)) hA.deeper
end
end Mine

namespace Mine
open PySem PySem.Calls PySem.W PyProof.Rows
section
variable {C : Cx} {A : Around} {E : Value → Shared → Prop} {s : Shared} {env : Env}

/-- what a for loop keeps: J with its footprint K, and the objects WB that its body changes -/
structure LoopOk (C : Cx) (A : Around) (env : Env) (x : Str) (body : List Stmt) (WB : List Addr) (J : List PyData → List Addr → Shared → Prop) : Prop where
  stable : ∀ (rem : List PyData) (K W : List Addr) (V : List Nat) (s s' : Shared), Stp C W V s s' → (∀ a ∈ K, a ∉ W) → J rem K s → J rem K s'
  alive : ∀ (rem : List PyData) (K : List Addr) (s : Shared), J rem K s → ∀ a ∈ K, ∃ o, s.heap.get? a = some o
  sub : ∀ (rem : List PyData) (K : List Addr) (s : Shared), J rem K s → ∀ a ∈ WB, a ∈ K
  turn : ∀ (d : PyData) (rem : List PyData) (K : List Addr) (s : Shared) (v : Value) (as : List Addr) (E' : Value → Shared → Prop), J (d :: rem) K s → Wd C s.heap → Reads s.heap v d as → (∀ a ∈ as, a ∉ K) →
    wpAny (MM C) A (storeName env x v) (fun _ s₃ => wpAny (MM C) A (execs body env) (fun f s₄ => f = .next ∧ Stp C WB [] s s₄ ∧ ∃ K', J rem K' s₄ ∧ ∀ a ∈ K', a ∈ K ∨ s.heap.get? a = none) E' s₃) E' s

theorem for_loop {R : Result → Shared → Prop} {x : Str} {px : Pos} {body : List Stmt} {it : Addr} {WB K : List Addr} {J : List PyData → List Addr → Shared → Prop} {ds : List PyData} {F : Ft} (lo : LoopOk C A env x body WB J)
    (hit : Iter C A it ds F s) (hw : Wd C s.heap) (hJ : J ds K s) (hFK : ∀ a ∈ F.W ++ F.R, a ∉ K)
    (hR : ∀ s' K', J [] K' s' → Stp C (F.W ++ WB) F.V s s' → (∀ a ∈ K', a ∈ K ∨ a ∈ F.W ∨ a ∈ WB ∨ s.heap.get? a = none) → R (.ok .next) s') : codeAny (MM C) A (.forLoop (.Name x px) (.ref it) body [] env) R s := by
  refine for_iter (fun rem s₁ => ∃ F₁ K₁, Iter C A it rem F₁ s₁ ∧ Wd C s₁.heap ∧ J rem K₁ s₁ ∧ (∀ a ∈ F₁.W ++ F₁.R, a ∉ K₁) ∧ Stp C (F.W ++ WB) F.V s s₁ ∧ (∀ a ∈ F₁.W, a ∈ F.W ∨ a ∈ WB ∨ s.heap.get? a = none) ∧ (∀ i ∈ F₁.V, i ∈ F.V ∨ s.gens[i]? = none) ∧ (∀ a ∈ K₁, a ∈ K ∨ a ∈ F.W ∨ a ∈ WB ∨ s.heap.get? a = none)) ?_ ?_ ds
    ⟨F, K, hit, hw, hJ, hFK, .refl _, fun _ h => .inl h, fun _ h => .inl h, fun _ h => .inl h⟩
  · rintro d rem s₁ ⟨F₁, K₁, hit₁, hw₁, hJ₁, hFK₁, st₁, hFW, hFV, hKK⟩
    refine ⟨F₁, hit₁, hw₁, fun v s₂ as F₂ E' got hit₂ => ?_⟩
    obtain ⟨hrd, has, st₂, nx⟩ := got
    have hal := lo.alive _ _ _ hJ₁
    have hKW : ∀ a ∈ K₁, a ∉ F₁.W := fun a ha q => hFK₁ a (List.mem_append_left _ q) ha
    have hKR : ∀ a ∈ K₁, a ∉ F₁.R := fun a ha q => hFK₁ a (List.mem_append_right _ q) ha
    have hJ₂ := lo.stable _ _ _ _ _ _ st₂ hKW hJ₁
    have hasK : ∀ a ∈ as, a ∉ K₁ := fun a ha q => by
      rcases (has a ha).2 with z | z | z
      · exact hKW a q z
      · exact hKR a q z
      · exact dead_of z (hal a q) rfl
    refine wpAny_mono (lo.turn d rem K₁ s₂ v as E' hJ₂ (st₂.wd hw₁) hrd hasK) (fun _ s₃ h₃ => wpAny_mono h₃ (fun f s₄ h₄ => ?_) fun _ _ e => e) fun _ _ e => e
    obtain ⟨rfl, st₄, K', hJ', hK'⟩ := h₄
    have hKF₂ : ∀ a ∈ F₂.W ++ F₂.R, a ∉ K₁ := fun a ha q => nx.off (hal a q) (hKW a q) (hKR a q) ha
    have hfr : ∀ a, s₁.heap.get? a = none → a ∈ F.W ∨ a ∈ WB ∨ s.heap.get? a = none := fun a q => (st₁.none_of q).elim (fun z => (List.mem_append.mp z).elim .inl fun z => .inr (.inl z)) fun z => .inr (.inr z)
    have inW : ∀ a, a ∈ F.W ∨ a ∈ WB ∨ s.heap.get? a = none → a ∈ F.W ++ WB ∨ s.heap.get? a = none := fun a h => by
      rcases h with h | h | h
      · exact .inl (List.mem_append_left _ h)
      · exact .inl (List.mem_append_right _ h)
      · exact .inr h
    refine ⟨F₂, K', hit₂.agree (st₄.agree (fun a ha q => hKF₂ a ha (lo.sub _ _ _ hJ₂ a q)) (fun _ _ h => nomatch h)), st₄.wd (st₂.wd hw₁), hJ', fun a ha q => ?_, ?_, fun a ha => (nx.W a ha).elim (hFW a) (hfr a), fun i hi => (nx.V i hi).elim (hFV i) fun z => st₁.gnone_of z, fun a ha => (hK' a ha).elim (hKK a) fun z => .inr ((st₂.none_of z).elim (fun q => hFW a q) (hfr a))⟩
    · exact (hK' a q).elim (hKF₂ a ha) fun z => dead_of z (nx.live a ha).some rfl
    · exact (st₁.andThen st₂ (fun _ h => .inl h) (fun _ h => .inl h) (fun a ha => inW a (hFW a ha)) hFV).more st₄ fun a ha => .inl (List.mem_append_right _ ha)
  · rintro s₁ ⟨F₁, K₁, hit₁, hw₁, hJ₁, hFK₁, st₁, hFW, hFV, hKK⟩
    refine ⟨F₁, hit₁, hw₁, fun s₂ st₂ => hR s₂ K₁ (lo.stable _ _ _ _ _ _ st₂ (fun a ha q => hFK₁ a (List.mem_append_left _ q) ha) hJ₁) (st₁.andThen st₂ (fun _ h => .inl h) (fun _ h => .inl h) (fun a ha => ?_) hFV) hKK⟩
    rcases hFW a ha with h | h | h
    · exact .inl (List.mem_append_left _ h)
    · exact .inl (List.mem_append_right _ h)
    · exact .inr h

/-- for x in ..: over a fresh iterator -/
theorem ex_forI {x : Str} {px pos : Pos} {iter : Expr} {body : List Stmt} {Q : Flow → Shared → Prop} {k : Nat} (hA : Room k A)
    (h : wpAny (MM C) A (eval iter env) (fun xv s₁ => ∃ ds Fr WB K J, IterOf C xv ds Fr s₁ ∧ Wd C s₁.heap ∧ LoopOk C A env x body WB J ∧ J ds K s₁ ∧ (∀ a ∈ Fr, a ∉ K) ∧ ∀ s' K', J [] K' s' → Stp C WB [] s₁ s' → (∀ a ∈ K', a ∈ K ∨ a ∈ WB ∨ s₁.heap.get? a = none) → Q .next s') E s)
    (hf : ∀ x, foldedSetIterable iter env x = pure x := by intro _; rfl) : wpAny (MM C) A (exec (.For (.Name x px) iter body [] pos) env) Q E s := by
  refine ex_for (wpAny_mono h (fun xv s₁ h₁ => ?_) fun _ _ e => e) hf
  obtain ⟨ds, Fr, WB, K, J, hit, hw, lo, hJ, hFK, hq⟩ := h₁
  refine hit A _ _ fun s₂ it st hg hitf hok => ?_
  have hJ₂ := lo.stable _ _ _ _ _ _ st (fun _ _ h => nomatch h) hJ
  refine for_loop lo (hok.it A (hA.less (Nat.zero_le _))) (st.wd hw) hJ₂ (fun a ha q => ?_) fun s' K' hJ' st' hKK => hq s' K' hJ' (st.andThen st' (fun _ h => nomatch h) (fun _ h => nomatch h) (fun a ha => ?_) fun _ h => nomatch h) fun a ha => ?_
  · rcases List.mem_cons.mp ha with z | z
    · exact dead_of (z ▸ hitf) (lo.alive _ _ _ hJ a q) rfl
    · exact hFK a z q
  · rcases List.mem_cons.mp ha with z | z
    · exact .inr (z ▸ hitf)
    · exact .inl z
  · rcases hKK a ha with z | z | z | z
    · exact .inl z
    · exact .inr (.inr (List.mem_singleton.mp z ▸ hitf))
    · exact .inr (.inl z)
    · exact .inr (.inr (st.fresh z))
end
end Mine

namespace Mine
open PySem PySem.Calls PySem.W PyProof.Rows
section
variable {C : Cx} {A : Around} {E : Value → Shared → Prop} {s : Shared} {env : Env}

/-- range(e) -/
theorem call_rng1 (FF : Facts C) {n : Int} {t : Tok} {Q : Value → Shared → Prop} (hlo : -1000000 ≤ n) (hhi : n ≤ 1000000)
    (h : ∀ s' r, Stp C [] [] s s' → s'.gens = s.gens → (∃ t u v, IsRange s'.heap r 0 n 1 t u v) → (∀ s'', Stp C [] [] s' s'' → s'.heap = s''.heap → Wd C s''.heap → IterOf C (.ref r) (intsFrom 0 n.toNat) [] s'') → Q (.ref r) s') : wpAny (MM C) A (call (.type "range") [.int n t]) Q E s := by
  refine call_range_1 (h _ _ (Stp.pushT _ _) rfl ⟨_, _, _, Heap.get?_push_size _ rfl⟩ fun s'' st e hw => ?_)
  refine iterOf_range FF hw (a := 0) (b := n) (t := s.toks) (u := t) (v := s.toks + 1) (by rw [← e]; exact Heap.get?_push_size _ rfl) ?_ (small_one (by decide) (by decide) (by omega) (by omega))
  rw [rangeSize_one]
  split <;> omega
theorem call_rng2 (FF : Facts C) {a b : Int} {t u : Tok} {Q : Value → Shared → Prop} (halo : -1000000 ≤ a) (hahi : a ≤ 1000000) (hlo : -1000000 ≤ b) (hhi : b ≤ 1000000)
    (h : ∀ s' r, Stp C [] [] s s' → s'.gens = s.gens → (∃ t u v, IsRange s'.heap r a b 1 t u v) → (∀ s'', Stp C [] [] s' s'' → s'.heap = s''.heap → Wd C s''.heap → IterOf C (.ref r) (intsFrom a (b - a).toNat) [] s'') → Q (.ref r) s') : wpAny (MM C) A (call (.type "range") [.int a t, .int b u]) Q E s := by
  refine call_range_2 (h _ _ (Stp.pushT _ _) rfl ⟨_, _, _, Heap.get?_push_size _ rfl⟩ fun s'' st e hw => ?_)
  refine iterOf_range FF hw (a := a) (b := b) (t := t) (u := u) (v := s.toks) (by rw [← e]; exact Heap.get?_push_size _ rfl) ?_ (small_one (by omega) (by omega) (by omega) (by omega))
  rw [rangeSize_one]
  split <;> omega
/-- l.append(e) as a statement -/
theorem ex_append (FF : Facts C) {o e : Expr} {apos pos p : Pos} {Q : Flow → Shared → Prop}
    (h : wpAny (MM C) A (eval o env) (fun ov s₁ => ∃ l, ov = .ref l ∧ (∃ xs, s₁.heap.PlainList l xs) ∧ wpAny (MM C) A (eval e env) (fun v s₂ => ∃ vs, s₂.heap.PlainList l (List.toArray vs) ∧ vs.length ≤ 100000 ∧ C.h₀.get? l = none ∧ ∀ s₃, Stp C [l] [] s₂ s₃ → s₃.gens = s₂.gens → s₃.heap.PlainList l (vs ++ [v]).toArray → Q .next s₃) E s₁) E s)
    (hb : attributeBase o "append" env (eval o env) = eval o env := by rfl) (hline : (apos.endLine == pos.line) = true := by rfl) (hi : interactive env = false := by rfl)
    (hsw : swapsWith (.Call (.Attribute o "append" apos) [e] [] pos) none p.line env = pure false := by rfl) (he : backTo pos (starEach [e] env) = [(false, eval e env)] := by rfl) :
    wpAny (MM C) A (exec (.Expr (.Call (.Attribute o "append" apos) [e] [] pos) p) env) Q E s := by
  refine wpAny_Expr_any (wpAny_Call_method1_late hb hline he (wpAny_mono h (fun ov s₁ h₁ => ?_) fun _ _ e => e)) hi hsw
  obtain ⟨l, rfl, ⟨xs, n, hl⟩, hq⟩ := h₁
  refine ⟨"list", "list.append", F.plainAttrs_list, F.slot_list_append, F.type_list_append, ⟨_, hl, rfl⟩, (fun a e => by cases e; exact ⟨_, hl, rfl⟩), P.append_list (wpAny_mono hq (fun v s₂ h₂ => ?_) fun _ _ e => e)⟩
  obtain ⟨vs, ⟨m, hp⟩, hlen, h₀, hq⟩ := h₂
  refine ⟨_, m, by rw [List.size_toArray, sizeLine_eq]; omega, hp, ?_⟩
  refine hq _ (Stp.upd FF h₀ hp rfl (not_tup_list ⟨_, hp, rfl, m, rfl⟩)) rfl ⟨m + 1, ?_⟩
  rw [Heap.get?_update_self _ hp rfl]
  simp [Obj.mapSeq]
end
end Mine

namespace Mine
open PySem PySem.Calls PySem.W PyProof.Rows
section
variable {C : Cx} {A : Around} {E : Value → Shared → Prop} {s : Shared} {env : Env}
abbrev gl (l : List (Str × Value)) (x : Str) : Option Value := l.lookup x
theorem put_ne {l : List (Str × Value)} {x y : Str} {v w : Value} (h : gl l y = some w) (hne : y ≠ x := by decide) : (put x v l).lookup y = some w := by rw [put_lookup, if_neg hne]; exact h
theorem put_eq {l : List (Str × Value)} {x : Str} {v : Value} : (put x v l).lookup x = some v := by rw [put_lookup, if_pos rfl]
theorem ld_local {x : Str} {l : List (Str × Value)} {v : Value} {hp : Heap} {Q : Value → Shared → Prop} (hn : Loc C hp env.locals l) (hv : l.lookup x = some v) (h : Q v s) (hs : s.heap = hp := by rfl)
    (hk : env.scope.kind = .function := by rfl) (hl : env.kindOf x = some .local := by rfl) : wpAny (MM C) A (loadName env x) Q E s := by
  subst hs
  exact wpAny_loadName_local hk hl hn.ns hv h
def intsUp (x : Int) : Nat → List Int
  | 0 => []
  | n + 1 => x :: intsUp (x + 1) n
theorem intsFrom_eq : ∀ (n : Nat) (x : Int), intsFrom x n = iL (intsUp x n)
  | 0, _ => rfl
  | n + 1, x => by simp only [intsFrom, intsUp, iL, List.map_cons, List.cons.injEq, true_and]; exact intsFrom_eq n (x + 1)
theorem intsUp_len : ∀ (n : Nat) (x : Int), (intsUp x n).length = n
  | 0, _ => rfl
  | n + 1, x => by simp [intsUp, intsUp_len n (x + 1)]
theorem intsUp_snoc : ∀ (n : Nat) (x : Int), intsUp x n ++ [x + n] = intsUp x (n + 1)
  | 0, x => by simp [intsUp]
  | n + 1, x => by
    have := intsUp_snoc n (x + 1)
    simp only [intsUp, List.cons_append, List.cons.injEq, true_and] at this ⊢
    rw [show x + ((n + 1 : Nat) : Int) = x + 1 + (n : Int) by push_cast; omega]
    exact this
theorem intsUp_mem : ∀ (n : Nat) (x i : Int), i ∈ intsUp x n → x ≤ i ∧ i < x + n
  | 0, _, _, h => nomatch h
  | n + 1, x, i, h => by
    rcases List.mem_cons.mp h with rfl | h
    · omega
    · have := intsUp_mem n (x + 1) i h
      omega
def partsFrom : Int → List Int → List (List Int)
  | _, [] => []
  | k, g :: gs => intsUp k g.toNat :: partsFrom (k + g) gs

theorem plain_list {h : Heap} {l : Addr} {xs : Array Value} (x : h.PlainList l xs) : h.IsList l xs := x.isList
theorem loc_alive {h : Heap} {L : Addr} {l : List (Str × Value)} (x : Loc C h L l) : ∃ o, h.get? L = some o := let ⟨o, _, _, e, _⟩ := x.ns; ⟨o, e⟩

/-- the inner loop's own invariant -/
def InJ (C : Cx) (L l P : Addr) (k₀ : Int) (g : Nat) (rem : List PyData) (K : List Addr) (s : Shared) : Prop :=
  ∃ done u lo ys, done + rem.length = g ∧ K = [L, l] ∧ Loc C s.heap L lo ∧ gl lo "idx" = some (.int (k₀ + (done : Nat)) u) ∧ gl lo "part" = some (.ref P) ∧ gl lo "l_" = some (.ref l) ∧ s.heap.PlainList l (List.toArray ys) ∧ IntsAre ys (intsUp k₀ done)
/-- the outer loop's -/
def OutJ (C : Cx) (L P : Addr) (all : List (List Int)) (rem : List PyData) (K : List Addr) (s : Shared) : Prop :=
  ∃ ns idx u lo ys as done, rem = iL ns ∧ done ++ partsFrom idx ns = all ∧ Loc C s.heap L lo ∧ gl lo "idx" = some (.int idx u) ∧ gl lo "part" = some (.ref P) ∧ s.heap.PlainList P (List.toArray ys) ∧ ReadsAll s.heap ys (done.map lstL) as ∧ K = L :: P :: as ∧ P ∉ as ∧ L ∉ as ∧ L ≠ P ∧
    (∀ n ∈ ns, 0 ≤ n ∧ n ≤ 1000) ∧ done.length + ns.length ≤ 1000

theorem gtp_inner (FF : Facts C) {L l P : Addr} {k₀ : Int} {g : Nat} (hg : g ≤ 1000) (hl₀ : C.h₀.get? l = none) (hne : l ≠ L) {pm doc : Value} {body : List Stmt}
    (hb : body = (match (bodyOf (fnStmt 13)).getD 2 (.Pass default) with | .For _ _ b _ _ => (match b.getD 1 (.Pass default) with | .For _ _ b _ _ => b | _ => []) | _ => [])) :
    LoopOk C A (fnEnv C 13 L pm doc) "i" body [L, l] (InJ C L l P k₀ g) where
  stable := by
    rintro rem K W V s s' st hK ⟨done, u, lo, ys, hd, rfl, hlo, h1, h2, h3, hp, hi⟩
    exact ⟨done, u, lo, ys, hd, rfl, st.loc hlo (hK L (by simp)), h1, h2, h3, st.plain hp (hK l (by simp)), hi⟩
  alive := by
    rintro rem K s ⟨done, u, lo, ys, hd, rfl, hlo, h1, h2, h3, hp, hi⟩
    exact all2 (loc_alive hlo) (plain_alive hp)
  sub := by
    rintro rem K s ⟨done, u, lo, ys, hd, rfl, hlo, h1, h2, h3, hp, hi⟩ a ha
    exact ha
  turn := by
    rintro d rem K s v as E' ⟨done, u, lo, ys, hd, rfl, hlo, h1, h2, h3, hp, hi⟩ hw hrd has
    subst hb
    refine st_local FF hlo fun s₁ hlo₁ st₁ hg₁ => ?_
    have hp₁ := st₁.plain hp (nin1 hne)
    have hyl : ys.length = done := by rw [hi.length, intsUp_len]
    simp only [List.length_cons] at hd
    refine wpAny_execs_cons (ex_append FF (ev_local hlo₁ (put_ne h3) ⟨l, rfl, ⟨_, hp₁⟩, ev_local hlo₁ (put_ne h1) ⟨ys, hp₁, by omega, hl₀, fun s₂ st₂ hg₂ hp₂ => ?_⟩⟩))
    have hlo₂ := st₂.loc hlo₁ (nin1 hne.symm)
    refine wpAny_execs_cons (wpAny_AugAssign_Name (ld_local hlo₂ (put_ne h1) (wpAny_Constant_int (iadd_int (st_local FF hlo₂ fun s₃ hlo₃ st₃ hg₃ => wpAny_execs_nil ?_)))))
    have st₂' : Stp C [L, l] [] s s₂ := st₁.andThen st₂ (all1 (.inl (.head _))) all0 (all1 (.inl (.tail _ (.head _)))) all0
    rw [show k₀ + (done : Int) + 1 = k₀ + ((done + 1 : Nat) : Int) by push_cast; omega] at hlo₃
    refine ⟨rfl, st₂'.more st₃ (all1 (.inl (.head _))), [L, l], ⟨done + 1, _, _, _, by omega, rfl, hlo₃, put_eq, put_ne (put_ne h2), put_ne (put_ne h3), st₃.plain hp₂ (nin1 hne), ?_⟩, fun _ h => .inl h⟩
    rw [← intsUp_snoc]
    exact IntsAre.append hi (.cons _ _ .nil)
theorem partsFrom_len : ∀ (ns : List Int) (k : Int), (partsFrom k ns).length = ns.length
  | [], _ => rfl
  | _ :: ns, k => by simp [partsFrom, partsFrom_len ns]

theorem gtp_outer (FF : Facts C) {k : Nat} (hA : Room k A) {L P : Addr} {all : List (List Int)} (hP₀ : C.h₀.get? P = none) {pm doc : Value} {body : List Stmt}
    (hb : body = (match (bodyOf (fnStmt 13)).getD 2 (.Pass default) with | .For _ _ b _ _ => b | _ => [])) :
    LoopOk C A (fnEnv C 13 L pm doc) "gs" body [L, P] (OutJ C L P all) where
  stable := by
    rintro rem K W V s s' st hK ⟨ns, idx, u, lo, ys, as, done, rfl, hall, hlo, h1, h2, hp, hr, rfl, hPa, hLa, hLP, hns, hlen⟩
    exact ⟨ns, idx, u, lo, ys, as, done, rfl, hall, st.loc hlo (hK L (by simp)), h1, h2, st.plain hp (hK P (by simp)), st.readsAll hr fun a ha => hK a (by simp [ha]), rfl, hPa, hLa, hLP, hns, hlen⟩
  alive := by
    rintro rem K s ⟨ns, idx, u, lo, ys, as, done, rfl, hall, hlo, h1, h2, hp, hr, rfl, hPa, hLa, hLP, hns, hlen⟩ a ha
    rcases List.mem_cons.mp ha with rfl | ha
    · exact loc_alive hlo
    rcases List.mem_cons.mp ha with rfl | ha
    · exact plain_alive hp
    · exact readsAll_alive hr a ha
  sub := by
    rintro rem K s ⟨ns, idx, u, lo, ys, as, done, rfl, hall, hlo, h1, h2, hp, hr, rfl, hPa, hLa, hLP, hns, hlen⟩ a ha
    simp at ha ⊢
    rcases ha with rfl | rfl <;> simp
  turn := by
    rintro d rem K s v as₀ E' ⟨ns, idx, u, lo, ys, as, done, hrem, hall, hlo, h1, h2, hp, hr, rfl, hPa, hLa, hLP, hns, hlen⟩ hw hrd has
    subst hb
    cases ns with
    | nil => simp [iL] at hrem
    | cons g ns =>
    simp only [iL, List.map_cons, List.cons.injEq] at hrem
    obtain ⟨rfl, rfl⟩ := hrem
    obtain ⟨t, rfl, rfl⟩ := reads_int hrd
    obtain ⟨hg0, hg1⟩ := hns g (.head _)
    refine st_local FF hlo fun s₁ hlo₁ st₁ hg₁ => ?_
    have hw₁ := st₁.wd hw
    refine wpAny_execs_cons (wpAny_Assign_Name (ev_list (wpAny_items_nil ⟨by rw [sizeLine_eq]; simp, fun s₂ l st₂ hg₂ hlf hl => ?_⟩)))
    have hlo₂ := st₂.loc hlo₁
    have hl₀ := hw₁.none hlf
    have hlL : l ≠ L := dead_of hlf (loc_alive hlo₁)
    refine st_local FF hlo₂ fun s₃ hlo₃ st₃ hg₃ => ?_
    have hl₃ := st₃.plain hl (nin1 hlL)
    have hw₃ := st₃.wd (st₂.wd hw₁)
    have st13 : Stp C [L] [] s s₃ := (st₁.more st₂ all0).more st₃ (all1 (.inl (.head _)))
    refine wpAny_execs_cons (ex_forI hA (ev_callb FF hw₃ (.type "range") (arg1 (ev_local hlo₃ (put_ne put_eq) (call_rng1 FF (by omega) (by omega) fun s₄ r st₄ hg₄ hr₄ hit => ⟨intsFrom 0 g.toNat, [], [L, l], [L, l], InJ C L l P idx g.toNat, hit s₄ (.refl _) rfl (st₄.wd hw₃), st₄.wd hw₃, gtp_inner FF (by omega) hl₀ hlL rfl, ?_, (fun _ h => nomatch h), fun s₅ K₅ hJ₅ st₅ _ => ?_⟩)))))
    · exact ⟨0, u, _, [], by rw [intsFrom_eq, List.length_map, intsUp_len]; omega, rfl, st₄.loc hlo₃, by rw [show idx + ((0 : Nat) : Int) = idx by omega]; exact put_ne (put_ne h1), put_ne (put_ne h2), put_eq, st₄.plain hl₃, .nil⟩
    · obtain ⟨dn, u₅, lo₅, ys₅, hd₅, -, hlo₅, h1₅, h2₅, h3₅, hp₅, hi₅⟩ := hJ₅
      have hdn : dn = g.toNat := by simpa using hd₅
      subst hdn
      have hlf' : s.heap.get? l = none := (st₁.none_of hlf).elim (fun z => absurd (List.mem_singleton.mp z) hlL) id
      have hPl : P ≠ l := (dead_of hlf' (plain_alive hp)).symm
      have hasl : ∀ a ∈ as, a ≠ l := fun a ha => (dead_of hlf' (readsAll_alive hr a ha)).symm
      have hasL : ∀ a ∈ as, a ≠ L := fun a ha z => hLa (z ▸ ha)
      have hasP : ∀ a ∈ as, a ≠ P := fun a ha z => hPa (z ▸ ha)
      have hP₅ := st₅.plain (st₄.plain (st13.plain hp (nin1 hLP.symm))) (nin2 hLP.symm hPl)
      have hr₅ := st₅.readsAll (st₄.readsAll (st13.readsAll hr fun a ha => nin1 (hasL a ha)) fun _ _ h => nomatch h) fun a ha => nin2 (hasL a ha) (hasl a ha)
      have hyl := readsAll_length hr
      rw [List.length_map] at hyl
      simp only [List.length_cons] at hlen
      refine wpAny_execs_cons (ex_append FF (ev_local hlo₅ h2₅ ⟨P, rfl, ⟨_, hP₅⟩, ev_local hlo₅ h3₅ ⟨ys, hP₅, by omega, hP₀, fun s₆ st₆ hg₆ hP₆ => wpAny_execs_nil ⟨rfl, ?_, L :: P :: (as ++ [l]), ⟨ns, idx + g, u₅, lo₅, ys ++ [.ref l], as ++ [l], done ++ [intsUp idx g.toNat], rfl, ?_, st₆.loc hlo₅ (nin1 hLP), ?_, h2₅, hP₆, ?_, rfl, ?_, ?_, hLP, fun n hn => hns n (.tail _ hn), ?_⟩, ?_⟩⟩⟩))
      · have st25 : Stp C [L, P] [] s s₅ := (st13.more (W := [L]) st₄ all0).andThen st₅ (all1 (.inl (.head _))) all0 (fun a ha => ?_) all0
        · exact st25.more st₆ (all1 (.inl (.tail _ (.head _))))
        · rcases List.mem_cons.mp ha with rfl | ha
          · exact .inl (.head _)
          · exact .inr (List.mem_singleton.mp ha ▸ hlf')
      · rw [← hall]; simp [partsFrom]
      · rw [show idx + g = idx + (g.toNat : Int) by omega]; exact h1₅
      · rw [List.map_append]
        refine readsAll_append (st₆.readsAll hr₅ fun a ha => nin1 (hasP a ha)) (readsAll_one ?_)
        exact plain_reads (st₆.plain hp₅ (nin1 hPl.symm)) (intsAre_reads hi₅)
      · intro z
        rcases List.mem_append.mp z with z | z
        · exact hPa z
        · exact hPl (List.mem_singleton.mp z)
      · intro z
        rcases List.mem_append.mp z with z | z
        · exact hLa z
        · exact hlL (List.mem_singleton.mp z).symm
      · rw [List.length_append]; simp only [List.length_cons, List.length_nil]; omega
      · intro a ha
        rcases List.mem_cons.mp ha with rfl | ha
        · exact .inl (.head _)
        rcases List.mem_cons.mp ha with rfl | ha
        · exact .inl (.tail _ (.head _))
        rcases List.mem_append.mp ha with ha | ha
        · exact .inl (.tail _ (.tail _ ha))
        · exact .inr (List.mem_singleton.mp ha ▸ hlf')
/-- groupsizes_to_partition( *gsizes ) -/
theorem gtp_ok (FF : Facts C) {hp : Heap} (hw : Wd C hp) {k : Nat} (hA : Room (k + 1) A) {vals : List Value} {ns : List Int} {Q : Value → Shared → Prop} (hi : IntsAre vals ns) (hns : ∀ n ∈ ns, 0 ≤ n ∧ n ≤ 1000) (hlen : ns.length ≤ 1000)
    (h : ∀ s' P as, Stp C [] [] s s' → Reads s'.heap (.ref P) (.list ((partsFrom 0 ns).map lstL)) (P :: as) → (∀ a ∈ P :: as, hp.get? a = none) → Q (.ref P) s') (hs : s.heap = hp := by rfl) : wpAny (MM C) A (call (.ref (C.fa 13)) vals) Q E s := by
  subst hs
  refine enter_fnV FF (i := 13) (n := "gsizes") (by decide) hw hA (by have := hi.length; omega) (fun pm doc => bind13 pm doc _ vals) (fun s₁ t L pm doc E' hn hL ht st hg hw₁ hA₁ => ?_)
  refine wpAny_execs_cons (wpAny_Assign_Name (wpAny_Constant_int (st_local FF hn fun s₂ hlo₂ st₂ hg₂ => ?_)))
  have st12 : Stp C [L] [] s₁ s₂ := ((Stp.refl (W := []) (V := []) s₁).wide (W := [L]) (V := [])).more st₂ (all1 (.inl (.head _)))
  have hw₂ := st₂.wd hw₁
  refine wpAny_execs_cons (wpAny_Assign_Name (ev_list (wpAny_items_nil ⟨by rw [sizeLine_eq]; simp, fun s₃ P st₃ hg₃ hPf hP => ?_⟩)))
  have hP₀ := hw₂.none hPf
  have hPL : P ≠ L := dead_of hPf (loc_alive hlo₂)
  refine st_local FF (st₃.loc hlo₂) fun s₄ hlo₄ st₄ hg₄ => ?_
  have hP₄ := st₄.plain hP (nin1 hPL)
  have hw₄ := st₄.wd (st₃.wd hw₂)
  have st14 : Stp C [L] [] s₁ s₄ := (st12.more st₃ all0).more st₄ (all1 (.inl (.head _)))
  have ht₄ := st14.tup2 ht
  have hPf₁ : s₁.heap.get? P = none := (st12.none_of hPf).elim (fun z => absurd (List.mem_singleton.mp z) hPL) id
  refine wpAny_execs_cons (ex_forI hA₁ (ev_local hlo₄ (put_ne (put_ne rfl)) ⟨iL ns, [], [L, P], [L, P], OutJ C L P (partsFrom 0 ns), iterOf_tuple FF hw₄ ht₄ (by simpa using intsAre_reads hi), hw₄, gtp_outer FF hA₁ hP₀ rfl, ?_, (fun _ h => nomatch h), fun s₅ K₅ hJ st₅ hKK => ?_⟩))
  · exact ⟨ns, 0, _, _, [], [], [], rfl, rfl, hlo₄, put_ne put_eq, put_eq, hP₄, .nil, rfl, (fun h => nomatch h), (fun h => nomatch h), hPL.symm, hns, by simpa using hlen⟩
  · obtain ⟨ns', idx, u, lo, ys, as, done, hrem, hall, hlo₅, h1, h2, hp₅, hr₅, rfl, hPa, hLa, hLP, -, -⟩ := hJ
    cases ns' with
    | cons _ _ => simp [iL] at hrem
    | nil =>
    rw [partsFrom, List.append_nil] at hall
    subst hall
    have hLf : s.heap.get? L = none := hL
    have hPf' : s.heap.get? P = none := st.fresh hPf₁
    have st04 : Stp C [] [] s s₄ := st.andThen st14 (fun _ h => nomatch h) all0 (all1 (.inr hLf)) all0
    have fr : ∀ a, s₄.heap.get? a = none → s.heap.get? a = none := fun a z => st04.fresh z
    refine wpAny_execs_cons (wpAny_Return_some (ev_local hlo₅ h2 (h s₅ P as (st04.andThen st₅ (fun _ h => nomatch h) all0 (all2 (.inr hLf) (.inr hPf')) all0) (plain_reads hp₅ hr₅) fun a ha => ?_)))
    rcases List.mem_cons.mp ha with rfl | ha
    · exact hPf'
    · rcases hKK a (.tail _ (.tail _ ha)) with z | z | z
      · rcases List.mem_cons.mp z with z | z
        · exact absurd (z ▸ ha) hLa
        · exact absurd (List.mem_singleton.mp z ▸ ha) hPa
      · rcases List.mem_cons.mp z with z | z
        · exact absurd (z ▸ ha) hLa
        · exact absurd (List.mem_singleton.mp z ▸ ha) hPa
      · exact fr a z
end
end Mine

namespace Mine
open PySem PySem.Calls PySem.W PyProof.Rows

/-- a generator woken at s₀ with the footprint F stands at s with the footprint Fn -/
structure Mid (C : Cx) (F : Ft) (s₀ s : Shared) (Fn : Ft) : Prop where
  stp : Stp C F.W F.V s₀ s
  nx : F.Next C Fn s₀ s
theorem Mid.refl {C : Cx} {F : Ft} {s : Shared} (h : ∀ a ∈ F.W ++ F.R, Live C s.heap a) (hv : ∀ i ∈ F.V, ∃ g, s.gens[i]? = some g) : Mid C F s s F := ⟨.refl s, fun _ h => .inl h, fun _ h => .inr (.inl h), fun _ h => .inl h, h, hv⟩
theorem Mid.trans {C : Cx} {F Fn Fm : Ft} {s₀ s s' : Shared} (x : Mid C F s₀ s Fn) (y : Mid C Fn s s' Fm) : Mid C F s₀ s' Fm := by
  have frW : ∀ a, s.heap.get? a = none → a ∈ F.W ∨ s₀.heap.get? a = none := fun a h => x.stp.none_of h
  have frV : ∀ i, s.gens[i]? = none → i ∈ F.V ∨ s₀.gens[i]? = none := fun a h => x.stp.gnone_of h
  refine ⟨x.stp.andThen y.stp (fun _ h => .inl h) (fun _ h => .inl h) x.nx.W x.nx.V, fun a h => (y.nx.W a h).elim (x.nx.W a) (frW a), fun a h => ?_, fun i h => (y.nx.V i h).elim (x.nx.V i) (frV i), y.nx.live, y.nx.vlive⟩
  rcases y.nx.R a h with h | h | h
  · exact (x.nx.W a h).imp id .inr
  · exact x.nx.R a h
  · exact (frW a h).imp id .inr

def SegN (C : Cx) (A : Around) (fin : Result → Prop) (ds : List PyData) (Fn : Ft) (c : Code) (t : Sem Fin) (fs : List Frame) (s : Shared) : Prop :=
  Wd C s.heap → ∀ F s₀, Mid C F s₀ s Fn → SegI C A fin ds F s₀ c t fs s

section
variable {C : Cx} {A : Around} {fin : Result → Prop} {ds : List PyData} {Fn : Ft} {c : Code} {fs : List Frame} {s : Shared}

theorem segN_bindW {α β : Type} {m : Sem α} {K : α → Sem β} {K' : β → Sem Fin} {H' : Value → Sem Fin} {gd lv}
    (h : Wd C s.heap → wpAny (MM C) (A.over c fs) m (fun a s' => ∃ Fm, Mid C Fn s s' Fm ∧ SegN C A fin ds Fm c ((K a).wrap K' H' gd lv) fs s') (fun _ _ => False) s) :
    SegN C A fin ds Fn c ((m >>= K).wrap K' H' gd lv) fs s := fun hw F s₀ x =>
  segI_bindW (wpAny_mono (h hw) (fun a s' h' => let ⟨Fm, y, z⟩ := h'; z (y.stp.wd hw) F s₀ (x.trans y)) fun _ _ h => h.elim)
theorem segN_wrap {α : Type} {m : Sem α} {K : α → Sem Fin} {H : Value → Sem Fin} {gd lv}
    (h : Wd C s.heap → wpAny (MM C) (A.over c fs) m (fun a s' => ∃ Fm, Mid C Fn s s' Fm ∧ SegN C A fin ds Fm c (K a) fs s') (fun _ _ => False) s) :
    SegN C A fin ds Fn c (m.wrap K H gd lv) fs s := fun hw F s₀ x =>
  segI_wrap (wpAny_mono (h hw) (fun a s' h' => let ⟨Fm, y, z⟩ := h'; z (y.stp.wd hw) F s₀ (x.trans y)) fun _ _ h => h.elim)
/-- a step that changes nothing -/
theorem segN_still {α β : Type} {m : Sem α} {K : α → Sem β} {K' : β → Sem Fin} {H' : Value → Sem Fin} {gd lv} (a : α)
    (hm : ∀ (Q : α → Shared → Prop) (E : Value → Shared → Prop), Q a s → wpAny (MM C) (A.over c fs) m Q E s)
    (h : SegN C A fin ds Fn c ((K a).wrap K' H' gd lv) fs s) :
    SegN C A fin ds Fn c ((m >>= K).wrap K' H' gd lv) fs s := fun hw F s₀ x => segI_bindW (hm _ _ (h hw F s₀ x))
theorem segN_call {c' : Code} {h : Option Value} {g : Bool} {l : List Value} {k : Result → Sem Fin} (hc : ∀ p, SegN C A fin ds Fn c' ((MM C).den c') (.ret k h g l c p [] :: fs) s) :
    SegN C A fin ds Fn c (.call c' h g l k) fs s := fun hw F s₀ x => segI_call fun p => hc p hw F s₀ x
theorem segN_leaf {k : Result → Sem Fin} {h : Option Value} {g : Bool} {l : List Value} {c₁ : Code} {p₁ : Pos} {kp : List Value} (r : Result) (hk : SegN C A fin ds Fn c₁ (k r) fs s) :
    SegN C A fin ds Fn c (leafOf r) (.ret k h g l c₁ p₁ kp :: fs) s := fun hw F s₀ x => segI_leaf r (hk hw F s₀ x)
theorem segN_again {c' : Code} (hq : c'.quiet = true) (hc : SegN C A fin ds Fn c' ((MM C).den c') fs s) : SegN C A fin ds Fn c (.pure (.again c')) fs s := fun hw F s₀ x => segI_again hq (hc hw F s₀ x)
theorem segN_end (r : Result) (hf : fin r) : SegN C A fin [] Fn c (leafOf r) [] s := fun hw F s₀ x => segI_end r hf x.stp
theorem segN_at {p' : Pos} {k : Unit → Sem Fin} (h : SegN C A fin ds Fn c (k ()) fs s) : SegN C A fin ds Fn c (.at p' k) fs s := fun hw F s₀ x => segI_at (h hw F s₀ x)
theorem segN_point {l : List Value} {k : Unit → Sem Fin} (h : SegN C A fin ds Fn c (k ()) fs s) : SegN C A fin ds Fn c (.point l k) fs s := fun hw F s₀ x => segI_point (h hw F s₀ x)
theorem segN_yield {d : PyData} {v : Value} {g : Bool} {l : List Value} {k : Resume → Sem Fin} {as : List Addr} (hfs : splitAtGen fs = none) (hg : g = false) (hfg : fs.any Frame.guarded = false)
    (hr : Reads s.heap v d as) (has : ∀ a ∈ as, a ∉ Fn.W ∧ a ∈ Fn.R)
    (h : ∀ s'', AgreeF C Fn s s'' → SegN C A fin ds Fn c (k (.send .none)) fs s'') : SegN C A fin (d :: ds) Fn c (.yield v g l k) fs s := fun hw F s₀ x =>
  segI_yield hfs hg hfg ⟨x.stp, as, Fn, hr, fun a ha => ⟨(has a ha).1, x.nx.R a (has a ha).2⟩, x.nx, fun s'' ag hw'' => h s'' ag hw'' Fn s'' (.refl (fun a ha => ag.live (x.nx.live a ha) ha) fun i hi => let ⟨g, e⟩ := x.nx.vlive i hi; ⟨g, ag.gens i g hi e⟩)⟩
/-- entering -/
theorem segN_goes {c : Code} (hl : ∀ a ∈ Fn.W ++ Fn.R, Live C s.heap a) (hv : ∀ i ∈ Fn.V, ∃ g, s.gens[i]? = some g) (hw : Wd C s.heap) (h : SegN C A fin ds Fn c ((MM C).den c) [] s) : GoesI C A fin ds Fn (.fresh c) s := h hw Fn s (.refl hl hv)

/-- one turn of a for loop in a generator -/
theorem segN_for {xn : Str} {px : Pos} {it : Addr} {body : List Stmt} {env : Env} {ds' : List PyData} {F₁ : Ft}
    (hit : Iter C (A.over (.forLoop (.Name xn px) (.ref it) body [] env) fs) it ds' F₁ s) (hF : ∀ a ∈ F₁.W, a ∈ Fn.W) (hV : ∀ i ∈ F₁.V, i ∈ Fn.V) (hlive : ∀ a ∈ Fn.W ++ Fn.R, Live C s.heap a)
    (hend : ds' = [] → ∀ s' c', Stp C F₁.W F₁.V s s' → ∃ Fm, Mid C Fn s s' Fm ∧ SegN C A fin ds Fm c' (leafOf (.ok .next)) fs s')
    (hturn : ∀ d rem, ds' = d :: rem → ∀ v s₁ as F₂ (E' : Value → Shared → Prop), Got C F₁ F₂ s v d as s₁ → Wd C s₁.heap → Iter C (A.over (.forLoop (.Name xn px) (.ref it) body [] env) fs) it rem F₂ s₁ →
      wpAny (MM C) (A.over (.forLoop (.Name xn px) (.ref it) body [] env) fs) (storeName env xn v) (fun _ s₂ => ∃ Fm, Mid C Fn s s₂ Fm ∧ ∀ (K : Flow → Sem Fin) H gd lv, gd false = false → K .next = .pure (.again (.forLoop (.Name xn px) (.ref it) body [] env)) → SegN C A fin ds Fm (.forLoop (.Name xn px) (.ref it) body [] env) ((execs body env).wrap K H gd lv) fs s₂) E' s₁) :
    SegN C A fin ds Fn (.forLoop (.Name xn px) (.ref it) body [] env) ((MM C).den (.forLoop (.Name xn px) (.ref it) body [] env)) fs s := by
  show SegN C A fin ds Fn _ ((forTurn (.Name xn px) (.ref it) body [] env).onRaise (fun x => do noteFrame x env; theTreesLotGoes x)) fs s
  unfold forTurn
  rw [Sem.onRaise_eq_wrap]
  intro hw F s₀ x
  refine segI_bindW (wpAny_standAt ?_)
  cases ds' with
  | nil =>
    refine segI_bindW (wpAny_onRaise (hit s (.refl s) hw _ _ fun s' st => ?_))
    obtain ⟨Fm, m, h⟩ := hend rfl s' (.block [] env) st
    exact segI_again rfl (h (m.stp.wd hw) F s₀ (x.trans m))
  | cons d rem =>
    refine segI_bindW (wpAny_onRaise (hit s (.refl s) hw _ _ fun v s₁ as F₂ hr has st nx hit₂ => ?_))
    refine segI_bindW (wpAny_of_eq (rfl : letOwnedTupleGo (.Name xn px) (.ref it) v = pure ()) ?_)
    refine segI_bindW (wpAny_assign_Name (wpAny_mono (hturn d rem rfl v s₁ as F₂ _ ⟨hr, has, st, nx⟩ (st.wd hw) hit₂) (fun _ s₂ h₂ => ?_) fun _ _ e => e))
    obtain ⟨Fm, m, h⟩ := h₂
    rw [Sem.bind_eq_wrap', Sem.wrap_wrap]
    exact h _ _ _ _ rfl rfl (m.stp.wd hw) F s₀ (x.trans m)
end
end Mine

namespace Mine
open PySem PySem.Calls PySem.W PyProof.Rows
section
variable {C : Cx} {A : Around} {E : Value → Shared → Prop} {s : Shared} {env : Env}

abbrev finRet (r : Result) : Prop := r = .ok (.ret .none)
abbrev finRoot : Prop := True

/-- calling a generator def -/
theorem call_genfd (FF : Facts C) {f : Addr} {fd : FuncData} {o : Obj} {body : List Stmt} {vals : List Value} {binds : List (Str × Value)} {Q : Value → Shared → Prop} {k : Nat} {ds : List PyData} {R : List Addr} (hw : Wd C s.heap) (hA : Room k A)
    (ho : s.heap.get? f = some o) (hd : o.data = .func fd) (hco : fd.scope.isCoroutine = false) (hgen : fd.scope.isGenerator = true) (hk : fd.scope.kind = .function) (hbody : fd.body = .stmts body) (hcd : s.heap.CodeRec fd.code fd.qualname)
    (hbind : BindsTo s fd ⟨vals, []⟩ binds) (hcell : ∀ x ∈ fd.scope.names, x.2 ≠ .cell) (hloc : ∀ x ∈ binds, fd.scope.names.lookup x.1 = some .local) (hR : ∀ a ∈ R, Live C s.heap a)
    (go : ∀ (A : Around) (s₁ : Shared) (L : Addr), Room k A → Loc C s₁.heap L binds.reverse → Wd C s₁.heap → s.heap.get? L = none → Agree C R [] s s₁ → (∀ a ∈ L :: R, Live C s₁.heap a) →
      SegN C A finRet ds ⟨[L], R, []⟩ (.func body (callEnv fd L f)) ((MM C).den (.func body (callEnv fd L f))) [] s₁)
    (h : ∀ s₁ L a g, s.heap.get? L = none → s.heap.get? a = none → s.gens[g]? = none → Stp C [] [] s s₁ → s₁.TypeIs (.ref a) "generator" → ItOk C (k + 1) a ds ⟨[L], a :: R, [g]⟩ s₁ → Q (.ref a) s₁) :
    wpAny (MM C) A (call (.ref f) vals) Q E s := by
  refine wpAny_call (codeAny_call_generator hA.d ho hd hco hgen hbody hcd (hbind _ _ _ _ ?_))
  refine wpAny_newFunctionEnv hcell hloc (fun h₀ hns hsb => ?_) hk
  have hk₀ : ∀ b o, s.heap.get? b = some o → h₀.get? b = some o := fun b o e => hsb.extBut b o (Nat.ne_of_lt (Heap.lt_size e)) (Heap.get?_push_of_some _ e)
  refine ⟨(FF.lim _ hw).fresh _ hsb, ?_⟩
  have hLf := get_size s.heap
  have hLa : ∃ o, h₀.get? s.heap.objs.size = some o := let ⟨o, _, _, e, _⟩ := hns; ⟨o, e⟩
  have haf₀ := get_size h₀
  have haf : s.heap.get? h₀.objs.size = none := by
    cases e : s.heap.get? h₀.objs.size with
    | none => rfl
    | some o => have := hk₀ _ _ e; rw [haf₀] at this; cases this
  dsimp only
  generalize hgo : ({ cls := .type "generator", data := .fields #[.int s.gens.size 0, .str fd.name (s.toks + binds.length), .str fd.qualname (s.toks + binds.length + 1)] } : Obj) = go'
  generalize hcd' : Code.func body (newEnv fd.scope s.heap.objs.size fd.globals fd.closure (fd.qualname ++ ".<locals>.") (some f) fd.code none fd.builtins) = cd
  have hfr : (s.gens.push (.fresh cd))[s.gens.size]? = some (.fresh cd) := by simp
  have st : Stp C [] [] s { heap := h₀.push go', gens := s.gens.push (.fresh cd), drawn := s.drawn, toks := s.toks + binds.length + 1 + 1, os := s.os } :=
    ⟨fun b o _ _ e => Heap.get?_push_of_some _ (hk₀ b o e), fun b o _ _ _ _ e => Heap.get?_push_of_some _ (hk₀ b o e), fun b o _ e => ⟨o, Heap.get?_push_of_some _ (hk₀ b o e)⟩,
     fun j y _ e => by
       have hj : j < s.gens.size := by
         rcases Nat.lt_or_ge j s.gens.size with q | q
         · exact q
         · rw [Array.getElem?_eq_none q] at e; cases e
       show (s.gens.push _)[j]? = some y
       rw [Array.getElem?_push_lt hj, ← Array.getElem?_eq_getElem hj]; exact e,
     rfl, fun b => AllBare.push b (by rw [← hcd']; rfl), fun w => w.keeps fun b o e => Heap.get?_push_of_some _ (hk₀ b o e)⟩
  have hIs : (h₀.push go').IsGen h₀.objs.size s.gens.size := ⟨go', _, _, Heap.get?_push_size _ (by rw [← hgo]; rfl), by rw [← hgo], by rw [← hgo], by rw [← hgo]⟩
  have hlo : Loc C (h₀.push go') s.heap.objs.size binds.reverse := ⟨hns.push _, hw.none hLf⟩
  have hlive : ∀ b ∈ s.heap.objs.size :: R, Live C (h₀.push go') b := fun b hb => by
    rcases List.mem_cons.mp hb with rfl | hb
    · obtain ⟨o, _, _, e, _⟩ := hlo.ns
      exact ⟨o, e, .inl (nb hlo.new)⟩
    · exact st.live (hR b hb) (by simp)
  refine h _ s.heap.objs.size h₀.objs.size s.gens.size hLf haf (by simp) st ⟨go', Heap.get?_push_size _ (by rw [← hgo]; rfl), by rw [← hgo]⟩
    (itok_gen (F := ⟨[s.heap.objs.size], R, []⟩) (fin := finRet) FF (fun x hx => by rw [hx]; rfl) (hw.none haf) hIs ?_ (fun h => nomatch h) hlive (fun _ h => nomatch h) hfr fun A' hA' s'' ag hw'' => ?_)
  · exact fun q => dead_of haf₀ hLa (List.mem_singleton.mp q)
  · rw [← hcd']
    have hlo'' : Loc C s''.heap s.heap.objs.size binds.reverse := by
      obtain ⟨o, es, ep, e, r⟩ := hlo.ns
      exact ⟨⟨o, es, ep, ag.keep _ _ (.head _) (.inl (nb hlo.new)) e, r⟩, hlo.new⟩
    exact segN_goes (fun a ha => ag.live (hlive a ha) ha) (fun _ h => nomatch h) hw'' (go A' s'' _ hA' hlo'' hw'' hLf ((st.agree (fun _ _ h => nomatch h) all0).trans (ag.mono (fun a h => List.mem_append_right _ h) (fun _ h => h))) fun a ha => ag.live (hlive a ha) ha)
end
end Mine

namespace Mine
open PySem PySem.Calls PySem.W PyProof.Rows
section
variable {C : Cx} {A : Around} {fin : Result → Prop} {ds : List PyData} {Fn : Ft} {c : Code} {fs : List Frame} {s : Shared} {env : Env}
variable {K : Flow → Sem Fin} {H : Value → Sem Fin} {gd : Bool → Bool} {lv : List Value → List Value}

theorem segN_func {body : List Stmt} (h : ∀ (K : Flow → Sem Fin) H gd lv, gd false = false → K .next = leafOf (.ok (.ret .none)) → SegN C A fin ds Fn (.func body env) ((execs body env).wrap K H gd lv) fs s) :
    SegN C A fin ds Fn (.func body env) ((MM C).den (.func body env)) fs s := by
  show SegN C A fin ds Fn _ (point >>= fun _ => ((execs body env).onRaise (leaving env) >>= fun f => match f with | .ret v => ret v | _ => ret .none)) fs s
  intro hw F s₀ x
  refine segI_bind (wpAny_point ?_)
  rw [Sem.onRaise_eq_wrap, Sem.bind_eq_wrap', Sem.wrap_wrap]
  exact h _ _ _ _ rfl rfl hw F s₀ x
theorem segN_nil (h : SegN C A fin ds Fn c (K .next) fs s) : SegN C A fin ds Fn c ((execs [] env).wrap K H gd lv) fs s := h
theorem segN_cons {st : Stmt} {rest : List Stmt} (hgd : gd false = false) (h : ∀ (K' : Flow → Sem Fin) H' gd' lv', gd' false = false → K' .next = (execs rest env).wrap K H gd lv → SegN C A fin ds Fn c ((exec st env).wrap K' H' gd' lv') fs s) :
    SegN C A fin ds Fn c ((execs (st :: rest) env).wrap K H gd lv) fs s := by
  rw [execs_cons, Sem.bind_eq_wrap', Sem.wrap_wrap]
  exact h _ _ _ _ hgd rfl
theorem segN_If {test : Expr} {body orelse : List Stmt} {pos : Pos}
    (h : Wd C s.heap → wpAny (MM C) (A.over c fs) (isTrue test env (eval test env)) (fun b s' => ∃ Fm, Mid C Fn s s' Fm ∧ SegN C A fin ds Fm c ((execs (if b then body else orelse) env).wrap K H gd lv) fs s') (fun _ _ => False) s) :
    SegN C A fin ds Fn c ((exec (.If test body orelse pos) env).wrap K H gd lv) fs s := by
  rw [arm_exec_If]
  refine segN_still () (fun Q E h => wpAny_standAt h) (segN_bindW fun hw => wpAny_mono (h hw) (fun b s' h' => ?_) fun _ _ e => e)
  obtain ⟨Fm, m, hs⟩ := h'
  refine ⟨Fm, m, ?_⟩
  cases b <;> exact hs
/-- yield e as a statement -/
theorem segN_Yield {e : Expr} {py pos : Pos} {d : PyData} (hgd : gd false = false) (hfs : splitAtGen fs = none) (hfg : fs.any Frame.guarded = false)
    (h : Wd C s.heap → wpAny (MM C) (A.over c fs) (eval e env) (fun v s' => ∃ Fm as, Mid C Fn s s' Fm ∧ Reads s'.heap v d as ∧ (∀ a ∈ as, a ∉ Fm.W ∧ a ∈ Fm.R) ∧ ∀ s'', AgreeF C Fm s' s'' → SegN C A fin ds Fm c (K .next) fs s'') (fun _ _ => False) s)
    (hi : interactive env = false := by rfl) (hsw : swapsWith (.Yield (some e) py) none pos.line env = pure false := by rfl) (hco : env.scope.isCoroutine = false := by rfl) :
    SegN C A fin (d :: ds) Fn c ((exec (.Expr (.Yield (some e) py) pos) env).wrap K H gd lv) fs s := by
  rw [exec_Expr env _ _ hi hsw]
  refine segN_still () (fun Q E h => wpAny_standAt h) ?_
  have hy : ∀ v, yieldOut env v = yieldValue v := fun v => by simp only [yieldOut, hco, Bool.false_eq_true, if_false]
  have he : eval (.Yield (some e) py) env = (eval e env >>= fun v => standAt py >>= fun _ => yieldValue v) := by
    rw [arm_eval_Yield]
    simp only [hy]
    rfl
  rw [he, Sem.bind_eq_wrap', Sem.wrap_wrap]
  rw [Sem.bind_eq_wrap' (eval e env), Sem.wrap_wrap]
  refine segN_wrap fun hw => wpAny_mono (h hw) (fun v s' h' => ?_) fun _ _ e => e
  obtain ⟨Fm, as, m, hr, has, hk⟩ := h'
  refine ⟨Fm, m, ?_⟩
  exact segN_at (segN_yield hfs hgd hfg hr has fun s'' ag => hk s'' ag)
/-- for x in ..: in a generator -/
theorem segN_For {target iter : Expr} {body orelse : List Stmt} {pos : Pos} (hgd : gd false = false)
    (h : Wd C s.heap → wpAny (MM C) (A.over c fs) (eval iter env) (fun xv s₁ => wpAny (MM C) (A.over c fs) (pyIter xv) (fun it s₂ => ∃ Fm, Mid C Fn s s₂ Fm ∧ ∀ (k : Result → Sem Fin) g l p, g = false → k (.ok .next) = K .next →
      SegN C A fin ds Fm (.forLoop target it body orelse env) ((MM C).den (.forLoop target it body orelse env)) (.ret k none g l c p [] :: fs) s₂) (fun _ _ => False) s₁) (fun _ _ => False) s)
    (hf : ∀ x, foldedSetIterable iter env x = pure x := by intro _; rfl) :
    SegN C A fin ds Fn c ((exec (.For target iter body orelse pos) env).wrap K H gd lv) fs s := by
  rw [arm_exec_For]
  intro hw F s₀ x
  refine segI_bindW (wpAny_standAt (segI_bindW (wpAny_mono (h hw) (fun xv s₁ h₁ => ?_) fun _ _ e => e.elim)))
  refine segI_bindW (wpAny_of_eq (hf xv) (segI_bindW (wpAny_standAt (segI_bindW (wpAny_holding (wpAny_mono h₁ (fun it s₂ h₂ => ?_) fun _ _ e => e.elim))))))
  obtain ⟨Fm, m, hs⟩ := h₂
  unfold runOwn
  rw [Sem.onRaise_eq_wrap, Sem.wrap_wrap]
  exact segI_call fun p => hs _ _ _ p hgd rfl (m.stp.wd hw) F s₀ (x.trans m)
end
end Mine

namespace Mine
open PySem PySem.Calls PySem.W PyProof.Rows
section
variable {C : Cx} {A : Around} {E : Value → Shared → Prop} {s : Shared} {env : Env}
def gsz : Nat → Int → List (List Int)
  | 0, t => [[t]]
  | n + 1, t => (intsUp 1 (t - n - 1).toNat).flatMap fun i => (gsz n (t - i)).map fun p => i :: p
def gsElse : List Stmt := match (bodyOf (fnStmt 5)).getD 0 (.Pass default) with | .If _ _ e _ => e | _ => []
def gsOBody : List Stmt := match gsElse.getD 0 (.Pass default) with | .For _ _ b _ _ => b | _ => []
def gsIBody : List Stmt := match gsOBody.getD 0 (.Pass default) with | .For _ _ b _ _ => b | _ => []

theorem Mid.of {Fn Fm : Ft} {W : List Addr} {V : List Nat} {s' : Shared} (st : Stp C W V s s') (hW : ∀ a ∈ W, a ∈ Fn.W ∨ s.heap.get? a = none) (hV : ∀ i ∈ V, i ∈ Fn.V ∨ s.gens[i]? = none) (mW : ∀ a ∈ Fm.W, a ∈ Fn.W ∨ s.heap.get? a = none) (mR : ∀ a ∈ Fm.R, a ∈ Fn.W ∨ a ∈ Fn.R ∨ s.heap.get? a = none)
    (mV : ∀ i ∈ Fm.V, i ∈ Fn.V ∨ s.gens[i]? = none) (hl : ∀ a ∈ Fm.W ++ Fm.R, Live C s'.heap a) (hvl : ∀ i ∈ Fm.V, ∃ g, s'.gens[i]? = some g) : Mid C Fn s s' Fm := ⟨st.drop hW hV, mW, mR, mV, hl, hvl⟩
theorem agree_loc {F : List Addr} {V : List Nat} {s s' : Shared} {L : Addr} {lo : List (Str × Value)} (ag : Agree C F V s s') (h : Loc C s.heap L lo) (hL : L ∈ F) : Loc C s'.heap L lo := by
  obtain ⟨⟨o, es, ep, e, r⟩, hn⟩ := h
  exact ⟨⟨o, es, ep, ag.keep _ _ hL (.inl (nb hn)) e, r⟩, hn⟩

/-- the footprint of the two loops -/
abbrev two (L : Addr) (FI FO : Ft) : Ft := ⟨L :: (FI.W ++ FO.W), FI.R ++ FO.R, FI.V ++ FO.V⟩
abbrev one (L : Addr) (FO : Ft) : Ft := ⟨L :: FO.W, FO.R, FO.V⟩
structure Apart (L : Addr) (FI FO : Ft) : Prop where
  LI : L ∉ FI.W ++ FI.R
  LO : L ∉ FO.W ++ FO.R
  IO : ∀ a ∈ FO.W ++ FO.R, a ∉ FI.W
  OI : ∀ a ∈ FI.W ++ FI.R, a ∉ FO.W
  V : ∀ i ∈ FO.V, i ∉ FI.V

set_option maxHeartbeats 1000000 in
theorem gs_inner (FF : Facts C) {k : Nat} {fin : Result → Prop} {pm doc : Value} {L : Addr} {i : Int} {ui : Tok} {itI : Addr} {px : Pos} {A' : Around} {itO : Addr} {remO : List PyData} {FO : Ft} {rest : List PyData} {c₁ : Code} {k₂ : Result → Sem Fin} {g₂ : Bool} {l₂ : List Value} {p₂ : Pos} {fs₁ : List Frame} {P : List (Str × Value) → Prop}
    (hP : ∀ lo v, P lo → P (put "perm" v lo)) (hPi : ∀ lo, P lo → gl lo "i" = some (.int i ui)) (hg₂ : g₂ = false) (hsp : splitAtGen (.ret k₂ none g₂ l₂ c₁ p₂ [] :: fs₁) = none) (hgu : fs₁.any Frame.guarded = false)
    (after : ∀ s lo, Iter C A' itO remO FO s → Loc C s.heap L lo → P lo → (∀ a ∈ (one L FO).W ++ (one L FO).R, Live C s.heap a) → (∀ i ∈ FO.V, ∃ g, s.gens[i]? = some g) → SegN C A fin rest (one L FO) c₁ (k₂ (.ok .next)) fs₁ s) :
    ∀ (perms : List (List Int)) (FI : Ft) (s : Shared) (lo : List (Str × Value)), (∀ p ∈ perms, p.length ≤ 1000) →
      Iter C (A.over (.forLoop (.Name "perm" px) (.ref itI) gsIBody [] (fnEnv C 5 L pm doc)) (.ret k₂ none g₂ l₂ c₁ p₂ [] :: fs₁)) itI (perms.map tupL) FI s →
      Iter C A' itO remO FO s → Loc C s.heap L lo → P lo → Apart L FI FO → (∀ a ∈ (two L FI FO).W ++ (two L FI FO).R, Live C s.heap a) → (∀ i ∈ FO.V, ∃ g, s.gens[i]? = some g) → 
      SegN C A fin (perms.map (fun p => tupL (i :: p)) ++ rest) (two L FI FO) (.forLoop (.Name "perm" px) (.ref itI) gsIBody [] (fnEnv C 5 L pm doc)) ((MM C).den (.forLoop (.Name "perm" px) (.ref itI) gsIBody [] (fnEnv C 5 L pm doc))) (.ret k₂ none g₂ l₂ c₁ p₂ [] :: fs₁) s := by
  intro perms
  induction perms with
  | nil =>
    intro FI s lo _ hI hO hlo hPl ap hl hv
    refine segN_for (F₁ := FI) hI (fun a h => .tail _ (List.mem_append_left _ h)) (fun i h => List.mem_append_left _ h) hl (fun _ s' c' st => ?_) (fun d rem e => by cases e)
    have hlo' : Loc C s'.heap L lo := st.loc hlo fun h => ap.LI (List.mem_append_left _ h)
    have hl' : ∀ a ∈ (one L FO).W ++ (one L FO).R, Live C s'.heap a := fun a ha => by
      rcases List.mem_cons.mp ha with rfl | ha
      · obtain ⟨o, _, _, e, _⟩ := hlo'.ns
        exact ⟨o, e, .inl (nb hlo'.new)⟩
      · exact st.live (hl a (by simp at ha ⊢; rcases ha with h | h <;> simp [h])) (ap.IO a ha)
    refine ⟨one L FO, Mid.of st (fun a h => .inl (.tail _ (List.mem_append_left _ h))) (fun i h => .inl (List.mem_append_left _ h)) (fun a h => .inl ?_) (fun a h => .inr (.inl (List.mem_append_right _ h))) (fun i h => .inl (List.mem_append_right _ h)) hl' (fun i hi => let ⟨g, e⟩ := hv i hi; ⟨g, st.gens i g (ap.V i hi) e⟩), segN_leaf _ (after s' lo (hO.agree (st.agree ap.IO ap.V)) hlo' hPl hl' fun i hi => let ⟨g, e⟩ := hv i hi; ⟨g, st.gens i g (ap.V i hi) e⟩)⟩
    rcases List.mem_cons.mp h with rfl | h
    · exact .head _
    · exact .tail _ (List.mem_append_right _ h)
  | cons perm perms ih =>
    intro FI s lo hlen hI hO hlo hPl ap hl hv
    refine segN_for (F₁ := FI) hI (fun a h => .tail _ (List.mem_append_left _ h)) (fun i h => List.mem_append_left _ h) hl (fun e => by cases e) (fun d rem e v s₁ as FI' E' got hw₁ hI' => ?_)
    rw [List.map_cons, List.cons.injEq] at e
    obtain ⟨rfl, rfl⟩ := e
    obtain ⟨hrd, -, st₁, nx⟩ := got
    obtain ⟨-, tt, vs, rfl, htt, hvs⟩ := tupI_of hrd
    have hlo₁ : Loc C s₁.heap L lo := st₁.loc hlo fun h => ap.LI (List.mem_append_left _ h)
    have hLa := loc_alive hlo
    have hLI' : L ∉ FI'.W ++ FI'.R := nx.off hLa (fun h => ap.LI (List.mem_append_left _ h)) (fun h => ap.LI (List.mem_append_right _ h))
    have hOal : ∀ a ∈ FO.W ++ FO.R, ∃ o, s.heap.get? a = some o := fun a ha => (hl a (by simp at ha ⊢; rcases ha with h | h <;> simp [h])).some
    have ap' : Apart L FI' FO := ⟨hLI', ap.LO, fun a ha => nx.offW (hOal a ha) (ap.IO a ha), fun a ha q => (by
      have hq := hOal a (List.mem_append_left _ q)
      rcases List.mem_append.mp ha with h | h
      · exact (nx.W a h).elim (fun z => ap.OI a (List.mem_append_left _ z) q) fun z => dead_of z hq rfl
      · rcases nx.R a h with z | z | z
        · exact ap.OI a (List.mem_append_left _ z) q
        · exact ap.OI a (List.mem_append_right _ z) q
        · exact dead_of z hq rfl), fun j hj q => (by
      rcases nx.V j q with z | z
      · exact ap.V j hj z
      · obtain ⟨g, e⟩ := hv j hj
        rw [z] at e; cases e)⟩
    have hLn : ∀ a ∈ (FI'.W ++ FO.W) ++ (FI'.R ++ FO.R), a ≠ L := fun a ha z => by
      subst z
      rcases List.mem_append.mp ha with h | h <;> rcases List.mem_append.mp h with h | h
      · exact hLI' (List.mem_append_left _ h)
      · exact ap.LO (List.mem_append_left _ h)
      · exact hLI' (List.mem_append_right _ h)
      · exact ap.LO (List.mem_append_right _ h)
    have hl₁ : ∀ a ∈ (FI'.W ++ FO.W) ++ (FI'.R ++ FO.R), Live C s₁.heap a := fun a ha => by
      have hO₁ : a ∈ FO.W ++ FO.R → Live C s₁.heap a := fun h => st₁.live (hl a (by simp at h ⊢; rcases h with h | h <;> simp [h])) (ap.IO a h)
      have hI₁ : a ∈ FI'.W ++ FI'.R → Live C s₁.heap a := fun h => nx.live a h
      rcases List.mem_append.mp ha with h | h <;> rcases List.mem_append.mp h with h | h
      · exact hI₁ (List.mem_append_left _ h)
      · exact hO₁ (List.mem_append_left _ h)
      · exact hI₁ (List.mem_append_right _ h)
      · exact hO₁ (List.mem_append_right _ h)
    have hv₁ : ∀ j ∈ FI'.V ++ FO.V, ∃ g, s₁.gens[j]? = some g := fun j hj => (List.mem_append.mp hj).elim (nx.vlive j) fun h => let ⟨g, e⟩ := hv j h; ⟨g, st₁.gens j g (ap.V j h) e⟩
    refine st_local FF hlo₁ fun s₂ hlo₂ st₂ hg₂' => ⟨two L FI' FO, ?_, fun K H gd lv hgd hK => ?_⟩
    · refine Mid.of (W := L :: FI.W) (V := FI.V) ((st₁.mono (fun a h => .tail _ h) fun _ h => h).more st₂ (all1 (.inl (.head _)))) (fun a h => .inl ?_) (fun i h => .inl (List.mem_append_left _ h)) (fun a h => ?_) (fun a h => ?_) (fun j h => ?_) (fun a h => ?_) (fun j hj => let ⟨g, e⟩ := hv₁ j hj; ⟨g, st₂.gens j g (fun h => nomatch h) e⟩)
      · rcases List.mem_cons.mp h with rfl | h
        · exact .head _
        · exact .tail _ (List.mem_append_left _ h)
      · rcases List.mem_cons.mp h with rfl | h
        · exact .inl (.head _)
        rcases List.mem_append.mp h with h | h
        · exact (nx.W a h).imp (fun z => .tail _ (List.mem_append_left _ z)) id
        · exact .inl (.tail _ (List.mem_append_right _ h))
      · rcases List.mem_append.mp h with h | h
        · rcases nx.R a h with z | z | z
          · exact .inl (.tail _ (List.mem_append_left _ z))
          · exact .inr (.inl (List.mem_append_left _ z))
          · exact .inr (.inr z)
        · exact .inr (.inl (List.mem_append_right _ h))
      · rcases List.mem_append.mp h with h | h
        · exact (nx.V j h).imp (fun z => List.mem_append_left _ z) id
        · exact .inl (List.mem_append_right _ h)
      · rcases List.mem_cons.mp h with rfl | h
        · obtain ⟨o, _, _, e, _⟩ := hlo₂.ns
          exact ⟨o, e, .inl (nb hlo₂.new)⟩
        · exact st₂.live (hl₁ a h) (nin1 (hLn a h))
    · have hI₂ := hI'.agree (st₂.agree (fun a ha => nin1 fun (z : a = L) => hLI' (by rw [← z]; exact ha)) fun _ _ h => nomatch h)
      have hO₂ := (hO.agree (st₁.agree ap.IO ap.V)).agree (st₂.agree (fun a ha => nin1 fun (z : a = L) => ap.LO (by rw [← z]; exact ha)) fun _ _ h => nomatch h)
      have hl₂ : ∀ a ∈ (two L FI' FO).W ++ (two L FI' FO).R, Live C s₂.heap a := fun a h => by
        rcases List.mem_cons.mp h with rfl | h
        · obtain ⟨o, _, _, e, _⟩ := hlo₂.ns
          exact ⟨o, e, .inl (nb hlo₂.new)⟩
        · exact st₂.live (hl₁ a h) (nin1 (hLn a h))
      have htt₂ := st₂.tup2 htt
      have hvl : vs.length = perm.length := hvs.length
      have hpl := hlen perm (.head _)
      refine segN_cons hgd fun K' H' gd' lv' hgd' hK' => segN_Yield hgd' hsp (by subst hg₂; simpa [Frame.guarded] using hgu) fun hw₂ => ?_
      refine ev_add (ev_tuple (arg1 (ev_local hlo₂ (put_ne (hPi lo hPl)) ⟨by rw [sizeLine_eq]; simp, fun s₃ r st₃ hg₃ hrf hrt => ev_local (st₃.loc hlo₂) put_eq (add_tup (vs := [.int i ui]) (ws := vs) (isTuple_of hrt) (st₃.tup2 htt₂) (fun s₄ r' st₄ hr' => ?_) (by simp; omega))⟩)))
      have st24 := st₃.trans st₄
      refine ⟨two L FI' FO, [], Mid.of st24 (fun _ h => nomatch h) (fun _ h => nomatch h) (fun _ h => .inl h) (fun _ h => .inr (.inl h)) (fun _ h => .inl h) (fun a h => st24.live (hl₂ a h) (by simp)) (fun j hj => let ⟨g, e⟩ := hv₁ j hj; ⟨g, st24.gens j g (fun h => nomatch h) (st₂.gens j g (fun h => nomatch h) e)⟩), ?_, (fun _ h => nomatch h), fun s'' ag => ?_⟩
      · exact TupI.reads ⟨r', _, rfl, hr', .cons _ _ hvs⟩
      · rw [hK']
        refine segN_nil ?_
        rw [hK]
        have ag2 : AgreeF C (two L FI' FO) s₂ s'' := (st24.agree (fun _ _ h => nomatch h) (fun _ _ h => nomatch h)).trans ag
        have subI : ∀ a ∈ FI'.W ++ FI'.R, a ∈ (two L FI' FO).W ++ (two L FI' FO).R := fun a h => by
          rcases List.mem_append.mp h with h | h
          · exact List.mem_append_left _ (.tail _ (List.mem_append_left _ h))
          · exact List.mem_append_right _ (List.mem_append_left _ h)
        have subO : ∀ a ∈ FO.W ++ FO.R, a ∈ (two L FI' FO).W ++ (two L FI' FO).R := fun a h => by
          rcases List.mem_append.mp h with h | h
          · exact List.mem_append_left _ (.tail _ (List.mem_append_right _ h))
          · exact List.mem_append_right _ (List.mem_append_right _ h)
        refine segN_again rfl (ih FI' s'' _ (fun p hp => hlen p (.tail _ hp)) (hI₂.agree (ag2.mono subI fun _ h => List.mem_append_left _ h)) (hO₂.agree (ag2.mono subO fun _ h => List.mem_append_right _ h)) (agree_loc ag2 hlo₂ (.head _)) (hP _ _ hPl) ap' (fun a h => ag2.live (hl₂ a h) h) fun j hj => ?_)
        obtain ⟨g, e⟩ := hv j hj
        exact ⟨g, ag2.gens j g (List.mem_append_right _ hj) (st₂.gens j g (fun h => nomatch h) (st₁.gens j g (ap.V j hj) e))⟩
end
end Mine

namespace Mine
open PySem PySem.Calls PySem.W PyProof.Rows
section
variable {C : Cx} {A : Around} {E : Value → Shared → Prop} {s : Shared} {env : Env}

theorem Room.over1 {k : Nat} (x : Room (k + 1) A) {t : Expr} {it : Value} {b o body : List Stmt} {env env' : Env} {kk : Result → Sem Fin} {g : Bool} {l : List Value} {p : Pos} : Room k (A.over (.forLoop t it b o env) [.ret kk none g l (.func body env') p []]) :=
  ⟨x.handled, by have := x.depth; show A.depth + 1 + 0 + k < _; omega, by have := x.units; show A.units + 3 + 0 + 10 * k + 100 < _; omega⟩
theorem Room.over2 {k : Nat} (x : Room (k + 1) A) {t t' : Expr} {it it' : Value} {b o b' o' body : List Stmt} {env env' env'' : Env} {kk kk' : Result → Sem Fin} {g g' : Bool} {l l' : List Value} {p p' : Pos} : Room k (A.over (.forLoop t it b o env) [.ret kk none g l (.forLoop t' it' b' o' env'') p [], .ret kk' none g' l' (.func body env') p' []]) :=
  ⟨x.handled, by have := x.depth; show A.depth + 1 + 0 + k < _; omega, by have := x.units; show A.units + 3 + 0 + 10 * k + 100 < _; omega⟩

theorem gsz_len : ∀ (n : Nat) (t : Int), ∀ p ∈ gsz n t, p.length = n + 1
  | 0, t, p, h => by simp [gsz] at h; subst h; rfl
  | n + 1, t, p, h => by
    simp only [gsz, List.mem_flatMap, List.mem_map] at h
    obtain ⟨i, _, q, hq, rfl⟩ := h
    rw [List.length_cons, gsz_len n _ q hq]

/-- the contract of groupsizes -/
def GsOk (C : Cx) (n K : Nat) : Prop := ∀ (A : Around) (s : Shared) (t : Int) (u u' : Tok) (Q : Value → Shared → Prop) (E : Value → Shared → Prop), Wd C s.heap → Room K A → -1000 ≤ t → t ≤ 1000 →
  (∀ s₁ L a g, s.heap.get? L = none → s.heap.get? a = none → s.gens[g]? = none → Stp C [] [] s s₁ → s₁.TypeIs (.ref a) "generator" → ItOk C (K + 1) a ((gsz n t).map tupL) ⟨[L], [a], [g]⟩ s₁ → Q (.ref a) s₁) →
  wpAny (MM C) A (call (.ref (C.fa 5)) [.int t u, .int ((n : Int) + 1) u']) Q E s

def gsP (t : Int) (n : Nat) (lo : List (Str × Value)) : Prop := (∃ u, gl lo "total" = some (.int t u)) ∧ ∃ u, gl lo "len" = some (.int ((n : Int) + 2) u)
theorem gsP_put {t : Int} {n : Nat} {lo : List (Str × Value)} {x : Str} {v : Value} (h : gsP t n lo) (h1 : ("total" : Str) ≠ x := by decide) (h2 : ("len" : Str) ≠ x := by decide) : gsP t n (put x v lo) :=
  ⟨h.1.imp fun _ e => put_ne e h1, h.2.imp fun _ e => put_ne e h2⟩

set_option maxHeartbeats 1000000 in
theorem gs_outer (FF : Facts C) {n K : Nat} (rec : GsOk C n K) (hn : n ≤ 100) (hA : Room (K + 6) A) {pm doc : Value} {L : Addr} {t : Int} {itO : Addr} {px : Pos} {k₁ : Result → Sem Fin} {g₁ : Bool} {l₁ : List Value} {p₁ : Pos} {body : List Stmt} (hg₁ : g₁ = false) (hk₁ : k₁ (.ok .next) = leafOf (.ok (.ret .none))) :
    ∀ (is : List Int) (FO : Ft) (s : Shared) (lo : List (Str × Value)), (∀ i ∈ is, -1000 ≤ t - i ∧ t - i ≤ 1000) →
      Iter C (A.over (.forLoop (.Name "i" px) (.ref itO) gsOBody [] (fnEnv C 5 L pm doc)) [.ret k₁ none g₁ l₁ (.func body (fnEnv C 5 L pm doc)) p₁ []]) itO (iL is) FO s →
      Loc C s.heap L lo → gsP t n lo → L ∉ FO.W ++ FO.R → (∀ a ∈ (one L FO).W ++ (one L FO).R, Live C s.heap a) → (∀ i ∈ FO.V, ∃ g, s.gens[i]? = some g) →
      SegN C A finRet (is.flatMap fun i => (gsz n (t - i)).map fun p => tupL (i :: p)) (one L FO) (.forLoop (.Name "i" px) (.ref itO) gsOBody [] (fnEnv C 5 L pm doc)) ((MM C).den (.forLoop (.Name "i" px) (.ref itO) gsOBody [] (fnEnv C 5 L pm doc)))
        [.ret k₁ none g₁ l₁ (.func body (fnEnv C 5 L pm doc)) p₁ []] s := by
  intro is
  induction is with
  | nil =>
    intro FO s lo _ hO hlo hPl hLO hl hv
    refine segN_for (F₁ := FO) hO (fun a h => .tail _ h) (fun i h => h) hl (fun _ s' c' st => ?_) (fun d rem e => by cases e)
    have hlo' : Loc C s'.heap L lo := st.loc hlo fun h => hLO (List.mem_append_left _ h)
    refine ⟨⟨[], [], []⟩, Mid.of st (fun a h => .inl (.tail _ h)) (fun i h => .inl h) (fun a h => nomatch h) (fun a h => nomatch h) (fun i h => nomatch h) (fun a h => nomatch h) (fun i h => nomatch h), segN_leaf _ ?_⟩
    rw [hk₁]
    exact segN_end _ rfl
  | cons i is ih =>
    intro FO s lo his hO hlo hPl hLO hl hv
    refine segN_for (F₁ := FO) hO (fun a h => .tail _ h) (fun i h => h) hl (fun e => by cases e) (fun d rem e v s₁ as FO' E' got hw₁ hO' => ?_)
    simp only [iL, List.map_cons, List.cons.injEq] at e
    obtain ⟨rfl, rfl⟩ := e
    obtain ⟨hrd, -, st₁, nx⟩ := got
    obtain ⟨ui, rfl, -⟩ := reads_int hrd
    obtain ⟨hi0, hi1⟩ := his i (.head _)
    have hlo₁ : Loc C s₁.heap L lo := st₁.loc hlo fun h => hLO (List.mem_append_left _ h)
    have hLa := loc_alive hlo
    have hLO' : L ∉ FO'.W ++ FO'.R := nx.off hLa (fun h => hLO (List.mem_append_left _ h)) (fun h => hLO (List.mem_append_right _ h))
    refine st_local FF hlo₁ fun s₂ hlo₂ st₂ hg₂' => ?_
    have hl₂ : ∀ a ∈ (one L FO').W ++ (one L FO').R, Live C s₂.heap a := fun a h => by
      rcases List.mem_cons.mp h with rfl | h
      · obtain ⟨o, _, _, e, _⟩ := hlo₂.ns
        exact ⟨o, e, .inl (nb hlo₂.new)⟩
      · exact st₂.live (nx.live a h) (nin1 fun (z : a = L) => hLO' (by rw [← z]; exact h))
    refine ⟨one L FO', ?_, fun K' H gd lv hgd hK => ?_⟩
    · refine Mid.of (W := L :: FO.W) (V := FO.V) ((st₁.mono (fun a h => .tail _ h) fun _ h => h).more st₂ (all1 (.inl (.head _)))) (fun a h => .inl h) (fun i h => .inl h) (fun a h => ?_) (fun a h => ?_) nx.V hl₂ (fun j hj => let ⟨g, e⟩ := nx.vlive j hj; ⟨g, st₂.gens j g (fun h => nomatch h) e⟩)
      · rcases List.mem_cons.mp h with rfl | h
        · exact .inl (.head _)
        · exact (nx.W a h).imp (fun z => .tail _ z) id
      · rcases nx.R a h with z | z | z
        · exact .inl (.tail _ z)
        · exact .inr (.inl z)
        · exact .inr (.inr z)
    · have hw₂ := st₂.wd hw₁
      have hO₂ := hO'.agree (st₂.agree (fun a ha => nin1 fun (z : a = L) => hLO' (by rw [← z]; exact ha)) fun _ _ h => nomatch h)
      have hP₂ : gsP t n (put "i" (.int i ui) lo) := gsP_put hPl
      obtain ⟨⟨ut, htot⟩, ul, hlen⟩ := hP₂
      refine segN_cons hgd fun K' H' gd' lv' hgd' hK' => segN_For hgd' fun _ => ?_
      have hA₂ : Room (K + 5) (A.over (.forLoop (.Name "i" px) (.ref itO) gsOBody [] (fnEnv C 5 L pm doc)) [.ret k₁ none g₁ l₁ (.func body (fnEnv C 5 L pm doc)) p₁ []]) := Room.over1 hA
      refine ev_call FF hw₂ 5 (arg2 (wpAny_BinOp (ev_local hlo₂ htot (ev_local hlo₂ put_eq (sub_int (wpAny_BinOp (ev_local hlo₂ hlen (wpAny_Constant_int (sub_int ⟨hw₂, ?_⟩)))))))))
      rw [show (n : Int) + 2 - 1 = (n : Int) + 1 by omega]
      refine rec _ _ (t - i) _ _ _ _ hw₂ (hA₂.less (by omega)) (by omega) (by omega) fun s₃ L₃ a g hL₃ ha₃ hg₃ st₃ hT hit => ?_
      have st₃' : Stp C [] [] s₂ s₃ := ⟨st₃.keep, st₃.tup, st₃.there, st₃.gens, st₃.os, st₃.bare, st₃.wd⟩
      refine pyIter_self (st₃'.wd hw₂) hit ?_
      have hl₃ : ∀ b ∈ (two L ⟨[L₃], [a], [g]⟩ FO').W ++ (two L ⟨[L₃], [a], [g]⟩ FO').R, Live C s₃.heap b := fun b h => by
        have h1 : b ∈ (one L FO').W ++ (one L FO').R → Live C s₃.heap b := fun h => st₃'.live (hl₂ b h) (by simp)
        have h2 : b ∈ [L₃] ++ [a] → Live C s₃.heap b := fun h => hit.live b (by simpa using h)
        rcases List.mem_cons.mp h with rfl | h
        · exact h1 (.head _)
        rcases List.mem_append.mp h with h | h <;> rcases List.mem_append.mp h with h | h
        · exact h2 (List.mem_append_left _ h)
        · exact h1 (.tail _ (List.mem_append_left _ h))
        · exact h2 (List.mem_append_right _ h)
        · exact h1 (.tail _ (List.mem_append_right _ h))
      have al₂ : ∀ b ∈ (one L FO').W ++ (one L FO').R, ∃ o, s₂.heap.get? b = some o := fun b h => (hl₂ b h).some
      have hv₂ : ∀ j ∈ FO'.V, ∃ g', s₂.gens[j]? = some g' := fun j hj => let ⟨g, e⟩ := nx.vlive j hj; ⟨g, st₂.gens j g (fun h => nomatch h) e⟩
      refine ⟨two L ⟨[L₃], [a], [g]⟩ FO', Mid.of st₃' (fun _ h => nomatch h) (fun _ h => nomatch h) (fun b h => ?_) (fun b h => ?_) (fun j h => ?_) hl₃ (fun j hj => (List.mem_append.mp hj).elim (fun h => hit.vlive j h) fun h => let ⟨g', e⟩ := hv₂ j h; ⟨g', st₃'.gens j g' (fun h => nomatch h) e⟩), fun k₂ g₂ l₂ p₂ hg₂ hk₂ => ?_⟩
      · rcases List.mem_cons.mp h with rfl | h
        · exact .inl (.head _)
        rcases List.mem_append.mp h with h | h
        · exact .inr (List.mem_singleton.mp h ▸ hL₃)
        · exact .inl (.tail _ h)
      · rcases List.mem_append.mp h with h | h
        · exact .inr (.inr (List.mem_singleton.mp h ▸ ha₃))
        · exact .inr (.inl h)
      · rcases List.mem_append.mp h with h | h
        · exact .inr (List.mem_singleton.mp h ▸ hg₃)
        · exact .inl h
      · rw [List.flatMap_cons, show ((gsz n (t - i)).map fun p => tupL (i :: p)) = (gsz n (t - i)).map (fun p => tupL (i :: p)) from rfl]
        have hnL : ∀ b, s₂.heap.get? b = none → b ∉ (one L FO').W ++ (one L FO').R := fun b hb h => dead_of hb (al₂ b h) rfl
        have ap : Apart L ⟨[L₃], [a], [g]⟩ FO' := ⟨fun h => ?_, hLO', fun b hb h => ?_, fun b hb h => ?_, fun j hj h => ?_⟩
        · refine gs_inner FF (k := 0) (P := fun lo => gsP t n lo ∧ gl lo "i" = some (.int i ui)) (fun lo v h => ⟨gsP_put h.1, put_ne h.2⟩) (fun lo h => h.2) hg₂ rfl (by subst hg₁; rfl) (fun s₄ lo₄ hO₄ hlo₄ hP₄ hl₄ hv₄ => ?_) (gsz n (t - i)) _ s₃ (put "i" (.int i ui) lo) (fun p hp => by have := gsz_len n _ p hp; omega) (hit.it _ (Room.over2 (k := K + 1) (hA.less (by omega)))) (hO₂.agree (st₃'.agree (fun _ _ h => nomatch h) fun _ _ h => nomatch h)) (st₃'.loc hlo₂) ⟨gsP_put hPl, put_eq⟩ ap hl₃ (fun j hj => let ⟨g', e⟩ := hv₂ j hj; ⟨g', st₃'.gens j g' (fun h => nomatch h) e⟩)
          rw [hk₂, hK']
          refine segN_nil ?_
          rw [hK]
          exact segN_again rfl (ih FO' s₄ lo₄ (fun j hj => his j (.tail _ hj)) hO₄ hlo₄ hP₄.1 hLO' hl₄ hv₄)
        · rcases List.mem_append.mp h with h | h
          · exact dead_of hL₃ (al₂ L (.head _)) (List.mem_singleton.mp h).symm
          · exact dead_of ha₃ (al₂ L (.head _)) (List.mem_singleton.mp h).symm
        · exact hnL b (List.mem_singleton.mp h ▸ hL₃) (.tail _ hb)
        · rcases List.mem_append.mp hb with z | z
          · exact hnL b (List.mem_singleton.mp z ▸ hL₃) (List.mem_append_left _ (.tail _ h))
          · exact hnL b (List.mem_singleton.mp z ▸ ha₃) (List.mem_append_left _ (.tail _ h))
        · obtain ⟨g', e⟩ := hv₂ j hj
          have hg₃' : s₂.gens[g]? = none := hg₃
          rw [List.mem_singleton.mp h, hg₃'] at e; cases e
theorem gs_live1 {L : Addr} {s : Shared} {lo : List (Str × Value)} (h : Loc C s.heap L lo) : ∀ a ∈ [L] ++ ([] : List Addr), Live C s.heap a := fun a ha => by
  rw [show a = L by simpa using ha]
  obtain ⟨o, _, _, e, _⟩ := h.ns
  exact ⟨o, e, .inl (nb h.new)⟩
theorem gs_call (FF : Facts C) {n K : Nat} (go : ∀ (A : Around) (s₁ : Shared) (L : Addr) (pm doc : Value) (t : Int) (u u' : Tok), -1000 ≤ t → t ≤ 1000 → Room K A → Loc C s₁.heap L [("len", .int ((n : Int) + 1) u'), ("total", .int t u)] →
      SegN C A finRet ((gsz n t).map tupL) ⟨[L], [], []⟩ (.func (bodyOf (fnStmt 5)) (fnEnv C 5 L pm doc)) ((MM C).den (.func (bodyOf (fnStmt 5)) (fnEnv C 5 L pm doc))) [] s₁) : GsOk C n K := by
  intro A s t u u' Q E hw hA h0 h1 h
  obtain ⟨o, pm, doc, ho, hc, hd, hcd⟩ := FF.fn 5 (by decide) _ hw
  refine call_genfd FF (fd := docDef (nameOf (fnStmt 5)) (paramsOf (fnStmt 5)) (bodyOf (fnStmt 5)) (scopeOf (fnStmt 5)) pm (.ref (C.fc 5)) doc) (binds := [("total", .int t u), ("len", .int ((n : Int) + 1) u')]) (R := []) hw hA ho hd rfl rfl rfl rfl hcd (.of_eq rfl) ?_ ?_ (fun _ h => nomatch h)
    (fun A₁ s₁ L hA₁ hlo _ _ _ _ => go A₁ s₁ L pm doc t u u' h0 h1 hA₁ hlo) h
  · have : ((scopeOf (fnStmt 5)).names.all fun x => x.2 != .cell) = true := rfl
    intro x hx
    simpa using List.all_eq_true.mp this x hx
  · intro x hx
    rcases List.mem_cons.mp hx with rfl | hx
    · rfl
    · rw [List.mem_singleton.mp hx]; rfl

theorem gs_zero (FF : Facts C) {K : Nat} : GsOk C 0 K := by
  refine gs_call FF fun A s L pm doc t u u' h0 h1 hA hlo => ?_
  refine segN_func fun K H gd lv hgd hK => segN_cons hgd fun K' H' gd' lv' hgd' hK' => segN_If fun hw => ?_
  refine wpAny_isTrue_Compare1 (ev_local hlo rfl (wpAny_Constant_int (eq_int (wpAny_truthy_bool ?_))))
  have st : Stp C [] [] s { s with toks := s.toks + 1 } := Stp.tok (s' := s) (.refl s)
  have hl := gs_live1 hlo
  refine ⟨⟨[L], [], []⟩, Mid.of st all0 all0 (fun _ h => .inl h) (fun _ h => nomatch h) (fun _ h => nomatch h) (fun a h => hl a h) (fun _ h => nomatch h), ?_⟩
  refine segN_cons hgd' fun K₂ H₂ gd₂ lv₂ hgd₂ hK₂ => segN_Yield hgd₂ rfl rfl fun hw₂ => ?_
  refine ev_tuple (arg1 (ev_local hlo rfl ⟨by rw [sizeLine_eq]; simp, fun s₃ r st₃ hg₃ hrf hrt => ?_⟩))
  refine ⟨⟨[L], [], []⟩, [], Mid.of st₃ all0 all0 (fun _ h => .inl h) (fun _ h => nomatch h) (fun _ h => nomatch h) (fun a h => st₃.live (hl a h) (by simp)) (fun _ h => nomatch h), TupI.reads (ns := [t]) ⟨r, _, rfl, isTuple_of hrt, .cons _ _ .nil⟩, (fun _ h => nomatch h), fun s'' ag => ?_⟩
  rw [hK₂]
  refine segN_nil ?_
  rw [hK']
  refine segN_nil ?_
  rw [hK]
  exact segN_end _ rfl

theorem gs_succ (FF : Facts C) {n K : Nat} (hn : n ≤ 100) (rec : GsOk C n K) : GsOk C (n + 1) (K + 6) := by
  refine gs_call FF fun A s L pm doc t u u' h0 h1 hA hlo => ?_
  refine segN_func fun K₀ H gd lv hgd hK => segN_cons hgd fun K' H' gd' lv' hgd' hK' => segN_If fun hw => ?_
  refine wpAny_isTrue_Compare1 (ev_local hlo rfl (wpAny_Constant_int (eq_int (wpAny_truthy_bool ?_))))
  have st : Stp C [] [] s { s with toks := s.toks + 1 } := Stp.tok (s' := s) (.refl s)
  have hl := gs_live1 hlo
  have hb : (((n + 1 : Nat) : Int) + 1 == 1) = false := by simp; omega
  rw [hb]
  refine ⟨⟨[L], [], []⟩, Mid.of st all0 all0 (fun _ h => .inl h) (fun _ h => nomatch h) (fun _ h => nomatch h) (fun a h => hl a h) (fun _ h => nomatch h), ?_⟩
  refine segN_cons hgd' fun K₂ H₂ gd₂ lv₂ hgd₂ hK₂ => segN_For hgd₂ fun hw₂ => ?_
  refine ev_callb FF hw₂ (.type "range") (arg2 (wpAny_Constant_int (wpAny_BinOp (wpAny_BinOp (wpAny_BinOp (ev_local hlo rfl (ev_local hlo rfl (sub_int (wpAny_Constant_int (add_int (wpAny_Constant_int (add_int ?_))))))))))))
  refine call_rng2 FF (by omega) (by omega) (by push_cast; omega) (by push_cast; omega) fun s₃ r st₃ hg₃ hr hit => ?_
  have st03 : Stp C [] [] s s₃ := ⟨st₃.keep, st₃.tup, st₃.there, st₃.gens, st₃.os, st₃.bare, st₃.wd⟩
  refine hit s₃ (.refl _) rfl (st03.wd hw) _ _ _ fun s₄ it st₄ hg₄ hitf hok => ?_
  have st04 := st03.trans st₄
  have hlo₄ := st04.loc hlo
  have hl₄ : ∀ a ∈ (one L ⟨[it], [], []⟩).W ++ (one L ⟨[it], [], []⟩).R, Live C s₄.heap a := fun a h => by
    rcases List.mem_cons.mp h with rfl | h
    · obtain ⟨o, _, _, e, _⟩ := hlo₄.ns
      exact ⟨o, e, .inl (nb hlo₄.new)⟩
    · exact hok.live a h
  have hLit : L ≠ it := (dead_of (st03.fresh hitf) (loc_alive hlo)).symm
  have st04' : Stp C [] [] { s with toks := s.toks + 1 } s₄ := ⟨st04.keep, st04.tup, st04.there, st04.gens, st04.os, st04.bare, st04.wd⟩
  refine ⟨one L ⟨[it], [], []⟩, Mid.of (Fn := ⟨[L], [], []⟩) st04' all0 all0 (fun a h => ?_) (fun _ h => nomatch h) (fun _ h => nomatch h) hl₄ (fun _ h => nomatch h), fun k g l p hg hk => ?_⟩
  · rcases List.mem_cons.mp h with rfl | h
    · exact .inl (.head _)
    · exact .inr (List.mem_singleton.mp h ▸ st03.fresh hitf)
  · have e : (t - (((n + 1 : Nat) : Int) + 1) + 1 + 1 - 1).toNat = (t - n - 1).toNat := by congr 1; push_cast; omega
    have hds : (gsz (n + 1) t).map tupL = (intsUp 1 (t - n - 1).toNat).flatMap fun i => (gsz n (t - i)).map fun p => tupL (i :: p) := by
      simp only [gsz, List.map_flatMap, List.map_map]; rfl
    rw [hds]
    refine gs_outer FF rec hn hA hg (by rw [hk, hK₂]; show (execs [] (fnEnv C 5 L pm doc)).wrap K' H' gd' lv' = _; show K' .next = _; rw [hK']; exact hK) (intsUp 1 (t - n - 1).toNat) ⟨[it], [], []⟩ s₄ _ (fun i hi => ?_) ?_ hlo₄ ⟨⟨u, rfl⟩, u', ?_⟩ ?_ hl₄ (fun _ h => nomatch h)
    · have := intsUp_mem _ _ _ hi
      constructor <;> omega
    · have hi := hok.it (A.over (.forLoop (.Name "i" default) (.ref it) gsOBody [] (fnEnv C 5 L pm doc)) [.ret k none g l (.func (bodyOf (fnStmt 5)) (fnEnv C 5 L pm doc)) p []]) ((Room.over1 hA).less (Nat.zero_le _))
      rw [e, intsFrom_eq] at hi
      exact hi
    · show some (Value.int (((n + 1 : Nat) : Int) + 1) u') = _
      rw [show ((n + 1 : Nat) : Int) + 1 = (n : Int) + 2 by push_cast; omega]
    · intro h
      exact hLit (by simpa using h)

/-- groupsizes(total, len) -/
theorem groupsizes_ok (FF : Facts C) : ∀ n : Nat, n ≤ 20 → GsOk C n (6 * n)
  | 0, _ => gs_zero FF
  | n + 1, h => gs_succ FF (by omega) (groupsizes_ok FF n (by omega))
end
end Mine

namespace Mine
open PySem PySem.Calls PySem.W PyProof.Rows
section
variable {C : Cx} {A : Around} {E : Value → Shared → Prop} {s : Shared} {env : Env}

theorem gsz_mem : ∀ (n : Nat) (t : Int), 0 ≤ t → ∀ p ∈ gsz n t, (∀ x ∈ p, 0 ≤ x ∧ x ≤ t) ∧ p.sum = t
  | 0, t, h0, p, h => by simp [gsz] at h; subst h; simp [h0]
  | n + 1, t, h0, p, h => by
    simp only [gsz, List.mem_flatMap, List.mem_map] at h
    obtain ⟨i, hi, q, hq, rfl⟩ := h
    have := intsUp_mem _ _ _ hi
    obtain ⟨h1, h2⟩ := gsz_mem n (t - i) (by omega) q hq
    refine ⟨fun x hx => ?_, by rw [List.sum_cons, h2]; omega⟩
    rcases List.mem_cons.mp hx with rfl | hx
    · omega
    · have := h1 x hx
      omega
theorem partsFrom_mem : ∀ (ns : List Int) (k : Int), (∀ n ∈ ns, 0 ≤ n) → ∀ is ∈ partsFrom k ns, is.length ≤ ns.sum ∧ ∀ i ∈ is, k ≤ i ∧ i < k + ns.sum
  | [], _, _, _, h => nomatch h
  | n :: ns, k, h0, is, h => by
    have hs : 0 ≤ ns.sum := by
      have : ∀ (l : List Int), (∀ n ∈ l, 0 ≤ n) → 0 ≤ l.sum := by
        intro l
        induction l with
        | nil => intro _; simp
        | cons a l ih => intro h; rw [List.sum_cons]; have := h a (.head _); have := ih fun n hn => h n (.tail _ hn); omega
      exact this ns fun m hm => h0 m (.tail _ hm)
    have hn := h0 n (.head _)
    rw [List.sum_cons]
    rcases List.mem_cons.mp h with rfl | h
    · refine ⟨by rw [intsUp_len]; omega, fun i hi => ?_⟩
      have := intsUp_mem _ _ _ hi
      omega
    · obtain ⟨h1, h2⟩ := partsFrom_mem ns (k + n) (fun m hm => h0 m (.tail _ hm)) is h
      refine ⟨by omega, fun i hi => ?_⟩
      have := h2 i hi
      omega
theorem iL_mem {p : List Int} {P : Int → Prop} (h : ∀ x ∈ p, P x) : ∀ x ∈ p, P x := h

/-- g( *t ) by the def's name -/
theorem ev_star (FF : Facts C) {hp : Heap} (hw : Wd C hp) (i : Nat) {x : Str} {np pos sp : Pos} {e : Expr} {Q : Value → Shared → Prop}
    (h : wpAny (MM C) A (eval e env) (fun v s₁ => ∃ t vs, v = .ref t ∧ Wd C s₁.heap ∧ s₁.heap.IsTuple t (List.toArray vs) ∧ vs.length ≤ 100000 ∧ ∀ s₂, Stp C [] [] s₁ s₂ → wpAny (MM C) A (call (.ref (C.fa i)) vs) Q E s₂) E s) (hs : s.heap = hp := by rfl) (hi : i ∈ fnIx := by decide) (hx' : x = nameOf (fnStmt i) := by rfl)
    (hk : env.scope.kind = .function := by rfl) (hx : env.kindOf x = some .globalImplicit := by rfl) (hg : env.globals = mainGlobals := by rfl) (hd : (x == ("__debug__" : Str)) = false := by decide) :
    wpAny (MM C) A (eval (.Call (.Name x np) [.Starred e sp] [] pos) env) Q E s :=
  wpAny_Call_NameR (ev_fn FF hw i (callWith_star FF hi (wpAny_bind (wpAny_mono h (fun v s₁ h₁ => wpAny_bind (wpAny_standAt (wpAny_pure h₁))) fun _ _ e => e))) hs hi hx' hk hx hg hd)

def assocD (x : Str) (ns : List Int) (p : List Int) : PyData := .tuple ((((partsFrom 0 p).map (selI ns))).map (opOf x))

set_option maxHeartbeats 1000000 in
/-- assocsized(op, tail, n) -/
theorem assocsized_ok (FF : Facts C) {hp : Heap} (hw : Wd C hp) {k : Nat} (hA : Room (k + 40) A) {x : Str} {u u' : Tok} {tail : Value} {ns : List Int} {m : Nat} {Q : Value → Shared → Prop} (ht : TupI hp tail ns) (hnl : ns.length ≤ 900) (hm : m ≤ 3)
    (h : ∀ s' a F', Stp C [] [] s s' → ItOk C 24 a ((gsz m ns.length).map (assocD x ns)) F' s' → s'.TypeIs (.ref a) "generator" → (∀ b ∈ F'.W ++ F'.R, hp.get? b = none) → (∀ j ∈ F'.V, s.gens[j]? = none) → Q (.ref a) s') (hs : s.heap = hp := by rfl) : wpAny (MM C) A (call (.ref (C.fa 10)) [.str x u, tail, .int ((m : Int) + 1) u']) Q E s := by
  subst hs
  refine enter_fnC FF (i := 10) (binds := [("op", .str x u), ("tail", tail), ("n", .int ((m : Int) + 1) u')]) (by decide) hw hA (fun _ _ => rfl) (fun s₁ L pm doc E' hn hcell hLf hL₀ st hg hw₁ hA₁ => ?_)
  have ht := ht.keep st
  have hc : s₁.heap.IsCell (L + 1) (some (.str x u)) := hcell "op" (L + 1) rfl
  have hc' : s₁.heap.IsCell (L + 2) (some tail) := hcell "tail" (L + 2) rfl
  obtain ⟨tt, vs, rfl, htt, hI⟩ := ht
  have hvl : vs.length = ns.length := hI.length
  refine wpAny_execs_cons (wpAny_Assign_Name (ev_call FF hw₁ 5 (arg2 (ev_callb FF hw₁ (.builtin "len") (arg1 (ev_cell hc' (len_t htt (by omega) fun u₂ s₂ st₂ => ev_local (st₂.loc hn) rfl ⟨st₂.wd hw₁, ?_⟩) rfl))))))
  have hw₂ := st₂.wd hw₁
  rw [hvl]
  refine groupsizes_ok FF m (by omega) _ _ ns.length _ _ _ _ hw₂ (hA₁.less (by omega)) (by omega) (by omega) fun s₃ L₃ a₃ g₃ hL₃ ha₃ hg₃ st₃ hT₃ hit₃ => ?_
  have st13 := st₂.trans st₃
  refine st_local FF (st13.loc hn) fun s₄ hlo₄ st₄ hg₄ => ?_
  have hLa := loc_alive hn
  have hL₃' : s₁.heap.get? L₃ = none := st₂.fresh hL₃
  have ha₃' : s₁.heap.get? a₃ = none := st₂.fresh ha₃
  have nL : ∀ b, s₁.heap.get? b = none → b ≠ L := fun b hb => dead_of hb hLa
  have hit₄ := hit₃.step st₄ (fun b hb => nin1 (by
    rcases List.mem_append.mp hb with z | z
    · rw [List.mem_singleton.mp z]; exact nL _ hL₃'
    · rw [List.mem_singleton.mp z]; exact nL _ ha₃')) (fun _ _ h => nomatch h)
  have hw₄ := st₄.wd (st13.wd hw₁)
  have st14 : Stp C [L] [] s₁ s₄ := st13.wide.more st₄ (all1 (.inl (.head _)))
  refine wpAny_execs_cons (wpAny_Assign_Name (ev_genexp FF (i := 10) (cl := []) rfl rfl hA₁.d (ev_local hlo₄ put_eq (pyIter_self hw₄ hit₄ ⟨a₃, 20, _, (gsz m ns.length).map fun p => .list ((partsFrom 0 p).map lstL), _, [], rfl, hw₄, hit₄.less (by omega), (fun _ h => nomatch h), (fun _ h => nomatch h), ?_, fun s₅ a₅ F₅ st₅ hit₅ hT₅ hW₅ hR₅ hV₅ => ?_⟩))))
  · intro L' code hL'
    refine paired_map fun p hp => ?_
    intro A₂ s₄ l v as Q₂ E₂ hA₂ hw₄ hloc hlk hrd hag hq
    obtain ⟨rfl, t₂, vs₂, rfl, ht₂, hI₂⟩ := tupI_of hrd
    have hpl := gsz_len m _ p hp
    have hpm := gsz_mem m _ (by omega) p hp
    have hvl₂ : vs₂.length = p.length := hI₂.length
    refine ev_star FF hw₄ 13 (ev_local hloc hlk ⟨t₂, vs₂, rfl, hw₄, ht₂, by omega, fun s₅ st₅ => gtp_ok FF (k := 0) (st₅.wd hw₄) (hA₂.less (by omega)) hI₂ (fun z hz => ⟨(hpm.1 z hz).1, by have := (hpm.1 z hz).2; omega⟩) (by omega) fun s₆ P as₆ st₆ hr₆ hf₆ => hq _ _ _ hr₆ (fun b hb => .inr (st₅.fresh (hf₆ b hb))) (st₅.trans st₆)⟩)
  · have hw₅ := st₅.wd hw₄
    have st04 : Stp C [] [] s s₄ := st.andThen st14 (fun _ h => nomatch h) all0 (all1 (.inr (hLf L (Nat.le_refl L)))) all0
    -- what the first generator leans on is younger than the call
    have fr₄ : ∀ b, s₄.heap.get? b = none → s₁.heap.get? b = none := fun b hb => (st14.none_of hb).elim (fun z => (dead_of hb (loc_alive hlo₄) (List.mem_singleton.mp z)).elim) id
    have fg₄ : ∀ j, s₄.gens[j]? = none → s₁.gens[j]? = none := fun j hj => (st14.gnone_of hj).elim (fun h => nomatch h) id
    have hW₅' : ∀ b ∈ F₅.W ++ F₅.R, s₁.heap.get? b = none := fun b hb => by
      rcases List.mem_append.mp hb with z | z
      · rcases hW₅ b z with q | q
        · rw [List.mem_singleton.mp q]; exact hL₃'
        · exact fr₄ b q
      · rcases hR₅ b z with q | q | q
        · rw [List.mem_singleton.mp q]; exact ha₃'
        · exact nomatch q
        · exact fr₄ b q
    have hV₅' : ∀ j ∈ F₅.V, s₁.gens[j]? = none := fun j hj => (hV₅ j hj).elim (fun q => by rw [List.mem_singleton.mp q]; exact (st₂.gnone_of hg₃).elim (fun h => nomatch h) id) (fg₄ j)
    refine st_local FF (st₅.loc hlo₄) fun s₆ hlo₆ st₆ hg₆ => ?_
    have hit₆ := hit₅.step st₆ (fun b hb => nin1 (nL b (hW₅' b hb))) (fun _ _ h => nomatch h)
    have hw₆ := st₆.wd hw₅
    have st16 : Stp C [L] [] s₁ s₆ := (st14.more st₅ all0).more st₆ (all1 (.inl (.head _)))
    have cL : L + 1 ∉ [L] := fun h => absurd (List.mem_singleton.mp h) (Nat.succ_ne_self L)
    have cL' : L + 2 ∉ [L] := fun h => absurd (List.mem_singleton.mp h) (Nat.ne_of_gt (Nat.lt_succ_of_lt (Nat.lt_succ_self L)))
    have hc₆ := st16.cell hc (hL₀ _ (Nat.le_succ L)) cL
    have hc₆' := st16.cell hc' (hL₀ _ (Nat.le_add_right L 2)) cL'
    have fr₆ : ∀ b, s₆.heap.get? b = none → s₁.heap.get? b = none := fun b hb => (st16.none_of hb).elim (fun z => (dead_of hb (loc_alive hlo₆) (List.mem_singleton.mp z)).elim) id
    have fg₆ : ∀ j, s₆.gens[j]? = none → s₁.gens[j]? = none := fun j hj => (st16.gnone_of hj).elim (fun h => nomatch h) id
    refine wpAny_execs_cons (wpAny_Return_some (ev_genexp FF (i := 10) (cl := [("tail", L + 2), ("op", L + 1)]) rfl rfl hA₁.d (ev_local hlo₆ put_eq (pyIter_self hw₆ hit₆ ⟨a₅, 22, _, (gsz m ns.length).map (assocD x ns), _, [L + 1, L + 2], rfl, hw₆, hit₆, ?_, ?_, ?_, fun s₇ a₇ F₇ st₇ hit₇ hT₇ hW₇ hR₇ hV₇ => ?_⟩))))
    · exact all2 (live_cell hc₆ (hL₀ _ (Nat.le_succ L))) (live_cell hc₆' (hL₀ _ (Nat.le_add_right L 2)))
    · exact all2 (fun z => dead_of (hW₅' _ (List.mem_append_left _ z)) (alive_cell hc) rfl) (fun z => dead_of (hW₅' _ (List.mem_append_left _ z)) (alive_cell hc') rfl)
    · intro L' code hL'
      refine paired_map fun p hp => ?_
      intro A₂ s₈ l v as Q₂ E₂ hA₂ hw₈ hloc hlk hrd hag hq
      have hpl := gsz_len m _ p hp
      have hpm := gsz_mem m _ (by omega) p hp
      have hpp := partsFrom_mem p 0 (fun z hz => (hpm.1 z hz).1)
      rw [hpm.2] at hpp
      have hc₈ := hag.cell hc₆ (hL₀ _ (Nat.le_succ L))
      have hc₈' := hag.cell hc₆' (hL₀ _ (Nat.le_add_right L 2))
      have ht₈ : TupI s₈.heap (.ref tt) ns := ⟨tt, vs, rfl, by
        have := st16.tup2 htt
        obtain ⟨o, e, c, n, d⟩ := this
        exact ⟨o, hag.tup _ _ _ _ c d e, c, n, d⟩, hI⟩
      refine ev_call FF hw₈ 11 (arg2 (ev_free hc₈ (ev_call FF hw₈ 12 (arg2 (ev_free hc₈' (ev_local hloc hlk ⟨hw₈, partition_ok FF (k := 0) hw₈ (hA₂.less (by omega)) ht₈ hrd (fun is his => ⟨?_, fun i hi => ?_⟩) (by rw [partsFrom_len, hpl]; omega) (by omega) fun s₉ D st₉ hr₉ hD₉ => ⟨st₉.wd hw₈, ?_⟩⟩) rfl))) rfl))
      · have := (hpp is his).1
        omega
      · have := (hpp is his).2 i hi
        omega
      · refine makeops_ok FF (k := 0) (nss := (partsFrom 0 p).map (selI ns)) (as := [D]) (st₉.wd hw₈) (hA₂.less (by omega)) (by rw [List.map_map]; exact hr₉) (fun q hq => ?_) (by rw [List.length_map, partsFrom_len, hpl]; omega) fun s' r st' hr' => hq _ _ [] hr' (fun _ h => nomatch h) (st₉.trans st')
        obtain ⟨is, his, rfl⟩ := List.mem_map.mp hq
        have := (hpp is his).1
        unfold selI
        rw [List.length_map]; omega
    · have cells : ∀ b ∈ [L + 1, L + 2], s.heap.get? b = none := all2 (hLf _ (Nat.le_succ L)) (hLf _ (Nat.le_add_right L 2))
      refine h s₇ a₇ F₇ (st.andThen (st16.more st₇ all0) (fun _ h => nomatch h) all0 (all1 (.inr (hLf L (Nat.le_refl L)))) all0) hit₇ hT₇ (fun b hb => ?_) fun j hj => ?_
      · rcases List.mem_append.mp hb with z | z
        · exact (hW₇ b z).elim (fun q => st.fresh (hW₅' b (List.mem_append_left _ q))) fun q => st.fresh (fr₆ b q)
        · rcases hR₇ b z with q | q | q
          · exact st.fresh (hW₅' b (List.mem_append_right _ q))
          · exact cells b q
          · exact st.fresh (fr₆ b q)
      · exact (hV₇ j hj).elim (fun q => st.gfresh (hV₅' j q)) fun q => st.gfresh (fg₆ j q)
end
end Mine

namespace Mine
open PySem PySem.Calls PySem.W PyProof.Rows
section
variable {C : Cx} {A : Around} {E : Value → Shared → Prop} {s : Shared} {env : Env}

/-- a slice's part, read as a place in a sequence of n -/
inductive PartAt (n dflt : Nat) : Value → Nat → Prop
  | none : PartAt n dflt .none dflt
  | int (a : Nat) (u : Tok) : a ≤ n → PartAt n dflt (.int a u) a
theorem adjust_at {n a b : Nat} (ha : a ≤ n) (hb : b ≤ n) {lo hi : Option Int} (hlo : lo = none ∧ a = 0 ∨ lo = some (a : Int)) (hhi : hi = none ∧ b = n ∨ hi = some (b : Int)) : Builtin.Slice.sliceAdjust lo hi 1 (n : Int) = ((a : Int), (b : Int)) := by
  unfold Builtin.Slice.sliceAdjust
  have h1 : ¬ ((1 : Int) < 0) := by omega
  have h2 : ¬ ((a : Int) < 0) := by omega
  have h3 : ¬ ((b : Int) < 0) := by omega
  rcases hlo with ⟨rfl, rfl⟩ | rfl <;> rcases hhi with ⟨rfl, rfl⟩ | rfl <;> simp only [h1, h2, h3, if_false] <;> (congr 1 <;> omega)
theorem places_at {a b : Nat} (h : a ≤ b) : Builtin.Slice.slicePlaces (a : Int) (b : Int) 1 = b - a := by
  unfold Builtin.Slice.slicePlaces
  have h1 : (1 : Int) > 0 := by omega
  simp only [h1, if_true, Int.ediv_one]
  split <;> omega
theorem part_opt {n dflt : Nat} {v : Value} {a : Nat} {Q : Option Int → Shared → Prop} (p : PartAt n dflt v a) (h : ∀ o, (o = none ∧ a = dflt ∨ o = some (a : Int)) → Q o s) : wpAny (MM C) A (Builtin.Slice.slicePartIndex v) Q E s := by
  cases p with
  | none => exact slicePart_none (h _ (.inl ⟨rfl, rfl⟩))
  | int a u _ => exact slicePart_int (h _ (.inr rfl))
theorem part_le {n dflt : Nat} (hd : dflt ≤ n) {v : Value} {a : Nat} (p : PartAt n dflt v a) : a ≤ n := by cases p <;> assumption
theorem pick_at (xs : Array Value) (a b : Nat) : ((List.range (b - a)).filterMap fun (k : Nat) => xs[((a : Int) + (k : Int) * 1).toNat]?).toArray = ((xs.toList.drop a).take (b - a)).toArray := by
  have e : (fun (k : Nat) => xs[((a : Int) + (k : Int) * 1).toNat]?) = fun k => xs[a + k]? := by
    funext k
    have : ((a : Int) + (k : Int) * 1).toNat = a + k := by omega
    rw [this]
  rw [e]
  have := pick_run xs a (b - a)
  rw [List.filterMap_map] at this
  have e2 : ((fun x => xs[x]?) ∘ fun x => a + x) = fun k => xs[a + k]? := rfl
  rw [e2] at this
  rw [this]

theorem getItem_tup_slice {t sl : Addr} {vs : List Value} {vl vu : Value} {a b : Nat} {Q : Value → Shared → Prop} (ht : s.heap.IsTuple t vs.toArray) (hs : s.heap.IsSliceOf sl vl vu .none) (pl : PartAt vs.length 0 vl a) (pu : PartAt vs.length vs.length vu b) (hab : a ≤ b) (hsz : vs.length ≤ 100000)
    (h : ∀ s' r, Stp C [] [] s s' → s'.heap.IsTuple r ((vs.drop a).take (b - a)).toArray → Q (.ref r) s') : wpAny (MM C) A (getItem (.ref t) (.ref sl)) Q E s := by
  have ht' : IsTup s.heap t vs.toArray := ht
  have ha := part_le (Nat.zero_le _) pl
  have hb := part_le (Nat.le_refl _) pu
  obtain ⟨os, hos, hcs, hds⟩ := id hs
  have hTs : s.TypeIs (.ref sl) "slice" := ⟨os, hos, hcs⟩
  unfold getItem
  try with_reducible refine wpAny_holding ?_
  first | refine wpAny_bind (wpAny_pure ?_) | skip
  refine wpAny_bind (wpAny_sequenceKey ht'.typeIs (by decide) ?_)
  refine wpAny_bind (wpAny_callSpecial?_slot (name := Str.ofString "__getitem__") ht'.typeIs PyProof.Rows.slot_tuple_getitem
    (wpAny_call_entry PyProof.Rows.slot_tuple_getitem ht'.typeIs PyProof.Rows.entry_tuple_getitem ?_ (args_tuple_getitem _ _)))
  show wpAny _ _ (Builtin.Tuple.tupleItemsOf (.ref t) >>= _) _ _ s
  refine wpAny_bind (tupleItemsOf_ ht' ?_)
  refine wpAny_bind (wpAny_typeOf hTs ?_)
  rw [if_pos (by decide)]
  have key : ∀ {Q : Int × Int × Nat → Shared → Prop} {E : Value → Shared → Prop} {A : Around}, Q ((a : Int), 1, b - a) s → wpAny (MM C) A (Builtin.Slice.sliceApplied (.ref sl) (pure (vs.length : Int))) Q E s := by
    intro Q E A h
    unfold Builtin.Slice.sliceApplied Builtin.Slice.sliceFields
    refine wpAny_bind (wpAny_bind (wpAny_field hos hds (x := vl) rfl (wpAny_bind (wpAny_field hos hds (x := vu) rfl (wpAny_bind (wpAny_field hos hds (x := .none) rfl (wpAny_pure ?_)))))))
    refine wpAny_bind (slicePart_none ?_)
    show wpAny _ _ (if ((1 : Int) == 0) = true then _ else _) _ _ s
    rw [if_neg (by decide)]
    refine wpAny_bind (part_opt pl fun lo hlo => wpAny_bind (part_opt pu fun hi hhi => wpAny_bind (wpAny_pure ?_)))
    show wpAny _ _ (match Builtin.Slice.sliceAdjust lo hi 1 (vs.length : Int) with | (lo, hi) => pure (lo, (1 : Int), Builtin.Slice.slicePlaces lo hi 1)) _ _ s
    rw [adjust_at ha hb hlo hhi]
    show wpAny _ _ (pure ((a : Int), (1 : Int), Builtin.Slice.slicePlaces (a : Int) (b : Int) 1)) _ _ s
    rw [places_at hab]
    exact wpAny_pure h
  rw [show ((vs.toArray.size : Nat) : Int) = (vs.length : Int) by rw [List.size_toArray]]
  refine wpAny_bind (key ?_)
  have hdrop : sizeOk (.seq ((vs.toArray.toList.drop a).take (b - a)).toArray) := by
    show ((vs.toArray.toList.drop a).take (b - a)).toArray.size ≤ sizeLine
    rw [List.size_toArray, List.length_take, List.length_drop, sizeLine_eq]
    simp; omega
  show wpAny _ _ (if ((a : Int) == 0 && (1 : Int) == 1 && (b - a) == vs.toArray.size) = true then _ else _) _ _ s
  by_cases hw : ((a : Int) == 0 && (1 : Int) == 1 && (b - a) == vs.toArray.size) = true
  · rw [if_pos hw]
    simp only [Bool.and_eq_true, beq_iff_eq, List.size_toArray] at hw
    obtain ⟨⟨ha0, -⟩, hb0⟩ := hw
    have ha0 : a = 0 := by omega
    subst ha0
    refine wpAny_bind (m := Builtin.Tuple.tupleIsExact _) (wpAny_bind (wpAny_typeOf ht'.typeIs (wpAny_pure ?_)))
    rw [if_pos (by decide)]
    refine wpAny_bind (wpAny_rule (wpAny_pure ⟨_, rfl, wpAny_pure (h s t (.refl s) ?_)⟩))
    rw [hb0]
    simpa using ht
  · rw [if_neg hw, pick_at]
    first
      | exact wpAny_bind (m := Builtin.Tuple.tupleExact _) (wpAny_newObj_type (wpAny_pure ⟨_, rfl, wpAny_pure (h _ _ (Stp.push _) isTuple_push)⟩) hdrop)
      | exact wpAny_bind (m := Builtin.Tuple.tupleExact _) (wpAny_newObj_type (wpAny_bind (wpAny_pure (wpAny_pure ⟨_, rfl, wpAny_pure (h _ _ (Stp.push _) isTuple_push)⟩))) hdrop)
      | exact wpAny_bind (wpAny_bind (m := Builtin.Tuple.tupleExact _) (wpAny_newObj_type (wpAny_pure (wpAny_pure ⟨_, rfl, wpAny_pure (h _ _ (Stp.push _) isTuple_push)⟩)) hdrop))
/-- t[a:b] on a tuple -/
theorem ev_slice_t {value : Expr} {lower upper : Option Expr} {p pos : Pos} {Q : Value → Shared → Prop}
    (h : wpAny (MM C) A (eval value env) (fun o s₁ => wpAny (MM C) A (evalPart lower env) (fun vl s₂ => wpAny (MM C) A (evalPart upper env) (fun vu s₃ =>
      ∃ t vs a b, o = .ref t ∧ s₃.heap.IsTuple t (List.toArray vs) ∧ PartAt vs.length 0 vl a ∧ PartAt vs.length vs.length vu b ∧ a ≤ b ∧ vs.length ≤ 100000 ∧ ∀ s' r, Stp C [] [] s₃ s' → s'.heap.IsTuple r ((vs.drop a).take (b - a)).toArray → Q (.ref r) s') E s₂) E s₁) E s)
    (ht : ∀ o r, letTemporaryGo value o r = pure () := by intro _ _; rfl) :
    wpAny (MM C) A (eval (.Subscript value (.Slice lower upper none p) pos) env) Q E s := by
  refine wpAny_Subscript_Slice (T := "tuple") PyProof.Rows.slot_tuple_getitem.lookup (wpAny_mono h (fun o s₁ h₁ => wpAny_Slice (wpAny_mono h₁ (fun vl s₂ h₂ => wpAny_mono h₂ (fun vu s₃ h₃ => ?_) fun _ _ e => e) fun _ _ e => e)) fun _ _ e => e) ht
  obtain ⟨t, vs, a, b, rfl, htt, pl, pu, hab, hsz, hQ⟩ := h₃
  have st : Stp C [] [] s₃ { s₃ with heap := s₃.heap.push { cls := .type "slice", data := .fields #[vl, vu, .none] } } := Stp.push _
  rw [evalPart_none]
  refine wpAny_pure ⟨?_, getItem_tup_slice (st.tup2 htt) (Heap.IsSliceOf.new ..) pl pu hab hsz fun s' r st' hr => hQ s' r (st.trans st') hr⟩
  obtain ⟨o, e, c, _⟩ := st.tup2 htt
  exact ⟨o, e, c⟩
/-- l[a:b] on a list -/
theorem ev_slice_l {value : Expr} {lower upper : Option Expr} {p pos : Pos} {Q : Value → Shared → Prop}
    (h : wpAny (MM C) A (eval value env) (fun o s₁ => wpAny (MM C) A (evalPart lower env) (fun vl s₂ => wpAny (MM C) A (evalPart upper env) (fun vu s₃ =>
      ∃ l vs lo hi ws, o = .ref l ∧ s₃.heap.IsList l (List.toArray vs) ∧ IsPart vl lo ∧ IsPart vu hi ∧ slicePick vs.toArray lo hi none = List.toArray ws ∧ vs.length ≤ 100000 ∧ ∀ s' r, Stp C [] [] s₃ s' → s₃.heap.get? r = none → s'.heap.PlainList r ws.toArray → Q (.ref r) s') E s₂) E s₁) E s)
    (ht : ∀ o r, letTemporaryGo value o r = pure () := by intro _ _; rfl) :
    wpAny (MM C) A (eval (.Subscript value (.Slice lower upper none p) pos) env) Q E s := by
  refine wpAny_Subscript_list_slice (wpAny_mono h (fun o s₁ h₁ => wpAny_mono h₁ (fun vl s₂ h₂ => wpAny_mono h₂ (fun vu s₃ h₃ => ?_) fun _ _ e => e) fun _ _ e => e) fun _ _ e => e) ht
  obtain ⟨l, vs, lo, hi, ws, rfl, hl, pl, pu, hw, hsz, hQ⟩ := h₃
  refine ⟨l, _, lo, hi, rfl, hl, by rw [List.size_toArray, sizeLine_eq]; omega, pl, pu, ?_⟩
  rw [hw]
  refine hQ _ _ ((Stp.push _).trans (Stp.push _)) (get_ge (Nat.le_succ _)) ⟨0, ?_⟩
  have e1 := Heap.get?_push_size (s₃.heap.push { cls := .type "slice", data := .fields #[vl, vu, .none] }) (o := { cls := .type "list", data := .seq ws.toArray }) rfl
  rw [Heap.size_push] at e1
  exact e1
end
end Mine

namespace Mine
open PySem PySem.Calls PySem.W PyProof.Rows
section
variable {C : Cx} {A : Around} {E : Value → Shared → Prop} {s : Shared} {env : Env}
theorem ev_abs {a : Int} {t : Tok} {Q : Value → Shared → Prop} (h : ∀ u s', Stp C [] [] s s' → Q (.int (if a < 0 then -a else a) u) s') : wpAny (MM C) A (call (.builtin "abs") [.int a t]) Q E s :=
  call_abs_int fun u tk => h u _ (Stp.tok (.refl s))

theorem kind_callable : builtinKind "callable" = none := by decide +kernel
theorem plain_callable : plainId "callable" = true := by decide +kernel
theorem entry_callable : entryFor table "callable" = some Builtin.«callable» := entryFor_of_fast (by kernel_rfl)
theorem args_callable (a : Value) : argsOk "callable" ⟨[a], []⟩ := by unfold argsOk; kernel_rfl
theorem function_call_slot : typeLookup (.type "function") "__call__" = pure (some (.builtin "function.__call__")) := by rw [typeLookup_type, builtinLookup_eq_fast]; kernel_rfl
theorem callable_fn {f : Addr} {Q : Value → Shared → Prop} (hf : s.TypeIs (.ref f) "function") (h : Q (.bool true) s) : wpAny (MM C) A (call (.builtin "callable") [.ref f]) Q E s := by
  refine call_function_entry kind_callable plain_callable entry_callable (args_callable _) ?_
  unfold Builtin.«callable»
  refine wpAny_bind (m := oneArg "callable" _) (wpAny_pure ?_)
  exact wpAny_bind (wpAny_specialOf hf function_call_slot (wpAny_pure ⟨_, rfl, h⟩))

theorem sum_presum {xs : Array (Int × Tok)} {ns : List Int} (hi : IntsAre (intItems xs).toList ns) : preSum (numAt xs) xs.size = ns.sum := by
  rw [preSum_eq, List.take_of_length_le (by simp), ← nums_intItems, hi.numsOf]
theorem sum_l {l : Addr} {vs : List Value} {ns : List Int} {Q : Value → Shared → Prop} (hh : A.handled = none) (hl : s.heap.IsList l vs.toArray) (hi : IntsAre vs ns)
    (h : ∀ u s', Stp C [] [] s s' → Q (.int ns.sum u) s') : wpAny (MM C) A (call (.builtin "sum") [.ref l]) Q E s := by
  obtain ⟨xs, hx⟩ := hi.allInts.items
  rw [hx] at hl
  refine sum_intListG hh hl fun h' tk t' hk => ?_
  rw [sum_presum (ns := ns) (by rw [← hx]; exact hi)]
  exact h t' _ (Stp.keeps hk rfl rfl)
theorem sum_t {t : Addr} {vs : List Value} {ns : List Int} {Q : Value → Shared → Prop} (hh : A.handled = none) (ht : s.heap.IsTuple t vs.toArray) (hi : IntsAre vs ns)
    (h : ∀ u s', Stp C [] [] s s' → Q (.int ns.sum u) s') : wpAny (MM C) A (call (.builtin "sum") [.ref t]) Q E s := by
  obtain ⟨xs, hx⟩ := hi.allInts.items
  rw [hx] at ht
  have hlt : t < s.heap.objs.size := by obtain ⟨_, e, _⟩ := ht; exact Heap.lt_size e
  refine call_sum_walkG (wpAny_pyIter_tuple ht ?_)
  have st : Stp C [] [] s { s with heap := s.heap.push { cls := .type "tuple_iterator", data := .fields #[.ref t, .int 0 0] } } := Stp.push _
  refine ⟨_, _, _, _, _, _, numAt xs, rfl, Walks.tuple (A := A.in1) hh s.heap.objs.size t (Nat.ne_of_lt hlt) (intItems xs), ⟨⟨_, Heap.get?_push_size _ rfl, rfl, rfl⟩, st.tup2 ht⟩, ?_, (fun _ _ => intItems_at), fun h' tk t' hk => ?_⟩
  · intro b hb
    show b < (s.heap.push _).objs.size
    rw [Heap.size_push]
    rcases List.mem_cons.mp hb with rfl | hb
    · exact Nat.lt_succ_self _
    · rw [List.mem_singleton.mp hb]; exact Nat.lt_succ_of_lt hlt
  · rw [show (intItems xs).size = xs.size by simp [intItems], sum_presum (ns := ns) (by rw [← hx]; exact hi)]
    refine h t' _ (Stp.keeps (fun b o e => hk b o (fun z => ?_) (Heap.get?_push_of_some _ e)) rfl rfl)
    rw [List.mem_singleton.mp z] at e
    exact absurd (Heap.lt_size e) (Nat.lt_irrefl _)
theorem intsAre_up : ∀ (n : Nat) (a : Int) (l : List Value), l.length = n → (∀ (j : Nat) (v : Value), l[j]? = some v → ∃ t, v = .int (a + j * 1) t) → IntsAre l (intsUp a n)
  | 0, a, l, hl, _ => by rw [List.length_eq_zero_iff.mp hl]; exact .nil
  | n + 1, a, l, hl, h => by
    cases l with
    | nil => cases hl
    | cons v l =>
      obtain ⟨t, rfl⟩ := h 0 v rfl
      rw [show a + ((0 : Nat) : Int) * 1 = a by omega]
      refine .cons _ _ (intsAre_up n (a + 1) l (by simpa using hl) fun j v hv => ?_)
      obtain ⟨t, rfl⟩ := h (j + 1) v (by simpa using hv)
      exact ⟨t, by congr 1; push_cast; omega⟩
/-- list(range) -/
theorem list_rng (hh : A.handled = none) {r : Addr} {a b : Int} {t u v : Tok} {n : Nat} {Q : Value → Shared → Prop} (hr : IsRange s.heap r a b 1 t u v) (hn : Builtin.Range.rangeSize a b 1 = n) (hsm : Builtin.Range.small a b 1 = true) (hlen : n ≤ 100000)
    (h : ∀ s' D vs, Stp C [] [] s s' → s.heap.get? D = none → s'.heap.PlainList D (List.toArray vs) → IntsAre vs (intsUp a n) → Q (.ref D) s') : wpAny (MM C) A (call (.type "list") [.ref r]) Q E s := by
  refine call_list_range hh hr hsm hn (by omega) fun h' tk acc c hk hD hit => ?_
  refine h _ _ acc.toList (Stp.keeps hk rfl rfl) (get_size _) ⟨c, by simpa using hD⟩ ?_
  exact intsAre_up n a acc.toList (by simpa using hit.1) fun j v hv => hit.2 j v (by simpa using hv)
end
end Mine

namespace Mine
open PySem PySem.Calls PySem.W PyProof.Rows
section
variable {C : Cx} {A : Around} {E : Value → Shared → Prop} {s : Shared} {env : Env}

/-- evalt((groupsizes_to_partition, ..)) -/
theorem evalt_ok (FF : Facts C) {hp : Heap} (hw : Wd C hp) {k : Nat} (hA : Room (k + 3) A) {tt : Addr} {vals : List Value} {ns : List Int} {Q : Value → Shared → Prop} (ht : hp.IsTuple tt (List.toArray (.ref (C.fa 13) :: vals))) (hi : IntsAre vals ns) (hns : ∀ n ∈ ns, 0 ≤ n ∧ n ≤ 1000) (hlen : ns.length ≤ 1000)
    (h : ∀ s' P as, Stp C [] [] s s' → Reads s'.heap (.ref P) (.list ((partsFrom 0 ns).map lstL)) (P :: as) → (∀ a ∈ P :: as, hp.get? a = none) → Q (.ref P) s') (hs : s.heap = hp := by rfl) : wpAny (MM C) A (call (.ref (C.fa 4)) [.ref tt]) Q E s := by
  subst hs
  refine enter_fn FF (i := 4) (binds := [("t", .ref tt)]) (by decide) hw hA (fun _ _ => .of_eq rfl) (fun s₁ L pm doc E' hn hL st hg hw₁ hA₁ => ?_)
  have ht := st.tup2 ht
  have hvl : vals.length = ns.length := hi.length
  obtain ⟨o, e, c, _⟩ := id ht
  refine wpAny_execs_cons (wpAny_If (isTrue_and (isTrue_plain (ev_callb FF hw₁ (.builtin "isinstance") (arg2 (ev_local hn rfl (ev_b FF hw₁ (IsiPair.tuple_tuple e c (wpAny_truthy_bool ?_)))))))))
  refine isTrue_and (wpAny_isTrue_Compare1 (ev_callb FF hw₁ (.builtin "len") (arg1 (ev_local hn rfl (len_t ht (by simp; omega) fun u s₂ st₂ => wpAny_Constant_int (PyProof.Rows.ge_int (wpAny_truthy_bool ?_)))))))
  have hb : decide ((1 : Int) ≤ ((Value.ref (C.fa 13) :: vals).length : Int)) = true := by simp; omega
  rw [hb]
  simp only [if_true]
  have hw₂ := st₂.wd hw₁
  have hn₂ := st₂.loc hn
  have ht₂ := st₂.tup2 ht
  obtain ⟨of, pmf, docf, hof, hcf, _⟩ := FF.fn 13 (by decide) _ hw₂
  refine isTrue_and (isTrue_plain (ev_callb FF hw₂ (.builtin "callable") (arg1 (ev_item_tuple (ev_local hn₂ rfl (wpAny_Constant_int ⟨tt, _, 0, _, _, rfl, rfl, ht₂, by omega, by omega, rfl, callable_fn ⟨of, hof, hcf⟩ (wpAny_truthy_bool ?_)⟩))))))
  simp only [if_true]
  refine isTrue_and_nil ?_
  simp only [if_true]
  refine wpAny_execs_cons (wpAny_Return_some ?_)
  refine wpAny_bind (ev_item_tuple (ev_local hn₂ rfl (wpAny_Constant_int ⟨tt, _, 0, _, _, rfl, rfl, ht₂, by omega, by omega, rfl, ?_⟩)))
  refine callWith_star FF (by decide) (wpAny_bind (wpAny_mono (ev_slice_t (ev_local hn₂ rfl (wpAny_evalPart_some (wpAny_Constant_int (wpAny_evalPart_none ⟨tt, _, 1, _, rfl, ht₂, .int 1 _ (by simp), .none, by simp, by simp; omega, fun s₃ r st₃ hr => ⟨r, vals, rfl, st₃.wd hw₂, ?_, by omega, fun s₄ st₄ => ?_⟩⟩))))) (fun v s₁ h₁ => wpAny_bind (wpAny_standAt (wpAny_pure h₁))) fun _ _ e => e))
  · simpa using hr
  · have st24 : Stp C [] [] s s₄ := (st.trans st₂).trans ((⟨st₃.keep, st₃.tup, st₃.there, st₃.gens, st₃.os, st₃.bare, st₃.wd⟩ : Stp C [] [] s₂ s₃).trans st₄)
    exact gtp_ok FF (k := k + 1) (st24.wd hw) hA₁ hi hns hlen fun s₅ P as st₅ hr hf => h s₅ P as (st24.trans st₅) hr fun a ha => st24.fresh (hf a ha)
end
end Mine

namespace Mine
open PySem PySem.Calls PySem.W PyProof.Rows
section
variable {C : Cx} {A : Around} {E : Value → Shared → Prop} {s : Shared} {env : Env}

theorem not_tup_cell {h : Heap} {c : Addr} {v : Option Value} (x : h.IsCell c v) : ¬ TupAt h c := by
  rintro ⟨o, xs, n, e, hc, hd⟩
  obtain ⟨o', e', d'⟩ := x
  rw [e] at e'; cases e'
  rw [hd] at d'; cases d'
theorem st_cell (FF : Facts C) {x : Str} {v : Value} {v₀ : Option Value} {c : Addr} {hp : Heap} {Q : Unit → Shared → Prop} (hv : hp.IsCell c v₀) (h₀ : C.h₀.get? c = none)
    (h : ∀ s', s'.heap.IsCell c (some v) → Stp C [c] [] s s' → Q () s') (hs : s.heap = hp := by rfl) (hk : env.scope.kind = .function := by rfl) (hl : env.kindOf x = some .cell := by rfl) (hc : env.cells.lookup x = some c := by rfl) : wpAny (MM C) A (storeName env x v) Q E s := by
  subst hs
  exact wpAny_storeName_cell hk hl hc hv fun h' hc' hsb => h _ hc' (Stp.same (t := s.toks) FF h₀ hsb (not_tup_cell hv))
theorem reads_list {h : Heap} {D : Addr} {ds : List PyData} {as : List Addr} (r : Reads h (.ref D) (.list ds) as) : ∃ vs bs, as = D :: bs ∧ h.IsList D (List.toArray vs) ∧ ReadsAll h vs ds bs := by
  obtain ⟨l, xs, bs, e, rfl, hl, hr⟩ := list_of r
  cases e
  exact ⟨xs.toList, bs, rfl, by simpa using hl, hr⟩

def szRow (t : Int) (row : List Int) : List (List Int) := (intsUp 1 t.toNat).map fun k => row ++ [k]
def szKeep (t : Int) (rows : List (List Int)) : List (List Int) := rows.filter fun r => decide (r.sum ≤ t)
def szIter (t : Int) : Nat → List (List Int) → List (List Int)
  | 0, f => f
  | n + 1, f => szIter t n (szKeep t (f.flatMap (szRow t)))
def szL (t : Int) (many : Nat) : List (List Int) := (szIter t many [[]]).filter fun r => r.sum == t

/-- the loop over the rows found so far -/
def SzJ (C : Cx) (L cT cR : Addr) (t : Int) (all : List (List Int)) (rem : List PyData) (K : List Addr) (s : Shared) : Prop :=
  ∃ (rows acc : List (List Int)) (lo : List (Str × Value)) (Lg : Addr) (u : Tok) (v : Option Value), rem = rows.map tupL ∧ acc ++ rows.flatMap (szRow t) = all ∧ Loc C s.heap L lo ∧ gl lo "longer" = some (.ref Lg) ∧ Reads s.heap (.ref Lg) (.list (acc.map tupL)) [Lg] ∧ s.heap.IsCell cT (some (.int t u)) ∧ s.heap.IsCell cR v ∧
    K = [L, cT, cR, Lg] ∧ Lg ≠ L ∧ Lg ≠ cR ∧ (∀ r ∈ rows, r.length ≤ 100) ∧ all.length ≤ 10000

def szOBody : List Stmt := match (bodyOf (fnStmt 18)).getD 1 (.Pass default) with | .For _ _ b _ _ => b | _ => []
def szIBody : List Stmt := match szOBody.getD 1 (.Pass default) with | .For _ _ b _ _ => b | _ => []

theorem sz_inner (FF : Facts C) {k : Nat} (hA : Room k A) {L : Addr} {t : Int} (ht : 0 ≤ t ∧ t ≤ 100) {all : List (List Int)} {pm doc : Value} (hL₀ : ∀ a, L ≤ a → C.h₀.get? a = none) :
    LoopOk C A (fnEnvC C 18 L pm doc) "row" szIBody [L, L + 2] (SzJ C L (L + 1) (L + 2) t all) where
  stable := by
    rintro rem K W V s s' st hK ⟨rows, acc, lo, Lg, u, v, hrem, hall, hlo, hg, hr, hcT, hcR, rfl, n1, n2, hb, hlen⟩
    refine ⟨rows, acc, lo, Lg, u, v, hrem, hall, st.loc hlo (hK L (by simp)), hg, st.reads hr (fun a ha => hK a (by simp at ha ⊢; simp [ha])), st.cell hcT (hL₀ _ (Nat.le_succ L)) (hK _ (by simp)), st.cell hcR (hL₀ _ (Nat.le_add_right L 2)) (hK _ (by simp)), rfl, n1, n2, hb, hlen⟩
  alive := by
    rintro rem K s ⟨rows, acc, lo, Lg, u, v, hrem, hall, hlo, hg, hr, hcT, hcR, rfl, n1, n2, hb, hlen⟩ a ha
    simp only [List.mem_cons, List.not_mem_nil, or_false] at ha
    rcases ha with rfl | rfl | rfl | rfl
    · exact loc_alive hlo
    · exact alive_cell hcT
    · exact alive_cell hcR
    · exact reads_alive hr _ (.head _)
  sub := by
    rintro rem K s ⟨rows, acc, lo, Lg, u, v, hrem, hall, hlo, hg, hr, hcT, hcR, rfl, n1, n2, hb, hlen⟩ a ha
    simp at ha ⊢
    rcases ha with rfl | rfl <;> simp
  turn := by
    rintro d rem K s w as E' ⟨rows, acc, lo, Lg, u, v, hrem, hall, hlo, hg, hr, hcT, hcR, rfl, n1, n2, hb, hlen⟩ hw hrd has
    cases rows with
    | nil => cases hrem
    | cons row rows =>
    rw [List.map_cons, List.cons.injEq] at hrem
    obtain ⟨rfl, rfl⟩ := hrem
    have hT := tupI_of hrd |>.2
    have hrl := hb row (.head _)
    have hcTR : L + 1 ≠ L + 2 := Nat.ne_of_lt (Nat.lt_succ_self _)
    have hLR : L ≠ L + 2 := Nat.ne_of_lt (Nat.lt_succ_of_lt (Nat.lt_succ_self L))
    refine st_cell FF hcR (hL₀ _ (Nat.le_add_right L 2)) fun s₁ hcR₁ st₁ => ?_
    have hw₁ := st₁.wd hw
    have hlo₁ := st₁.loc hlo (nin1 hLR)
    have hcT₁ := st₁.cell hcT (hL₀ _ (Nat.le_succ L)) (nin1 hcTR)
    have hr₁ := st₁.reads hr (fun a ha => nin1 (by rw [List.mem_singleton.mp ha]; exact n2))
    have hT₁ := hT.keep st₁
    have hacc : acc.length + t.toNat ≤ 10000 := by
      have := congrArg List.length hall
      simp [szRow, intsUp_len] at this
      omega
    refine wpAny_execs_cons (wpAny_Assign_Name (ev_add (ev_local hlo₁ hg (ev_lc FF (cl := [("row", L + 2)]) rfl hA (ev_callb FF hw₁ (.type "range") (arg2 (wpAny_Constant_int (wpAny_BinOp (ev_cell hcT₁ (wpAny_Constant_int (add_int ?_)) rfl)))))))))
    refine call_rng2 FF (by omega) (by omega) (by omega) (by omega) fun s₂ r st₂ hg₂ hrr hit => ?_
    have st12 : Stp C [] [] s₁ s₂ := ⟨st₂.keep, st₂.tup, st₂.there, st₂.gens, st₂.os, st₂.bare, st₂.wd⟩
    have hw₂ := st12.wd hw₁
    have hcR₂ := st12.cell hcR₁ (hL₀ _ (Nat.le_add_right L 2))
    have hit₂ := hit s₂ (.refl _) rfl hw₂
    rw [show (t + 1 - 1).toNat = t.toNat by congr 1; omega, intsFrom_eq] at hit₂
    refine ⟨_, [], [L + 2], [], fun _ => True, fun _ => true, fun d d' => ∀ k, d = .int k → d' = tupL (row ++ [k]), ⟨hit₂, (fun _ h => nomatch h), hw₂, by rw [List.length_map, intsUp_len]; omega, all1 (live_cell hcR₂ (hL₀ _ (Nat.le_add_right L 2))), (fun _ _ h => nomatch h), (fun _ h => nomatch h), (fun _ _ _ _ _ _ _ => trivial), (fun _ _ _ h => nomatch h), trivial, fun L' hL' => ?_⟩, fun D s₃ ys ds' as' hP st₃ _ hp hD hra has' hDa => ?_⟩
    · refine map_inv fun i hi => compOk_elt fun A s l v as Q E hA hw hloc hlk hrd hag _ hq => ?_
      obtain ⟨ti, rfl, rfl⟩ := reads_int hrd
      obtain ⟨tt, vs, rfl, htt, hI⟩ := (hT₁.keep st12).agree hag
      have hvl : vs.length = row.length := hI.length
      refine ev_add (ev_cell (hag.cell hcR₂ (hL₀ _ (Nat.le_add_right L 2))) (ev_tuple (arg1 (ev_local hloc hlk ⟨by rw [sizeLine_eq]; simp, fun s₅ r₅ st₅ hg₅ hf₅ hr₅ => ?_⟩))) rfl)
      refine add_tup (st₅.tup2 htt) (isTuple_of hr₅) (fun s₆ r₆ st₆ hr₆ => hq _ s₆ [] (tupL (row ++ [i])) (fun j e => by cases e; rfl) (TupI.reads ⟨r₆, _, rfl, hr₆, IntsAre.append hI (.cons _ _ .nil)⟩) (fun _ h => nomatch h) (st₅.trans st₆) trivial) (by simp; omega)
    · rw [filter_all] at hP
      have e := paired_to (g := fun k => tupL (row ++ [k])) hP fun i _ y hy => hy i rfl
      subst e
      have e2 : ((intsUp 1 t.toNat).map fun k => tupL (row ++ [k])) = (szRow t row).map tupL := by simp [szRow, List.map_map, Function.comp_def]
      rw [e2] at hra
      have e := readsAll_tuples hra
      subst e
      have st13 := st12.trans st₃
      obtain ⟨vs, bs, eb, hLl, hrl'⟩ := reads_list (st13.reads hr₁ (by simp))
      have hb0 : bs = [] := by simpa using eb.symm
      subst hb0
      have hvs := readsAll_length hrl'
      have hys := readsAll_length hra
      rw [List.length_map] at hvs hys
      have hszr : (szRow t row).length = t.toNat := by simp [szRow, intsUp_len]
      refine add_lst hLl hp.isList (fun s₄ N st₄ hN hp₄ => ?_) (by omega)
      have st14 := st13.trans st₄
      refine st_local FF (st14.loc hlo₁) fun s₅ hlo₅ st₅ hg₅ => wpAny_execs_nil ?_
      have hNL : N ≠ L := dead_of (st13.fresh hN) (loc_alive hlo₁)
      have hNR : N ≠ L + 2 := dead_of (st13.fresh hN) (alive_cell hcR₁)
      have hNT : N ≠ L + 1 := dead_of (st13.fresh hN) (alive_cell hcT₁)
      have hNf : s.heap.get? N = none := (st₁.none_of (st13.fresh hN)).elim (fun z => absurd (List.mem_singleton.mp z) hNR) id
      have hTL : L + 1 ≠ L := Nat.succ_ne_self L
      refine ⟨rfl, ?_, [L, L + 1, L + 2, N], ⟨rows, acc ++ szRow t row, _, N, u, some w, rfl, ?_, hlo₅, put_eq, ?_, st₅.cell (st14.cell hcT₁ (hL₀ _ (Nat.le_succ L))) (hL₀ _ (Nat.le_succ L)) (nin1 hTL), st₅.cell (st14.cell hcR₁ (hL₀ _ (Nat.le_add_right L 2))) (hL₀ _ (Nat.le_add_right L 2)) (nin1 hLR.symm), rfl, hNL, hNR, fun r hr => hb r (.tail _ hr), hlen⟩, ?_⟩
      · have st15 : Stp C [L, L + 2] [] s s₄ := st₁.andThen st14 (all1 (.inl (.tail _ (.head _)))) all0 (fun _ h => nomatch h) all0
        exact st15.more st₅ (all1 (.inl (.head _)))
      · rw [← hall]; simp
      · rw [List.map_append]
        refine plain_reads (as := []) (st₅.plain hp₄ (nin1 hNL)) (st₅.readsAll (as := []) ?_ (fun _ h => nomatch h))
        exact readsAll_append (as := []) (bs := []) (st₄.readsAll hrl' (fun _ h => nomatch h)) (st₄.readsAll hra (fun _ h => nomatch h))
      · intro a ha
        simp only [List.mem_cons, List.not_mem_nil, or_false] at ha ⊢
        rcases ha with rfl | rfl | rfl | rfl
        · exact .inl (.inl rfl)
        · exact .inl (.inr (.inl rfl))
        · exact .inl (.inr (.inr (.inl rfl)))
        · exact .inr hNf
end
end Mine

namespace Mine
open PySem PySem.Calls PySem.W PyProof.Rows
section
variable {C : Cx} {A : Around} {E : Value → Shared → Prop} {s : Shared} {env : Env}

theorem szRow_len (t : Int) : ∀ rows : List (List Int), (rows.flatMap (szRow t)).length = rows.length * t.toNat
  | [] => by simp
  | r :: rows => by
    rw [List.flatMap_cons, List.length_append, szRow_len t rows]
    simp [szRow, intsUp_len, Nat.add_mul, Nat.add_comm]
/-- the sums' test -/
theorem sum_test {p : PyData → Bool} {f : List Int → Bool} (hp : ∀ r, p (tupL r) = f r) (rows : List (List Int)) : (rows.map tupL).filter p = (rows.filter f).map tupL := by
  induction rows with
  | nil => rfl
  | cons r rows ih =>
    rw [List.map_cons, List.filter_cons, List.filter_cons, hp, ih]
    split <;> rfl
def szP (f : Int → Bool) : PyData → Bool
  | .tuple ds => f (ds.map fun d => match d with | .int i => i | _ => 0).sum
  | _ => false
theorem szP_tup (f : Int → Bool) (r : List Int) : szP f (tupL r) = f r.sum := by
  simp only [szP, tupL, iL, List.map_map]
  congr 2
  induction r with
  | nil => rfl
  | cons a r ih => simpa using ih

/-- the comprehension that keeps rows by their sum -/
theorem sz_comp {k : Nat} {genv : Env} {ifs : List Expr} {elt : Expr} {RC : List Addr} {s₁ : Shared} {f : Int → Bool} {row : List Int} (hrow : row.length ≤ 1000)
    (he : ∀ (A : Around) (s : Shared) (l : List (Str × Value)) (v : Value) (Q : Value → Shared → Prop) (E : Value → Shared → Prop), Loc C s.heap genv.locals l → gl l "row" = some v → Q v s → wpAny (MM C) A (eval elt genv) Q E s)
    (ht : ∀ (A : Around) (s : Shared) (l : List (Str × Value)) (v : Value) (Q : Bool → Shared → Prop) (E : Value → Shared → Prop), Room k A → Wd C s.heap → Loc C s.heap genv.locals l → gl l "row" = some v → TupI s.heap v row → Agree C RC [] s₁ s → (∀ s', Stp C [] [] s s' → Q (f row.sum) s') → wpAny (MM C) A (testsOf genv ifs) Q E s) :
    CompOk C k genv "row" ifs elt RC [] (fun _ => True) (szP f) (fun d d' => d' = d) s₁ (tupL row) :=
  ⟨fun A s l v as Q E hA hw hl hv hr ha _ hq => ht A s l v Q E hA hw hl hv (tupI_of hr).2 ha fun s' st => by rw [szP_tup] at hq; exact hq s' st,
   fun _ A s l v as Q E hA hw hl hv hr ha _ hq => he A s l v Q E hl hv (hq v s as _ rfl hr (fun b hb => .inl hb) (.refl s) trivial)⟩

theorem paired_same {ds ds' : List PyData} (h : Paired (fun d d' => d' = d) ds ds') : ds' = ds := by
  induction h with
  | nil => rfl
  | cons h _ ih => rw [h, ih]

def SzK (C : Cx) (L : Addr) (t : Int) (final : List (List Int)) (rem : List PyData) (K : List Addr) (s : Shared) : Prop :=
  ∃ (rows : List (List Int)) (lo : List (Str × Value)) (Fd : Addr) (u : Tok) (v : Option Value), szIter t rem.length rows = final ∧ Loc C s.heap L lo ∧ gl lo "found" = some (.ref Fd) ∧ Reads s.heap (.ref Fd) (.list (rows.map tupL)) [Fd] ∧ s.heap.IsCell (L + 1) (some (.int t u)) ∧ s.heap.IsCell (L + 2) v ∧
    K = [L, L + 1, L + 2, Fd] ∧ Fd ≠ L ∧ Fd ≠ L + 2 ∧ Fd ≠ L + 1 ∧ (∀ r ∈ rows, r.length + rem.length ≤ 100) ∧ rows.length * 8 ^ rem.length ≤ 10000

theorem sz_outer (FF : Facts C) {k : Nat} (hA : Room k A) {L : Addr} {t : Int} (ht : 0 ≤ t ∧ t ≤ 8) {final : List (List Int)} {pm doc : Value} (hL₀ : ∀ a, L ≤ a → C.h₀.get? a = none) :
    LoopOk C A (fnEnvC C 18 L pm doc) "turn" szOBody [L, L + 2] (SzK C L t final) where
  stable := by
    rintro rem K W V s s' st hK ⟨rows, lo, Fd, u, v, hfin, hlo, hg, hr, hcT, hcR, rfl, n1, n2, n3, hb, hlen⟩
    refine ⟨rows, lo, Fd, u, v, hfin, st.loc hlo (hK L (by simp)), hg, st.reads hr (fun a ha => hK a (by simp at ha ⊢; simp [ha])), st.cell hcT (hL₀ _ (Nat.le_succ L)) (hK _ (by simp)), st.cell hcR (hL₀ _ (Nat.le_add_right L 2)) (hK _ (by simp)), rfl, n1, n2, n3, hb, hlen⟩
  alive := by
    rintro rem K s ⟨rows, lo, Fd, u, v, hfin, hlo, hg, hr, hcT, hcR, rfl, n1, n2, n3, hb, hlen⟩ a ha
    simp only [List.mem_cons, List.not_mem_nil, or_false] at ha
    rcases ha with rfl | rfl | rfl | rfl
    · exact loc_alive hlo
    · exact alive_cell hcT
    · exact alive_cell hcR
    · exact reads_alive hr _ (.head _)
  sub := by
    rintro rem K s ⟨rows, lo, Fd, u, v, hfin, hlo, hg, hr, hcT, hcR, rfl, n1, n2, n3, hb, hlen⟩ a ha
    simp at ha ⊢
    rcases ha with rfl | rfl <;> simp
  turn := by
    rintro d rem K s w as E' ⟨rows, lo, Fd, u, v, hfin, hlo, hg, hr, hcT, hcR, rfl, n1, n2, n3, hb, hlen⟩ hw hrd has
    have hcTR : L + 1 ≠ L + 2 := Nat.ne_of_lt (Nat.lt_succ_self _)
    have hLR : L ≠ L + 2 := Nat.ne_of_lt (Nat.lt_succ_of_lt (Nat.lt_succ_self L))
    have hTL : L + 1 ≠ L := Nat.succ_ne_self L
    simp only [List.length_cons] at hfin hb hlen
    refine st_local FF hlo fun s₁ hlo₁ st₁ hg₁ => ?_
    have hw₁ := st₁.wd hw
    refine wpAny_execs_cons (wpAny_Assign_Name (ev_list (wpAny_items_nil ⟨by rw [sizeLine_eq]; simp, fun s₂ Lg st₂ hg₂ hLf hLg => ?_⟩)))
    have hLgL : Lg ≠ L := dead_of hLf (loc_alive hlo₁)
    have hcR₁ := st₁.cell hcR (hL₀ _ (Nat.le_add_right L 2)) (nin1 hLR.symm)
    have hcT₁ := st₁.cell hcT (hL₀ _ (Nat.le_succ L)) (nin1 hTL)
    have hLgR : Lg ≠ L + 2 := dead_of hLf (alive_cell hcR₁)
    have hLgF : Lg ≠ Fd := dead_of hLf (reads_alive (st₁.reads hr (all1 (nin1 n1))) _ (.head _))
    refine st_local FF (st₂.loc hlo₁) fun s₃ hlo₃ st₃ hg₃ => ?_
    have st13 : Stp C [L] [] s s₃ := (st₁.more st₂ all0).more st₃ (all1 (.inl (.head _)))
    have hw₃ := st13.wd hw
    have hr₃ := st13.reads hr (all1 (nin1 n1))
    have hcR₃ := st13.cell hcR (hL₀ _ (Nat.le_add_right L 2)) (nin1 hLR.symm)
    have hcT₃ := st13.cell hcT (hL₀ _ (Nat.le_succ L)) (nin1 hTL)
    obtain ⟨vs, bs, eb, hFl, hFr⟩ := reads_list hr₃
    have hb0 : bs = [] := by simpa using eb.symm
    subst hb0
    have hLg₃ := st₃.plain hLg (nin1 hLgL)
    have hlong : (rows.flatMap (szRow t)).length ≤ 10000 := by
      rw [szRow_len]
      have : t.toNat ≤ 8 := by omega
      calc rows.length * t.toNat ≤ rows.length * 8 := Nat.mul_le_mul_left _ this
        _ ≤ rows.length * 8 ^ (rem.length + 1) := Nat.mul_le_mul_left _ (by rw [Nat.pow_succ]; exact Nat.le_mul_of_pos_left _ (Nat.pow_pos (by decide)))
        _ ≤ 10000 := hlen
    refine wpAny_execs_cons (ex_forI hA (ev_local hlo₃ (put_ne (put_ne hg)) ⟨rows.map tupL, [Fd], [L, L + 2], [L, L + 1, L + 2, Lg], SzJ C L (L + 1) (L + 2) t (rows.flatMap (szRow t)), iterOf_list FF hw₃ hFl (by simpa using hFr), hw₃, sz_inner FF hA (by omega) hL₀, ?_, ?_, fun s₄ K₄ hJ st₄ hKK => ?_⟩))
    · exact ⟨rows, [], _, Lg, u, v, rfl, rfl, hlo₃, put_eq, plain_reads hLg₃ .nil, hcT₃, hcR₃, rfl, hLgL, hLgR, fun r hr => by have := hb r hr; omega, hlong⟩
    · intro a ha
      rw [List.mem_singleton.mp ha]
      simp only [List.mem_cons, List.not_mem_nil, or_false, not_or]
      exact ⟨n1, n3, n2, hLgF.symm⟩
    · obtain ⟨rows₄, acc, lo₄, Lg₄, u₄, v₄, hrem₄, hall₄, hlo₄, hg₄, hr₄, hcT₄, hcR₄, rfl, m1, m2, -, -⟩ := hJ
      have hr4 : rows₄ = [] := by
        cases rows₄ with
        | nil => rfl
        | cons _ _ => cases hrem₄
      subst hr4
      rw [List.flatMap_nil, List.append_nil] at hall₄
      subst hall₄
      have hw₄ := st₄.wd hw₃
      have st14 : Stp C [L, L + 2] [] s s₄ := (st13.mono (fun a h => by rw [List.mem_singleton.mp h]; exact .head _) fun _ h => h).andThen st₄ (fun _ h => .inl h) all0 (fun _ h => .inl h) all0
      obtain ⟨vs', bs', eb', hLl, hLr⟩ := reads_list hr₄
      have hb0' : bs' = [] := by simpa using eb'.symm
      subst hb0'
      have m3 : Lg₄ ≠ L + 1 := fun z => by
        obtain ⟨o, e, c, n, d⟩ := id hLl
        obtain ⟨o', e', d'⟩ := id hcT₄
        rw [z] at e; rw [e] at e'; cases e'
        rw [d] at d'; cases d'
      refine wpAny_execs_cons (st_lc FF (cl := [("total", L + 1)]) rfl hA (ev_local hlo₄ hg₄ ⟨(rows.flatMap (szRow t)).map tupL, [Lg₄], [L + 1], [], fun _ => True, szP fun x => decide (x ≤ t), fun d d' => d' = d, lo₄, ⟨iterOf_list FF hw₄ hLl (by simpa using hLr), ?_, hw₄, by simpa using hlong, all1 (live_cell hcT₄ (hL₀ _ (Nat.le_succ L))), (fun _ _ h => nomatch h), (fun _ h => nomatch h), (fun _ _ _ _ _ _ _ => trivial), (fun _ _ _ h => nomatch h), trivial, fun L' hL' => ?_⟩, hlo₄, nin1 m1.symm, (fun h => nomatch h), fun D s₅ ys ds' as' hP st₅ _ hp hD hra has' hDa hlo₅ => wpAny_execs_nil ?_⟩) rfl)
      · intro a ha
        rw [List.mem_singleton.mp ha]
        exact reads_alive hr₄ _ (.head _)
      · refine map_inv fun row hrow => sz_comp (f := fun x => decide (x ≤ t)) ?_ (fun A s l v Q E hl hv hq => ev_local hl hv hq) (fun A s l v Q E hA hw hl hv hT ag hq => ?_)
        · simp only [List.mem_flatMap, szRow, List.mem_map] at hrow
          obtain ⟨r, hr, i, hi, rfl⟩ := hrow
          have := hb r hr
          simp; omega
        · obtain ⟨tt, vs, rfl, htt, hI⟩ := hT
          refine one_test (wpAny_isTrue_Compare1 (ev_callb FF hw (.builtin "sum") (arg1 (ev_local hl hv (sum_t hA.handled htt hI fun u' s' st' => ev_cell ((ag.trans (st'.agree (fun _ _ h => nomatch h) all0)).cell hcT₄ (hL₀ _ (Nat.le_succ L))) (PyProof.Rows.le_int (wpAny_truthy_bool (hq s' st'))) rfl)))))
      · rw [sum_test (f := fun r => decide (r.sum ≤ t)) (fun r => szP_tup _ r)] at hP
        have e := paired_same hP
        subst e
        have e := readsAll_tuples hra
        subst e
        have hDf : s.heap.get? D = none := (st14.none_of hD).elim (fun z => (by
          rcases List.mem_cons.mp z with z | z
          · exact (dead_of hD (loc_alive hlo₄) z).elim
          · exact (dead_of hD (alive_cell hcR₄) (List.mem_singleton.mp z)).elim)) id
        have st15 : Stp C [L, L + 2] [] s s₅ := st14.andThen st₅ (fun _ h => .inl h) all0 (all1 (.inl (.head _))) all0
        refine ⟨rfl, st15, [L, L + 1, L + 2, D], ⟨szKeep t (rows.flatMap (szRow t)), _, D, u₄, v₄, hfin, hlo₅, put_eq, plain_reads hp hra, st₅.cell hcT₄ (hL₀ _ (Nat.le_succ L)) (nin1 hTL), st₅.cell hcR₄ (hL₀ _ (Nat.le_add_right L 2)) (nin1 hLR.symm), rfl, dead_of hD (loc_alive hlo₄), dead_of hD (alive_cell hcR₄), dead_of hD (alive_cell hcT₄), fun r hr => ?_, ?_⟩, ?_⟩
        · have hr := (List.mem_filter.mp hr).1
          simp only [List.mem_flatMap, szRow, List.mem_map] at hr
          obtain ⟨r', hr', i, hi, rfl⟩ := hr
          have := hb r' hr'
          simp; omega
        · have h1 : (szKeep t (rows.flatMap (szRow t))).length ≤ rows.length * 8 := by
            refine Nat.le_trans (List.length_filter_le _ _) ?_
            rw [szRow_len]
            exact Nat.mul_le_mul_left _ (by omega)
          calc (szKeep t (rows.flatMap (szRow t))).length * 8 ^ rem.length ≤ rows.length * 8 * 8 ^ rem.length := Nat.mul_le_mul_right _ h1
            _ = rows.length * 8 ^ (rem.length + 1) := by rw [Nat.pow_succ, Nat.mul_assoc, Nat.mul_comm 8]
            _ ≤ 10000 := hlen
        · intro a ha
          simp only [List.mem_cons, List.not_mem_nil, or_false] at ha ⊢
          rcases ha with rfl | rfl | rfl | rfl
          · exact .inl (.inl rfl)
          · exact .inl (.inr (.inl rfl))
          · exact .inl (.inr (.inr (.inl rfl)))
          · exact .inr hDf
end
end Mine

namespace Mine
open PySem PySem.Calls PySem.W PyProof.Rows
section
variable {C : Cx} {A : Around} {E : Value → Shared → Prop} {s : Shared} {env : Env}
theorem szIter_len (t : Int) : ∀ (n : Nat) (rows : List (List Int)) (k : Nat), (∀ r ∈ rows, r.length = k) → ∀ r ∈ szIter t n rows, r.length = k + n
  | 0, rows, k, h => h
  | n + 1, rows, k, h => fun r hr => by
    have := szIter_len t n _ (k + 1) (fun r hr => by
      have hr := (List.mem_filter.mp hr).1
      simp only [List.mem_flatMap, szRow, List.mem_map] at hr
      obtain ⟨r', hr', i, hi, rfl⟩ := hr
      simp [h r' hr']) r hr
    omega

/-- _law_sizes(total, many) -/
theorem sizes_ok (FF : Facts C) {hp : Heap} (hw : Wd C hp) {k : Nat} (hA : Room (k + 1) A) {t : Int} {m : Nat} {u u' : Tok} {Q : Value → Shared → Prop} (ht : 0 ≤ t ∧ t ≤ 8) (hm : m ≤ 4)
    (h : ∀ s' D, Stp C [] [] s s' → Reads s'.heap (.ref D) (.list ((szL t m).map tupL)) [D] → hp.get? D = none → Q (.ref D) s') (hs : s.heap = hp := by rfl) : wpAny (MM C) A (call (.ref (C.fa 18)) [.int t u, .int (m : Int) u']) Q E s := by
  subst hs
  refine enter_fnC FF (i := 18) (binds := [("total", .int t u), ("many", .int (m : Int) u')]) (by decide) hw hA (fun _ _ => rfl) (fun s₁ L pm doc E' hn hcell hLf hL₀ st hg hw₁ hA₁ => ?_)
  have hcT : s₁.heap.IsCell (L + 1) (some (.int t u)) := hcell "total" (L + 1) rfl
  have hcR : s₁.heap.IsCell (L + 2) none := hcell "row" (L + 2) rfl
  have hcTR : L + 1 ≠ L + 2 := Nat.ne_of_lt (Nat.lt_succ_self _)
  have hLR : L ≠ L + 2 := Nat.ne_of_lt (Nat.lt_succ_of_lt (Nat.lt_succ_self L))
  have hTL : L + 1 ≠ L := Nat.succ_ne_self L
  refine wpAny_execs_cons (wpAny_Assign_Name (ev_list (arg1 (ev_tuple (wpAny_items_nil ⟨by rw [sizeLine_eq]; simp, fun s₂ e st₂ hg₂ hef he => ⟨by rw [sizeLine_eq]; simp, fun s₃ F st₃ hg₃ hFf hF => ?_⟩⟩)))))
  have st13 := st₂.trans st₃
  refine st_local FF (st13.loc hn) fun s₄ hlo₄ st₄ hg₄ => ?_
  have hFf₁ := st₂.fresh hFf
  have hFL : F ≠ L := dead_of hFf₁ (loc_alive hn)
  have hFR : F ≠ L + 2 := dead_of hFf₁ (alive_cell hcR)
  have hFT : F ≠ L + 1 := dead_of hFf₁ (alive_cell hcT)
  have st14 : Stp C [L] [] s₁ s₄ := st13.wide.more st₄ (all1 (.inl (.head _)))
  have hw₄ := st14.wd hw₁
  have hr₄ : Reads s₄.heap (.ref F) (.list (([[]] : List (List Int)).map tupL)) [F] :=
    plain_reads (st₄.plain hF (nin1 hFL)) (st₄.readsAll (as := []) (readsAll_one (TupI.reads (ns := []) ⟨e, [], rfl, st₃.tup2 (isTuple_of he), .nil⟩)) (fun _ h => nomatch h))
  have hcT₄ := st14.cell hcT (hL₀ _ (Nat.le_succ L)) (nin1 hTL)
  have hcR₄ := st14.cell hcR (hL₀ _ (Nat.le_add_right L 2)) (nin1 hLR.symm)
  have st04 : Stp C [] [] s s₄ := st.andThen st14 (fun _ h => nomatch h) all0 (all1 (.inr (hLf L (Nat.le_refl L)))) all0
  refine wpAny_execs_cons (ex_forI hA₁ (ev_callb FF hw₄ (.type "range") (arg1 (ev_local hlo₄ (put_ne rfl) (call_rng1 FF (by omega) (by omega) fun s₅ r st₅ hg₅ hrr hit => ⟨_, [], [L, L + 2], [L, L + 1, L + 2, F], SzK C L t (szIter t m [[]]), hit s₅ (.refl _) rfl (st₅.wd hw₄), st₅.wd hw₄, sz_outer FF hA₁ ht hL₀, ?_, (fun _ h => nomatch h), fun s₆ K₆ hJ st₆ hKK => ?_⟩)))))
  · have hlen : (intsFrom 0 ((m : Int).toNat)).length = m := by rw [intsFrom_eq, List.length_map, intsUp_len]; omega
    refine ⟨[[]], _, F, u, none, by rw [hlen], st₅.loc hlo₄, put_eq, st₅.reads hr₄ (fun _ _ h => nomatch h), st₅.cell hcT₄ (hL₀ _ (Nat.le_succ L)), st₅.cell hcR₄ (hL₀ _ (Nat.le_add_right L 2)), rfl, hFL, hFR, hFT, fun r hr => ?_, ?_⟩
    · rw [hlen, List.mem_singleton.mp hr]; simp; omega
    · rw [hlen]
      have : 8 ^ m ≤ 8 ^ 4 := Nat.pow_le_pow_right (by decide) hm
      simp only [List.length_cons, List.length_nil]
      omega
  · obtain ⟨rows, lo, Fd, u₆, v₆, hfin, hlo₆, hg₆, hr₆, hcT₆, hcR₆, rfl, n1, n2, n3, hb, hlen⟩ := hJ
    have hfin : rows = szIter t m [[]] := hfin
    have hw₆ := st₆.wd (st₅.wd hw₄)
    obtain ⟨vs, bs, eb, hFl, hFr⟩ := reads_list hr₆
    have hb0 : bs = [] := by simpa using eb.symm
    subst hb0
    have st06 : Stp C [] [] s s₆ := (st04.trans st₅).andThen st₆ (fun _ h => nomatch h) all0 (all2 (.inr (hLf L (Nat.le_refl L))) (.inr (hLf _ (Nat.le_add_right L 2)))) all0
    have hlen' : rows.length ≤ 10000 := by simpa using hlen
    refine wpAny_execs_cons (wpAny_Return_some (ev_lc FF (cl := [("total", L + 1)]) rfl hA₁ (ev_local hlo₆ hg₆ ⟨rows.map tupL, [Fd], [L + 1], [], fun _ => True, szP fun x => x == t, fun d d' => d' = d, ⟨iterOf_list FF hw₆ hFl (by simpa using hFr), ?_, hw₆, by simpa using hlen', all1 (live_cell hcT₆ (hL₀ _ (Nat.le_succ L))), (fun _ _ h => nomatch h), (fun _ h => nomatch h), (fun _ _ _ _ _ _ _ => trivial), (fun _ _ _ h => nomatch h), trivial, fun L' hL' => ?_⟩, fun D s₇ ys ds' as' hP st₇ _ hp hD hra has' hDa => ?_⟩)))
    · intro a ha
      rw [List.mem_singleton.mp ha]
      exact reads_alive hr₆ _ (.head _)
    · refine map_inv fun row hrow => sz_comp (f := fun x => x == t) ?_ (fun A s l v Q E hl hv hq => ev_local hl hv hq) (fun A s l v Q E hA hw hl hv hT ag hq => ?_)
      · have := hb row hrow
        omega
      · obtain ⟨tt, vs, rfl, htt, hI⟩ := hT
        refine one_test (wpAny_isTrue_Compare1 (ev_callb FF hw (.builtin "sum") (arg1 (ev_local hl hv (sum_t hA.handled htt hI fun u' s' st' => ev_cell ((ag.trans (st'.agree (fun _ _ h => nomatch h) all0)).cell hcT₆ (hL₀ _ (Nat.le_succ L))) (eq_int (wpAny_truthy_bool (hq s' st'))) rfl)))))
    · rw [sum_test (f := fun r => r.sum == t) (fun r => szP_tup _ r)] at hP
      have e := paired_same hP
      subst e
      have e := readsAll_tuples hra
      subst e
      have hq := h s₇ D (st06.trans st₇) (by rw [szL, ← hfin]; exact plain_reads hp hra) (st06.fresh hD)
      exact hq
end
end Mine

namespace Mine
open PySem PySem.Calls PySem.W PyProof.Rows
section
variable {C : Cx} {A : Around} {E : Value → Shared → Prop} {s : Shared} {env : Env}

/-- x, y = (e, e') -/
theorem st_two (FF : Facts C) {x y : Str} {px py tp p pos : Pos} {k k' : Nat} {e e' : Expr} {Q : Flow → Shared → Prop} (hh : A.handled = none)
    (h : wpAny (MM C) A (spliced (backTo p (starEach [e, e'] env))) (fun vs s₁ => ∃ v w lo, vs = [v, w] ∧ Loc C s₁.heap env.locals lo ∧ ∀ s₂, Loc C s₂.heap env.locals (put x v (put y w lo)) → Stp C [env.locals] [] s₁ s₂ → Q .next s₂) E s)
    (hs : swapsWithSole [.Tuple [.Name x px, .Name y py] k tp] (.Tuple [e, e'] k' p) pos.line env = pure false := by rfl) (hw : swappedStores [.Tuple [.Name x px, .Name y py] k tp] (.Tuple [e, e'] k' p) env = pure (some [x, y]) := by rfl)
    (hx : env.kindOf x = some .local := by rfl) (hy : env.kindOf y = some .local := by rfl) (hcl : (env.scope.kind == .class || (env.scope.kind == .module && env.locals != env.globals)) = false := by rfl) :
    wpAny (MM C) A (exec (.Assign [.Tuple [.Name x px, .Name y py] k tp] (.Tuple [e, e'] k' p) pos) env) Q E s := by
  refine Assign_Tuple_swapped (names := [x, y]) (ev_tuple (wpAny_mono h (fun vs s₁ h₁ => ?_) fun _ _ e => e)) hs hw
  obtain ⟨v, w, lo, rfl, hlo, hq⟩ := h₁
  refine ⟨by rw [sizeLine_eq]; simp, fun s₂ t st₂ hg₂ hf₂ ht₂ => ?_⟩
  refine unpackItems_tuple hh (items := #[v, w]) (isTuple_of ht₂) fun h' he => ?_
  have st₃ : Stp C [] [] s₂ { s₂ with heap := h' } := Stp.keeps (fun b o eb => he b o (Nat.ne_of_lt (Heap.lt_size eb)) eb) rfl rfl
  have st13 := st₂.trans st₃
  show wpAny (MM C) A (assignInOrder [bindName env y, bindName env x] [w, v]) _ E _
  unfold assignInOrder
  refine wpAny_bind (wpAny_holding (bindName_ (st_local FF (st13.loc hlo) (fun s₄ hlo₄ st₄ hg₄ => ?_) rfl hy hcl)))
  unfold assignInOrder
  refine wpAny_bind (wpAny_holding (bindName_ (st_local FF hlo₄ (fun s₅ hlo₅ st₅ hg₅ => ?_) rfl hx hcl)))
  unfold assignInOrder
  exact wpAny_pure (hq s₅ hlo₅ ((st13.wide.more st₄ (all1 (.inl (.head _)))).more st₅ (all1 (.inl (.head _)))))

/-- a row: a tuple or a list of ints -/
def RowIs (h : Heap) (v : Value) (ns : List Int) (tup : Bool) (as : List Addr) : Prop := if tup then TupI h v ns ∧ as = [] else Reads h v (lstL ns) as
def mkD (tup : Bool) : List Int → PyData := if tup then tupL else lstL
theorem RowIs.step {h : Value} {ns : List Int} {tup : Bool} {as : List Addr} {W : List Addr} {V : List Nat} {s s' : Shared} (st : Stp C W V s s') (r : RowIs s.heap h ns tup as) (hW : ∀ a ∈ as, a ∉ W) : RowIs s'.heap h ns tup as := by
  cases tup with
  | true => exact ⟨r.1.keep st, r.2⟩
  | false => exact st.reads r hW
theorem RowIs.alive {h : Heap} {v : Value} {ns : List Int} {tup : Bool} {as : List Addr} (r : RowIs h v ns tup as) : ∀ a ∈ as, ∃ o, h.get? a = some o := by
  cases tup with
  | true => rw [r.2]; exact fun _ h => nomatch h
  | false => exact reads_alive r
theorem IntsAre.dt {vs : List Value} {ns : List Int} (hi : IntsAre vs ns) (a b : Nat) : IntsAre ((vs.drop a).take b) ((ns.drop a).take b) := (hi.drop a).take b
/-- row[a:b] -/
theorem ev_slice_row {value : Expr} {lower upper : Option Expr} {p pos : Pos} {Q : Value → Shared → Prop} {tup : Bool}
    (h : wpAny (MM C) A (eval value env) (fun o s₁ => wpAny (MM C) A (evalPart lower env) (fun vl s₂ => wpAny (MM C) A (evalPart upper env) (fun vu s₃ =>
      ∃ ns as a b u u', RowIs s₃.heap o ns tup as ∧ vl = .int (a : Nat) u ∧ vu = .int (b : Nat) u' ∧ a ≤ b ∧ b ≤ ns.length ∧ ns.length ≤ 100000 ∧ ∀ s' r bs, Stp C [] [] s₃ s' → Reads s'.heap r (mkD tup ((ns.drop a).take (b - a))) bs → (∀ x ∈ bs, s₃.heap.get? x = none) → Q r s') E s₂) E s₁) E s)
    (ht : ∀ o r, letTemporaryGo value o r = pure () := by intro _ _; rfl) :
    wpAny (MM C) A (eval (.Subscript value (.Slice lower upper none p) pos) env) Q E s := by
  cases tup with
  | true =>
    refine ev_slice_t (wpAny_mono h (fun o s₁ h₁ => wpAny_mono h₁ (fun vl s₂ h₂ => wpAny_mono h₂ (fun vu s₃ h₃ => ?_) fun _ _ e => e) fun _ _ e => e) fun _ _ e => e) ht
    obtain ⟨ns, as, a, b, u, u', ⟨⟨t, vs, rfl, htt, hI⟩, -⟩, rfl, rfl, hab, hb, hl, hq⟩ := h₃
    have hvl : vs.length = ns.length := hI.length
    exact ⟨t, vs, a, b, rfl, htt, .int a u (by omega), .int b u' (by omega), hab, by omega, fun s' r st hr => hq s' (.ref r) [] st (TupI.reads ⟨r, _, rfl, hr, IntsAre.dt hI a (b - a)⟩) (fun _ h => nomatch h)⟩
  | false =>
    refine ev_slice_l (wpAny_mono h (fun o s₁ h₁ => wpAny_mono h₁ (fun vl s₂ h₂ => wpAny_mono h₂ (fun vu s₃ h₃ => ?_) fun _ _ e => e) fun _ _ e => e) fun _ _ e => e) ht
    obtain ⟨ns, as, a, b, u, u', hr, rfl, rfl, hab, hb, hl, hq⟩ := h₃
    obtain ⟨l, xs, bs, rfl, rfl, hll, hrr⟩ := list_of hr
    obtain ⟨rfl, hI⟩ := reads_ints hrr
    have hvl : xs.toList.length = ns.length := hI.length
    refine ⟨l, xs.toList, _, _, _, rfl, by simpa using hll, .int _ u, .int _ u', ?_, by omega, fun s' r st hf hp => hq s' (.ref r) [r] st (plain_reads hp (intsAre_reads (IntsAre.dt hI a (b - a)))) (all1 hf)⟩
    have := slicePick_run xs a b (by rw [← Array.length_toList, hvl]; exact hb) hab
    simpa using this

def partedAt (ns : List Int) : Nat → List Int → List (List Int)
  | _, [] => []
  | a, z :: zs => ((ns.drop a).take z.toNat) :: partedAt ns (a + z.toNat) zs
def PtJ (C : Cx) (L P : Addr) (rowv : Value) (ns : List Int) (tup : Bool) (ras : List Addr) (all : List (List Int)) (rem : List PyData) (K : List Addr) (s : Shared) : Prop :=
  ∃ (zs : List Int) (a : Nat) (u : Tok) (lo : List (Str × Value)) (ys : List Value) (as : List Addr) (done : List (List Int)), rem = iL zs ∧ done ++ partedAt ns a zs = all ∧ Loc C s.heap L lo ∧ gl lo "at" = some (.int (a : Nat) u) ∧ gl lo "found" = some (.ref P) ∧ gl lo "row" = some rowv ∧
    s.heap.PlainList P (List.toArray ys) ∧ ReadsAll s.heap ys (done.map (mkD tup)) as ∧ RowIs s.heap rowv ns tup ras ∧ K = L :: P :: (as ++ ras) ∧ P ∉ as ++ ras ∧ L ∉ as ++ ras ∧ L ≠ P ∧ (∀ z ∈ zs, 0 ≤ z) ∧ (a : Int) + zs.sum ≤ ns.length ∧ ns.length ≤ 1000 ∧ done.length + zs.length ≤ 1000

theorem sum_nonneg {zs : List Int} (h : ∀ z ∈ zs, 0 ≤ z) : 0 ≤ zs.sum := by
  induction zs with
  | nil => simp
  | cons z zs ih =>
    rw [List.sum_cons]
    have := h z (.head _)
    have := ih fun z hz => h z (.tail _ hz)
    omega

theorem pt_loop (FF : Facts C) {L P : Addr} {rowv : Value} {ns : List Int} {tup : Bool} {ras : List Addr} {all : List (List Int)} (hP₀ : C.h₀.get? P = none) {pm doc : Value} {body : List Stmt}
    (hb : body = (match (bodyOf (fnStmt 19)).getD 1 (.Pass default) with | .For _ _ b _ _ => b | _ => [])) :
    LoopOk C A (fnEnv C 19 L pm doc) "size" body [L, P] (PtJ C L P rowv ns tup ras all) where
  stable := by
    rintro rem K W V s s' st hK ⟨zs, a, u, lo, ys, as, done, rfl, hall, hlo, h1, h2, h3, hp, hr, hrow, rfl, n1, n2, n3, hz, hs, hl, hd⟩
    exact ⟨zs, a, u, lo, ys, as, done, rfl, hall, st.loc hlo (hK L (by simp)), h1, h2, h3, st.plain hp (hK P (by simp)), st.readsAll hr (fun b hb => hK b (by simp [hb])), hrow.step st (fun b hb => hK b (by simp [hb])), rfl, n1, n2, n3, hz, hs, hl, hd⟩
  alive := by
    rintro rem K s ⟨zs, a, u, lo, ys, as, done, rfl, hall, hlo, h1, h2, h3, hp, hr, hrow, rfl, n1, n2, n3, hz, hs, hl, hd⟩ b hb
    rcases List.mem_cons.mp hb with rfl | hb
    · exact loc_alive hlo
    rcases List.mem_cons.mp hb with rfl | hb
    · exact plain_alive hp
    rcases List.mem_append.mp hb with hb | hb
    · exact readsAll_alive hr b hb
    · exact hrow.alive b hb
  sub := by
    rintro rem K s ⟨zs, a, u, lo, ys, as, done, rfl, hall, hlo, h1, h2, h3, hp, hr, hrow, rfl, n1, n2, n3, hz, hs, hl, hd⟩ b hb
    simp at hb ⊢
    rcases hb with rfl | rfl <;> simp
  turn := by
    rintro d rem K s v as₀ E' ⟨zs, a, u, lo, ys, as, done, hrem, hall, hlo, h1, h2, h3, hp, hr, hrow, rfl, n1, n2, n3, hz, hs, hl, hd⟩ hw hrd has
    subst hb
    cases zs with
    | nil => cases hrem
    | cons z zs =>
    simp only [iL, List.map_cons, List.cons.injEq] at hrem
    obtain ⟨rfl, rfl⟩ := hrem
    obtain ⟨t, rfl, -⟩ := reads_int hrd
    have hz0 := hz z (.head _)
    have hzs := sum_nonneg fun y hy => hz y (.tail _ hy)
    rw [List.sum_cons] at hs
    simp only [List.length_cons] at hd
    have hasL : ∀ b ∈ as, b ≠ L := fun b hb q => n2 (by rw [← q]; exact List.mem_append_left _ hb)
    have hasP : ∀ b ∈ as, b ≠ P := fun b hb q => n1 (by rw [← q]; exact List.mem_append_left _ hb)
    have hraL : ∀ b ∈ ras, b ≠ L := fun b hb q => n2 (by rw [← q]; exact List.mem_append_right _ hb)
    have hraP : ∀ b ∈ ras, b ≠ P := fun b hb q => n1 (by rw [← q]; exact List.mem_append_right _ hb)
    refine st_local FF hlo fun s₁ hlo₁ st₁ hg₁ => ?_
    have hp₁ := st₁.plain hp (nin1 n3.symm)
    have hr₁ := st₁.readsAll hr fun b hb => nin1 (hasL b hb)
    have hrow₁ := hrow.step st₁ fun b hb => nin1 (hraL b hb)
    have hyl := readsAll_length hr
    rw [List.length_map] at hyl
    refine wpAny_execs_cons (ex_append FF (ev_local hlo₁ (put_ne h2) ⟨P, rfl, ⟨_, hp₁⟩, ev_slice_row (tup := tup) (ev_local hlo₁ (put_ne h3) (wpAny_evalPart_some (ev_local hlo₁ (put_ne h1) (wpAny_evalPart_some (wpAny_BinOp (ev_local hlo₁ (put_ne h1) (ev_local hlo₁ put_eq (add_int ?_)))))))) ⟩))
    refine ⟨ns, ras, a, a + z.toNat, u, s₁.toks, hrow₁, rfl, by congr 1; push_cast; omega, by omega, by omega, by omega, fun s₂ r bs st₂ hrr hbs => ?_⟩
    have st₂' : Stp C [] [] s₁ s₂ := ⟨st₂.keep, st₂.tup, st₂.there, st₂.gens, st₂.os, st₂.bare, st₂.wd⟩
    rw [show a + z.toNat - a = z.toNat by omega] at hrr
    have hbs' : ∀ x ∈ bs, s₁.heap.get? x = none := hbs
    refine ⟨ys, st₂'.plain hp₁, by omega, hP₀, fun s₃ st₃ hg₃ hp₃ => ?_⟩
    have hlo₃ := st₃.loc (st₂'.loc hlo₁) (nin1 n3)
    refine wpAny_execs_cons (wpAny_Assign_Name (wpAny_BinOp (ev_local hlo₃ (put_ne h1) (ev_local hlo₃ put_eq (add_int (st_local FF hlo₃ fun s₄ hlo₄ st₄ hg₄ => wpAny_execs_nil ?_))))))
    have bsL : ∀ x ∈ bs, x ≠ L := fun x hx => dead_of (hbs' x hx) (loc_alive hlo₁)
    have bsP : ∀ x ∈ bs, x ≠ P := fun x hx => dead_of (hbs' x hx) (plain_alive hp₁)
    rw [show (a : Int) + z = ((a + z.toNat : Nat) : Int) by push_cast; omega] at hlo₄
    have st13 : Stp C [L, P] [] s s₃ := (st₁.andThen (W := [L, P]) st₂' (all1 (.inl (.head _))) all0 (fun _ h => nomatch h) all0).more st₃ (all1 (.inl (.tail _ (.head _))))
    refine ⟨rfl, st13.more st₄ (all1 (.inl (.head _))), L :: P :: ((as ++ bs) ++ ras), ⟨zs, a + z.toNat, _, _, ys ++ [r], as ++ bs, done ++ [(ns.drop a).take z.toNat], rfl, ?_, hlo₄, put_eq, put_ne (put_ne h2), put_ne (put_ne h3), st₄.plain hp₃ (nin1 n3.symm), ?_, ?_, rfl, ?_, ?_, n3, fun y hy => hz y (.tail _ hy), ?_, hl, ?_⟩, ?_⟩
    · rw [← hall]; simp [partedAt]
    · rw [List.map_append]
      refine readsAll_append (st₄.readsAll (st₃.readsAll (st₂'.readsAll hr₁ fun _ _ h => nomatch h) fun b hb => nin1 (hasP b hb)) fun b hb => nin1 (hasL b hb)) (readsAll_one ?_)
      exact st₄.reads (st₃.reads hrr fun b hb => nin1 (bsP b hb)) fun b hb => nin1 (bsL b hb)
    · exact ((hrow₁.step st₂' fun _ _ h => nomatch h).step st₃ fun b hb => nin1 (hraP b hb)).step st₄ fun b hb => nin1 (hraL b hb)
    · intro q
      rcases List.mem_append.mp q with q | q
      · rcases List.mem_append.mp q with q | q
        · exact hasP _ q rfl
        · exact bsP _ q rfl
      · exact hraP _ q rfl
    · intro q
      rcases List.mem_append.mp q with q | q
      · rcases List.mem_append.mp q with q | q
        · exact hasL _ q rfl
        · exact bsL _ q rfl
      · exact hraL _ q rfl
    · push_cast; omega
    · rw [List.length_append]; simp only [List.length_cons, List.length_nil]; omega
    · intro b hb
      rcases List.mem_cons.mp hb with rfl | hb
      · exact .inl (.head _)
      rcases List.mem_cons.mp hb with rfl | hb
      · exact .inl (.tail _ (.head _))
      rcases List.mem_append.mp hb with hb | hb
      · rcases List.mem_append.mp hb with hb | hb
        · exact .inl (.tail _ (.tail _ (List.mem_append_left _ hb)))
        · exact .inr ((st₁.none_of (hbs' b hb)).elim (fun q => (bsL b hb (List.mem_singleton.mp q)).elim) id)
      · exact .inl (.tail _ (.tail _ (List.mem_append_right _ hb)))
end
end Mine

namespace Mine
open PySem PySem.Calls PySem.W PyProof.Rows
section
variable {C : Cx} {A : Around} {E : Value → Shared → Prop} {s : Shared} {env : Env}
/-- _law_parted(row, sizes) -/
theorem parted_ok (FF : Facts C) {hp : Heap} (hw : Wd C hp) {k : Nat} (hA : Room (k + 1) A) {rowv sizes : Value} {ns zs : List Int} {tup : Bool} {ras : List Addr} {Q : Value → Shared → Prop} (hrow : RowIs hp rowv ns tup ras) (hsz : TupI hp sizes zs) (hz : ∀ z ∈ zs, 0 ≤ z) (hsum : zs.sum ≤ ns.length) (hl : ns.length ≤ 1000) (hzl : zs.length ≤ 1000)
    (h : ∀ s' P as, Stp C [] [] s s' → Reads s'.heap (.ref P) (.list ((partedAt ns 0 zs).map (mkD tup))) (P :: as) → Q (.ref P) s') (hs : s.heap = hp := by rfl) : wpAny (MM C) A (call (.ref (C.fa 19)) [rowv, sizes]) Q E s := by
  subst hs
  refine enter_fn FF (i := 19) (binds := [("row", rowv), ("sizes", sizes)]) (by decide) hw hA (fun _ _ => .of_eq rfl) (fun s₁ L pm doc E' hn hL st hg hw₁ hA₁ => ?_)
  refine wpAny_execs_cons (st_two FF hA₁.handled (wpAny_items_cons (ev_list (wpAny_items_nil ⟨by rw [sizeLine_eq]; simp, fun s₂ P st₂ hg₂ hPf hP => arg1 (wpAny_Constant_int ⟨_, _, _, rfl, st₂.loc hn, fun s₃ hlo₃ st₃ => ?_⟩)⟩)) rfl))
  have st₃' : Stp C [L] [] s₂ s₃ := ⟨st₃.keep, st₃.tup, st₃.there, st₃.gens, st₃.os, st₃.bare, st₃.wd⟩
  have hPL : P ≠ L := dead_of hPf (loc_alive hn)
  have st13 : Stp C [L] [] s₁ s₃ := st₂.wide.more st₃' (all1 (.inl (.head _)))
  have hw₃ := st13.wd hw₁
  have hP₀ := hw₁.none hPf
  have hPf' : s.heap.get? P = none := st.fresh hPf
  have st03 : Stp C [] [] s s₃ := st.andThen st13 (fun _ h => nomatch h) all0 (all1 (.inr hL)) all0
  have hrow₃ := hrow.step st03 (fun _ _ h => nomatch h)
  obtain ⟨t, vs, rfl, htt, hI⟩ := hsz.keep st03
  have hvl : vs.length = zs.length := hI.length
  have raF : ∀ b ∈ ras, ∃ o, s.heap.get? b = some o := hrow.alive
  refine wpAny_execs_cons (ex_forI hA₁ (ev_local hlo₃ (put_ne (put_ne rfl)) ⟨iL zs, [], [L, P], L :: P :: ([] ++ ras), PtJ C L P rowv ns tup ras (partedAt ns 0 zs), iterOf_tuple FF hw₃ htt (by simpa using intsAre_reads hI), hw₃, pt_loop FF hP₀ rfl, ?_, (fun _ h => nomatch h), fun s₅ K₅ hJ st₅ hKK => ?_⟩))
  · exact ⟨zs, 0, _, _, [], [], [], rfl, rfl, hlo₃, put_ne put_eq, put_eq, put_ne (put_ne rfl), st₃'.plain hP (nin1 hPL), .nil, hrow₃, rfl, (fun q => dead_of hPf' (raF P (by simpa using q)) rfl), (fun q => dead_of hL (raF L (by simpa using q)) rfl), hPL.symm, hz, by simpa using hsum, hl, by simpa using hzl⟩
  · obtain ⟨zs', a, u, lo, ys, as, done, hrem, hall, hlo₅, h1, h2, h3, hp₅, hr₅, hrow₅, rfl, n1, n2, n3, -, -, -, -⟩ := hJ
    cases zs' with
    | cons _ _ => cases hrem
    | nil =>
    rw [partedAt, List.append_nil] at hall
    subst hall
    refine wpAny_execs_cons (wpAny_Return_some (ev_local hlo₅ h2 (h s₅ P as (st03.andThen st₅ (fun _ h => nomatch h) all0 (all2 (.inr hL) (.inr hPf')) all0) (plain_reads hp₅ hr₅))))
end
end Mine

namespace Mine
open PySem PySem.Calls PySem.W PyProof.Rows
section
variable {C : Cx} {A : Around} {E : Value → Shared → Prop} {s : Shared} {env : Env}

/-- [..][a:b] on a list that nothing else holds -/
theorem ev_slice_lb {value : Expr} {lower upper : Option Expr} {p pos : Pos} {Q : Value → Shared → Prop}
    (h : wpAny (MM C) A (eval value env) (fun o s₁ => wpAny (MM C) A (evalPart lower env) (fun vl s₂ => wpAny (MM C) A (evalPart upper env) (fun vu s₃ =>
      ∃ l vs lo hi ws, o = .ref l ∧ s₃.heap.IsList l (List.toArray vs) ∧ IsPart vl lo ∧ IsPart vu hi ∧ slicePick vs.toArray lo hi none = List.toArray ws ∧ vs.length ≤ 100000 ∧ ∀ s' r, Stp C [] [] s₃ s' → s₃.heap.get? r = none → s'.heap.PlainList r ws.toArray → Q (.ref r) s') E s₂) E s₁) E s) :
    wpAny (MM C) A (eval (.Subscript value (.Slice lower upper none p) pos) env) Q E s := by
  have h' : wpAny (MM C) A (eval value env) (fun o s₁ => wpAny (MM C) A (eval (.Slice lower upper none p) env) (fun i s₂ => s₂.TypeIs o "list" ∧ wpAny (MM C) A (getItem o i) Q E s₂) E s₁) E s := by
    refine wpAny_mono h (fun o s₁ h₁ => wpAny_Slice (wpAny_mono h₁ (fun vl s₂ h₂ => wpAny_mono h₂ (fun vu s₃ h₃ => ?_) fun _ _ e => e) fun _ _ e => e)) fun _ _ e => e
    obtain ⟨l, vs, lo, hi, ws, rfl, hl, pl, pu, hw, hsz, hQ⟩ := h₃
    rw [evalPart_none]
    refine wpAny_pure ⟨(hl.push _).typeIs, wpAny_getItem_list_slice (hl.push _) (Heap.IsSliceOf.new ..) pl pu .none (by simp) ?_ (by rw [List.size_toArray, sizeLine_eq]; omega)⟩
    rw [Heap.size_push, hw]
    refine hQ _ _ ((Stp.push _).trans (Stp.push _)) (get_ge (Nat.le_succ _)) ⟨0, ?_⟩
    have e1 := Heap.get?_push_size (s₃.heap.push { cls := .type "slice", data := .fields #[vl, vu, .none] }) (o := { cls := .type "list", data := .seq ws.toArray }) rfl
    rw [Heap.size_push] at e1
    exact e1
  rw [eval_Subscript]
  refine wpAny_bind (wpAny_mono h' (fun o s₁ h₁ => wpAny_bind (wpAny_holding (wpAny_mono h₁ (fun i s₂ h₂ => wpAny_bind (wpAny_standAt ?_)) fun _ _ x => x))) fun _ _ x => x)
  have fin : wpAny (MM C) A (operate [i, o] (getItem o i)) (fun r s₃ => wpAny (MM C) A (letTemporaryGo value o r >>= fun _ => pure r) Q E s₃) E s₂ :=
    wpAny_operating (wpAny_mono h₂.2 (fun r s₃ h₃ => wpAny_bind (wpAny_letTemporaryGo (wpAny_pure h₃))) fun _ _ x => x)
  first
    | (refine wpAny_bind ?_
       rw [getitemInPython_of_ne h₂.1.not_modules]
       refine wpAny_bind (wpAny_specialOf h₂.1 list_getitem_lookup ?_)
       first
         | exact wpAny_pure (wpAny_bind fin)
         | exact wpAny_bind (wpAny_pure (wpAny_bind fin))
         | exact wpAny_bind fin)
    | (refine wpAny_bind (wpAny_specialOf h₂.1 list_getitem_lookup ?_)
       first
         | exact wpAny_bind (wpAny_pure (wpAny_bind fin))
         | exact wpAny_bind fin)

def DrJ (C : Cx) (L l : Addr) (rem : List PyData) (K : List Addr) (s : Shared) : Prop := ∃ (ns : List Int) (x : Int) (u : Tok) (lo : List (Str × Value)), rem = iL ns ∧ Loc C s.heap L lo ∧ gl lo "seed" = some (.int x u) ∧ gl lo "script" = some (.ref l) ∧ K = [L]
theorem dr_loop (FF : Facts C) {k : Nat} (hA : Room k A) {L l : Addr} {pm doc : Value} {body : List Stmt}
    (hb : body = (match (bodyOf (fnStmt 16)).getD 1 (.Pass default) with | .For _ _ b _ _ => b | _ => [])) :
    LoopOk C A (fnEnv C 16 L pm doc) "cell" body [L] (DrJ C L l) where
  stable := by
    rintro rem K W V s s' st hK ⟨ns, x, u, lo, rfl, hlo, h1, h2, rfl⟩
    exact ⟨ns, x, u, lo, rfl, st.loc hlo (hK L (by simp)), h1, h2, rfl⟩
  alive := by
    rintro rem K s ⟨ns, x, u, lo, rfl, hlo, h1, h2, rfl⟩
    exact all1 (loc_alive hlo)
  sub := by
    rintro rem K s ⟨ns, x, u, lo, rfl, hlo, h1, h2, rfl⟩ a ha
    exact ha
  turn := by
    rintro d rem K s v as E' ⟨ns, x, u, lo, hrem, hlo, h1, h2, rfl⟩ hw hrd has
    subst hb
    cases ns with
    | nil => cases hrem
    | cons n ns =>
    simp only [iL, List.map_cons, List.cons.injEq] at hrem
    obtain ⟨rfl, rfl⟩ := hrem
    obtain ⟨t, rfl, -⟩ := reads_int hrd
    refine st_local FF hlo fun s₁ hlo₁ st₁ hg₁ => ?_
    have hw₁ := st₁.wd hw
    refine wpAny_execs_cons (wpAny_Assign_Name (wpAny_BinOp (wpAny_BinOp (wpAny_BinOp (wpAny_BinOp (ev_local hlo₁ (put_ne h1) (wpAny_Constant_int (mul_int ?_))))))))
    refine wpAny_BinOp (ev_callb FF hw₁ (.builtin "abs") (arg1 (ev_local hlo₁ put_eq (ev_abs fun u₂ s₂ st₂ => wpAny_Constant_int ?_))))
    refine mod_int' (by decide) (add_int (wpAny_Constant_int (add_int (wpAny_Constant_int (mod_int' (by decide) ?_)))))
    have st₂' : Stp C [] [] s₁ s₂ := ⟨st₂.keep, st₂.tup, st₂.there, st₂.gens, st₂.os, st₂.bare, st₂.wd⟩
    refine st_local FF (st₂'.loc hlo₁) fun s₃ hlo₃ st₃ hg₃ => wpAny_execs_nil ⟨rfl, ?_, [L], ⟨ns, _, _, _, rfl, hlo₃, put_eq, put_ne (put_ne h2), rfl⟩, fun _ h => .inl h⟩
    have st₃' : Stp C [L] [] s₂ s₃ := ⟨st₃.keep, st₃.tup, st₃.there, st₃.gens, st₃.os, st₃.bare, st₃.wd⟩
    exact (st₁.andThen (W := [L]) st₂' (fun _ h => .inl h) all0 (fun _ h => nomatch h) all0).more st₃' (fun _ h => .inl h)

/-- _law_draw(script) -/
theorem draw_ok (FF : Facts C) {hp : Heap} (hw : Wd C hp) {k : Nat} (hA : Room (k + 1) A) {l : Addr} {vs : List Value} {ns : List Int} {Q : Value → Shared → Prop} (hl : hp.IsList l vs.toArray) (hI : IntsAre vs ns) (hlen : ns.length ≤ 1000)
    (h : ∀ s' d q, Stp C [] [] s s' → DrawAt s'.heap d q → hp.get? d = none → hp.get? q = none → Q (.ref d) s') (hs : s.heap = hp := by rfl) : wpAny (MM C) A (call (.ref (C.fa 16)) [.ref l]) Q E s := by
  subst hs
  refine enter_fn FF (i := 16) (binds := [("script", .ref l)]) (by decide) hw hA (fun _ _ => .of_eq rfl) (fun s₁ L pm doc E' hn hL st hg hw₁ hA₁ => ?_)
  have hl₁ := st.list hl
  have hvl : vs.length = ns.length := hI.length
  have hlL : l ≠ L := ne_of_list_loc hl₁ hn
  refine wpAny_execs_cons (wpAny_Assign_Name (wpAny_Constant_int (st_local FF hn fun s₂ hlo₂ st₂ hg₂ => ?_)))
  have st₂' : Stp C [L] [] s₁ s₂ := ⟨st₂.keep, st₂.tup, st₂.there, st₂.gens, st₂.os, st₂.bare, st₂.wd⟩
  have hw₂ := st₂'.wd hw₁
  have hl₂ := st₂'.list hl₁ (nin1 hlL)
  refine wpAny_execs_cons (ex_forI hA₁ (ev_local hlo₂ (put_ne rfl) ⟨iL ns, [l], [L], [L], DrJ C L l, iterOf_list FF hw₂ hl₂ (by simpa using intsAre_reads hI), hw₂, dr_loop FF hA₁ rfl, ⟨ns, _, _, _, rfl, hlo₂, put_eq, put_ne rfl, rfl⟩, all1 (nin1 hlL), fun s₃ K₃ hJ st₃ _ => ?_⟩))
  obtain ⟨ns₃, x, u, lo, -, hlo₃, h1, h2, -⟩ := hJ
  have hw₃ := st₃.wd hw₂
  have hl₃ := st₃.list hl₂ (nin1 hlL)
  have st03 : Stp C [] [] s s₃ := (st.andThen (st₂'.andThen (W := [L]) st₃ (fun _ h => .inl h) all0 (fun _ h => .inl h) all0) (fun _ h => nomatch h) all0 (all1 (.inr hL)) all0)
  refine wpAny_execs_cons (wpAny_Return_some (ev_list (wpAny_items_cons (ev_slice_lb (ev_lc FF (cl := []) rfl hA₁ (ev_local hlo₃ h2 ⟨iL ns, [l], [], [], fun _ => True, fun _ => true, fun d d' => ∀ i, d = .int i → d' = .int (if i < 0 then -i else i), ⟨iterOf_list FF hw₃ hl₃ (by simpa using intsAre_reads hI), ?_, hw₃, by rw [List.length_map]; omega, (fun _ h => nomatch h), (fun _ h => nomatch h), (fun _ h => nomatch h), (fun _ _ _ _ _ _ _ => trivial), (fun _ _ _ h => nomatch h), trivial, fun L' hL' => ?_⟩, fun D s₄ ys ds' as' hP st₄ _ hp hD hra has' hDa => ?_⟩))) rfl)))
  · exact all1 (let ⟨o, e, _⟩ := hl₃; ⟨o, e⟩)
  · refine map_inv fun i hi => compOk_elt fun A s l v as Q E hA hw hloc hlk hrd hag _ hq => ?_
    obtain ⟨ti, rfl, rfl⟩ := reads_int hrd
    refine ev_callb FF hw (.builtin "abs") (arg1 (ev_local hloc hlk (ev_abs fun u' s' st' => hq _ s' [] _ (fun j e => ?_) (.int _ _) (fun _ h => nomatch h) st' trivial)))
    cases e; rfl
  · rw [filter_all] at hP
    have e := paired_to (g := fun i => PyData.int (if i < 0 then -i else i)) hP fun i _ y hy => hy i rfl
    subst e
    have e2 : (ns.map fun i => PyData.int (if i < 0 then -i else i)) = iL (ns.map fun i => if i < 0 then -i else i) := by simp [List.map_map, Function.comp_def]
    rw [e2] at hra
    obtain ⟨-, hIy⟩ := reads_ints hra
    have hyl : ys.length = ns.length := by have := hIy.length; simpa using this
    refine wpAny_evalPart_none (wpAny_evalPart_some (wpAny_Constant_int ⟨D, ys, none, some 24, ys.take 24, rfl, hp.isList, .none, .int 24 _, slicePick_upto' ys.toArray 24, by omega, fun s₅ q st₅ hq hpq => ?_⟩))
    have st₅' : Stp C [] [] s₄ s₅ := ⟨st₅.keep, st₅.tup, st₅.there, st₅.gens, st₅.os, st₅.bare, st₅.wd⟩
    refine arg1 (ev_local (st₅'.loc (st₄.loc hlo₃)) h1 ⟨by rw [sizeLine_eq]; simp, fun s₆ d st₆ hg₆ hd hpd => ?_⟩)
    have st05 := (st03.trans st₄).trans st₅'
    have hqa := plain_alive hpq
    exact h s₆ d q (st05.trans st₆) ⟨x, u, ys.take 24, (ns.map fun i => if i < 0 then -i else i).take 24, hpd.isList, st₆.plain hpq, hIy.take 24, by rw [List.length_take]; omega, dead_of hd hqa⟩ (st05.fresh hd) ((st03.trans st₄).fresh hq)
end
end Mine

namespace Mine
open PySem PySem.Calls PySem.W PyProof.Rows

theorem gsz_eq_all : ∀ n ∈ List.range 4, ∀ t ∈ List.range 7, gsz n ((t : Int) + 1) = szL ((t : Int) + 1) (n + 1) := by decide +kernel
theorem gsz_eq (n : Nat) (t : Int) (hn : n < 4) (h1 : 1 ≤ t) (h2 : t ≤ 7) : gsz n t = szL t (n + 1) := by
  have := gsz_eq_all n (List.mem_range.mpr hn) (t - 1).toNat (List.mem_range.mpr (by omega))
  rw [show (((t - 1).toNat : Nat) : Int) + 1 = t by omega] at this
  exact this
theorem intsUp_get : ∀ (n : Nat) (x : Int) (j : Nat), j < n → (intsUp x n)[j]? = some (x + j)
  | n + 1, x, 0, _ => by simp [intsUp]
  | n + 1, x, j + 1, h => by
    rw [intsUp, List.getElem?_cons_succ, intsUp_get n (x + 1) j (by omega)]
    congr 1; push_cast; omega
theorem dt_intsUp (N : Nat) (x : Int) (a b : Nat) (h : a + b ≤ N) : ((intsUp x N).drop a).take b = intsUp (x + a) b := by
  apply List.ext_getElem?
  intro j
  by_cases hj : j < b
  · rw [List.getElem?_take_of_lt hj, List.getElem?_drop, intsUp_get N x (a + j) (by omega), intsUp_get b _ j hj]
    congr 1; push_cast; omega
  · rw [List.getElem?_eq_none (by simp; omega), List.getElem?_eq_none (by rw [intsUp_len]; omega)]
theorem parts_eq (N : Nat) : ∀ (zs : List Int) (a : Nat), (∀ z ∈ zs, 0 ≤ z) → (a : Int) + zs.sum ≤ N → partsFrom a zs = partedAt (intsUp 0 N) a zs
  | [], _, _, _ => rfl
  | z :: zs, a, h, hs => by
    have h0 := h z (.head _)
    have hs' := sum_nonneg fun y hy => h y (.tail _ hy)
    rw [List.sum_cons] at hs
    rw [partsFrom, partedAt, dt_intsUp N 0 a z.toNat (by omega), ← parts_eq N zs (a + z.toNat) (fun y hy => h y (.tail _ hy)) (by push_cast; omega)]
    rw [show ((0 : Int) + (a : Int)) = a by omega, show ((a + z.toNat : Nat) : Int) = (a : Int) + z by push_cast; omega]
theorem sel_up (ns : List Int) (a b : Nat) (h : a + b ≤ ns.length) : selI ns (intsUp a b) = (ns.drop a).take b := by
  apply List.ext_getElem?
  intro j
  unfold selI
  by_cases hj : j < b
  · rw [List.getElem?_map, intsUp_get b _ j hj, List.getElem?_take_of_lt hj, List.getElem?_drop]
    have hlt : a + j < ns.length := by omega
    simp only [Option.map_some]
    rw [show ((a : Int) + (j : Int)).toNat = a + j by omega, List.getElem?_eq_getElem hlt]
    simp [List.getD, hlt]
  · rw [List.getElem?_eq_none (by rw [List.length_map, intsUp_len]; omega), List.getElem?_eq_none (by simp; omega)]
theorem sel_parts (ns : List Int) : ∀ (zs : List Int) (a : Nat), (∀ z ∈ zs, 0 ≤ z) → (a : Int) + zs.sum ≤ ns.length → (partsFrom a zs).map (selI ns) = partedAt ns a zs
  | [], _, _, _ => rfl
  | z :: zs, a, h, hs => by
    have h0 := h z (.head _)
    have hs' := sum_nonneg fun y hy => h y (.tail _ hy)
    rw [List.sum_cons] at hs
    rw [partsFrom, partedAt, List.map_cons, sel_up ns a z.toNat (by omega), show (a : Int) + z = ((a + z.toNat : Nat) : Int) by push_cast; omega, sel_parts ns zs (a + z.toNat) (fun y hy => h y (.tail _ hy)) (by push_cast; omega)]
end Mine

namespace Mine
open PySem PySem.Calls PySem.W PyProof.Rows
theorem slot_map_init : Slot "map" "__init__" "object.__init__" :=
  .of (owner := "object") (n := "__init__") (by rw [typeLookup_type, builtinLookup_eq_fast]; kernel_rfl) (by decide +kernel) (by decide +kernel) (by decide +kernel) (by first | exact .inl (by decide +kernel) | exact .inr (by decide +kernel)) (by rw [isSubtype_type]; kernel_rfl)
theorem mro_map : mroOf (.type "map") = pure [.type "map", .type "object"] := by rw [mroOf_type]; kernel_rfl
theorem lookup_map_new : typeLookup (.type "map") "__new__" = pure (some (.builtin "map.__new__")) := by rw [typeLookup_type, builtinLookup_eq_fast]; kernel_rfl
theorem called_map : TypeCalled "map" "map.__new__" "object.__init__" :=
  ⟨by decide +kernel, by decide +kernel, ⟨_, _, mro_map⟩, madeBy_type mro_map lookup_map_new (by decide +kernel), by decide +kernel, by rw [isSubtype_type]; kernel_rfl, slot_map_init⟩
theorem typeCall_map_2 (a b : Value) : checkTypeCall "map" ⟨[a, b], []⟩ = pure () := by kernel_rfl
theorem newCall_map_2 (a b : Value) : checkBuiltinCall "map.__new__" ⟨[.type "map", a, b], []⟩ = pure () := by kernel_rfl
theorem entry_map_new : entryFor table "map.__new__" = some Builtin.«map.__new__» := entryFor_of_tree (by kernel_rfl)
theorem entry_map_next : entryFor table "map.__next__" = some Builtin.«map.__next__» := entryFor_of_tree (by kernel_rfl)
theorem slot_map_next : Slot "map" "__next__" "map.__next__" :=
  .of (owner := "map") (n := "__next__") (by rw [typeLookup_type, builtinLookup_eq_fast]; kernel_rfl) (by decide +kernel) (by decide +kernel) (by decide +kernel) (by first | exact .inl (by decide +kernel) | exact .inr (by decide +kernel)) (by rw [isSubtype_type]; kernel_rfl)
theorem args_map_next (a : Value) : argsOk "map.__next__" ⟨[a], []⟩ := by unfold argsOk; kernel_rfl
theorem slot_map_iter : Slot "map" "__iter__" "map.__iter__" :=
  .of (owner := "map") (n := "__iter__") (by rw [typeLookup_type, builtinLookup_eq_fast]; kernel_rfl) (by decide +kernel) (by decide +kernel) (by decide +kernel) (by first | exact .inl (by decide +kernel) | exact .inr (by decide +kernel)) (by rw [isSubtype_type]; kernel_rfl)
theorem entry_map_iter : entryFor table "map.__iter__" = some Builtin.«dict_keyiterator.__iter__» := entryFor_alias (id' := "dict_keyiterator.__iter__") (by kernel_rfl) rfl (by decide +kernel) (by kernel_rfl)
theorem args_map_iter (a : Value) : argsOk "map.__iter__" ⟨[a], []⟩ := by unfold argsOk; kernel_rfl
end Mine
#check @PySem.callType_new
#check @PySem.callType_codes
#check @PySem.wpAny_pyIter_slot

namespace Mine
open PySem PySem.Calls PySem.W PyProof.Rows
section
variable {C : Cx} {A : Around} {E : Value → Shared → Prop} {s : Shared} {env : Env}
theorem plain_map_new : plainId "map.__new__" = true := by decide +kernel
theorem sub_map_map : isSubtype (.type "map") (.type "map") = pure true := by rw [isSubtype_type]; kernel_rfl

def SrcAt (h : Heap) (it l : Addr) (vs : List Value) (i : Nat) : Prop := (h.IsListIter it l i ∧ h.IsList l vs.toArray) ∨ (h.IsTupleIter it l i ∧ h.IsTuple l vs.toArray)
theorem SrcAt.agree {F : List Addr} {V : List Nat} {s s' : Shared} {it l : Addr} {vs : List Value} {i : Nat} (ag : Agree C F V s s') (h₀ : C.h₀.get? it = none) (hi : it ∈ F) (hl : l ∈ F) (x : SrcAt s.heap it l vs i) : SrcAt s'.heap it l vs i := by
  rcases x with ⟨⟨o, e, r⟩, ol, el, cl, nl, dl⟩ | ⟨⟨o, e, r⟩, ol, el, cl, nl, dl⟩
  · exact .inl ⟨⟨o, ag.keep _ _ hi (.inl (nb h₀)) e, r⟩, ol, ag.keep _ _ hl (.inr (by rw [cl]; nofun)) el, cl, nl, dl⟩
  · exact .inr ⟨⟨o, ag.keep _ _ hi (.inl (nb h₀)) e, r⟩, ol, ag.tup _ _ _ _ cl dl el, cl, nl, dl⟩
def SrcOf (C : Cx) (xv : Value) (l : Addr) (vs : List Value) (s : Shared) : Prop :=
  ∀ (A : Around) (Q : Value → Shared → Prop) (E : Value → Shared → Prop), (∀ s' it, Stp C [] [] s s' → s.heap.get? it = none → SrcAt s'.heap it l vs 0 → Q (.ref it) s') → wpAny (MM C) A (pyIter xv) Q E s
theorem srcOf_list {l : Addr} {vs : List Value} (hl : s.heap.IsList l vs.toArray) : SrcOf C (.ref l) l vs s := fun A Q E h =>
  have st : Stp C [] [] s { s with heap := s.heap.push { cls := .type "list_iterator", data := .fields #[.ref l, .int 0 0] } } := Stp.push _
  wpAny_pyIter_list hl (h _ _ st (get_size _) (.inl ⟨⟨_, Heap.get?_push_size _ rfl, rfl, rfl⟩, st.list hl⟩))
theorem srcOf_tuple {l : Addr} {vs : List Value} (hl : s.heap.IsTuple l vs.toArray) : SrcOf C (.ref l) l vs s := fun A Q E h =>
  have st : Stp C [] [] s { s with heap := s.heap.push { cls := .type "tuple_iterator", data := .fields #[.ref l, .int 0 0] } } := Stp.push _
  wpAny_pyIter_tuple hl (h _ _ st (get_size _) (.inr ⟨⟨_, Heap.get?_push_size _ rfl, rfl, rfl⟩, st.tup2 hl⟩))

theorem nextOf_item (FF : Facts C) {it l : Addr} {vs : List Value} {i : Nat} {v : Value} {Q : Value → Shared → Prop} (x : SrcAt s.heap it l vs i) (h₀ : C.h₀.get? it = none) (hne : l ≠ it) (hv : vs[i]? = some v)
    (h : ∀ s', Stp C [it] [] s s' → SrcAt s'.heap it l vs (i + 1) → Q v s') : wpAny (MM C) A (Builtin.SmallTypes.nextOf (.ref it)) Q E s := by
  have hx : vs.toArray[i]? = some v := by simpa using hv
  unfold Builtin.SmallTypes.nextOf
  rcases x with ⟨hit, hl⟩ | ⟨hit, hl⟩
  · obtain ⟨o, ho, hc, hd⟩ := id hit
    obtain ⟨ol, hol, _, nl, hdl⟩ := id hl
    refine wpAny_bind (wpAny_callSpecial?_slot (name := Str.ofString "__next__") hit.typeIs slot_listiter_next (wpAny_call_entry slot_listiter_next hit.typeIs entry_listiter_next ?_ (args_listiter_next _)))
    show wpAny _ _ (field (.ref it) 0 >>= _) _ _ s
    refine wpAny_bind (wpAny_field ho hd (x := .ref l) rfl ?_)
    show wpAny _ _ (if (Value.ref l == Value.none) = true then _ else _) _ _ s
    rw [if_neg (show ¬ ((Value.ref l == Value.none) = true) from Bool.false_ne_true)]
    show wpAny _ _ (field (.ref it) 1 >>= _) _ _ s
    refine wpAny_bind (wpAny_field ho hd (x := .int i 0) rfl ?_)
    show wpAny _ _ (seqItems? (.ref l) >>= _) _ _ s
    refine wpAny_bind (wpAny_seqItems hol hdl ?_)
    simp only [Int.toNat_natCast, hx]
    refine wpAny_bind (wpAny_setField ho hd (by simp) (wpAny_pure ⟨v, rfl, wpAny_pure (h _ (Stp.same (t := s.toks) FF h₀ (Heap.SameBut.update ..) (not_tup_cls ho (by rw [hc]; simp))) (.inl ⟨?_, Stp.list (Stp.same (t := s.toks) FF h₀ (Heap.SameBut.update ..) (not_tup_cls ho (by rw [hc]; simp))) hl (nin1 hne)⟩))⟩))
    exact ⟨_, Heap.get?_update_self _ ho (Obj.isFreed_of_fields (Obj.data_mapFields hd _)), (Obj.cls_mapFields ..).trans hc, by
      rw [Obj.data_mapFields hd]; simp [rawInt]⟩
  · obtain ⟨o, ho, hc, hd⟩ := id hit
    obtain ⟨ol, hol, _, nl, hdl⟩ := id hl
    refine wpAny_bind (wpAny_callSpecial?_slot (name := Str.ofString "__next__") hit.typeIs PySem.F.slot_tuple_iterator_next (wpAny_call_entry PySem.F.slot_tuple_iterator_next hit.typeIs PySem.F.entry_tuple_iterator_next ?_ (PySem.F.args_tuple_iterator_next_1 _)))
    show wpAny _ _ (field (.ref it) 0 >>= _) _ _ s
    refine wpAny_bind (wpAny_field ho hd (x := .ref l) rfl ?_)
    show wpAny _ _ (if (Value.ref l == Value.none) = true then _ else _) _ _ s
    rw [if_neg (show ¬ ((Value.ref l == Value.none) = true) from Bool.false_ne_true)]
    show wpAny _ _ (field (.ref it) 1 >>= _) _ _ s
    refine wpAny_bind (wpAny_field ho hd (x := .int i 0) rfl ?_)
    show wpAny _ _ (seqItems? (.ref l) >>= _) _ _ s
    refine wpAny_bind (wpAny_seqItems hol hdl ?_)
    simp only [Int.toNat_natCast, hx]
    refine wpAny_bind (wpAny_setField ho hd (by simp) (wpAny_pure ⟨v, rfl, wpAny_pure (h _ (Stp.same (t := s.toks) FF h₀ (Heap.SameBut.update ..) (not_tup_cls ho (by rw [hc]; simp))) (.inr ⟨?_, Stp.tup2 (Stp.same (t := s.toks) FF h₀ (Heap.SameBut.update ..) (not_tup_cls ho (by rw [hc]; simp))) hl⟩))⟩))
    exact ⟨_, Heap.get?_update_self _ ho (Obj.isFreed_of_fields (Obj.data_mapFields hd _)), (Obj.cls_mapFields ..).trans hc, by
      rw [Obj.data_mapFields hd]; simp [rawInt]⟩

theorem nextOf_end (FF : Facts C) (hh : A.handled = none) {it l : Addr} {vs : List Value} {i : Nat} {Q : Value → Shared → Prop} (x : SrcAt s.heap it l vs i) (h₀ : C.h₀.get? it = none) (hv : vs[i]? = none)
    (h : ∀ s' e, Stp C [it] [] s s' → s'.TypeIs e "StopIteration" → E e s') : wpAny (MM C) A (Builtin.SmallTypes.nextOf (.ref it)) Q E s := by
  have hx : vs.toArray[i]? = none := by simpa using hv
  unfold Builtin.SmallTypes.nextOf
  rcases x with ⟨hit, hl⟩ | ⟨hit, hl⟩
  · obtain ⟨o, ho, hc, hd⟩ := id hit
    obtain ⟨ol, hol, _, nl, hdl⟩ := id hl
    refine wpAny_bind (wpAny_callSpecial?_slot (name := Str.ofString "__next__") hit.typeIs slot_listiter_next (wpAny_call_entry slot_listiter_next hit.typeIs entry_listiter_next ?_ (args_listiter_next _)))
    show wpAny _ _ (field (.ref it) 0 >>= _) _ _ s
    refine wpAny_bind (wpAny_field ho hd (x := .ref l) rfl ?_)
    show wpAny _ _ (if (Value.ref l == Value.none) = true then _ else _) _ _ s
    rw [if_neg (show ¬ ((Value.ref l == Value.none) = true) from Bool.false_ne_true)]
    show wpAny _ _ (field (.ref it) 1 >>= _) _ _ s
    refine wpAny_bind (wpAny_field ho hd (x := .int i 0) rfl ?_)
    show wpAny _ _ (seqItems? (.ref l) >>= _) _ _ s
    refine wpAny_bind (wpAny_seqItems hol hdl ?_)
    simp only [Int.toNat_natCast, hx]
    refine wpAny_bind (wpAny_rule (wpAny_bind (wpAny_setField ho hd (by simp) ?_)))
    show wpAny _ _ (newExc (.type "StopIteration") [] >>= _) _ _ _
    refine wpAny_bind ?_
    simp only [newExc, newTuple]
    refine wpAny_bind (wpAny_newObj_type ?_ (by size_fits))
    refine wpAny_bind (m := firstArgMember _ _) (wpAny_of_eq (a := Value.none) (by first | rfl | (simp only [firstArgMember]; rfl)) ?_)
    refine wpAny_newObj_type ?_ (by size_fits)
    simp only [raiseNew]
    refine wpAny_bind (wpAny_handled ?_)
    first | rw [show A.in1.handled = none from hh] | rw [hh]
    refine wpAny_bind (wpAny_pure (wpAny_throw (h _ _ (Stp.ext (t := s.toks) FF h₀ (((Heap.SameBut.update ..).extBut.push _).push _) (not_tup_cls ho (by rw [hc]; simp))) ?_)))
    exact ⟨_, Heap.get?_push_size _ rfl, rfl⟩
  · obtain ⟨o, ho, hc, hd⟩ := id hit
    obtain ⟨ol, hol, _, nl, hdl⟩ := id hl
    refine wpAny_bind (wpAny_callSpecial?_slot (name := Str.ofString "__next__") hit.typeIs PySem.F.slot_tuple_iterator_next (wpAny_call_entry PySem.F.slot_tuple_iterator_next hit.typeIs PySem.F.entry_tuple_iterator_next ?_ (PySem.F.args_tuple_iterator_next_1 _)))
    show wpAny _ _ (field (.ref it) 0 >>= _) _ _ s
    refine wpAny_bind (wpAny_field ho hd (x := .ref l) rfl ?_)
    show wpAny _ _ (if (Value.ref l == Value.none) = true then _ else _) _ _ s
    rw [if_neg (show ¬ ((Value.ref l == Value.none) = true) from Bool.false_ne_true)]
    show wpAny _ _ (field (.ref it) 1 >>= _) _ _ s
    refine wpAny_bind (wpAny_field ho hd (x := .int i 0) rfl ?_)
    show wpAny _ _ (seqItems? (.ref l) >>= _) _ _ s
    refine wpAny_bind (wpAny_seqItems hol hdl ?_)
    simp only [Int.toNat_natCast, hx]
    refine wpAny_bind (wpAny_rule (wpAny_bind (wpAny_setField ho hd (by simp) ?_)))
    show wpAny _ _ (newExc (.type "StopIteration") [] >>= _) _ _ _
    refine wpAny_bind ?_
    simp only [newExc, newTuple]
    refine wpAny_bind (wpAny_newObj_type ?_ (by size_fits))
    refine wpAny_bind (m := firstArgMember _ _) (wpAny_of_eq (a := Value.none) (by first | rfl | (simp only [firstArgMember]; rfl)) ?_)
    refine wpAny_newObj_type ?_ (by size_fits)
    simp only [raiseNew]
    refine wpAny_bind (wpAny_handled ?_)
    first | rw [show A.in1.handled = none from hh] | rw [hh]
    refine wpAny_bind (wpAny_pure (wpAny_throw (h _ _ (Stp.ext (t := s.toks) FF h₀ (((Heap.SameBut.update ..).extBut.push _).push _) (not_tup_cls ho (by rw [hc]; simp))) ?_)))
    exact ⟨_, Heap.get?_push_size _ rfl, rfl⟩

/-- map(f, x) over a list or a tuple -/
theorem call_map (FF : Facts C) {fv xv : Value} {l : Addr} {vs : List Value} {Q : Value → Shared → Prop} (hx : SrcOf C xv l vs s)
    (h : ∀ (s₁ : Shared) (it tp m : Addr) (s₃ : Shared), Stp C [] [] s s₁ → s.heap.get? it = none → SrcAt s₁.heap it l vs 0 → Stp C [] [] s₁ s₃ → s₁.heap.get? tp = none → s₁.heap.get? m = none → s₃.heap.get? tp = some { cls := .type "tuple", data := .seq #[.ref it] } →
      s₃.heap.get? m = some { cls := .type "map", data := .fields #[.ref tp, fv] } → Q (.ref m) s₃) : wpAny (MM C) A (call (.type "map") [fv, xv]) Q E s := by
  refine callType_codes (Q₁ := fun obj s₁ => s₁.TypeIs obj "map" ∧ Q obj s₁) called_map (typeCall_map_2 _ _) PySem.F.entry_object_init ?_ fun obj s₁ h₁ => ?_
  · refine codeAny_of_tree ?_
    show wpAny _ A.in1.in1 (do checkBuiltinCall "map.__new__" ⟨[.type "map", fv, xv], []⟩; again (.builtin "map.__new__" ⟨[.type "map", fv, xv], []⟩)) _ _ s
    refine wpAny_bind (wpAny_of_eq (newCall_map_2 _ _) (wpAny_pure ⟨plainId_quiet plain_map_new _, codeAny_builtin entry_map_new ?_⟩))
    rw [Around.under_plainId plain_map_new _]
    have hsub := sub_map_map
    have hxx : ∀ {Q : Value → Shared → Prop} {E : Value → Shared → Prop}, (∀ s' it, Stp C [] [] s s' → s.heap.get? it = none → SrcAt s'.heap it l vs 0 → Q (.ref it) s') → wpAny (MM C) A.in1.in1 (pyIter xv) Q E s := fun h => hx _ _ _ h
    wp_walk using hxx
    intro s₁ it st₁ hf₁ hit₁
    refine wpAny_pure (wpAny_pure (wpAny_pure ?_))
    show wpAny _ A.in1.in1 (newTuple [.ref it] >>= fun t => newObj (.type "map") (.fields #[t, fv]) >>= fun r => ret r) _ _ s₁
    refine wpAny_bind (wpAny_newObj_type ?_ (by show (1 : Nat) ≤ sizeLine; rw [sizeLine_eq]; omega))
    refine wpAny_bind (wpAny_newObj_type (wpAny_pure ?_) (by size_fits))
    have e1 : (s₁.heap.push { cls := .type "tuple", data := .seq [Value.ref it].toArray }).get? s₁.heap.objs.size = some { cls := .type "tuple", data := .seq [Value.ref it].toArray } := Heap.get?_push_size _ rfl
    refine ⟨⟨_, Heap.get?_push_size _ rfl, rfl⟩, h s₁ it s₁.heap.objs.size _ _ st₁ hf₁ hit₁ ((Stp.push _).trans (Stp.push _)) (get_size _) (get_ge (by rw [Heap.size_push]; exact Nat.le_succ _)) (Heap.get?_push_of_some _ e1) (Heap.get?_push_size _ rfl)⟩
  · exact ⟨h₁.1, PySem.F.initArgs_range_2 obj _ _, object_init_meets called_map.init.lookup called_map.made (by decide) thePw C.w A.in1 _ s₁ ⟨h₁.1, rfl, h₁.2⟩⟩
end
end Mine

namespace Mine
open PySem PySem.Calls PySem.W PyProof.Rows
section
variable {C : Cx} {A : Around} {E : Value → Shared → Prop} {s : Shared} {env : Env}

structure MapAt (h : Heap) (m tp it : Addr) (fv : Value) : Prop where
  m : h.get? m = some { cls := .type "map", data := .fields #[.ref tp, fv] }
  tp : h.get? tp = some { cls := .type "tuple", data := .seq #[.ref it] }
theorem MapAt.agree {F : List Addr} {V : List Nat} {s s' : Shared} {m tp it : Addr} {fv : Value} (ag : Agree C F V s s') (hm : m ∈ F) (x : MapAt s.heap m tp it fv) : MapAt s'.heap m tp it fv :=
  ⟨ag.keep _ _ hm (.inr (by nofun)) x.m, ag.tup _ _ _ _ rfl rfl x.tp⟩

/-- what the mapped def does with the items -/
def MapsTo (C : Cx) (K : Nat) (fv : Value) (g : PyData → PyData) (ds : List PyData) : Prop := ∀ d ∈ ds, ∀ (A : Around) (s : Shared) (v : Value) (as : List Addr) (Q : Value → Shared → Prop) (E : Value → Shared → Prop), Room K A → Wd C s.heap → Reads s.heap v d as →
  (∀ s' r, Stp C [] [] s s' → Reads s'.heap r (g d) [] → Q r s') → wpAny (MM C) A (call fv [v]) Q E s

theorem map_next (FF : Facts C) {m tp it : Addr} {fv : Value} {Q : Option Value → Shared → Prop} (x : MapAt s.heap m tp it fv)
    (h : wpAny (MM C) A.in1 (Builtin.SmallTypes.nextOf (.ref it)) (fun v s₁ => s₁.heap.get? m = some { cls := .type "map", data := .fields #[.ref tp, fv] } ∧ wpAny (MM C) A.in1 (call fv [v]) (fun r s₂ => Q (some r) s₂) (fun _ _ => False) s₁) (fun e s₁ => s₁.TypeIs e "StopIteration" ∧ Q none s₁) s) : wpAny (MM C) A (pyNext (.ref m)) Q E s := by
  unfold pyNext
  have hT : s.TypeIs (.ref m) "map" := ⟨_, x.m, rfl⟩
  refine wpAny_bind (wpAny_attempt (wpAny_callSpecial?_slot (name := Str.ofString "__next__") hT slot_map_next (wpAny_call_entry slot_map_next hT entry_map_next ?_ (args_map_next _))))
  unfold Builtin.«map.__next__»
  have h1 : ∀ {Q : Value → Shared → Prop} {E : Value → Shared → Prop}, Q (.ref tp) s → wpAny (MM C) A.in1 (field (.ref m) 0) Q E s := fun h => wpAny_field x.m rfl (x := .ref tp) rfl h
  have h2 : ∀ {Q : Option (Array Value) → Shared → Prop} {E : Value → Shared → Prop}, Q (some #[.ref it]) s → wpAny (MM C) A.in1 (seqItems? (.ref tp)) Q E s := fun h => wpAny_seqItems x.tp rfl h
  have h3 : ∀ {Q' : Value → Shared → Prop} {E' : Value → Shared → Prop} (hp : #[Value.ref it].size - 1 - 0 < #[Value.ref it].size), ((∀ v s₁, (s₁.heap.get? m = some { cls := .type "map", data := .fields #[.ref tp, fv] } ∧ wpAny (MM C) A.in1 (call fv [v]) (fun r s₂ => Q (some r) s₂) (fun _ _ => False) s₁) → Q' v s₁) ∧ ∀ e s₁, (s₁.TypeIs e "StopIteration" ∧ Q none s₁) → E' e s₁) → wpAny (MM C) A.in1 (Builtin.SmallTypes.nextOf (#[Value.ref it][#[Value.ref it].size - 1 - 0]'hp)) Q' E' s :=
    fun hp hh => wpAny_mono h hh.1 hh.2
  wp_walk using h1, h2, h3
  refine ⟨fun v s₁ hmc => wpAny_pure (wpAny_pure ?_), fun e s₁ he => wpAny_bind (wpAny_isInstance he.1 isSubtype_stop (wpAny_pure he.2))⟩
  obtain ⟨hm, hc⟩ := hmc
  show wpAny _ A.in1 (field (.ref m) 1 >>= fun f => holding [v] (call f [v]) >>= fun result => letGo [v] [result] >>= fun _ => ret result) _ _ s₁
  refine wpAny_bind (wpAny_field hm rfl (x := fv) rfl (wpAny_bind (wpAny_holding (wpAny_mono hc (fun r s₂ hq => ?_) fun _ _ e => e.elim))))
  refine wpAny_bind ?_
  unfold letGo
  refine wpAny_bind (wpAny_holding (wpAny_point ?_))
  unfold letGo
  exact wpAny_pure (wpAny_pure ⟨r, rfl, wpAny_pure hq⟩)

theorem slot_map_self {m tp it : Addr} {fv : Value} {Q : Value → Shared → Prop} (x : MapAt s.heap m tp it fv) (h : Q (.ref m) s) : wpAny (MM C) A (pyIter (.ref m)) Q E s := by
  have hT : s.TypeIs (.ref m) "map" := ⟨_, x.m, rfl⟩
  refine wpAny_pyIter_slot hT slot_map_iter (wpAny_call_entry slot_map_iter hT entry_map_iter ?_ (args_map_iter _))
  show wpAny _ _ (ret (.ref m)) _ _ s
  exact wpAny_pure ⟨_, rfl, "map", _, hT, slot_map_next.lookup, h⟩

theorem iter_map (FF : Facts C) {K : Nat} (hA : Room (K + 1) A) {m tp it l : Addr} {fv : Value} {vs : List Value} {g : PyData → PyData} {as : List Addr} (h₀ : C.h₀.get? it = none) (hne : l ≠ it) (hmit : m ≠ it) (hnas : it ∉ as) : ∀ (ds : List PyData) (i : Nat) (s : Shared) (bs : List Addr), MapsTo C K fv g ds → SrcAt s.heap it l vs i → MapAt s.heap m tp it fv →
    ReadsAll s.heap (vs.drop i) ds bs → (∀ a ∈ bs, a ∈ as) → (∀ a ∈ it :: m :: l :: as, Live C s.heap a) → Iter C A m (ds.map g) ⟨[it], m :: l :: as, []⟩ s
  | [], i, s, bs, hg, hs, hm, hr, hb, hl => by
    intro s₁ ag hw Q E h
    have hs₁ := hs.agree ag h₀ (by simp) (by simp)
    have hm₁ := hm.agree ag (by simp)
    refine map_next FF hm₁ (nextOf_end FF hA.in1.handled hs₁ h₀ (drop_nil_at (readsAll_nil hr)) fun s' e st he => ⟨he, h s' st⟩)
  | d :: ds, i, s, bs, hg, hs, hm, hr, hb, hl => by
    intro s₁ ag hw Q E h
    have hs₁ := hs.agree ag h₀ (by simp) (by simp)
    have hm₁ := hm.agree ag (by simp)
    have hr₁ := ag.readsAll hr fun a ha => by simp [hb a ha]
    obtain ⟨v, vs', as₁, as₂, ev, rfl, r, rs⟩ := readsAll_cons hr₁
    obtain ⟨hv, hvs⟩ := drop_cons_at ev
    have nas : ∀ a ∈ as, a ∉ [it] := fun a ha q => hnas (by rw [List.mem_singleton.mp q] at ha; exact ha)
    refine map_next FF hm₁ (nextOf_item FF hs₁ h₀ hne hv fun s₂ st₂ hs₂ => ⟨st₂.keep _ _ (nin1 hmit) (.inr (by nofun)) hm₁.m, ?_⟩)
    refine hg d (.head _) _ s₂ v as₁ _ _ hA.in1 (st₂.wd hw) (st₂.reads r fun a ha => nas a (hb a (List.mem_append_left _ ha))) fun s₃ y st₃ hy => ?_
    have st13 : Stp C [it] [] s₁ s₃ := st₂.more st₃ all0
    have hl₁ : ∀ a ∈ it :: m :: l :: as, Live C s₁.heap a := fun a ha => ag.live (hl a ha) (by simpa using ha)
    have offit : ∀ a ∈ m :: l :: as, a ∉ [it] := fun a ha => by
      rcases List.mem_cons.mp ha with rfl | ha
      · exact nin1 hmit
      rcases List.mem_cons.mp ha with rfl | ha
      · exact nin1 hne
      · exact nas a ha
    have ag3 : ∀ (X : List Addr), Agree C X [] s₂ s₃ := fun X => st₃.agree (fun _ _ h => nomatch h) all0
    have hlit : ∃ o, s₂.heap.get? it = some o := by rcases hs₂ with ⟨⟨o, e, _⟩, _⟩ | ⟨⟨o, e, _⟩, _⟩ <;> exact ⟨o, e⟩
    have hl₃ : ∀ a ∈ it :: m :: l :: as, Live C s₃.heap a := fun a ha => by
      rcases List.mem_cons.mp ha with rfl | ha
      · obtain ⟨o, e⟩ := hlit
        exact st₃.live ⟨o, e, .inl (nb h₀)⟩ (by simp)
      · exact st13.live (hl₁ a (.tail _ ha)) (offit a ha)
    refine h y s₃ [] ⟨[it], m :: l :: as, []⟩ hy (fun _ h => nomatch h) st13 ⟨fun _ h => .inl h, fun _ h => .inr (.inl h), fun _ h => .inl h, fun a ha => hl₃ a (by simpa using ha), fun _ h => nomatch h⟩ ?_
    refine iter_map FF hA h₀ hne hmit hnas ds (i + 1) s₃ as₂ (fun d hd => hg d (.tail _ hd)) (hs₂.agree (ag3 [it, l]) h₀ (by simp) (by simp)) ⟨st13.keep _ _ (nin1 hmit) (.inr (by nofun)) hm₁.m, st13.tup _ _ _ _ rfl rfl hm₁.tp⟩ ?_ (fun a ha => hb a (List.mem_append_right _ ha)) hl₃
    rw [hvs]
    exact st₃.readsAll (st₂.readsAll rs fun a ha => nas a (hb a (List.mem_append_right _ ha))) fun _ _ h => nomatch h

/-- tuple(map(f, x)) : what map gives as an iterator -/
theorem itok_map (FF : Facts C) {K : Nat} {m tp it l : Addr} {fv : Value} {vs : List Value} {g : PyData → PyData} {as : List Addr} {ds : List PyData} (h₀ : C.h₀.get? it = none) (hne : l ≠ it) (hmit : m ≠ it) (hnas : it ∉ as) (hg : MapsTo C K fv g ds) (hs : SrcAt s.heap it l vs 0) (hm : MapAt s.heap m tp it fv)
    (hr : ReadsAll s.heap vs ds as) (hl : ∀ a ∈ it :: m :: l :: as, Live C s.heap a) : ItOk C (K + 1) m (ds.map g) ⟨[it], m :: l :: as, []⟩ s :=
  ⟨fun A hA => iter_map FF hA h₀ hne hmit hnas ds 0 s as hg hs hm (by simpa using hr) (fun _ h => h) hl, fun a ha => hl a (by simpa using ha), fun _ h => (nomatch h), fun A s₁ ag hw Q E hq => slot_map_self (hm.agree ag (by simp)) hq⟩
end
end Mine

namespace Mine
open PySem PySem.Calls PySem.W PyProof.Rows
section
variable {C : Cx} {A : Around} {E : Value → Shared → Prop} {s : Shared} {env : Env}
def okD : Nat → PyData → Prop
  | _, .int _ => True
  | _, .str _ => True
  | n + 1, .list ds => ds.length ≤ 1000 ∧ ∀ d ∈ ds, okD n d
  | n + 1, .tuple ds => ds.length ≤ 1000 ∧ ∀ d ∈ ds, okD n d
  | _, _ => False
def mhD : Nat → PyData → PyData
  | n + 1, .list ds => .tuple (ds.map (mhD n))
  | n + 1, .tuple ds => .tuple (ds.map (mhD n))
  | _, d => d
theorem mh_noAs : ∀ (n : Nat) (d : PyData) {h : Heap} {v : Value} {as : List Addr}, okD n d → Reads h v (mhD n d) as → as = []
  | n, .int _, _, _, _, _, r => by cases n <;> cases r <;> rfl
  | n, .str _, _, _, _, _, r => by cases n <;> cases r <;> rfl
  | n, .none, _, _, _, ok, _ => by cases n <;> exact ok.elim
  | n, .bool _, _, _, _, ok, _ => by cases n <;> exact ok.elim
  | n, .dict _, _, _, _, ok, _ => by cases n <;> exact ok.elim
  | 0, .list _, _, _, _, ok, _ => ok.elim
  | 0, .tuple _, _, _, _, ok, _ => ok.elim
  | n + 1, .list ds, h, v, as, ok, r => by
    have all : ∀ (ds : List PyData) (vs : List Value) (as : List Addr), (∀ d ∈ ds, okD n d) → ReadsAll h vs (ds.map (mhD n)) as → as = [] := by
      intro ds
      induction ds with
      | nil => intro vs as _ r; cases r; rfl
      | cons d ds ih =>
        intro vs as ok r
        obtain ⟨v, vs', a, b, rfl, rfl, r, rs⟩ := readsAll_cons r
        rw [mh_noAs n d (ok d (.head _)) r, ih vs' b (fun d hd => ok d (.tail _ hd)) rs]; rfl
    cases r with
    | tuple e hc hd r => exact all ds _ _ ok.2 r
  | n + 1, .tuple ds, h, v, as, ok, r => by
    have all : ∀ (ds : List PyData) (vs : List Value) (as : List Addr), (∀ d ∈ ds, okD n d) → ReadsAll h vs (ds.map (mhD n)) as → as = [] := by
      intro ds
      induction ds with
      | nil => intro vs as _ r; cases r; rfl
      | cons d ds ih =>
        intro vs as ok r
        obtain ⟨v, vs', a, b, rfl, rfl, r, rs⟩ := readsAll_cons r
        rw [mh_noAs n d (ok d (.head _)) r, ih vs' b (fun d hd => ok d (.tail _ hd)) rs]; rfl
    cases r with
    | tuple e hc hd r => exact all ds _ _ ok.2 r
theorem mh_noAll (n : Nat) {h : Heap} : ∀ (ds : List PyData) (vs : List Value) (as : List Addr), (∀ d ∈ ds, okD n d) → ReadsAll h vs (ds.map (mhD n)) as → as = []
  | [], _, _, _, r => by cases r; rfl
  | d :: ds, vs, as, ok, r => by
    obtain ⟨v, vs', a, b, rfl, rfl, r, rs⟩ := readsAll_cons r
    rw [mh_noAs n d (ok d (.head _)) r, mh_noAll n ds vs' b (fun d hd => ok d (.tail _ hd)) rs]; rfl

/-- multihash at a list or a tuple -/
theorem mh_seq (FF : Facts C) {n K : Nat} (rec : ∀ ds, (∀ d ∈ ds, okD n d) → MapsTo C K (.ref (C.fa 2)) (mhD n) ds) {hp : Heap} (hw : Wd C hp) (hA : Room (K + 8) A) {l : Addr} {vs : List Value} {ds : List PyData} {as : List Addr} {Q : Value → Shared → Prop}
    (hl : hp.IsList l vs.toArray ∨ hp.IsTuple l vs.toArray) (hr : ReadsAll hp vs ds as) (hlen : ds.length ≤ 1000) (ok : ∀ d ∈ ds, okD n d) (h : ∀ s' r, Stp C [] [] s s' → Reads s'.heap r (.tuple (ds.map (mhD n))) [] → Q r s') (hs : s.heap = hp := by rfl) : wpAny (MM C) A (call (.ref (C.fa 2)) [.ref l]) Q E s := by
  subst hs
  refine enter_fn FF (i := 2) (binds := [("x", .ref l)]) (by decide) hw hA (fun _ _ => .of_eq rfl) (fun s₁ L pm doc E' hn hL st hg hw₁ hA₁ => ?_)
  have hr₁ := st.readsAll hr (fun _ _ h => nomatch h)
  refine wpAny_execs_cons (wpAny_If (isTrue_plain (ev_callb FF hw₁ (.builtin "isinstance") (arg2 (ev_local hn rfl (ev_tuple (arg2 (ev_b FF hw₁ (ev_b FF hw₁ ⟨by rw [sizeLine_eq]; simp, fun s₂ tp₀ st₂ hg₂ hf₂ htp => ?_⟩)))))))))
  have core : ∀ (s₃ : Shared) (Qf : Flow → Shared → Prop), (∀ r s', Q r s' → Qf (.ret r) s') → Stp C [] [] s₂ s₃ → wpAny (MM C) (A.deeper (fnEnv C 2 L pm doc)) (execs [(match (bodyOf (fnStmt 2)).getD 0 (.Pass default) with | .If _ b _ _ => b.getD 0 (.Pass default) | _ => .Pass default)] (fnEnv C 2 L pm doc)) Qf E' s₃ := by
    intro s₃ Qf hQf st₃
    have st13 := st₂.trans st₃
    have hw₃ := st13.wd hw₁
    have hr₃ := st13.readsAll hr₁ (fun _ _ h => nomatch h)
    have src : SrcOf C (.ref l) l vs s₃ := by
      rcases hl with hl | hl
      · exact srcOf_list (st13.list (st.list hl))
      · exact srcOf_tuple (st13.tup2 (st.tup2 hl))
    refine wpAny_execs_cons (wpAny_Return_some (ev_callb FF hw₃ (.type "tuple") (arg1 (ev_callb FF hw₃ (.type "map") (arg2 (ev_fn FF hw₃ 2 (ev_local (st13.loc hn) rfl (call_map FF src fun s₄ it tp m s₅ st₄ hf₄ hsrc st₅ htpf hmf htp hm => ?_))))))))
    have hw₄ := st₄.wd hw₃
    have hw₅ := st₅.wd hw₄
    have ital : ∃ o, s₄.heap.get? it = some o := by rcases hsrc with ⟨⟨o, e, _⟩, _⟩ | ⟨⟨o, e, _⟩, _⟩ <;> exact ⟨o, e⟩
    have lal : Live C s₃.heap l := by
      rcases hl with hl | hl
      · obtain ⟨o, e, c, _⟩ := st13.list (st.list hl)
        exact ⟨o, e, .inr (by rw [c]; nofun)⟩
      · obtain ⟨o, e, c, _⟩ := st13.tup2 (st.tup2 hl)
        exact ⟨o, e, .inr (by rw [c]; nofun)⟩
    have h₀ := hw₃.none hf₄
    have st35 := st₄.trans st₅
    have hlive : ∀ a ∈ it :: m :: l :: as, Live C s₅.heap a := fun a ha => by
      rcases List.mem_cons.mp ha with rfl | ha
      · obtain ⟨o, e⟩ := ital
        exact st₅.live ⟨o, e, .inl (nb h₀)⟩ (by simp)
      rcases List.mem_cons.mp ha with rfl | ha
      · exact ⟨_, hm, .inr (by nofun)⟩
      rcases List.mem_cons.mp ha with rfl | ha
      · exact st35.live lal (by simp)
      · exact st35.live (readsAll_live hr₃ a ha) (by simp)
    have hit := itok_map FF (s := s₅) (K := K) (tp := tp) (l := l) (vs := vs) h₀ (dead_of hf₄ lal.some).symm (dead_of hmf ital) (fun q => dead_of hf₄ (readsAll_alive hr₃ it q) rfl) (rec ds ok) (hsrc.agree (st₅.agree (F := [it, l]) (V := []) (fun _ _ h => nomatch h) all0) h₀ (by simp) (by simp)) ⟨hm, htp⟩ (st35.readsAll hr₃ fun _ _ h => nomatch h) hlive
    refine call_tuple_it FF hw₅ hit (hA₁.less (by omega)) ⟨"map", noHint_map, _, hm, rfl⟩ (by simp; omega) fun s₆ r acc' as' st₆ hrt hra _ => ?_
    have e := mh_noAll n ds acc' as' ok hra
    subst e
    exact hQf _ _ <| h s₆ _ (((st.trans st13).trans st35).andThen st₆ (fun _ h => nomatch h) all0 (all1 (.inr ((st.trans st13).fresh hf₄))) all0) (.tuple hrt rfl rfl (by simpa using hra))
  rcases hl with hl | hl
  · refine isi2 (Tx := "list") (b := true) ans_lt_l (by obtain ⟨o, e, c, _⟩ := st₂.list (st.list hl); exact ⟨o, e, c⟩) htp rfl fun s₃ st₃ => wpAny_truthy_bool ?_
    rw [if_pos rfl]
    exact core s₃ _ (fun r s' h => h) st₃
  · refine isi2 (Tx := "tuple") (b := true) ans_lt (by obtain ⟨o, e, c, _⟩ := st₂.tup2 (st.tup2 hl); exact ⟨o, e, c⟩) htp rfl fun s₃ st₃ => wpAny_truthy_bool ?_
    rw [if_pos rfl]
    exact core s₃ _ (fun r s' h => h) st₃
/-- multihash at an int or a str -/
theorem mh_atom (FF : Facts C) {K : Nat} {hp : Heap} (hw : Wd C hp) (hA : Room (K + 1) A) {v : Value} {Q : Value → Shared → Prop} (hv : (∃ i u, v = .int i u) ∨ ∃ x u, v = .str x u) (h : ∀ s', Stp C [] [] s s' → Q v s') (hs : s.heap = hp := by rfl) : wpAny (MM C) A (call (.ref (C.fa 2)) [v]) Q E s := by
  subst hs
  refine enter_fn FF (i := 2) (binds := [("x", v)]) (by decide) hw hA (fun _ _ => .of_eq rfl) (fun s₁ L pm doc E' hn hL st hg hw₁ hA₁ => ?_)
  refine wpAny_execs_cons (wpAny_If (isTrue_plain (ev_callb FF hw₁ (.builtin "isinstance") (arg2 (ev_local hn rfl (ev_tuple (arg2 (ev_b FF hw₁ (ev_b FF hw₁ ⟨by rw [sizeLine_eq]; simp, fun s₂ tp₀ st₂ hg₂ hf₂ htp => ?_⟩)))))))))
  rcases hv with ⟨i, u, rfl⟩ | ⟨x, u, rfl⟩
  · refine isi2 (Tx := "int") (b := false) ans_lt_i rfl htp rfl fun s₃ st₃ => wpAny_truthy_bool ?_
    rw [if_neg Bool.false_ne_true]
    exact wpAny_execs_nil (wpAny_execs_cons (wpAny_Return_some (ev_local ((st₂.trans st₃).loc hn) rfl (h s₃ (st.trans (st₂.trans st₃))))))
  · refine isi2 (Tx := "str") (b := false) ans_lt_s rfl htp rfl fun s₃ st₃ => wpAny_truthy_bool ?_
    rw [if_neg Bool.false_ne_true]
    exact wpAny_execs_nil (wpAny_execs_cons (wpAny_Return_some (ev_local ((st₂.trans st₃).loc hn) rfl (h s₃ (st.trans (st₂.trans st₃))))))

/-- multihash -/
theorem mh_ok (FF : Facts C) : ∀ (n : Nat) (ds : List PyData), (∀ d ∈ ds, okD n d) → MapsTo C (8 * n + 1) (.ref (C.fa 2)) (mhD n) ds := by
  intro n
  induction n with
  | zero =>
    intro ds ok d hd A s v as Q E hA hw hr h
    have hok := ok d hd
    cases d with
    | int i =>
      obtain ⟨u, rfl, -⟩ := reads_int hr
      exact mh_atom FF (K := 0) hw hA (.inl ⟨i, u, rfl⟩) fun s' st => h s' _ st (.int _ _)
    | str x =>
      cases hr with
      | str _ t => exact mh_atom FF (K := 0) hw hA (.inr ⟨x, t, rfl⟩) fun s' st => h s' _ st (.str _ _)
    | _ => exact hok.elim
  | succ n ih =>
    intro ds ok d hd A s v as Q E hA hw hr h
    have hok := ok d hd
    cases d with
    | int i =>
      obtain ⟨u, rfl, -⟩ := reads_int hr
      exact mh_atom FF (K := 0) hw (hA.less (by omega)) (.inl ⟨i, u, rfl⟩) fun s' st => h s' _ st (.int _ _)
    | str x =>
      cases hr with
      | str _ t => exact mh_atom FF (K := 0) hw (hA.less (by omega)) (.inr ⟨x, t, rfl⟩) fun s' st => h s' _ st (.str _ _)
    | list es =>
      obtain ⟨l, xs, bs, rfl, rfl, hl, hr'⟩ := list_of hr
      exact mh_seq FF (n := n) (vs := xs.toList) ih hw (hA.less (by omega)) (.inl (by simpa using hl)) hr' hok.1 hok.2 h
    | tuple es =>
      cases hr with
      | tuple e hc hd hr' =>
        rename_i o xs n'
        exact mh_seq FF (n := n) (vs := xs.toList) ih hw (hA.less (by omega)) (.inr ⟨_, e, hc, _, by simpa using hd⟩) hr' hok.1 hok.2 h
    | _ => exact hok.elim
end
end Mine

namespace Mine
open PySem PySem.Calls PySem.W PyProof.Rows
section
variable {C : Cx} {A : Around} {E : Value → Shared → Prop} {s : Shared} {env : Env}

abbrev lawBody : List Stmt := bodyOf (fnStmt 21)
abbrev lawEnv (C : Cx) (L : Addr) (pm doc : Value) : Env := fnEnvC C 21 L pm doc

/-- the law's own frame: its names, its purse of draws -/
structure LS (C : Cx) (L d q : Addr) (lo : List (Str × Value)) (s : Shared) : Prop where
  wd : Wd C s.heap
  loc : Loc C s.heap L lo
  cell : s.heap.IsCell (L + 1) (some (.ref d))
  draw : DrawAt s.heap d q
  new : ∀ a, L ≤ a → C.h₀.get? a = none
  dn : C.h₀.get? d = none
  qn : C.h₀.get? q = none
  ap : ∀ a ∈ [L, L + 1, L + 2, L + 3, L + 4], a ≠ d ∧ a ≠ q
theorem DrawAt.step {d q : Addr} {W : List Addr} {V : List Nat} {s s' : Shared} (st : Stp C W V s s') (x : DrawAt s.heap d q) (hd : d ∉ W) (hq : q ∉ W) : DrawAt s'.heap d q := by
  obtain ⟨seed, t, vs, ns, h1, h2, h3, h4, h5⟩ := x
  exact ⟨seed, t, vs, ns, st.list h1 hd, st.plain h2 hq, h3, h4, h5⟩
theorem DrawAt.alive {h : Heap} {d q : Addr} (x : DrawAt h d q) : ∀ a ∈ [d, q], ∃ o, h.get? a = some o := by
  obtain ⟨seed, t, vs, ns, ⟨o, e, _⟩, h2, h3, h4, h5⟩ := x
  exact all2 ⟨o, e⟩ (plain_alive h2)
theorem LS.step {L d q : Addr} {lo : List (Str × Value)} {W : List Addr} {V : List Nat} {s s' : Shared} (S : LS C L d q lo s) (st : Stp C W V s s') (h : ∀ a ∈ [L, L + 1, d, q], a ∉ W) : LS C L d q lo s' :=
  ⟨st.wd S.wd, st.loc S.loc (h L (by simp)), st.cell S.cell (S.new _ (Nat.le_succ L)) (h _ (by simp)), S.draw.step st (h d (by simp)) (h q (by simp)), S.new, S.dn, S.qn, S.ap⟩
theorem LS.still {L d q : Addr} {lo : List (Str × Value)} {s s' : Shared} (S : LS C L d q lo s) (st : Stp C [] [] s s') : LS C L d q lo s' := S.step st fun _ _ h => nomatch h
theorem LS.set {L d q : Addr} {lo lo' : List (Str × Value)} {V : List Nat} {s s' : Shared} (S : LS C L d q lo s) (st : Stp C [L] V s s') (hl : Loc C s'.heap L lo') : LS C L d q lo' s' := by
  have ap := S.ap L (by simp)
  exact ⟨st.wd S.wd, hl, st.cell S.cell (S.new _ (Nat.le_succ L)) (nin1 (Nat.succ_ne_self L)), S.draw.step st (nin1 ap.1.symm) (nin1 ap.2.symm), S.new, S.dn, S.qn, S.ap⟩

/-- _law_take(draw, many) in the law's own frame -/
theorem law_take (FF : Facts C) {L d q : Addr} {lo : List (Str × Value)} {pm doc : Value} {k : Nat} (hA : Room (k + 1) A) (S : LS C L d q lo s) {many : Int} (hm : 0 < many) {np dp cp pos : Pos} {kd : Nat} {Q : Value → Shared → Prop}
    (h : ∀ s' r t, LS C L d q lo s' → Stp C [d, q] [] s s' → 0 ≤ r → r < many → Q (.int r t) s') :
    wpAny (MM C) A (eval (.Call (.Name "_law_take" np) [.Name "draw" dp, .Constant (.int many) kd cp] [] pos) (lawEnv C L pm doc)) Q E s := by
  refine ev_call FF S.wd 17 (arg2 (ev_cell S.cell (wpAny_Constant_int ⟨S.wd, ?_⟩) rfl))
  refine take_ok FF (s := { s with toks := s.toks + 1 }) S.wd hA S.draw S.dn S.qn hm fun s' r t st hg hd h0 h1 => ?_
  have st' : Stp C [d, q] [] s s' := ⟨st.keep, st.tup, st.there, st.gens, st.os, st.bare, st.wd⟩
  have a0 := S.ap L (by simp)
  have a1 := S.ap (L + 1) (by simp)
  exact h s' r t ⟨st'.wd S.wd, st'.loc S.loc (nin2 a0.1 a0.2), st'.cell S.cell (S.new _ (Nat.le_succ L)) (nin2 a1.1 a1.2), hd, S.new, S.dn, S.qn, S.ap⟩ st' h0 h1
end
end Mine

namespace Mine
open PySem PySem.Calls PySem.W PyProof.Rows
section
variable {C : Cx} {A : Around} {E : Value → Shared → Prop} {s : Shared} {env : Env}

/-- draw = ..; total, many = .. -/
theorem law_1 (FF : Facts C) {k : Nat} (hA : Room (k + 1) A) {L l : Addr} {pm doc : Value} {lo : List (Str × Value)} {vs : List Value} {ns : List Int} {Q : Flow → Shared → Prop} (hw : Wd C s.heap) (hn : Loc C s.heap L lo) (hc : s.heap.IsCell (L + 1) none) (new : ∀ a, L ≤ a → C.h₀.get? a = none)
    (hcs : ∀ a ∈ [L, L + 1, L + 2, L + 3, L + 4], ∃ o, s.heap.get? a = some o) (hsc : gl lo "script" = some (.ref l)) (hl : s.heap.IsList l vs.toArray) (hI : IntsAre vs ns) (hlen : ns.length ≤ 1000)
    (h : ∀ s' d q lo' t m u u', LS C L d q lo' s' → gl lo' "total" = some (.int t u) → gl lo' "many" = some (.int m u') → 1 ≤ t → t ≤ 7 → 1 ≤ m → m ≤ 4 → Stp C [L, L + 1] [] s s' → wpAny (MM C) A (execs (lawBody.drop 2) (lawEnv C L pm doc)) Q E s') :
    wpAny (MM C) A (execs lawBody (lawEnv C L pm doc)) Q E s := by
  refine wpAny_execs_cons (wpAny_Assign_Name (ev_call FF hw 16 (arg1 (ev_local hn hsc ⟨hw, draw_ok FF hw hA hl hI hlen fun s₁ d q st₁ hd hdf hqf => ?_⟩))))
  refine st_cell FF (st₁.cell hc (new _ (Nat.le_succ L))) (new _ (Nat.le_succ L)) fun s₂ hc₂ st₂ => ?_
  have ap : ∀ a ∈ [L, L + 1, L + 2, L + 3, L + 4], a ≠ d ∧ a ≠ q := fun a ha => ⟨(dead_of hdf (hcs a ha)).symm, (dead_of hqf (hcs a ha)).symm⟩
  have a1 := ap (L + 1) (by simp)
  have hLL : L ≠ L + 1 := (Nat.succ_ne_self L).symm
  have st12 : Stp C [L, L + 1] [] s s₂ := st₁.wide.more st₂ (all1 (.inl (.tail _ (.head _))))
  have S : LS C L d q lo s₂ := ⟨st12.wd hw, st₂.loc (st₁.loc hn) (nin1 hLL), hc₂, hd.step st₂ (nin1 a1.1.symm) (nin1 a1.2.symm), new, hw.none hdf, hw.none hqf, ap⟩
  refine wpAny_execs_cons (st_two FF hA.handled (wpAny_items_cons (wpAny_BinOp (wpAny_Constant_int (law_take FF hA (S.still (Stp.tok (s' := s₂) (.refl s₂))) (by decide) fun s₃ r t S₃ st₃ h0 h1 => add_int ?_))) rfl))
  refine arg1 (wpAny_BinOp (wpAny_Constant_int (law_take FF hA (S₃.still (Stp.tok (s' := s₃) (Stp.tok (s' := s₃) (.refl s₃)))) (by decide) fun s₄ r' t' S₄ st₄ h0' h1' => add_int ?_)))
  refine ⟨_, _, lo, rfl, S₄.loc, fun s₅ hlo₅ st₅ => ?_⟩
  have e3 : Stp C [d, q] [] s₂ s₃ := ⟨st₃.keep, st₃.tup, st₃.there, st₃.gens, st₃.os, st₃.bare, st₃.wd⟩
  have e4 : Stp C [d, q] [] s₃ s₄ := ⟨st₄.keep, st₄.tup, st₄.there, st₄.gens, st₄.os, st₄.bare, st₄.wd⟩
  have e5 : Stp C [L] [] s₄ s₅ := ⟨st₅.keep, st₅.tup, st₅.there, st₅.gens, st₅.os, st₅.bare, st₅.wd⟩
  have e15 : Stp C [L, L + 1] [] s s₅ := ((st12.andThen e3 (fun _ h => .inl h) all0 (all2 (.inr hdf) (.inr hqf)) all0).andThen e4 (fun _ h => .inl h) all0 (all2 (.inr hdf) (.inr hqf)) all0).more e5 (all1 (.inl (.head _)))
  exact h s₅ d q _ (1 + r) (1 + r') _ _ (S₄.set e5 hlo₅) put_eq (put_ne put_eq) (by omega) (by omega) (by omega) (by omega) e15
end
end Mine

namespace Mine
open PySem PySem.Calls PySem.W PyProof.Rows
section
variable {C : Cx} {A : Around} {E : Value → Shared → Prop} {s : Shared} {env : Env}
/-- data that == may walk: no dict, no deeper than n -/
def Sh (n : Nat) (d : PyData) : Prop := d.canLay0 = true ∧ d.depth ≤ n
theorem Sh.int (n : Nat) (i : Int) : Sh n (.int i) := ⟨by simp [PyData.canLay0], by simp [PyData.depth]⟩
theorem Sh.all {n : Nat} : ∀ {xs : List PyData}, (∀ x ∈ xs, Sh n x) → PyData.canLayAll0 xs = true ∧ PyData.depthAll xs ≤ n
  | [], _ => ⟨by simp [PyData.canLayAll0], by simp [PyData.depthAll]⟩
  | x :: xs, h => by
    obtain ⟨h1, h2⟩ := h x (.head _)
    obtain ⟨h3, h4⟩ := Sh.all fun y hy => h y (.tail _ hy)
    exact ⟨by simp [PyData.canLayAll0, h1, h3], by simp only [PyData.depthAll]; omega⟩
theorem Sh.list {n : Nat} {xs : List PyData} (h : ∀ x ∈ xs, Sh n x) : Sh (n + 1) (.list xs) := by
  obtain ⟨h1, h2⟩ := Sh.all h
  exact ⟨by simpa [PyData.canLay0] using h1, by simp only [PyData.depth]; omega⟩
theorem Sh.tuple {n : Nat} {xs : List PyData} (h : ∀ x ∈ xs, Sh n x) : Sh (n + 1) (.tuple xs) := by
  obtain ⟨h1, h2⟩ := Sh.all h
  exact ⟨by simpa [PyData.canLay0] using h1, by simp only [PyData.depth]; omega⟩
theorem Sh.str (n : Nat) {x : Str} (h : PyData.strOk x = true) : Sh n (.str x) := ⟨by simpa [PyData.canLay0] using h, by simp [PyData.depth]⟩
theorem Sh.less {n m : Nat} {d : PyData} (h : Sh n d) (hm : n ≤ m) : Sh m d := ⟨h.1, Nat.le_trans h.2 hm⟩
theorem sh_iL (ns : List Int) : ∀ x ∈ iL ns, Sh 0 x := map_inv fun i _ => Sh.int 0 i
theorem sh_tupL (ns : List Int) : Sh 1 (tupL ns) := Sh.tuple (sh_iL ns)
theorem sh_lstL (ns : List Int) : Sh 1 (lstL ns) := Sh.list (sh_iL ns)
theorem sh_opOf (x : Str) (hx : PyData.strOk x = true) (ns : List Int) : Sh 1 (opOf x ns) := by
  unfold opOf
  split
  · exact Sh.int 1 _
  · refine Sh.tuple fun y hy => ?_
    rcases List.mem_cons.mp hy with rfl | hy
    · exact Sh.str 0 hx
    · exact sh_iL ns y hy
theorem Sh.shaped {n : Nat} {d : PyData} (h : Sh n d) (hn : n ≤ 64) : SeqAt.shaped d = true := by
  unfold SeqAt.shaped
  rw [h.1]
  simpa using Nat.le_trans h.2 hn
/-- x != y at equal data -/
theorem ne_same {a b : Value} {d : PyData} {as bs : List Addr} {n k : Nat} {Q : Value → Shared → Prop} (hA : Room k A) (ra : Reads s.heap a d as) (rb : Reads s.heap b d bs) (hd : Sh n d) (hn : n ≤ 64) (h : Q (.bool false) s) : wpAny (MM C) A (compareOp .NotEq a b) Q E s :=
  ne_dataH ra rb (hd.shaped hn) (hd.shaped hn) hA.u64 (by rw [SeqAt.eqv_refl d hd.1]; exact h)
theorem eq_same {a b : Value} {d : PyData} {as bs : List Addr} {n k : Nat} {Q : Value → Shared → Prop} (hA : Room k A) (ra : Reads s.heap a d as) (rb : Reads s.heap b d bs) (hd : Sh n d) (hn : n ≤ 64) (h : Q (.bool true) s) : wpAny (MM C) A (compareOp .Eq a b) Q E s :=
  eq_dataH ra rb (hd.shaped hn) (hd.shaped hn) hA.u64 (by rw [SeqAt.eqv_refl d hd.1]; exact h)
end
end Mine

namespace Mine
open PySem PySem.Calls PySem.W PyProof.Rows
section
variable {C : Cx} {A : Around} {E : Value → Shared → Prop} {s : Shared} {env : Env}

theorem gsz_few_all : ∀ n ∈ List.range 4, ∀ t ∈ List.range 10, (gsz n ((t : Nat) : Int)).length ≤ 1000 := by decide +kernel
theorem gsz_few (n : Nat) (t : Int) (hn : n < 4) (h1 : 0 ≤ t) (h2 : t < 10) : (gsz n t).length ≤ 1000 := by
  have := gsz_few_all n (List.mem_range.mpr hn) t.toNat (List.mem_range.mpr (by omega))
  rwa [show ((t.toNat : Nat) : Int) = t by omega] at this

/-- list(groupsizes(t, n)) -/
theorem list_gs (FF : Facts C) (hw : Wd C s.heap) (hA : Room 40 A) {t : Int} {n : Nat} {u u' : Tok} (hn : n < 4) (h1 : 0 ≤ t) (h2 : t < 10) {Q : Value → Shared → Prop}
    (h : ∀ s' S, Stp C [] [] s s' → s.heap.get? S = none → Reads s'.heap (.ref S) (.list ((gsz n t).map tupL)) [S] → Q (.ref S) s') : wpAny (MM C) A (call (.ref (C.fa 5)) [.int t u, .int ((n : Int) + 1) u']) (fun v s₁ => wpAny (MM C) A (call (.type "list") [v]) Q E s₁) E s := by
  refine groupsizes_ok FF n (by omega) A s t u u' _ _ hw (hA.less (by omega)) (by omega) (by omega) fun s₁ L a g hL ha hg st hT hit => ?_
  refine call_list_it FF (st.wd hw) hit (hA.less (by omega)) (lazy_gen hT) (by rw [List.length_map]; have := gsz_few n t hn h1 h2; omega) fun s₂ S acc as hS st₂ hp hr ha₂ hna => ?_
  have e := readsAll_tuples hr
  subst e
  exact h s₂ S (st.andThen st₂ (fun _ h => nomatch h) all0 (all1 (.inr hL)) (all1 (.inr hg))) (st.fresh hS) (plain_reads (ys := acc.toList) (by simpa using hp) hr)

theorem tup2_reads {h : Heap} {t : Addr} {i j : Int} {u v : Tok} (e : h.get? t = some { cls := .type "tuple", data := .seq [Value.int i u, .int j v].toArray }) : Reads h (.ref t) (tupL [i, j]) [] := TupI.reads ⟨t, _, rfl, isTuple_of e, .cons _ _ (.cons _ _ .nil)⟩

/-- the first check: groupsizes -/
theorem law_2 (FF : Facts C) (hA : Room 60 A) {L d q : Addr} {pm doc : Value} {lo : List (Str × Value)} {t m : Int} {u u' : Tok} {Q : Flow → Shared → Prop} (S : LS C L d q lo s) (ht : gl lo "total" = some (.int t u)) (hm : gl lo "many" = some (.int m u')) (t1 : 1 ≤ t) (t7 : t ≤ 7) (m1 : 1 ≤ m) (m4 : m ≤ 4)
    (h : ∀ s', LS C L d q lo s' → Stp C [] [] s s' → wpAny (MM C) A (execs (lawBody.drop 3) (lawEnv C L pm doc)) Q E s') :
    wpAny (MM C) A (execs (lawBody.drop 2) (lawEnv C L pm doc)) Q E s := by
  have hw := S.wd
  refine wpAny_execs_cons (wpAny_If (isTrue_or (wpAny_isTrue_Compare1 (ev_callb FF hw (.type "list") (arg1 (ev_call FF hw 5 (arg2 (wpAny_Constant_int (wpAny_Constant_int ⟨hw, ?_⟩)))))))))
  refine list_gs FF (n := 1) (s := { s with toks := s.toks + 1 + 1 }) hw (hA.less (by omega)) (by decide) (by decide) (by decide) fun s₁ S₁ st₁ hf₁ hr₁ => ?_
  have st₁' : Stp C [] [] s s₁ := ⟨st₁.keep, st₁.tup, st₁.there, st₁.gens, st₁.os, st₁.bare, st₁.wd⟩
  refine ev_list (wpAny_items_cons (ev_tuple (arg2 (wpAny_Constant_int (wpAny_Constant_int ⟨by rw [sizeLine_eq]; simp, fun s₂ p₂ st₂ hg₂ hf₂ hp₂ => ?_⟩)))) rfl)
  refine arg1 (ev_tuple (arg2 (wpAny_Constant_int (wpAny_Constant_int ⟨by rw [sizeLine_eq]; simp, fun s₃ p₃ st₃ hg₃ hf₃ hp₃ => ?_⟩))))
  refine ⟨by rw [sizeLine_eq]; simp, fun s₄ S₄ st₄ hg₄ hf₄ hp₄ => ?_⟩
  have e2 : Stp C [] [] s₁ s₂ := ⟨st₂.keep, st₂.tup, st₂.there, st₂.gens, st₂.os, st₂.bare, st₂.wd⟩
  have e3 : Stp C [] [] s₂ s₃ := ⟨st₃.keep, st₃.tup, st₃.there, st₃.gens, st₃.os, st₃.bare, st₃.wd⟩
  have e24 := e3.trans st₄
  have r4 : Reads s₄.heap (.ref S₄) (.list ((gsz 1 3).map tupL)) [S₄] := plain_reads (as := []) hp₄ (readsAll_append (as := []) (bs := []) (readsAll_one (e24.reads (tup2_reads hp₂) (fun _ h => nomatch h))) (readsAll_one (st₄.reads (tup2_reads hp₃) (fun _ h => nomatch h))))
  refine ne_same hA ((e2.trans e24).reads hr₁ (fun _ _ h => nomatch h)) r4 (Sh.list (n := 1) (map_inv fun p _ => sh_tupL p)) (by decide) (wpAny_truthy_bool ?_)
  rw [if_neg Bool.false_ne_true]
  have st14 := (st₁'.trans e2).trans e24
  have S4 := S.still st14
  have hw₄ := S4.wd
  obtain ⟨n, rfl⟩ : ∃ n : Nat, m = (n : Int) + 1 := ⟨(m - 1).toNat, by omega⟩
  refine isTrue_or (wpAny_isTrue_Compare1 (ev_callb FF hw₄ (.type "list") (arg1 (ev_call FF hw₄ 5 (arg2 (ev_local S4.loc ht (ev_local S4.loc hm ⟨hw₄, ?_⟩)))))))
  refine list_gs FF (n := n) hw₄ (hA.less (by omega)) (by omega) (by omega) (by omega) fun s₅ S₅ st₅ hf₅ hr₅ => ?_
  have S5 := S4.still st₅
  refine ev_call FF S5.wd 18 (arg2 (ev_local S5.loc ht (ev_local S5.loc hm ⟨S5.wd, ?_⟩)))
  rw [show (n : Int) + 1 = ((n + 1 : Nat) : Int) by push_cast; rfl]
  refine sizes_ok FF (k := 0) S5.wd (hA.less (by omega)) (by omega) (by omega) fun s₆ D₆ st₆ hr₆ hf₆ => ?_
  rw [← gsz_eq n t (by omega) t1 t7] at hr₆
  refine ne_same hA (st₆.reads hr₅ (fun _ _ h => nomatch h)) hr₆ (Sh.list (n := 1) (map_inv fun p _ => sh_tupL p)) (by decide) (wpAny_truthy_bool ?_)
  rw [if_neg Bool.false_ne_true]
  refine isTrue_or_nil ?_
  rw [if_neg Bool.false_ne_true]
  exact wpAny_execs_nil (h s₆ (S5.still st₆) ((st14.trans st₅).trans st₆))
end
end Mine

namespace Mine
open PySem PySem.Calls PySem.W PyProof.Rows
section
variable {C : Cx} {A : Around} {E : Value → Shared → Prop} {s : Shared} {env : Env}

theorem paired_ints {lo hi : Int} {ds ds' : List PyData} (h : Paired (fun _ d' => ∃ x : Int, d' = .int x ∧ lo ≤ x ∧ x ≤ hi) ds ds') : ∃ xs : List Int, ds' = iL xs ∧ xs.length = ds.length ∧ ∀ x ∈ xs, lo ≤ x ∧ x ≤ hi := by
  induction h with
  | nil => exact ⟨[], rfl, rfl, fun _ h => nomatch h⟩
  | cons h _ ih =>
    obtain ⟨x, rfl, h1, h2⟩ := h
    obtain ⟨xs, rfl, hl, hb⟩ := ih
    refine ⟨x :: xs, rfl, by simp [hl], fun y hy => ?_⟩
    rcases List.mem_cons.mp hy with rfl | hy
    · exact ⟨h1, h2⟩
    · exact hb y hy
theorem drawAt_J {d q : Addr} (W : List Addr) (V : List Nat) (s s' : Shared) (st : Stp C W V s s') (h : ∀ a ∈ [d, q], a ∉ W) (x : DrawAt s.heap d q) : DrawAt s'.heap d q := x.step st (h d (by simp)) (h q (by simp))

/-- a comprehension that draws ints -/
theorem draws_in {k : Nat} {L d q : Addr} {lo : List (Str × Value)} {pm doc : Value} {scope : Scope} {cl : List (Str × Addr)} {x : Str} {elt : Expr} {xv : Value} {n : Nat} {a b₁ b₂ : Int} (S : LS C L d q lo s) (hit : IterOf C xv (iL (intsUp a n)) [] s) (hn : n ≤ 1000)
    (he : ∀ (L' : Addr) (A : Around) (s : Shared) (Q : Value → Shared → Prop) (E : Value → Shared → Prop), Room k A → Wd C s.heap → s.heap.IsCell (L + 1) (some (.ref d)) → DrawAt s.heap d q →
      (∀ s' r u, b₁ ≤ r → r ≤ b₂ → Stp C [d, q] [] s s' → DrawAt s'.heap d q → Q (.int r u) s') → wpAny (MM C) A (eval elt (cEnv scope cl L' (lawEnv C L pm doc))) Q E s) :
    CompIn C A k (fun L' => cEnv scope cl L' (lawEnv C L pm doc)) x [] elt xv (iL (intsUp a n)) [] [L + 1] [d, q] (fun h => DrawAt h d q) (fun _ => true) (fun _ d' => ∃ x : Int, d' = .int x ∧ b₁ ≤ x ∧ x ≤ b₂) s := by
  have ap := S.ap (L + 1) (by simp)
  refine ⟨hit, (fun _ h => nomatch h), S.wd, by rw [List.length_map, intsUp_len]; omega, all1 (live_cell S.cell (S.new _ (Nat.le_succ L))), all1 (nin2 ap.1 ap.2), (fun _ _ h => nomatch h), drawAt_J, (fun h x => x.alive), S.draw, fun L' hL' => ?_⟩
  refine map_inv fun i hi => compOk_elt fun A s₁ l v as Q E hA hw hloc hlk hrd hag hd hq => ?_
  refine he L' A s₁ Q E hA hw (hag.cell S.cell (S.new _ (Nat.le_succ L))) hd fun s' r u h1 h2 st hd' => hq _ s' [] (.int r) ⟨r, rfl, h1, h2⟩ (.int _ _) (fun _ h => nomatch h) st hd'

/-- sizes = tuple([..]) -/
theorem law_3 (FF : Facts C) (hA : Room 60 A) {L d q : Addr} {pm doc : Value} {lo : List (Str × Value)} {Q : Flow → Shared → Prop} (S : LS C L d q lo s)
    (h : ∀ s' v zs, LS C L d q (put "sizes" v lo) s' → TupI s'.heap v zs → (∀ z ∈ zs, 1 ≤ z ∧ z ≤ 3) → 1 ≤ zs.length → zs.length ≤ 4 → Stp C [L, d, q] [] s s' → wpAny (MM C) A (execs (lawBody.drop 4) (lawEnv C L pm doc)) Q E s') :
    wpAny (MM C) A (execs (lawBody.drop 3) (lawEnv C L pm doc)) Q E s := by
  have hw := S.wd
  refine wpAny_execs_cons (wpAny_Assign_Name (ev_callb FF hw (.type "tuple") (arg1 (ev_lc FF (k := 50) (cl := [("draw", L + 1)]) rfl (hA.less (by omega)) (ev_callb FF hw (.type "range") (arg1 (wpAny_BinOp (wpAny_Constant_int (law_take FF (k := 59) hA (S.still (Stp.tok (s' := s) (.refl s))) (by decide) fun s₁ r t S₁ st₁ h0 h1 => add_int ?_)))))))))
  refine call_rng1 FF (by omega) (by omega) fun s₂ r₂ st₂ hg₂ hr₂ hit => ?_
  have e1 : Stp C [d, q] [] s s₁ := ⟨st₁.keep, st₁.tup, st₁.there, st₁.gens, st₁.os, st₁.bare, st₁.wd⟩
  have e2 : Stp C [] [] s₁ s₂ := ⟨st₂.keep, st₂.tup, st₂.there, st₂.gens, st₂.os, st₂.bare, st₂.wd⟩
  have S₂ := S₁.still e2
  have hit₂ := hit s₂ (.refl _) rfl S₂.wd
  rw [intsFrom_eq] at hit₂
  have ap := S.ap L (by simp)
  have ap1 := S.ap (L + 1) (by simp)
  refine ⟨_, _, _, _, _, _, _, draws_in (k := 50) (b₁ := 1) (b₂ := 3) S₂ hit₂ (by omega) (fun L' A s Q E hA hw hc hd hq => ?_), fun D s₃ ys ds' as' hP st₃ hd₃ hp hD hra has hDa => ?_⟩
  · refine wpAny_BinOp (wpAny_Constant_int (ev_call FF hw 17 (arg2 (ev_cell hc (wpAny_Constant_int ⟨hw, take_ok FF (s := { s with toks := s.toks + 1 + 1 }) (k := 49) hw hA hd S.dn S.qn (by decide) fun s' r t st hg hd' h0 h1 => add_int (hq _ _ _ (by omega) (by omega) (Stp.tok (s' := s') ⟨st.keep, st.tup, st.there, st.gens, st.os, st.bare, st.wd⟩) hd')⟩) rfl))))
  · rw [filter_all] at hP
    obtain ⟨zs, rfl, hzl, hzb⟩ := paired_ints hP
    rw [List.length_map, intsUp_len] at hzl
    obtain ⟨rfl, hI⟩ := reads_ints hra
    refine call_tuple_l FF hp.isList (by simpa using hra) (fun s₄ t₄ st₄ hg₄ ht₄ hr₄ => ?_) (by have := hI.length; rw [List.size_toArray]; omega)
    have S₃ := S₂
    have a0 : ∀ a ∈ [L, L + 1], a ∉ [d, q] := all2 (nin2 ap.1 ap.2) (nin2 ap1.1 ap1.2)
    have LS₃ : LS C L d q lo s₃ := ⟨st₃.wd S₂.wd, st₃.loc S₂.loc (a0 L (by simp)), st₃.cell S₂.cell (S.new _ (Nat.le_succ L)) (a0 _ (by simp)), hd₃, S.new, S.dn, S.qn, S.ap⟩
    have S₄ := LS₃.still st₄
    refine st_local FF S₄.loc fun s₅ hlo₅ st₅ hg₅ => ?_
    have st05 : Stp C [L, d, q] [] s s₅ := ((((e1.mono (W' := [L, d, q]) (fun a h => .tail _ h) (fun _ h => h)).more e2 all0).more st₃ (fun a h => .inl (.tail _ h))).more st₄ all0).more st₅ (all1 (.inl (.head _)))
    exact h s₅ (.ref t₄) zs (S₄.set st₅ hlo₅) (TupI.keep st₅ ⟨t₄, ys, rfl, isTuple_of ht₄, hI⟩) hzb (by omega) (by omega) st05
end
end Mine

namespace Mine
open PySem PySem.Calls PySem.W PyProof.Rows
section
variable {C : Cx} {A : Around} {E : Value → Shared → Prop} {s : Shared} {env : Env}
theorem sum_le {b : Int} : ∀ {zs : List Int}, (∀ z ∈ zs, z ≤ b) → zs.sum ≤ b * zs.length
  | [], _ => by simp
  | z :: zs, h => by
    have h1 := h z (.head _)
    have h2 := sum_le fun y hy => h y (.tail _ hy)
    rw [List.sum_cons, List.length_cons]
    push_cast
    rw [Int.mul_add]
    omega

/-- places; the check of groupsizes_to_partition -/
theorem law_4 (FF : Facts C) (hA : Room 60 A) {L d q : Addr} {pm doc : Value} {lo : List (Str × Value)} {Q : Flow → Shared → Prop} {v : Value} {zs : List Int} (S : LS C L d q lo s) (hsz : gl lo "sizes" = some v) (hv : TupI s.heap v zs) (hzb : ∀ z ∈ zs, 1 ≤ z ∧ z ≤ 3) (hzl : zs.length ≤ 4)
    (h : ∀ s' lo', LS C L d q lo' s' → Stp C [L] [] s s' → wpAny (MM C) A (execs (lawBody.drop 6) (lawEnv C L pm doc)) Q E s') :
    wpAny (MM C) A (execs (lawBody.drop 4) (lawEnv C L pm doc)) Q E s := by
  have hw := S.wd
  have hs0 : 0 ≤ zs.sum := sum_nonneg fun z hz => by have := hzb z hz; omega
  have hs1 : zs.sum ≤ 12 := by
    have := sum_le (b := 3) fun z hz => (hzb z hz).2
    omega
  obtain ⟨tt, vs, rfl, htt, hI⟩ := id hv
  refine wpAny_execs_cons (wpAny_Assign_Name (ev_callb FF hw (.type "list") (arg1 (ev_callb FF hw (.type "range") (arg1 (ev_callb FF hw (.builtin "sum") (arg1 (ev_local S.loc hsz (sum_t hA.handled htt hI fun u s₁ st₁ => ?_)))))))))
  refine call_rng1 FF (by omega) (by omega) fun s₂ r st₂ hg₂ hr hit => ?_
  obtain ⟨t₀, u₀, v₀, hr⟩ := hr
  refine list_rng (n := zs.sum.toNat) hA.handled hr (by rw [rangeSize_one]; split <;> omega) (small_one (by decide) (by decide) (by omega) (by omega)) (by omega) fun s₃ D ws st₃ hD hp hIw => ?_
  have e13 := (st₁.trans st₂).trans st₃
  have S₃ := S.still e13
  refine st_local FF S₃.loc fun s₄ hlo₄ st₄ hg₄ => ?_
  have S₄ := S₃.set st₄ hlo₄
  have hDL : D ≠ L := dead_of hD (loc_alive (S.still (st₁.trans st₂)).loc)
  have hp₄ := st₄.plain hp (nin1 hDL)
  have e4 : Stp C [L] [] s s₄ := e13.wide.more st₄ (all1 (.inl (.head _)))
  have htt₄ := e4.tup2 htt
  have hpl : Reads s₄.heap (.ref D) (lstL (intsUp 0 zs.sum.toNat)) [D] := plain_reads hp₄ (intsAre_reads hIw)
  have hlen := intsUp_len zs.sum.toNat 0
  refine wpAny_execs_cons (wpAny_If (wpAny_isTrue_Compare1 (ev_call FF S₄.wd 4 (arg1 (ev_add (ev_tuple (arg1 (ev_fn FF S₄.wd 13 ⟨by rw [sizeLine_eq]; simp, fun s₅ t₅ st₅ hg₅ hf₅ ht₅ => ev_local (S₄.still st₅).loc (put_ne hsz) (add_tup (vs := [.ref (C.fa 13)]) (ws := vs) (isTuple_of ht₅) (st₅.tup2 htt₄) (fun s₆ r₆ st₆ hr₆ => ?_) (by have := hI.length; simp; omega))⟩))))))))
  have e46 := st₅.trans st₆
  have S₆ := S₄.still e46
  refine ⟨S₆.wd, evalt_ok FF (k := 0) S₆.wd (hA.less (by omega)) hr₆ hI (fun z hz => by have := hzb z hz; omega) (by omega) fun s₇ P as st₇ hrP _ => ?_⟩
  have S₇ := S₆.still st₇
  have e47 := e46.trans st₇
  refine ev_call FF S₇.wd 19 (arg2 (ev_local S₇.loc put_eq (ev_local S₇.loc (put_ne hsz) ⟨S₇.wd, ?_⟩)))
  refine parted_ok FF (k := 0) (tup := false) (ras := [D]) S₇.wd (hA.less (by omega)) (e47.reads hpl (fun _ _ h => nomatch h)) ⟨tt, vs, rfl, e47.tup2 htt₄, hI⟩ (fun z hz => by have := hzb z hz; omega) (by rw [hlen]; omega) (by rw [hlen]; omega) (by omega) fun s₈ P' as' st₈ hrP' => ?_
  rw [← parts_eq zs.sum.toNat zs 0 (fun z hz => by have := hzb z hz; omega) (by omega)] at hrP'
  refine ne_same hA (st₈.reads hrP (fun _ _ h => nomatch h)) hrP' (Sh.list (n := 1) (map_inv fun p _ => sh_lstL p)) (by decide) (wpAny_truthy_bool ?_)
  rw [if_neg Bool.false_ne_true]
  exact wpAny_execs_nil (h s₈ _ (S₇.still st₈) (e4.more (e47.trans st₈) all0))
end
end Mine

namespace Mine
open PySem PySem.Calls PySem.W PyProof.Rows
section
variable {C : Cx} {A : Around} {E : Value → Shared → Prop} {s : Shared} {env : Env}
/-- row = tuple([..]) -/
theorem law_5 (FF : Facts C) (hA : Room 60 A) {L d q : Addr} {pm doc : Value} {lo : List (Str × Value)} {Q : Flow → Shared → Prop} {v₀ : Option Value} (S : LS C L d q lo s) (hcR : s.heap.IsCell (L + 2) v₀)
    (h : ∀ s' v ns, LS C L d q lo s' → s'.heap.IsCell (L + 2) (some v) → TupI s'.heap v ns → (∀ z ∈ ns, 0 ≤ z ∧ z ≤ 5) → 1 ≤ ns.length → ns.length ≤ 6 → Stp C [L + 2, d, q] [] s s' → wpAny (MM C) A (execs (lawBody.drop 7) (lawEnv C L pm doc)) Q E s') :
    wpAny (MM C) A (execs (lawBody.drop 6) (lawEnv C L pm doc)) Q E s := by
  have hw := S.wd
  refine wpAny_execs_cons (wpAny_Assign_Name (ev_callb FF hw (.type "tuple") (arg1 (ev_lc FF (k := 50) (cl := [("draw", L + 1)]) rfl (hA.less (by omega)) (ev_callb FF hw (.type "range") (arg1 (wpAny_BinOp (wpAny_Constant_int (law_take FF (k := 59) hA (S.still (Stp.tok (s' := s) (.refl s))) (by decide) fun s₁ r t S₁ st₁ h0 h1 => add_int ?_)))))))))
  refine call_rng1 FF (by omega) (by omega) fun s₂ r₂ st₂ hg₂ hr₂ hit => ?_
  have e1 : Stp C [d, q] [] s s₁ := ⟨st₁.keep, st₁.tup, st₁.there, st₁.gens, st₁.os, st₁.bare, st₁.wd⟩
  have e2 : Stp C [] [] s₁ s₂ := ⟨st₂.keep, st₂.tup, st₂.there, st₂.gens, st₂.os, st₂.bare, st₂.wd⟩
  have S₂ := S₁.still e2
  have hit₂ := hit s₂ (.refl _) rfl S₂.wd
  rw [intsFrom_eq] at hit₂
  have ap := S.ap L (by simp)
  have ap1 := S.ap (L + 1) (by simp)
  have ap2 := S.ap (L + 2) (by simp)
  refine ⟨_, _, _, _, _, _, _, draws_in (k := 50) (b₁ := 0) (b₂ := 5) S₂ hit₂ (by omega) (fun L' A s Q E hA hw hc hd hq => ?_), fun D s₃ ys ds' as' hP st₃ hd₃ hp hD hra has hDa => ?_⟩
  · refine ev_call FF hw 17 (arg2 (ev_cell hc (wpAny_Constant_int ⟨hw, take_ok FF (s := { s with toks := s.toks + 1 }) (k := 49) hw hA hd S.dn S.qn (by decide) fun s' r t st hg hd' h0 h1 => hq s' r t (by omega) (by omega) ⟨st.keep, st.tup, st.there, st.gens, st.os, st.bare, st.wd⟩ hd'⟩) rfl))
  · rw [filter_all] at hP
    obtain ⟨ns, rfl, hzl, hzb⟩ := paired_ints hP
    rw [List.length_map, intsUp_len] at hzl
    obtain ⟨rfl, hI⟩ := reads_ints hra
    refine call_tuple_l FF hp.isList (by simpa using hra) (fun s₄ t₄ st₄ hg₄ ht₄ hr₄ => ?_) (by have := hI.length; rw [List.size_toArray]; omega)
    have a0 : ∀ a ∈ [L, L + 1], a ∉ [d, q] := all2 (nin2 ap.1 ap.2) (nin2 ap1.1 ap1.2)
    have LS₃ : LS C L d q lo s₃ := ⟨st₃.wd S₂.wd, st₃.loc S₂.loc (a0 L (by simp)), st₃.cell S₂.cell (S.new _ (Nat.le_succ L)) (a0 _ (by simp)), hd₃, S.new, S.dn, S.qn, S.ap⟩
    have S₄ := LS₃.still st₄
    have e04 : Stp C [d, q] [] s s₄ := ((e1.more e2 all0).more st₃ (fun a h => .inl h)).more st₄ all0
    have hn2 := S.new (L + 2) (Nat.le_add_right L 2)
    refine st_cell FF (e04.cell hcR hn2 (nin2 ap2.1 ap2.2)) hn2 fun s₅ hc₅ st₅ => ?_
    have st05 : Stp C [L + 2, d, q] [] s s₅ := (e04.mono (W' := [L + 2, d, q]) (fun a h => .tail _ h) (fun _ h => h)).more st₅ (all1 (.inl (.head _)))
    have n1 : L ≠ L + 2 := Nat.ne_of_lt (Nat.lt_succ_of_lt (Nat.lt_succ_self L))
    have n2 : L + 1 ≠ L + 2 := Nat.ne_of_lt (Nat.lt_succ_self _)
    refine h s₅ (.ref t₄) ns (S₄.step st₅ fun a ha => ?_) hc₅ (TupI.keep st₅ ⟨t₄, ys, rfl, isTuple_of ht₄, hI⟩) hzb (by omega) (by omega) st05
    simp only [List.mem_cons, List.not_mem_nil, or_false] at ha
    rcases ha with rfl | rfl | rfl | rfl
    · exact nin1 n1
    · exact nin1 n2
    · exact nin1 ap2.1.symm
    · exact nin1 ap2.2.symm
end
end Mine

namespace Mine
open PySem PySem.Calls PySem.W PyProof.Rows
section
variable {C : Cx} {A : Around} {E : Value → Shared → Prop} {s : Shared} {env : Env}
theorem paired_lsts {P : List Int → Prop} {ds ds' : List PyData} (h : Paired (fun _ d' => ∃ xs : List Int, d' = lstL xs ∧ P xs) ds ds') : ∃ iss : List (List Int), ds' = iss.map lstL ∧ iss.length = ds.length ∧ ∀ is ∈ iss, P is := by
  induction h with
  | nil => exact ⟨[], rfl, rfl, fun _ h => nomatch h⟩
  | cons h _ ih =>
    obtain ⟨xs, rfl, h1⟩ := h
    obtain ⟨iss, rfl, hl, hb⟩ := ih
    refine ⟨xs :: iss, rfl, by simp [hl], fun y hy => ?_⟩
    rcases List.mem_cons.mp hy with rfl | hy
    · exact h1
    · exact hb y hy
/-- drawn = [[..] ..] -/
theorem law_6 (FF : Facts C) (hA : Room 60 A) {L d q : Addr} {pm doc : Value} {lo : List (Str × Value)} {Q : Flow → Shared → Prop} {v : Value} {ns : List Int} (S : LS C L d q lo s) (hcR : s.heap.IsCell (L + 2) (some v)) (hv : TupI s.heap v ns) (n1 : 1 ≤ ns.length) (n6 : ns.length ≤ 6)
    (h : ∀ (s' : Shared) (D : Addr) (iss : List (List Int)) (as : List Addr), LS C L d q (put "drawn" (.ref D) lo) s' → Reads s'.heap (.ref D) (.list (iss.map lstL)) (D :: as) → iss.length = 3 → (∀ is ∈ iss, is.length ≤ 2 ∧ ∀ x ∈ is, 0 ≤ x ∧ x < ns.length) → Stp C [L, d, q] [] s s' → wpAny (MM C) A (execs (lawBody.drop 8) (lawEnv C L pm doc)) Q E s') :
    wpAny (MM C) A (execs (lawBody.drop 7) (lawEnv C L pm doc)) Q E s := by
  have hw := S.wd
  have ap := S.ap L (by simp)
  have ap1 := S.ap (L + 1) (by simp)
  have ap2 := S.ap (L + 2) (by simp)
  have hn1 := S.new (L + 1) (Nat.le_succ L)
  have hn2 := S.new (L + 2) (Nat.le_add_right L 2)
  refine wpAny_execs_cons (st_lc FF (k := 50) (cl := [("row", L + 2), ("draw", L + 1)]) rfl (hA.less (by omega)) (ev_callb FF hw (.type "range") (arg1 (wpAny_Constant_int ?_))) rfl)
  refine call_rng1 FF (by omega) (by omega) fun s₁ r₁ st₁ hg₁ hr₁ hit => ?_
  have e1 : Stp C [] [] s s₁ := ⟨st₁.keep, st₁.tup, st₁.there, st₁.gens, st₁.os, st₁.bare, st₁.wd⟩
  have S₁ := S.still e1
  have hcR₁ := e1.cell hcR hn2
  have hv₁ := hv.keep e1
  have hit₁ := hit s₁ (.refl _) rfl S₁.wd
  refine ⟨_, [], [L + 1, L + 2], [d, q], fun h => DrawAt h d q, fun _ => true, fun _ d' => ∃ xs : List Int, d' = lstL xs ∧ (xs.length ≤ 2 ∧ ∀ x ∈ xs, 0 ≤ x ∧ x < ns.length), lo, ⟨hit₁, (fun _ h => nomatch h), S₁.wd, by decide, all2 (live_cell S₁.cell hn1) (live_cell hcR₁ hn2), all2 (nin2 ap1.1 ap1.2) (nin2 ap2.1 ap2.2), (fun _ _ h => nomatch h), drawAt_J, (fun h x => x.alive), S₁.draw, fun L' hL' => ?_⟩, S₁.loc, (fun h => nomatch h), nin2 ap.1 ap.2, fun D s₂ ys ds' as' hP st₂ hd₂ hp hD hra has hDa hlo₂ => ?_⟩
  · rw [intsFrom_eq]
    refine map_inv fun i hi => compOk_elt fun A s₃ l w as Q E hA hw₃ hloc hlk hrd hag hd hq => ?_
    have hc1 := hag.cell S₁.cell hn1
    have hc2 := hag.cell hcR₁ hn2
    have hv₃ := hv₁.agree hag
    refine ev_lc FF (k := 40) (cl := [("row", L + 2), ("draw", L + 1)]) rfl (hA.less (by omega)) (ev_callb FF hw₃ (.type "range") (arg1 (ev_call FF hw₃ 17 (arg2 (ev_cell hc1 (wpAny_Constant_int ⟨hw₃, take_ok FF (s := { s₃ with toks := s₃.toks + 1 }) (k := 49) hw₃ hA hd S.dn S.qn (by decide) fun s₄ r t st₄ hg₄ hd₄ h0 h1 => ?_⟩) rfl)))))
    refine call_rng1 FF (by omega) (by omega) fun s₅ r₅ st₅ hg₅ hr₅ hit₅ => ?_
    have e4 : Stp C [d, q] [] s₃ s₄ := ⟨st₄.keep, st₄.tup, st₄.there, st₄.gens, st₄.os, st₄.bare, st₄.wd⟩
    have e45 := e4.more st₅ all0
    have hw₅ := e45.wd hw₃
    have hc1₅ := e45.cell hc1 hn1 (nin2 ap1.1 ap1.2)
    have hc2₅ := e45.cell hc2 hn2 (nin2 ap2.1 ap2.2)
    have hv₅ := hv₃.keep e45
    have hd₅ := hd₄.step st₅ (fun h => nomatch h) (fun h => nomatch h)
    have hit₆ := hit₅ s₅ (.refl _) rfl hw₅
    rw [intsFrom_eq] at hit₆
    refine ⟨_, [], [L + 1, L + 2], [d, q], fun h => DrawAt h d q, fun _ => true, fun _ d' => ∃ x : Int, d' = .int x ∧ 0 ≤ x ∧ x ≤ ns.length - 1, ⟨hit₆, (fun _ h => nomatch h), hw₅, by rw [List.length_map, intsUp_len]; omega, all2 (live_cell hc1₅ hn1) (live_cell hc2₅ hn2), all2 (nin2 ap1.1 ap1.2) (nin2 ap2.1 ap2.2), (fun _ _ h => nomatch h), drawAt_J, (fun h x => x.alive), hd₅, fun L'' hL'' => ?_⟩, fun D₆ s₆ ys₆ ds₆ as₆ hP₆ st₆ hd₆ hp₆ hD₆ hra₆ has₆ hDa₆ => ?_⟩
    · refine map_inv fun j hj => compOk_elt fun A s₇ l₇ w₇ as₇ Q E hA hw₇ hloc₇ hlk₇ hrd₇ hag₇ hd₇ hq₇ => ?_
      obtain ⟨tt, vs, rfl, htt, hI⟩ := hv₅.agree hag₇
      have hvl : vs.length = ns.length := hI.length
      refine ev_call FF hw₇ 17 (arg2 (ev_cell (hag₇.cell hc1₅ hn1) (ev_callb FF hw₇ (.builtin "len") (arg1 (ev_cell (hag₇.cell hc2₅ hn2) (len_t htt (by omega) fun u s₈ st₈ => ⟨st₈.wd hw₇, ?_⟩) rfl))) rfl))
      refine take_ok FF (k := 39) (st₈.wd hw₇) hA (hd₇.step st₈ (fun h => nomatch h) (fun h => nomatch h)) S.dn S.qn (by omega) fun s₉ r₉ t₉ st₉ hg₉ hd₉ h0 h1 => ?_
      exact hq₇ _ s₉ [] (.int r₉) ⟨r₉, rfl, h0, by omega⟩ (.int _ _) (fun _ h => nomatch h) (st₈.wide.andThen st₉ (fun _ h => .inl h) all0 (fun _ h => .inl h) all0) hd₉
    · rw [filter_all] at hP₆
      obtain ⟨xs, rfl, hxl, hxb⟩ := paired_ints hP₆
      rw [List.length_map, intsUp_len] at hxl
      obtain ⟨rfl, hI⟩ := reads_ints hra₆
      have e36 : Stp C [d, q] [] s₃ s₆ := e45.andThen st₆ (fun _ h => .inl h) all0 (fun _ h => .inl h) all0
      refine hq _ s₆ [D₆] (lstL xs) ⟨xs, rfl, by omega, fun x hx => by have := hxb x hx; omega⟩ (plain_reads hp₆ hra₆) (fun b hb => .inr ?_) e36 hd₆
      rw [List.mem_singleton.mp hb]
      refine (e45.none_of hD₆).elim (fun z => (dead_of hD₆ (hd₅.alive D₆ z) rfl).elim) id
  · rw [filter_all] at hP
    obtain ⟨iss, rfl, hil, hib⟩ := paired_lsts hP
    have a0 : ∀ a ∈ [L, L + 1], a ∉ [d, q] := all2 (nin2 ap.1 ap.2) (nin2 ap1.1 ap1.2)
    have c1 : L + 1 ∉ L :: [d, q] := fun z => (List.mem_cons.mp z).elim (fun z => absurd z (Nat.succ_ne_self L)) (a0 _ (by simp))
    refine h s₂ D iss as' ⟨st₂.wd S₁.wd, hlo₂, st₂.cell S₁.cell hn1 c1, hd₂, S.new, S.dn, S.qn, S.ap⟩ (plain_reads hp hra) hil hib (e1.wide.andThen st₂ (fun _ h => .inl h) all0 (fun _ h => .inl h) all0)
end
end Mine

namespace Mine
open PySem PySem.Calls PySem.W PyProof.Rows
section
variable {C : Cx} {A : Around} {E : Value → Shared → Prop} {s : Shared} {env : Env}

/-- [row[k] for k in ..]: what one turn needs -/
theorem sel_in {k : Nat} {genv : Addr → Env} {elt : Expr} {xv rowv : Value} {ns is : List Int} {Fr : List Addr} {c : Addr} (hw : Wd C s.heap) (hit : IterOf C xv (iL is) Fr s) (hFr : ∀ a ∈ Fr, ∃ o, s.heap.get? a = some o) (hlen : is.length ≤ 1000) (hc : s.heap.IsCell c (some rowv)) (hc₀ : C.h₀.get? c = none) (hv : TupI s.heap rowv ns) (hnl : ns.length ≤ 1000)
    (hin : ∀ i ∈ is, 0 ≤ i ∧ i < ns.length)
    (he : ∀ (L' : Addr) (A : Around) (s : Shared) (l : List (Str × Value)) (i : Int) (u : Tok) (Q : Value → Shared → Prop) (E : Value → Shared → Prop), Loc C s.heap (genv L').locals l → gl l "k" = some (.int i u) → s.heap.IsCell c (some rowv) → (∃ t vs x, rowv = .ref t ∧ s.heap.IsTuple t vs ∧ 0 ≤ i ∧ i < 2 ^ 63 ∧ vs[i.toNat]? = some x ∧ Q x s) → wpAny (MM C) A (eval elt (genv L')) Q E s) :
    CompIn C A k genv "k" [] elt xv (iL is) Fr [c] [] (fun _ => True) (fun _ => true) (fun d d' => ∀ i, d = .int i → d' = .int (ns.getD i.toNat 0)) s := by
  refine ⟨hit, hFr, hw, by rw [List.length_map]; omega, all1 (live_cell hc hc₀), (fun _ _ h => nomatch h), (fun _ h => nomatch h), (fun _ _ _ _ _ _ _ => trivial), (fun _ _ _ h => nomatch h), trivial, fun L' hL' => ?_⟩
  refine map_inv fun i hi => compOk_elt fun A s₁ l v as Q E hA hw₁ hloc hlk hrd hag _ hq => ?_
  obtain ⟨u, rfl, rfl⟩ := reads_int hrd
  obtain ⟨tt, vs, rfl, htt, hI⟩ := hv.agree hag
  obtain ⟨h0, hlt⟩ := hin i hi
  have hget : ns[i.toNat]? = some (ns.getD i.toNat 0) := by
    have : i.toNat < ns.length := by omega
    simp [List.getD, this]
  obtain ⟨u', hu⟩ := intsAre_get hI hget
  exact he L' A s₁ l i u Q E hloc hlk (hag.cell hc hc₀) ⟨tt, _, _, rfl, htt, h0, by omega, by simpa using hu, hq _ s₁ [] _ (fun j e => by cases e; rfl) (.int _ _) (fun _ h => nomatch h) (.refl s₁) trivial⟩
theorem sel_out {ns is : List Int} {ds' : List PyData} (hP : Paired (fun d d' => ∀ i, d = .int i → d' = .int (ns.getD i.toNat 0)) ((iL is).filter fun _ => true) ds') : ds' = iL (selI ns is) := by
  rw [filter_all] at hP
  have e := paired_to (g := fun i => PyData.int (ns.getD i.toNat 0)) hP fun i _ y hy => hy i rfl
  rw [e]
  simp [selI, List.map_map, Function.comp_def]

/-- the check of partition and index -/
theorem law_7 (FF : Facts C) (hA : Room 60 A) {L d q D : Addr} {pm doc : Value} {lo : List (Str × Value)} {Q : Flow → Shared → Prop} {v : Value} {ns : List Int} {iss : List (List Int)} {as : List Addr} (S : LS C L d q lo s) (hcR : s.heap.IsCell (L + 2) (some v)) (hv : TupI s.heap v ns) (n6 : ns.length ≤ 6)
    (hdr : gl lo "drawn" = some (.ref D)) (hD : Reads s.heap (.ref D) (.list (iss.map lstL)) (D :: as)) (h3 : iss.length = 3) (hb : ∀ is ∈ iss, is.length ≤ 2 ∧ ∀ x ∈ is, 0 ≤ x ∧ x < ns.length)
    (h : ∀ s', LS C L d q lo s' → Stp C [] [] s s' → wpAny (MM C) A (execs (lawBody.drop 9) (lawEnv C L pm doc)) Q E s') :
    wpAny (MM C) A (execs (lawBody.drop 8) (lawEnv C L pm doc)) Q E s := by
  have hw := S.wd
  have hn2 := S.new (L + 2) (Nat.le_add_right L 2)
  refine wpAny_execs_cons (wpAny_If (isTrue_or (wpAny_isTrue_Compare1 (ev_call FF hw 12 (arg2 (ev_cell hcR (ev_local S.loc hdr ⟨hw, partition_ok FF (k := 0) hw (hA.less (by omega)) hv hD (fun is his => ⟨by have := (hb is his).1; omega, (hb is his).2⟩) (by omega) (by omega) fun s₁ P st₁ hrP hPf => ?_⟩) rfl))))))
  have S₁ := S.still st₁
  have hcR₁ := st₁.cell hcR hn2
  have hv₁ := hv.keep st₁
  have hD₁ := st₁.reads hD (fun _ _ h => nomatch h)
  obtain ⟨vs₁, bs₁, eb, hDl, hDr⟩ := reads_list hD₁
  cases eb
  refine ev_lc FF (k := 50) (cl := [("row", L + 2)]) rfl (hA.less (by omega)) (ev_local S₁.loc hdr ⟨_, _, [L + 2], [], fun _ => True, fun _ => true, fun d d' => ∀ is, d = lstL is → d' = tupL (selI ns is), ⟨iterOf_list FF S₁.wd hDl (by simpa using hDr), ?_, S₁.wd, by rw [List.length_map]; omega, all1 (live_cell hcR₁ hn2), (fun _ _ h => nomatch h), (fun _ h => nomatch h), (fun _ _ _ _ _ _ _ => trivial), (fun _ _ _ h => nomatch h), trivial, fun L' hL' => ?_⟩, fun D₂ s₂ ys ds' as' hP st₂ _ hp hD₂ hra has' hDa => ?_⟩)
  · intro a ha
    rcases List.mem_cons.mp ha with rfl | ha
    · obtain ⟨o, e, _⟩ := hDl; exact ⟨o, e⟩
    · exact readsAll_alive hDr a ha
  · refine map_inv fun is his => compOk_elt fun A s₃ l w as₃ Q E hA hw₃ hloc hlk hrd hag _ hq => ?_
    obtain ⟨l₃, xs₃, cs₃, rfl, rfl, hl₃, hr₃⟩ := list_of hrd
    refine ev_callb FF hw₃ (.type "tuple") (arg1 (ev_lc FF (k := 40) (cl := [("row", L + 2)]) rfl (hA.less (by omega)) (ev_local hloc hlk ⟨_, _, _, _, _, _, _, sel_in (is := is) hw₃ (iterOf_list FF hw₃ hl₃ hr₃) ?_ (by have := (hb is his).1; omega) (hag.cell hcR₁ hn2) hn2 (hv₁.agree hag) (by omega) (hb is his).2 (fun L'' A s l i u Q E hl hk hc hx => ?_), fun D₄ s₄ ys₄ ds₄ as₄ hP₄ st₄ _ hp₄ hD₄ hra₄ has₄ hDa₄ => ?_⟩)))
    · intro a ha
      rcases List.mem_cons.mp ha with rfl | ha
      · obtain ⟨o, e, _⟩ := hl₃; exact ⟨o, e⟩
      · exact readsAll_alive hr₃ a ha
    · refine ev_item_tuple (ev_cell hc (ev_local hl hk ?_) rfl)
      obtain ⟨t, vs, x, e, ht, h0, h1, hx, hq⟩ := hx
      exact ⟨t, vs, i, u, x, e, rfl, ht, h0, h1, hx, hq⟩
    · have e := sel_out hP₄
      subst e
      obtain ⟨rfl, hI₄⟩ := reads_ints hra₄
      refine call_tuple_l FF hp₄.isList (by simpa using hra₄) (fun s₅ t₅ st₅ hg₅ ht₅ hr₅ => hq _ s₅ [] (tupL (selI ns is)) (fun is' e => ?_) (TupI.reads ⟨t₅, ys₄, rfl, isTuple_of ht₅, hI₄⟩) (fun _ h => nomatch h) (st₄.trans st₅) trivial) (by have := hI₄.length; have := (hb is his).1; rw [List.size_toArray, ‹ys₄.length = _›]; simp [selI]; omega)
      have e' : iL is = iL is' := by simpa [lstL] using e
      rw [iL_inj e']
  · rw [filter_all] at hP
    have e := paired_to (g := fun is => tupL (selI ns is)) hP fun is _ y hy => hy is rfl
    subst e
    have e := readsAll_tuples (iss := iss.map (selI ns)) (by simpa [Function.comp_def] using hra)
    subst e
    refine ne_same hA (st₂.reads hrP (fun _ _ h => nomatch h)) (plain_reads hp hra) (Sh.list (n := 1) (map_inv fun p _ => sh_tupL _)) (by decide) (wpAny_truthy_bool ?_)
    rw [if_neg Bool.false_ne_true]
    have S₂ := S₁.still st₂
    have hcR₂ := st₂.cell hcR₁ hn2
    have hv₂ := hv₁.keep st₂
    cases iss with
    | nil => cases h3
    | cons is iss =>
    have hb0 := hb is (.head _)
    rw [List.map_cons] at hDr
    obtain ⟨v₀, vs₀, a₀, b₀, rfl, rfl, hr₀, hrs⟩ := readsAll_cons hDr
    have hDl₂ := st₂.list hDl
    have hr₀₂ := st₂.reads hr₀ (fun _ _ h => nomatch h)
    refine isTrue_or (wpAny_isTrue_Compare1 (ev_call FF S₂.wd 6 (arg2 (ev_cell hcR₂ (ev_item_list (ev_local S₂.loc hdr (wpAny_Constant_int ⟨D, _, 0, _, _, rfl, rfl, hDl₂, by decide, by decide, rfl, ⟨S₂.wd, ?_⟩⟩))) rfl))))
    refine index_ok FF (s := { s₂ with toks := s₂.toks + 1 }) (k := 0) S₂.wd (hA.less (by omega)) hv₂ hr₀₂ hb0.2 (by omega) (by omega) fun s₃ r₃ st₃ hT₃ => ?_
    have e3 : Stp C [] [] s₂ s₃ := ⟨st₃.keep, st₃.tup, st₃.there, st₃.gens, st₃.os, st₃.bare, st₃.wd⟩
    have S₃ := S₂.still e3
    have hDl₃ := e3.list hDl₂
    have hr₀₃ := e3.reads hr₀₂ (fun _ _ h => nomatch h)
    obtain ⟨l₀, xs₀, cs₀, rfl, rfl, hl₀, hrr₀⟩ := list_of hr₀₃
    refine ev_callb FF S₃.wd (.type "tuple") (arg1 (ev_lc FF (k := 50) (cl := [("row", L + 2)]) rfl (hA.less (by omega)) (ev_item_list (ev_local S₃.loc hdr (wpAny_Constant_int ⟨D, _, 0, _, _, rfl, rfl, hDl₃, by decide, by decide, rfl, ?_⟩)))))
    have st3' : Stp C [] [] s₃ { s₃ with toks := s₃.toks + 1 } := Stp.tok (s' := s₃) (.refl s₃)
    refine ⟨_, _, _, _, _, _, _, sel_in (s := { s₃ with toks := s₃.toks + 1 }) (is := is) S₃.wd (iterOf_list FF S₃.wd hl₀ hrr₀) ?_ (by omega) (e3.cell hcR₂ hn2) hn2 ((hv₂.keep e3).keep st3') (by omega) hb0.2 (fun L'' A s l i u Q E hl hk hc hx => ?_), fun D₄ s₄ ys₄ ds₄ as₄ hP₄ st₄ _ hp₄ hD₄ hra₄ has₄ hDa₄ => ?_⟩
    · intro a ha
      rcases List.mem_cons.mp ha with rfl | ha
      · obtain ⟨o, e, _⟩ := hl₀; exact ⟨o, e⟩
      · exact readsAll_alive hrr₀ a ha
    · refine ev_item_tuple (ev_cell hc (ev_local hl hk ?_) rfl)
      obtain ⟨t, vs, x, e, ht, h0, h1, hx, hq⟩ := hx
      exact ⟨t, vs, i, u, x, e, rfl, ht, h0, h1, hx, hq⟩
    · have e := sel_out hP₄
      subst e
      obtain ⟨rfl, hI₄⟩ := reads_ints hra₄
      have hyl := hI₄.length
      have e4 : Stp C [] [] s₃ s₄ := ⟨st₄.keep, st₄.tup, st₄.there, st₄.gens, st₄.os, st₄.bare, st₄.wd⟩
      refine call_tuple_l FF hp₄.isList (by simpa using hra₄) (fun s₅ t₅ st₅ hg₅ ht₅ hr₅ => ?_) (by rw [List.size_toArray, hyl]; simp [selI]; omega)
      have e35 := e4.trans st₅
      refine ne_same hA ((hT₃.keep e35).reads) (TupI.reads ⟨t₅, ys₄, rfl, isTuple_of ht₅, hI₄⟩) (sh_tupL (selI ns is)) (by decide) (wpAny_truthy_bool ?_)
      rw [if_neg Bool.false_ne_true]
      refine isTrue_or_nil ?_
      rw [if_neg Bool.false_ne_true]
      exact wpAny_execs_nil (h s₅ (S₃.still e35) (((st₁.trans st₂).trans e3).trans e35))
end
end Mine

namespace Mine
open PySem PySem.Calls PySem.W PyProof.Rows
section
variable {C : Cx} {A : Around} {E : Value → Shared → Prop} {s : Shared} {env : Env}

/-- part[0] if len(part) == 1 else (op,) + part -/
theorem ev_ops (FF : Facts C) {op : Str} {pv : Value} {ps : List Int} {l : List (Str × Value)} {k2 : Nat} {p1 p2 p3 p4 p5 p6 p7 p8 p9 p10 p11 p12 p13 : Pos} {kd1 kd2 kd3 : Nat} {Q : Value → Shared → Prop} (hw : Wd C s.heap) (hloc : Loc C s.heap env.locals l) (hpart : gl l "part" = some pv) (hT : TupI s.heap pv ps) (hpl : ps.length ≤ 1000)
    (h : ∀ s' y, Stp C [] [] s s' → Reads s'.heap y (opOf op ps) [] → Q y s')
    (hk : env.scope.kind = .function := by rfl) (hl : env.kindOf "part" = some .local := by rfl) (hx : env.kindOf "len" = some .globalImplicit := by rfl) (hg : env.globals = mainGlobals := by rfl) (hb : env.builtins = builtinsNs := by rfl) :
    wpAny (MM C) A (eval (.IfExp (.Compare (.Call (.Name "len" p1) [.Name "part" p2] [] p3) [.Eq] [.Constant (.int 1) kd1 p4] p5) (.Subscript (.Name "part" p6) (.Constant (.int 0) kd2 p7) p8) (.BinOp (.Tuple [.Constant (.str op) kd3 p9] k2 p10) .Add (.Name "part" p11) p12) p13) env) Q E s := by
  obtain ⟨tt, vs, rfl, htt, hI⟩ := hT
  have hvl : vs.length = ps.length := hI.length
  refine IfExp_ (wpAny_isTrue_Compare1 (ev_callb FF hw (.builtin "len") (arg1 (ev_local hloc hpart (len_t htt (by omega) fun u' s₅ st₅ => wpAny_Constant_int (eq_int (wpAny_truthy_bool ?_))) (hk := hk) (hl := hl))) (hk := hk) (hx := hx) (hg := hg) (hb := hb)))
  have hl₅ := st₅.loc hloc
  by_cases h1 : ps.length = 1
  · have hb : ((vs.length : Int) == 1) = true := by rw [hvl, h1]; rfl
    rw [hb]
    simp only [if_true]
    have hget : ps[0]? = some (ps.getD 0 0) := by simp [List.getD, h1]
    obtain ⟨u₂, hu⟩ := intsAre_get hI hget
    refine ev_item_tuple (ev_local hl₅ hpart (wpAny_Constant_int ⟨tt, _, 0, _, _, rfl, rfl, st₅.tup2 htt, by omega, by omega, by simpa using hu, ?_⟩) (hk := hk) (hl := hl))
    refine h _ _ (Stp.tok (s' := s₅) st₅) ?_
    simp only [opOf, h1, if_true]
    exact .int _ _
  · have hb : ((vs.length : Int) == 1) = false := by rw [hvl]; simp; omega
    rw [hb]
    simp only [Bool.false_eq_true, if_false]
    refine ev_add (ev_tuple (arg1 (wpAny_Constant_str ⟨by rw [sizeLine_eq]; simp, fun s₆ r st₆ hg₆ hf₆ hr₆ => ev_local ((st₅.trans (⟨st₆.keep, st₆.tup, st₆.there, st₆.gens, st₆.os, st₆.bare, st₆.wd⟩ : Stp C [] [] s₅ s₆)).loc hloc) hpart (add_tup (isTuple_of hr₆) (st₆.tup2 (st₅.tup2 htt)) (fun s₇ r₇ st₇ hr₇ => ?_) (by simp; omega)) (hk := hk) (hl := hl)⟩)))
    obtain ⟨o, e, c, n, d⟩ := hr₇
    have e6 : Stp C [] [] s₅ s₆ := ⟨st₆.keep, st₆.tup, st₆.there, st₆.gens, st₆.os, st₆.bare, st₆.wd⟩
    refine h s₇ _ ((st₅.trans e6).trans st₇) ?_
    simp only [opOf, h1, if_false]
    exact .tuple e c d (as := [] ++ []) (by simpa using ReadsAll.cons (Reads.str op _) (intsAre_reads hI))
end
end Mine

namespace Mine
open PySem PySem.Calls PySem.W PyProof.Rows
section
variable {C : Cx} {A : Around} {E : Value → Shared → Prop} {s : Shared} {env : Env}
theorem paired_tups {P : List Int → Prop} {ds ds' : List PyData} (h : Paired (fun _ d' => ∃ xs : List Int, d' = tupL xs ∧ P xs) ds ds') : ∃ iss : List (List Int), ds' = iss.map tupL ∧ iss.length = ds.length ∧ ∀ is ∈ iss, P is := by
  induction h with
  | nil => exact ⟨[], rfl, rfl, fun _ h => nomatch h⟩
  | cons h _ ih =>
    obtain ⟨xs, rfl, h1⟩ := h
    obtain ⟨iss, rfl, hl, hb⟩ := ih
    refine ⟨xs :: iss, rfl, by simp [hl], fun y hy => ?_⟩
    rcases List.mem_cons.mp hy with rfl | hy
    · exact h1
    · exact hb y hy
/-- lists = [row[: ..] ..] -/
theorem law_9 (FF : Facts C) (hA : Room 60 A) {L d q : Addr} {pm doc : Value} {lo : List (Str × Value)} {Q : Flow → Shared → Prop} {v : Value} {ns : List Int} (S : LS C L d q lo s) (hcR : s.heap.IsCell (L + 2) (some v)) (hv : TupI s.heap v ns) (n1 : 1 ≤ ns.length) (n6 : ns.length ≤ 6)
    (h : ∀ (s' : Shared) (D : Addr) (nss : List (List Int)), LS C L d q (put "lists" (.ref D) lo) s' → Reads s'.heap (.ref D) (.list (nss.map tupL)) [D] → nss.length = 3 → (∀ ms ∈ nss, ms.length ≤ 6) → Stp C [L, d, q] [] s s' → wpAny (MM C) A (execs (lawBody.drop 11) (lawEnv C L pm doc)) Q E s') :
    wpAny (MM C) A (execs (lawBody.drop 10) (lawEnv C L pm doc)) Q E s := by
  have hw := S.wd
  have ap := S.ap L (by simp)
  have ap1 := S.ap (L + 1) (by simp)
  have ap2 := S.ap (L + 2) (by simp)
  have hn1 := S.new (L + 1) (Nat.le_succ L)
  have hn2 := S.new (L + 2) (Nat.le_add_right L 2)
  refine wpAny_execs_cons (st_lc FF (k := 50) (cl := [("row", L + 2), ("draw", L + 1)]) rfl (hA.less (by omega)) (ev_callb FF hw (.type "range") (arg1 (wpAny_Constant_int ?_))) rfl)
  refine call_rng1 FF (by omega) (by omega) fun s₁ r₁ st₁ hg₁ hr₁ hit => ?_
  have e1 : Stp C [] [] s s₁ := ⟨st₁.keep, st₁.tup, st₁.there, st₁.gens, st₁.os, st₁.bare, st₁.wd⟩
  have S₁ := S.still e1
  have hcR₁ := e1.cell hcR hn2
  have hv₁ := hv.keep e1
  have hit₁ := hit s₁ (.refl _) rfl S₁.wd
  refine ⟨_, [], [L + 1, L + 2], [d, q], fun h => DrawAt h d q, fun _ => true, fun _ d' => ∃ xs : List Int, d' = tupL xs ∧ xs.length ≤ 6, lo, ⟨hit₁, (fun _ h => nomatch h), S₁.wd, by decide, all2 (live_cell S₁.cell hn1) (live_cell hcR₁ hn2), all2 (nin2 ap1.1 ap1.2) (nin2 ap2.1 ap2.2), (fun _ _ h => nomatch h), drawAt_J, (fun h x => x.alive), S₁.draw, fun L' hL' => ?_⟩, S₁.loc, (fun h => nomatch h), nin2 ap.1 ap.2, fun D s₂ ys ds' as' hP st₂ hd₂ hp hD hra has hDa hlo₂ => ?_⟩
  · rw [intsFrom_eq]
    refine map_inv fun i hi => compOk_elt fun A s₃ l w as Q E hA hw₃ hloc hlk hrd hag hd hq => ?_
    have hc1 := hag.cell S₁.cell hn1
    have hc2 := hag.cell hcR₁ hn2
    obtain ⟨tt, vs, rfl, htt, hI⟩ := hv₁.agree hag
    have hvl : vs.length = ns.length := hI.length
    refine ev_slice_t (ev_cell hc2 (wpAny_evalPart_none (wpAny_evalPart_some (wpAny_BinOp (wpAny_Constant_int (ev_call FF hw₃ 17 (arg2 (ev_cell hc1 (ev_callb FF hw₃ (.builtin "len") (arg1 (ev_cell hc2 (len_t htt (by omega) fun u s₄ st₄ => ⟨st₄.wd hw₃, ?_⟩) rfl))) rfl))))))) rfl)
    have st₄' : Stp C [] [] s₃ s₄ := ⟨st₄.keep, st₄.tup, st₄.there, st₄.gens, st₄.os, st₄.bare, st₄.wd⟩
    refine take_ok FF (k := 49) (st₄.wd hw₃) hA (hd.step st₄' (fun h => nomatch h) (fun h => nomatch h)) S.dn S.qn (by omega) fun s₅ r t st₅ hg₅ hd₅ h0 h1 => add_int ?_
    have e5 : Stp C [d, q] [] s₃ s₅ := st₄'.wide.andThen st₅ (fun _ h => .inl h) all0 (fun _ h => .inl h) all0
    have eb : (1 + r : Int) = (((1 + r).toNat : Nat) : Int) := by omega
    refine ⟨tt, vs, 0, (1 + r).toNat, rfl, e5.tup2 htt, .none, by rw [eb]; exact .int _ _ (by omega), by omega, by omega, fun s₆ r₆ st₆ hr₆ => ?_⟩
    have e6 : Stp C [] [] s₅ s₆ := ⟨st₆.keep, st₆.tup, st₆.there, st₆.gens, st₆.os, st₆.bare, st₆.wd⟩
    exact hq _ s₆ [] (tupL ((ns.drop 0).take ((1 + r).toNat - 0))) ⟨_, rfl, by rw [List.length_take, List.length_drop]; omega⟩ (TupI.reads ⟨r₆, _, rfl, hr₆, IntsAre.dt hI 0 _⟩) (fun _ h => nomatch h) (e5.more e6 all0) (hd₅.step e6 (fun h => nomatch h) (fun h => nomatch h))
  · rw [filter_all] at hP
    obtain ⟨nss, rfl, hil, hib⟩ := paired_tups hP
    have e := readsAll_tuples hra
    subst e
    have a0 : ∀ a ∈ [L, L + 1], a ∉ [d, q] := all2 (nin2 ap.1 ap.2) (nin2 ap1.1 ap1.2)
    have c1 : L + 1 ∉ L :: [d, q] := fun z => (List.mem_cons.mp z).elim (fun z => absurd z (Nat.succ_ne_self L)) (a0 _ (by simp))
    exact h s₂ D nss ⟨st₂.wd S₁.wd, hlo₂, st₂.cell S₁.cell hn1 c1, hd₂, S.new, S.dn, S.qn, S.ap⟩ (plain_reads hp hra) hil hib (e1.wide.andThen st₂ (fun _ h => .inl h) all0 (fun _ h => .inl h) all0)
end
end Mine

namespace Mine
open PySem PySem.Calls PySem.W PyProof.Rows
section
variable {C : Cx} {A : Around} {E : Value → Shared → Prop} {s : Shared} {env : Env}
theorem ops_out {op : Str} {nss : List (List Int)} {ds' : List PyData} (hP : Paired (fun d d' => ∀ ps, d = tupL ps → d' = opOf op ps) ((nss.map tupL).filter fun _ => true) ds') : ds' = nss.map (opOf op) := by
  rw [filter_all] at hP
  exact paired_to (g := opOf op) hP fun ps _ y hy => hy ps rfl
/-- the check of makeops -/
theorem law_10 (FF : Facts C) (hA : Room 60 A) {L d q D : Addr} {pm doc : Value} {lo : List (Str × Value)} {Q : Flow → Shared → Prop} {nss : List (List Int)} (S : LS C L d q lo s) (hli : gl lo "lists" = some (.ref D)) (hD : Reads s.heap (.ref D) (.list (nss.map tupL)) [D]) (h3 : nss.length = 3) (hb : ∀ ms ∈ nss, ms.length ≤ 6)
    (h : ∀ s', LS C L d q lo s' → Stp C [] [] s s' → wpAny (MM C) A (execs (lawBody.drop 12) (lawEnv C L pm doc)) Q E s') :
    wpAny (MM C) A (execs (lawBody.drop 11) (lawEnv C L pm doc)) Q E s := by
  have hw := S.wd
  refine wpAny_execs_cons (wpAny_If (wpAny_isTrue_Compare1 (ev_call FF hw 11 (arg2 (wpAny_Constant_str (ev_local S.loc hli ⟨hw, ?_⟩))))))
  refine makeops_ok FF (s := { s with toks := s.toks + 1 }) (k := 0) hw (hA.less (by omega)) hD (fun ms hms => by have := hb ms hms; omega) (by omega) fun s₁ r₁ st₁ hr₁ => ?_
  have e1 : Stp C [] [] s s₁ := ⟨st₁.keep, st₁.tup, st₁.there, st₁.gens, st₁.os, st₁.bare, st₁.wd⟩
  have S₁ := S.still e1
  obtain ⟨vs, bs, eb, hDl, hDr⟩ := reads_list (e1.reads hD (fun _ _ h => nomatch h))
  have hb0 : bs = [] := by simpa using eb.symm
  subst hb0
  refine ev_callb FF S₁.wd (.type "tuple") (arg1 (ev_lc FF (k := 50) (cl := []) rfl (hA.less (by omega)) (ev_local S₁.loc hli ⟨_, _, [], [], fun _ => True, fun _ => true, fun d d' => ∀ ps, d = tupL ps → d' = opOf "mul" ps, ⟨iterOf_list FF S₁.wd hDl (by simpa using hDr), all1 (let ⟨o, e, _⟩ := hDl; ⟨o, e⟩), S₁.wd, by rw [List.length_map]; omega, (fun _ h => nomatch h), (fun _ h => nomatch h), (fun _ h => nomatch h), (fun _ _ _ _ _ _ _ => trivial), (fun _ _ _ h => nomatch h), trivial, fun L' hL' => ?_⟩, fun D₂ s₂ ys ds' as' hP st₂ _ hp hD₂ hra has' hDa => ?_⟩)))
  · refine map_inv fun ps hps => compOk_elt fun A s₃ l w as₃ Q E hA hw₃ hloc hlk hrd hag _ hq => ?_
    refine ev_ops FF hw₃ hloc hlk (tupI_of hrd).2 (by have := hb ps hps; omega) fun s₄ y st₄ hy => hq y s₄ [] _ (fun ps' e => ?_) hy (fun _ h => nomatch h) st₄ trivial
    have e' : iL ps = iL ps' := by simpa [tupL] using e
    rw [iL_inj e']
  · have e := ops_out hP
    subst e
    have e := readsAll_ops hra
    subst e
    have hyl := readsAll_length hra
    rw [List.length_map] at hyl
    refine call_tuple_l FF hp.isList (by simpa using hra) (fun s₃ t₃ st₃ hg₃ ht₃ hr₃ => ?_) (by rw [List.size_toArray]; omega)
    have e2 := st₂.trans st₃
    refine ne_same hA (e2.reads hr₁ (fun _ h => nomatch h)) (.tuple ht₃ rfl rfl hr₃) (Sh.tuple (n := 1) (map_inv fun p _ => sh_opOf "mul" (by decide +kernel) p)) (by decide) (wpAny_truthy_bool ?_)
    rw [if_neg Bool.false_ne_true]
    exact wpAny_execs_nil (h s₃ (S₁.still e2) (e1.trans e2))
end
end Mine

namespace Mine
open PySem PySem.Calls PySem.W PyProof.Rows
section
variable {C : Cx}
theorem Wd.kept {h : Heap} (x : Wd C h) {b : Addr} {o : Obj} (e : C.hb.get? b = some o) (hb : b ≠ cStatics) (hc : o.cls ≠ .none ∨ ∀ vs, o.data ≠ .fields vs) : h.get? b = some o := by
  rcases x.old.old b o e with q | ⟨_, c, vs, more, d, _⟩ | ⟨q, _⟩
  · exact q
  · rcases hc with hc | hc
    · exact absurd c hc
    · exact absurd d (hc vs)
  · exact absurd q hb
theorem Wd.nsAt {h : Heap} (x : Wd C h) {a : Addr} {m : Str → Option Value} (n : C.hb.Ns a m) (ha : a ≠ cStatics) : h.Ns a m := by
  obtain ⟨o, es, ep, e, d, r⟩ := n
  exact ⟨o, es, ep, x.kept e ha (.inr fun vs q => by rw [d] at q; cases q), d, r⟩

theorem facts_mk (hg : C.hb.Ns mainGlobals C.mg) (hb : C.hb.Ns builtinsNs C.mb) (hlim : C.hb.NoLimit)
    (bm : BMod C.hb mainGlobals C.mg C.bm C.ob) (bi : ∀ x : Str, x ≠ "__name__" → C.mb x = bootBuiltins x) (nb : ∀ x ∈ biNames, C.mg x = none)
    (tab : ∀ i ∈ tabIx, C.hb.TableAt (C.fc i) (C.fp i) #[]) (hfp : ∀ i ∈ tabIx, C.fp i ≠ cStatics) (tabd : ∀ i ∈ tabIx, ∀ j ∈ tabIx, C.fc i ≠ C.fp j ∧ (i ≠ j → C.fp i ≠ C.fp j))
    (mgf : ∀ i ∈ fnIx, C.mg (nameOf (fnStmt i)) = some (.ref (C.fa i)))
    (fn : ∀ i ∈ fnIx, ∃ o pm doc, C.hb.get? (C.fa i) = some o ∧ o.cls = .type "function" ∧ o.data = .func (docDef (nameOf (fnStmt i)) (paramsOf (fnStmt i)) (bodyOf (fnStmt i)) (scopeOf (fnStmt i)) pm (.ref (C.fc i)) doc))
    (fc : ∀ i ∈ fnIx, ∃ o vs t, C.hb.get? (C.fc i) = some o ∧ o.cls = .type "code" ∧ o.data = .fields vs ∧ vs[1]? = some (.str (nameOf (fnStmt i)) t))
    (fst : ∀ i ∈ fnIx, C.fa i ≠ cStatics ∧ C.fc i ≠ cStatics) (hpin : C.pin = none := by rfl) : Facts C where
  nb := nb
  g := fun h x => x.nsAt hg (by decide)
  b := fun h x => x.nsAt hb (by decide)
  lim := fun h x => by
    obtain ⟨mc, ⟨o, es, ep, e, r⟩, hm⟩ := hlim
    exact ⟨mc, ⟨o, es, ep, x.stat o e, r⟩, hm⟩
  bmod := fun h x => ⟨x.nsAt hg (by decide), bm.name, bm.ne, x.kept bm.obj (fun q => by obtain ⟨mc, ⟨o, es, ep, e, d, _⟩, hm⟩ := hlim; have eo := bm.obj; rw [q, e] at eo; cases eo; have := bm.data; rw [d] at this; cases this) (.inl (by rw [bm.cls]; nofun)), bm.cls, bm.dict, bm.data⟩
  bi := bi
  stat := let ⟨_, ⟨o, _, _, e, _⟩, _⟩ := hlim; ⟨o, e⟩
  pinf := fun p hp => by rw [hpin] at hp; cases hp
  tabl := fun i hi => by
    obtain ⟨⟨o, vs, e, _⟩, e'⟩ := tab i hi
    exact ⟨⟨o, e⟩, ⟨_, e'⟩⟩
  tab0 := fun i hi => ⟨tab i hi, hfp i hi⟩
  tabd := tabd
  mgf := mgf
  fn := fun i hi h x => by
    obtain ⟨o, pm, doc, e, hc, hd⟩ := fn i hi
    obtain ⟨oc, vs, t, ec, hcc, hdc, hq⟩ := fc i hi
    exact ⟨o, pm, doc, x.kept e (fst i hi).1 (.inl (by rw [hc]; nofun)), hc, hd, _, oc, vs, t, rfl, x.kept ec (fst i hi).2 (.inl (by rw [hcc]; nofun)), hdc, hq⟩
theorem tab_of {mg : Str → Option Value} {h : Heap} {a a₀ c c₀ P P₀ : Addr} {oo oo₀ oc₀ : Obj} {fd fd₀ : FuncData} {name : Str} {vs₀ : Array Value} (h1 : mg name = some (.ref a)) (hm : mg name = some (.ref a₀)) (h2 : h.get? a = some oo) (hk : h.get? a₀ = some oo₀) (h3 : oo.data = .func fd) (h30 : oo₀.data = .func fd₀)
    (h4 : fd.code = .ref c) (h40 : fd₀.code = .ref c₀) (h6 : h.TableAt c P #[]) (hc : h.get? c₀ = some oc₀) (hd : oc₀.data = .fields vs₀) (hv : vs₀[11]? = some (.ref P₀)) : h.TableAt c₀ P₀ #[] := by
  rw [h1] at hm; cases hm
  rw [h2] at hk; cases hk
  rw [h3] at h30; cases h30
  rw [h4] at h40; cases h40
  obtain ⟨⟨o, vs, e, hcl, hd', hv'⟩, hP⟩ := h6
  rw [e] at hc; cases hc
  rw [hd'] at hd; cases hd
  rw [hv'] at hv; cases hv
  exact ⟨⟨_, _, e, hcl, hd', hv'⟩, hP⟩
end
end Mine

namespace Mine
open PySem PySem.Calls PySem.W PyProof.Rows
section
variable {C : Cx} {A : Around} {E : Value → Shared → Prop} {s : Shared} {env : Env}
theorem partedAt_len (ns : List Int) : ∀ (zs : List Int) (a : Nat), (partedAt ns a zs).length = zs.length
  | [], _ => rfl
  | z :: zs, a => by rw [partedAt, List.length_cons, List.length_cons, partedAt_len ns zs]
theorem partedAt_mem (ns : List Int) : ∀ (zs : List Int) (a : Nat), ∀ p ∈ partedAt ns a zs, p.length ≤ ns.length
  | [], _, _, h => nomatch h
  | z :: zs, a, p, h => by
    rcases List.mem_cons.mp h with rfl | h
    · rw [List.length_take, List.length_drop]; omega
    · exact partedAt_mem ns zs _ p h
def dueD (ns : List Int) (p : List Int) : PyData := .tuple ((partedAt ns 0 p).map (opOf "add"))
theorem readsAll_due {ns : List Int} {h : Heap} : ∀ {iss : List (List Int)} {vs : List Value} {as : List Addr}, ReadsAll h vs (iss.map (dueD ns)) as → as = []
  | [], _, _, r => by cases r; rfl
  | is :: iss, _, _, r => by
    obtain ⟨v, vs, a, b, rfl, rfl, r, rs⟩ := readsAll_cons r
    rw [readsAll_due rs, List.append_nil]
    simp only [dueD] at r
    cases r with
    | tuple e hc hd r => exact readsAll_ops r
def forBody : Stmt → List Stmt
  | .For _ _ b _ _ => b
  | _ => []
def asBody : List Stmt := forBody (lawBody.getD 9 (.Pass ⟨0, 0, 0, 0⟩))
def asIBody : List Stmt := forBody (asBody.getD 1 (.Pass ⟨0, 0, 0, 0⟩))

def AsI (C : Cx) (L d q Du : Addr) (v nv : Value) (ns : List Int) (all : List (List Int)) (rem : List PyData) (K : List Addr) (s : Shared) : Prop :=
  ∃ (zss done : List (List Int)) (lo : List (Str × Value)) (ys : List Value), rem = zss.map tupL ∧ done ++ zss = all ∧ LS C L d q lo s ∧ gl lo "due" = some (.ref Du) ∧ gl lo "n" = some nv ∧ s.heap.IsCell (L + 2) (some v) ∧ TupI s.heap v ns ∧ s.heap.PlainList Du ys.toArray ∧ ReadsAll s.heap ys (done.map (dueD ns)) [] ∧ K = [L, L + 1, L + 2, d, q, Du]

theorem as_inner (FF : Facts C) (hA : Room 60 A) {L d q Du : Addr} {v nv : Value} {ns : List Int} {all : List (List Int)} {pm doc : Value} (n6 : ns.length ≤ 6) (hDu₀ : C.h₀.get? Du = none) (hDn : ∀ a ∈ [L, L + 1, L + 2, d, q], Du ≠ a)
    (hall : ∀ p ∈ all, (∀ z ∈ p, 0 ≤ z) ∧ p.sum = ns.length ∧ p.length ≤ 4) (hal : all.length ≤ 1000) (hn2 : C.h₀.get? (L + 2) = none) (h2d : L + 2 ≠ d ∧ L + 2 ≠ q) :
    LoopOk C A (lawEnv C L pm doc) "sizes" asIBody [L, Du] (AsI C L d q Du v nv ns all) where
  stable := by
    rintro rem K W V s s' st hK ⟨zss, done, lo, ys, hrem, hda, S, h1, h2, hcR, hv, hp, hr, rfl⟩
    refine ⟨zss, done, lo, ys, hrem, hda, S.step st (fun a ha => hK a ?_), h1, h2, st.cell hcR hn2 (hK _ (by simp)), hv.keep st, st.plain hp (hK _ (by simp)), st.readsAll hr (fun _ h => nomatch h), rfl⟩
    simp only [List.mem_cons, List.not_mem_nil, or_false] at ha ⊢
    rcases ha with rfl | rfl | rfl | rfl <;> simp
  alive := by
    rintro rem K s ⟨zss, done, lo, ys, hrem, hda, S, h1, h2, hcR, hv, hp, hr, rfl⟩ a ha
    simp only [List.mem_cons, List.not_mem_nil, or_false] at ha
    rcases ha with rfl | rfl | rfl | rfl | rfl | rfl
    · exact loc_alive S.loc
    · exact alive_cell S.cell
    · exact alive_cell hcR
    · exact S.draw.alive _ (by simp)
    · exact S.draw.alive _ (by simp)
    · exact plain_alive hp
  sub := by
    rintro rem K s ⟨zss, done, lo, ys, hrem, hda, S, h1, h2, hcR, hv, hp, hr, rfl⟩ a ha
    simp only [List.mem_cons, List.not_mem_nil, or_false] at ha ⊢
    rcases ha with rfl | rfl <;> simp
  turn := by
    rintro d' rem K s w as E' ⟨zss, done, lo, ys, hrem, hda, S, h1, h2, hcR, hv, hp, hr, rfl⟩ hw hrd has
    cases zss with
    | nil => cases hrem
    | cons p zss =>
    injection hrem with e1 e2
    subst e1 e2
    have hpa : p ∈ all := by rw [← hda]; simp
    obtain ⟨hp0, hps, hp4⟩ := hall p hpa
    obtain ⟨rfl, hT⟩ := tupI_of hrd
    have n2L : L + 2 ≠ L := Nat.ne_of_gt (Nat.lt_succ_of_lt (Nat.lt_succ_self L))
    have nDL := hDn L (by simp)
    refine st_local FF S.loc fun s₁ hlo₁ st₁ hg₁ => ?_
    have S₁ := S.set st₁ hlo₁
    have hcR₁ := st₁.cell hcR hn2 (nin1 n2L)
    have hv₁ := hv.keep st₁
    have hT₁ := hT.keep st₁
    have hp₁ := st₁.plain hp (nin1 nDL)
    have hr₁ := st₁.readsAll hr (fun _ h => nomatch h)
    refine wpAny_execs_cons (ex_append FF (ev_local hlo₁ (put_ne h1) ⟨Du, rfl, ⟨_, hp₁⟩, ?_⟩))
    refine ev_callb FF S₁.wd (.type "tuple") (arg1 (ev_lc FF (k := 50) (cl := []) rfl (hA.less (by omega)) (ev_call FF S₁.wd 19 (arg2 (ev_cell hcR₁ (ev_local hlo₁ put_eq ⟨S₁.wd, ?_⟩) rfl)))))
    refine parted_ok FF (k := 0) (tup := true) (ras := []) S₁.wd (hA.less (by omega)) ⟨hv₁, rfl⟩ hT₁ hp0 (by omega) (by omega) (by omega) fun s₂ P as₂ st₂ hr₂ => ?_
    have hr₂ : Reads s₂.heap (.ref P) (.list ((partedAt ns 0 p).map tupL)) (P :: as₂) := hr₂
    have S₂ := S₁.still st₂
    obtain ⟨vs, bs, eb, hDl, hDr⟩ := reads_list hr₂
    have e := readsAll_tuples hDr
    subst e
    refine ⟨_, _, [], [], fun _ => True, fun _ => true, fun d d' => ∀ ps, d = tupL ps → d' = opOf "add" ps, ⟨iterOf_list FF S₂.wd hDl (by simpa using hDr), all1 (let ⟨o, e, _⟩ := hDl; ⟨o, e⟩), S₂.wd, by rw [List.length_map, partedAt_len]; omega, (fun _ h => nomatch h), (fun _ h => nomatch h), (fun _ h => nomatch h), (fun _ _ _ _ _ _ _ => trivial), (fun _ _ _ h => nomatch h), trivial, fun L' hL' => ?_⟩, fun D₂ s₃ ys₃ ds' as' hP st₃ _ hp₃ hD₃ hra has' hDa => ?_⟩
    · refine map_inv fun ps hps => compOk_elt fun A s₃ l w as₃ Q E hA hw₃ hloc hlk hrd hag _ hq => ?_
      refine ev_ops FF hw₃ hloc hlk (tupI_of hrd).2 (by have := partedAt_mem ns p 0 ps hps; omega) fun s₄ y st₄ hy => hq y s₄ [] _ (fun ps' e => ?_) hy (fun _ h => nomatch h) st₄ trivial
      have e' : iL ps = iL ps' := by simpa [tupL] using e
      rw [iL_inj e']
    · have e := ops_out hP
      subst e
      have e := readsAll_ops hra
      subst e
      have hyl := readsAll_length hra
      rw [List.length_map, partedAt_len] at hyl
      refine call_tuple_l FF hp₃.isList (by simpa using hra) (fun s₄ t₄ st₄ hg₄ ht₄ hr₄ => ?_) (by rw [List.size_toArray]; omega)
      have st24 : Stp C [] [] s₁ s₄ := (st₂.trans st₃).trans st₄
      have hp₄ := st24.plain hp₁
      have hr₄' := st24.readsAll hr₁ (fun _ h => nomatch h)
      have hyl' := readsAll_length hr₁
      rw [List.length_map] at hyl'
      have hdl : done.length ≤ 1000 := by have := congrArg List.length hda; rw [List.length_append] at this; omega
      refine ⟨ys, hp₄, by omega, hDu₀, fun s₅ st₅ hg₅ hp₅ => wpAny_execs_nil ⟨rfl, ?_, _, ⟨zss, done ++ [p], put "sizes" w lo, _, rfl, by simpa using hda, ?_, put_ne h1, put_ne h2, ?_, (hv₁.keep st24).keep st₅, hp₅, ?_, rfl⟩, fun a h => .inl h⟩⟩
      · exact ((st₁.mono (W' := [L, Du]) (fun a h => by rw [List.mem_singleton.mp h]; exact .head _) fun _ h => h).more st24 all0).more st₅ (all1 (.inl (.tail _ (.head _))))
      · refine (S₁.still st24).step st₅ fun a ha => nin1 ?_
        simp only [List.mem_cons, List.not_mem_nil, or_false] at ha
        rcases ha with rfl | rfl | rfl | rfl
        · exact nDL.symm
        · exact (hDn _ (by simp)).symm
        · exact (hDn _ (by simp)).symm
        · exact (hDn _ (by simp)).symm
      · exact st₅.cell (st24.cell hcR₁ hn2) hn2 (nin1 (hDn (L + 2) (by simp)).symm)
      · rw [List.map_append]
        exact readsAll_append (as := []) (bs := []) (st₅.readsAll hr₄' (fun _ h => nomatch h)) (readsAll_one (st₅.reads (.tuple ht₄ rfl rfl (by simpa [dueD] using hr₄)) (fun _ h => nomatch h)))
end
end Mine

namespace Mine
open PySem PySem.Calls PySem.W PyProof.Rows
section
variable {C : Cx} {A : Around} {E : Value → Shared → Prop} {s : Shared} {env : Env}

theorem assoc_due {ns p : List Int} (h0 : ∀ z ∈ p, 0 ≤ z) (hs : p.sum = ns.length) : assocD "add" ns p = dueD ns p := by
  unfold assocD dueD
  rw [show partsFrom 0 p = partsFrom ((0 : Nat) : Int) p from rfl, sel_parts ns p 0 h0 (by omega)]

def AsO (C : Cx) (L d q : Addr) (v : Value) (ns : List Int) (rem : List PyData) (K : List Addr) (s : Shared) : Prop :=
  ∃ (is : List Int) (lo : List (Str × Value)), rem = iL is ∧ (∀ i ∈ is, 1 ≤ i ∧ i ≤ 4) ∧ LS C L d q lo s ∧ s.heap.IsCell (L + 2) (some v) ∧ TupI s.heap v ns ∧ K = [L, L + 1, L + 2, d, q]

theorem as_outer (FF : Facts C) (hA : Room 60 A) {L d q : Addr} {v : Value} {ns : List Int} {pm doc : Value} (n1 : 1 ≤ ns.length) (n6 : ns.length ≤ 6) (hn2 : C.h₀.get? (L + 2) = none) (h2d : L + 2 ≠ d ∧ L + 2 ≠ q) :
    LoopOk C A (lawEnv C L pm doc) "n" asBody [L] (AsO C L d q v ns) where
  stable := by
    rintro rem K W V s s' st hK ⟨is, lo, hrem, hb, S, hcR, hv, rfl⟩
    refine ⟨is, lo, hrem, hb, S.step st (fun a ha => hK a ?_), st.cell hcR hn2 (hK _ (by simp)), hv.keep st, rfl⟩
    simp only [List.mem_cons, List.not_mem_nil, or_false] at ha ⊢
    rcases ha with rfl | rfl | rfl | rfl <;> simp
  alive := by
    rintro rem K s ⟨is, lo, hrem, hb, S, hcR, hv, rfl⟩ a ha
    simp only [List.mem_cons, List.not_mem_nil, or_false] at ha
    rcases ha with rfl | rfl | rfl | rfl | rfl
    · exact loc_alive S.loc
    · exact alive_cell S.cell
    · exact alive_cell hcR
    · exact S.draw.alive _ (by simp)
    · exact S.draw.alive _ (by simp)
  sub := by
    rintro rem K s ⟨is, lo, hrem, hb, S, hcR, hv, rfl⟩ a ha
    rw [List.mem_singleton.mp ha]; simp
  turn := by
    rintro d' rem K s w as E' ⟨is, lo, hrem, hb, S, hcR, hv, rfl⟩ hw hrd has
    cases is with
    | nil => cases hrem
    | cons i is =>
    injection hrem with e1 e2
    subst e1 e2
    obtain ⟨i1, i4⟩ := hb i (.head _)
    obtain ⟨u, rfl, rfl⟩ := reads_int hrd
    obtain ⟨n, rfl⟩ : ∃ n : Nat, i = (n : Int) + 1 := ⟨(i - 1).toNat, by omega⟩
    have n2L : L + 2 ≠ L := Nat.ne_of_gt (Nat.lt_succ_of_lt (Nat.lt_succ_self L))
    refine st_local FF S.loc fun s₁ hlo₁ st₁ hg₁ => ?_
    have S₁ := S.set st₁ hlo₁
    refine wpAny_execs_cons (wpAny_Assign_Name (ev_list (wpAny_items_nil ⟨by rw [sizeLine_eq]; simp, fun s₂ Du st₂ hg₂ hDf hDu => ?_⟩)))
    have S₂ := S₁.still st₂
    refine st_local FF S₂.loc fun s₃ hlo₃ st₃ hg₃ => ?_
    have S₃ := S₂.set st₃ hlo₃
    have hcR₁ := st₁.cell hcR hn2 (nin1 n2L)
    have hcR₃ := st₃.cell (st₂.cell hcR₁ hn2) hn2 (nin1 n2L)
    have hv₃ := ((hv.keep st₁).keep st₂).keep st₃
    have hDu₀ := S₁.wd.none hDf
    have hDn : ∀ a ∈ [L, L + 1, L + 2, d, q], Du ≠ a := by
      intro a ha
      simp only [List.mem_cons, List.not_mem_nil, or_false] at ha
      rcases ha with rfl | rfl | rfl | rfl | rfl
      · exact dead_of hDf (loc_alive hlo₁)
      · exact dead_of hDf (alive_cell S₁.cell)
      · exact dead_of hDf (alive_cell hcR₁)
      · exact dead_of hDf (S₁.draw.alive _ (by simp))
      · exact dead_of hDf (S₁.draw.alive _ (by simp))
    have st13 : Stp C [L] [] s s₃ := (st₁.more st₂ all0).more st₃ (all1 (.inl (.head _)))
    have hDfs : s.heap.get? Du = none := (st₁.none_of hDf).elim (fun z => (hDn L (by simp) (List.mem_singleton.mp z)).elim) id
    have hDu₃ := st₃.plain hDu (nin1 (hDn L (by simp)))
    have hn₃ : gl (put "due" (.ref Du) (put "n" (.int ((n : Int) + 1) u) lo)) "n" = some (.int ((n : Int) + 1) u) := put_ne put_eq
    obtain ⟨tt, vs, rfl, htt, hI⟩ := id hv₃
    have hvl : vs.length = ns.length := hI.length
    refine wpAny_execs_cons (ex_forI hA (ev_call FF S₃.wd 18 (arg2 (ev_callb FF S₃.wd (.builtin "len") (arg1 (ev_cell hcR₃ (len_t htt (by omega) fun u' s₄ st₄ => ev_local (st₄.loc hlo₃) hn₃ ⟨st₄.wd S₃.wd, ?_⟩) rfl))))))
    rw [show (n : Int) + 1 = ((n + 1 : Nat) : Int) by push_cast; rfl, hvl]
    refine sizes_ok FF (k := 0) (st₄.wd S₃.wd) (hA.less (by omega)) (by omega) (by omega) fun s₅ D₅ st₅ hr₅ hf₅ => ?_
    rw [← gsz_eq n ns.length (by omega) (by omega) (by omega)] at hr₅
    have e35 : Stp C [] [] s₃ s₅ := (⟨st₄.keep, st₄.tup, st₄.there, st₄.gens, st₄.os, st₄.bare, st₄.wd⟩ : Stp C [] [] s₃ s₄).trans st₅
    have S₅ := S₃.still e35
    obtain ⟨vs₅, bs₅, eb, hDl, hDr⟩ := reads_list hr₅
    have hb0 : bs₅ = [] := by simpa using eb.symm
    subst hb0
    have hall : ∀ p ∈ gsz n ns.length, (∀ z ∈ p, 0 ≤ z) ∧ p.sum = ns.length ∧ p.length ≤ 4 := fun p hp => by
      obtain ⟨h1, h2⟩ := gsz_mem n ns.length (by omega) p hp
      exact ⟨fun z hz => (h1 z hz).1, h2, by rw [gsz_len n _ p hp]; omega⟩
    have hal := gsz_few n ns.length (by omega) (by omega) (by omega)
    have hcR₅ := e35.cell hcR₃ hn2
    refine ⟨_, _, [L, Du], _, AsI C L d q Du (.ref tt) (.int ((n : Int) + 1) u) ns (gsz n ns.length), iterOf_list FF S₅.wd hDl (by simpa using hDr), S₅.wd, as_inner FF hA n6 hDu₀ hDn hall hal hn2 h2d, ⟨gsz n ns.length, [], _, [], rfl, rfl, S₅, put_eq, hn₃, hcR₅, hv₃.keep e35, e35.plain hDu₃, .nil, rfl⟩, ?_, fun s₆ K₆ hJ st₆ hKK => ?_⟩
    · intro a ha q
      rw [List.mem_singleton.mp ha] at q
      have hfD : s₃.heap.get? D₅ = none := (⟨st₄.keep, st₄.tup, st₄.there, st₄.gens, st₄.os, st₄.bare, st₄.wd⟩ : Stp C [] [] s₃ s₄).fresh hf₅
      simp only [List.mem_cons, List.not_mem_nil, or_false] at q
      rcases q with rfl | rfl | rfl | rfl | rfl | rfl
      · exact dead_of hfD (loc_alive hlo₃) rfl
      · exact dead_of hfD (alive_cell S₃.cell) rfl
      · exact dead_of hfD (alive_cell hcR₃) rfl
      · exact dead_of hfD (S₃.draw.alive _ (by simp)) rfl
      · exact dead_of hfD (S₃.draw.alive _ (by simp)) rfl
      · exact dead_of hfD (plain_alive hDu₃) rfl
    · obtain ⟨zss, done, lo₆, ys, hrem₆, hda, S₆, h1, h2, hcR₆, hv₆, hp₆, hr₆, rfl⟩ := hJ
      have hz : zss = [] := by
        cases zss with
        | nil => rfl
        | cons _ _ => cases hrem₆
      subst hz
      rw [List.append_nil] at hda
      subst hda
      have st36 : Stp C [L, Du] [] s₃ s₆ := e35.wide.andThen st₆ (fun _ h => .inl h) all0 (fun _ h => .inl h) all0
      have st06 : Stp C [L] [] s s₆ := st13.andThen st36 (fun _ h => .inl h) all0 (all2 (.inl (.head _)) (.inr hDfs)) all0
      refine wpAny_execs_cons (wpAny_If (wpAny_isTrue_Compare1 (ev_callb FF S₆.wd (.type "list") (arg1 (ev_call FF S₆.wd 10 (wpAny_items_cons (wpAny_Constant_str (arg2 (ev_cell hcR₆ (ev_local S₆.loc h2 ⟨S₆.wd, ?_⟩) rfl))) rfl))))))
      refine assocsized_ok FF (s := { s₆ with toks := s₆.toks + 1 }) (k := 20) S₆.wd hA hv₆ (by omega) (by omega) fun s₇ a₇ F₇ st₇ hit₇ hT₇ hF₇ hV₇ => ?_
      have e7 : Stp C [] [] s₆ s₇ := ⟨st₇.keep, st₇.tup, st₇.there, st₇.gens, st₇.os, st₇.bare, st₇.wd⟩
      have S₇ := S₆.still e7
      refine call_list_it FF S₇.wd hit₇ (hA.less (by omega)) (lazy_gen hT₇) (by rw [List.length_map]; omega) fun s₈ S₈ acc as₈ hS₈ st₈ hp₈ hr₈ ha₈ hna₈ => ?_
      have e8 : Stp C [] [] s₆ s₈ := e7.andThen st₈ (fun _ h => nomatch h) all0 (fun a ha => .inr (hF₇ a (List.mem_append_left _ ha))) (fun j hj => .inr (hV₇ j hj))
      have S₈' := S₆.still e8
      rw [show (gsz n ns.length).map (assocD "add" ns) = (gsz n ns.length).map (dueD ns) from List.map_congr_left fun p hp => assoc_due (hall p hp).1 (hall p hp).2.1] at hr₈
      refine ev_local S₈'.loc h1 ?_
      have hrd₈ := plain_reads (e8.plain hp₆) (e8.readsAll hr₆ (fun _ h => nomatch h))
      refine ne_same hA (plain_reads (ys := acc.toList) (by simpa using hp₈) hr₈) hrd₈ (Sh.list (n := 2) (map_inv fun p _ => Sh.tuple (n := 1) (map_inv fun ps _ => sh_opOf "add" (by decide +kernel) ps))) (by decide) (wpAny_truthy_bool ?_)
      rw [if_neg Bool.false_ne_true]
      have st08 : Stp C [L] [] s s₈ := st06.more e8 all0
      exact wpAny_execs_nil (wpAny_execs_nil ⟨rfl, st08, _, ⟨is, lo₆, rfl, fun j hj => hb j (.tail _ hj), S₈', e8.cell hcR₆ hn2, hv₆.keep e8, rfl⟩, fun a h => .inl h⟩)

/-- the check of assocsized -/
theorem law_8 (FF : Facts C) (hA : Room 60 A) {L d q : Addr} {pm doc : Value} {lo : List (Str × Value)} {Q : Flow → Shared → Prop} {v : Value} {ns : List Int} (S : LS C L d q lo s) (hcR : s.heap.IsCell (L + 2) (some v)) (hv : TupI s.heap v ns) (n1 : 1 ≤ ns.length) (n6 : ns.length ≤ 6)
    (h : ∀ s' lo', LS C L d q lo' s' → Stp C [L] [] s s' → wpAny (MM C) A (execs (lawBody.drop 10) (lawEnv C L pm doc)) Q E s') :
    wpAny (MM C) A (execs (lawBody.drop 9) (lawEnv C L pm doc)) Q E s := by
  have hw := S.wd
  have ap2 := S.ap (L + 2) (by simp)
  have hn2 := S.new (L + 2) (Nat.le_add_right L 2)
  refine wpAny_execs_cons (ex_forI hA (ev_callb FF hw (.type "range") (arg2 (wpAny_Constant_int (wpAny_Constant_int ?_)))))
  refine call_rng2 FF (by omega) (by omega) (by omega) (by omega) fun s₁ r₁ st₁ hg₁ hr₁ hit => ?_
  have e1 : Stp C [] [] s s₁ := ⟨st₁.keep, st₁.tup, st₁.there, st₁.gens, st₁.os, st₁.bare, st₁.wd⟩
  have S₁ := S.still e1
  have hit₁ := hit s₁ (.refl _) rfl S₁.wd
  rw [intsFrom_eq] at hit₁
  refine ⟨_, [], [L], _, AsO C L d q v ns, hit₁, S₁.wd, as_outer FF hA n1 n6 hn2 ap2, ⟨intsUp 1 (5 - 1 : Int).toNat, lo, rfl, by decide, S₁, e1.cell hcR hn2, hv.keep e1, rfl⟩, (fun _ h => nomatch h), fun s₂ K₂ hJ st₂ hKK => ?_⟩
  obtain ⟨is, lo₂, hrem, hb, S₂, hcR₂, hv₂, rfl⟩ := hJ
  exact h s₂ lo₂ S₂ (e1.wide.andThen st₂ (fun _ h => .inl h) all0 (fun _ h => .inl h) all0)
end
end Mine

namespace Mine
open PySem PySem.Calls PySem.W PyProof.Rows
section
variable {C : Cx} {A : Around} {E : Value → Shared → Prop} {s : Shared} {env : Env}

/-- a list of ints, in a cell -/
structure Row (C : Cx) (h : Heap) (c R : Addr) (xs : List Int) : Prop where
  cell : h.IsCell c (some (.ref R))
  c₀ : C.h₀.get? c = none
  reads : Reads h (.ref R) (lstL xs) [R]
theorem Row.list {h : Heap} {c R : Addr} {xs : List Int} (r : Row C h c R xs) : ∃ vs, h.IsList R (List.toArray vs) ∧ IntsAre vs xs := by
  obtain ⟨vs, bs, eb, hl, hr⟩ := reads_list r.reads
  exact ⟨vs, hl, (reads_ints hr).2⟩
theorem Row.step {c R : Addr} {xs : List Int} {W : List Addr} {V : List Nat} {s s' : Shared} (r : Row C s.heap c R xs) (st : Stp C W V s s') (hc : c ∉ W) (hR : R ∉ W) : Row C s'.heap c R xs :=
  ⟨st.cell r.cell r.c₀ hc, r.c₀, st.reads r.reads (all1 hR)⟩
theorem Row.still {c R : Addr} {xs : List Int} {s s' : Shared} (r : Row C s.heap c R xs) (st : Stp C [] [] s s') : Row C s'.heap c R xs := r.step st (fun h => nomatch h) (fun h => nomatch h)
theorem Row.agree {c R : Addr} {xs : List Int} {F : List Addr} {V : List Nat} {s s' : Shared} (r : Row C s.heap c R xs) (ag : Agree C F V s s') (hc : c ∈ F) (hR : R ∈ F) : Row C s'.heap c R xs :=
  ⟨ag.cell r.cell r.c₀ hc, r.c₀, ag.reads r.reads (all1 hR)⟩
theorem Row.live {h : Heap} {c R : Addr} {xs : List Int} (r : Row C h c R xs) : Live C h c ∧ Live C h R := by
  refine ⟨live_cell r.cell r.c₀, ?_⟩
  obtain ⟨vs, ⟨o, e, hc, _⟩, _⟩ := r.list
  exact ⟨o, e, .inr (by rw [hc]; nofun)⟩
theorem Row.aliveR {h : Heap} {c R : Addr} {xs : List Int} (r : Row C h c R xs) : ∃ o, h.get? R = some o := r.live.2.some

def keepF (rs : List Int) (i : Int) : Bool := !((rs.take i.toNat).any (· == rs.getD i.toNat 0))
def keepP (rs : List Int) : PyData → Bool
  | .int i => keepF rs i
  | _ => false
def keepBy (xs rs : List Int) : List Int := ((intsUp 0 xs.length).filter (keepF rs)).map fun i => xs.getD i.toNat 0
theorem keepP_int (rs : List Int) (i : Int) : keepP rs (.int i) = keepF rs i := rfl
theorem keep_filter (rs : List Int) : ∀ is : List Int, (iL is).filter (keepP rs) = iL (is.filter (keepF rs))
  | [] => rfl
  | i :: is => by
    show (PyData.int i :: iL is).filter (keepP rs) = _
    rw [List.filter_cons, List.filter_cons, keep_filter rs is, keepP_int]
    split <;> rfl
theorem keep_out {xs rs : List Int} {ds' : List PyData} (hP : Paired (fun d d' => ∀ i, d = .int i → d' = .int (xs.getD i.toNat 0)) ((iL (intsUp 0 xs.length)).filter (keepP rs)) ds') : ds' = iL (keepBy xs rs) := by
  rw [keep_filter] at hP
  have e := paired_to (g := fun i => PyData.int (xs.getD i.toNat 0)) hP fun i _ y hy => hy i rfl
  rw [e]
  simp [keepBy, iL, List.map_map, Function.comp_def]

/-- X[k] not in X[:k] -/
theorem keep_test {genv : Env} {X : Str} {c R : Addr} {rs : List Int} {i : Int} {u : Tok} {l : List (Str × Value)} {p1 p2 p3 p4 p5 p6 p7 p8 : Pos} {Q : Bool → Shared → Prop} (hr : Row C s.heap c R rs) (hloc : Loc C s.heap genv.locals l) (hlk : gl l "k" = some (.int i u)) (h0 : 0 ≤ i) (hi : i < rs.length) (hl : rs.length ≤ 1000)
    (h : ∀ s', Stp C [] [] s s' → Q (keepP rs (.int i)) s')
    (hk : genv.scope.kind = .function := by rfl) (hx : genv.kindOf X = some .cell := by rfl) (hc : genv.cells.lookup X = some c := by rfl) (hd : (X == ("__debug__" : Str)) = false := by decide) (hlk' : genv.kindOf "k" = some .local := by rfl) :
    wpAny (MM C) A (testsOf genv [.Compare (.Subscript (.Name X p1) (.Name "k" p2) p3) [.NotIn] [.Subscript (.Name X p4) (.Slice none (some (.Name "k" p5)) none p6) p7] p8]) Q E s := by
  obtain ⟨vs, hvl, hI⟩ := hr.list
  have hlen : vs.length = rs.length := hI.length
  have hget : rs[i.toNat]? = some (rs.getD i.toNat 0) := by
    have : i.toNat < rs.length := by omega
    simp [List.getD, this]
  obtain ⟨u', hu⟩ := intsAre_get hI hget
  have ei : i = ((i.toNat : Nat) : Int) := by omega
  refine one_test (wpAny_isTrue_Compare1 (ev_item_list (ev_cell hr.cell (ev_local hloc hlk ⟨R, _, i, u, _, rfl, rfl, hvl, h0, by omega, by simpa using hu, ?_⟩ rfl hk hlk') hc rfl hk hx hd)))
  refine ev_slice_l (ev_cell hr.cell (wpAny_evalPart_none (wpAny_evalPart_some (ev_local hloc hlk ⟨R, vs, none, some i.toNat, vs.take i.toNat, rfl, hvl, .none, by rw [ei]; exact .int _ u, by simpa using slicePick_upto' vs.toArray i.toNat, by omega, fun s₁ r₁ st₁ hf₁ hp₁ => ?_⟩ rfl hk hlk'))) hc rfl hk hx hd)
  refine notin_list_ints hp₁.isList (hI.take i.toNat) (wpAny_truthy_bool ?_)
  exact h _ st₁
end
end Mine

namespace Mine
open PySem PySem.Calls PySem.W PyProof.Rows
section
variable {C : Cx} {A : Around} {E : Value → Shared → Prop} {s : Shared} {env : Env}
theorem LS.setCell {L d q c : Addr} {lo : List (Str × Value)} {V : List Nat} {s s' : Shared} (S : LS C L d q lo s) (st : Stp C [c] V s s') (h0 : c ≠ L) (h1 : c ≠ L + 1) (h2 : c ≠ d ∧ c ≠ q) : LS C L d q lo s' := by
  refine S.step st fun a ha => nin1 ?_
  simp only [List.mem_cons, List.not_mem_nil, or_false] at ha
  rcases ha with rfl | rfl | rfl | rfl
  · exact h0.symm
  · exact h1.symm
  · exact h2.1.symm
  · exact h2.2.symm
theorem add_ne (L : Addr) : L + 3 ≠ L ∧ L + 3 ≠ L + 1 ∧ L + 4 ≠ L ∧ L + 4 ≠ L + 1 ∧ L + 4 ≠ L + 3 ∧ L + 3 ≠ L + 2 ∧ L + 4 ≠ L + 2 := by
  refine ⟨fun h => ?_, fun h => ?_, fun h => ?_, fun h => ?_, fun h => ?_, fun h => ?_, fun h => ?_⟩ <;> (have h : _ = (_ : Nat) := h; omega)

/-- rows = [..] -/
theorem law_11 (FF : Facts C) (hA : Room 60 A) {L d q : Addr} {pm doc : Value} {lo : List (Str × Value)} {Q : Flow → Shared → Prop} {v₀ : Option Value} (S : LS C L d q lo s) (hcR : s.heap.IsCell (L + 3) v₀)
    (h : ∀ s' R xs, LS C L d q lo s' → Row C s'.heap (L + 3) R xs → s.heap.get? R = none → xs.length ≤ 9 → (∀ z ∈ xs, 0 ≤ z ∧ z ≤ 8) → Stp C [L + 3, d, q] [] s s' → wpAny (MM C) A (execs (lawBody.drop 13) (lawEnv C L pm doc)) Q E s') :
    wpAny (MM C) A (execs (lawBody.drop 12) (lawEnv C L pm doc)) Q E s := by
  have hw := S.wd
  refine wpAny_execs_cons (wpAny_Assign_Name (ev_lc FF (k := 50) (cl := [("draw", L + 1)]) rfl (hA.less (by omega)) (ev_callb FF hw (.type "range") (arg1 (law_take FF (k := 59) hA S (by decide) fun s₁ r t S₁ st₁ h0 h1 => ?_)))))
  refine call_rng1 FF (by omega) (by omega) fun s₂ r₂ st₂ hg₂ hr₂ hit => ?_
  have S₂ := S₁.still st₂
  have hit₂ := hit s₂ (.refl _) rfl S₂.wd
  rw [intsFrom_eq] at hit₂
  have ap := S.ap L (by simp)
  have ap1 := S.ap (L + 1) (by simp)
  have ap3 := S.ap (L + 3) (by simp)
  refine ⟨_, _, _, _, _, _, _, draws_in (k := 50) (b₁ := 0) (b₂ := 8) S₂ hit₂ (by omega) (fun L' A s Q E hA hw hc hd hq => ?_), fun D s₃ ys ds' as' hP st₃ hd₃ hp hD hra has hDa => ?_⟩
  · refine ev_call FF hw 17 (arg2 (ev_cell hc (wpAny_Constant_int ⟨hw, take_ok FF (s := { s with toks := s.toks + 1 }) (k := 49) hw hA hd S.dn S.qn (by decide) fun s' r t st hg hd' h0 h1 => hq s' r t (by omega) (by omega) ⟨st.keep, st.tup, st.there, st.gens, st.os, st.bare, st.wd⟩ hd'⟩) rfl))
  · rw [filter_all] at hP
    obtain ⟨xs, rfl, hzl, hzb⟩ := paired_ints hP
    rw [List.length_map, intsUp_len] at hzl
    obtain ⟨rfl, hI⟩ := reads_ints hra
    have a0 : ∀ a ∈ [L, L + 1], a ∉ [d, q] := all2 (nin2 ap.1 ap.2) (nin2 ap1.1 ap1.2)
    have S₃ : LS C L d q lo s₃ := ⟨st₃.wd S₂.wd, st₃.loc S₂.loc (a0 L (by simp)), st₃.cell S₂.cell (S.new _ (Nat.le_succ L)) (a0 _ (by simp)), hd₃, S.new, S.dn, S.qn, S.ap⟩
    have e03 : Stp C [d, q] [] s s₃ := (st₁.more st₂ all0).more st₃ (fun a h => .inl h)
    have hn3 := S.new (L + 3) (Nat.le_add_right L 3)
    have n := add_ne L
    have hc₃ := e03.cell hcR hn3 (nin2 ap3.1 ap3.2)
    have hDc : D ≠ L + 3 := dead_of hD (alive_cell (((st₁.more st₂ all0)).cell hcR hn3 (nin2 ap3.1 ap3.2)))
    have hDs : s.heap.get? D = none := ((st₁.more st₂ all0).none_of hD).elim (fun z => (dead_of hD (S₂.draw.alive D z) rfl).elim) id
    refine st_cell FF hc₃ hn3 fun s₅ hc₅ st₅ => ?_
    have st05 : Stp C [L + 3, d, q] [] s s₅ := (e03.mono (W' := [L + 3, d, q]) (fun a h => .tail _ h) (fun _ h => h)).more st₅ (all1 (.inl (.head _)))
    exact h s₅ D xs (S₃.setCell st₅ n.1 n.2.1 ap3) ⟨hc₅, hn3, st₅.reads (plain_reads hp (intsAre_reads hI)) (all1 (nin1 hDc))⟩ hDs (by omega) hzb st05
/-- rests = [..] -/
theorem law_13 (FF : Facts C) (hA : Room 60 A) {L d q R : Addr} {pm doc : Value} {lo : List (Str × Value)} {Q : Flow → Shared → Prop} {v₀ : Option Value} {xs : List Int} (S : LS C L d q lo s) (hr : Row C s.heap (L + 3) R xs) (hl9 : xs.length ≤ 9) (hcR : s.heap.IsCell (L + 4) v₀) (hR4 : R ≠ L + 4)
    (h : ∀ s' R', LS C L d q lo s' → Row C s'.heap (L + 3) R xs → Row C s'.heap (L + 4) R' (xs.map (·.fmod 3)) → s.heap.get? R' = none → Stp C [L + 4] [] s s' → wpAny (MM C) A (execs (lawBody.drop 15) (lawEnv C L pm doc)) Q E s') :
    wpAny (MM C) A (execs (lawBody.drop 14) (lawEnv C L pm doc)) Q E s := by
  have hw := S.wd
  obtain ⟨vs, hvl, hI⟩ := hr.list
  have hlen : vs.length = xs.length := hI.length
  refine wpAny_execs_cons (wpAny_Assign_Name (ev_lc FF (k := 50) (cl := []) rfl (hA.less (by omega)) (ev_cell hr.cell ⟨iL xs, [R], [], [], fun _ => True, fun _ => true, fun d d' => ∀ i, d = .int i → d' = .int (i.fmod 3), ⟨iterOf_list FF hw hvl (by simpa using intsAre_reads hI), all1 hr.aliveR, hw, by rw [List.length_map]; omega, (fun _ h => nomatch h), (fun _ h => nomatch h), (fun _ h => nomatch h), (fun _ _ _ _ _ _ _ => trivial), (fun _ _ _ h => nomatch h), trivial, fun L' hL' => ?_⟩, fun D s₃ ys ds' as' hP st₃ _ hp hD hra has hDa => ?_⟩ rfl)))
  · refine map_inv fun i hi => compOk_elt fun A s₃ l w as Q E hA hw₃ hloc hlk hrd hag _ hq => ?_
    obtain ⟨u, rfl, rfl⟩ := reads_int hrd
    refine ev_call FF hw₃ 20 (arg1 (ev_local hloc hlk ⟨hw₃, rest_ok FF hw₃ (k := 49) hA fun s' t' st hg => hq _ s' [] _ (fun j e => by cases e; rfl) (.int _ _) (fun _ h => nomatch h) st trivial⟩))
  · rw [filter_all] at hP
    have e := paired_to (g := fun i => PyData.int (Int.fmod i 3)) hP fun i _ y hy => hy i rfl
    have e : ds' = iL (xs.map (·.fmod 3)) := by rw [e]; simp [iL, List.map_map, Function.comp_def]
    subst e
    obtain ⟨rfl, hI₃⟩ := reads_ints hra
    have hn4 := S.new (L + 4) (Nat.le_add_right L 4)
    have n := add_ne L
    have S₃ := S.still st₃
    have hDc : D ≠ L + 4 := dead_of hD (alive_cell hcR)
    refine st_cell FF (st₃.cell hcR hn4) hn4 fun s₅ hc₅ st₅ => ?_
    exact h s₅ D (S₃.setCell st₅ n.2.2.1 n.2.2.2.1 (S.ap (L + 4) (by simp))) ((hr.still st₃).step st₅ (nin1 n.2.2.2.2.1.symm) (nin1 hR4)) ⟨hc₅, hn4, st₅.reads (plain_reads hp hra) (all1 (nin1 hDc))⟩ hD (st₃.wide.more st₅ (all1 (.inl (.head _))))
end
end Mine

namespace Mine
open PySem PySem.Calls PySem.W PyProof.Rows
section
variable {C : Cx} {A : Around} {E : Value → Shared → Prop} {s : Shared} {env : Env}
theorem nin_nil {a : Addr} : a ∉ ([] : List Addr) := fun h => nomatch h
/-- first = [..] -/
theorem law_12 (FF : Facts C) (hA : Room 60 A) {L d q R : Addr} {pm doc : Value} {lo : List (Str × Value)} {Q : Flow → Shared → Prop} {xs : List Int} (S : LS C L d q lo s) (hr : Row C s.heap (L + 3) R xs) (hl9 : xs.length ≤ 9) (hRL : R ≠ L)
    (h : ∀ s' D, LS C L d q (put "first" (.ref D) lo) s' → Row C s'.heap (L + 3) R xs → Reads s'.heap (.ref D) (lstL (keepBy xs xs)) [D] → s.heap.get? D = none → Stp C [L] [] s s' → wpAny (MM C) A (execs (lawBody.drop 14) (lawEnv C L pm doc)) Q E s') :
    wpAny (MM C) A (execs (lawBody.drop 13) (lawEnv C L pm doc)) Q E s := by
  have hw := S.wd
  obtain ⟨vs, hvl, hI⟩ := hr.list
  have hlen : vs.length = xs.length := hI.length
  refine wpAny_execs_cons (st_lc FF (k := 50) (cl := [("rows", L + 3)]) rfl (hA.less (by omega)) (ev_callb FF hw (.type "range") (arg1 (ev_callb FF hw (.builtin "len") (arg1 (ev_cell hr.cell (len_l hvl (by omega) fun u s₁ st₁ => ?_) rfl))))) rfl)
  refine call_rng1 FF (by omega) (by omega) fun s₂ r₂ st₂ hg₂ hr₂ hit => ?_
  rw [hlen] at hit
  have st02 := st₁.trans st₂
  have S₂ := S.still st02
  have hR₂ := hr.still st02
  have hit₂ := hit s₂ (.refl _) rfl S₂.wd
  rw [intsFrom_eq, Int.toNat_natCast] at hit₂
  have n := add_ne L
  refine ⟨_, [], [L + 3, R], [], fun _ => True, keepP xs, fun d d' => ∀ i, d = .int i → d' = .int (xs.getD i.toNat 0), lo, ⟨hit₂, (fun _ h => nomatch h), S₂.wd, by rw [List.length_map, intsUp_len]; omega, all2 hR₂.live.1 hR₂.live.2, (fun _ _ h => nomatch h), (fun _ h => nomatch h), (fun _ _ _ _ _ _ _ => trivial), (fun _ _ _ h => nomatch h), trivial, fun L' hL' => ?_⟩, S₂.loc, nin_nil, nin_nil, fun D s₃ ys ds' as' hP st₃ _ hp hD hra has hDa hlo₃ => ?_⟩
  · refine map_inv fun i hi => ⟨fun A s₃ l w as Q E hA hw₃ hloc hlk hrd hag _ hq => ?_, fun hpi A s₃ l w as Q E hA hw₃ hloc hlk hrd hag _ hq => ?_⟩
    · obtain ⟨u, rfl, rfl⟩ := reads_int hrd
      have := intsUp_mem _ _ _ hi
      exact keep_test (hR₂.agree hag (by simp) (by simp)) hloc hlk (by omega) (by omega) (by omega) hq
    · obtain ⟨u, rfl, rfl⟩ := reads_int hrd
      have := intsUp_mem _ _ _ hi
      have hR₃ := hR₂.agree hag (by simp) (by simp)
      obtain ⟨vs₃, hvl₃, hI₃⟩ := hR₃.list
      have hget : xs[i.toNat]? = some (xs.getD i.toNat 0) := by
        have : i.toNat < xs.length := by omega
        simp [List.getD, this]
      obtain ⟨u', hu⟩ := intsAre_get hI₃ hget
      refine ev_item_list (ev_cell hR₃.cell (ev_local hloc hlk ⟨R, _, i, u, _, rfl, rfl, hvl₃, by omega, by omega, by simpa using hu, ?_⟩) rfl)
      exact hq _ s₃ [] _ (fun j e => by cases e; rfl) (.int _ _) (fun _ h => nomatch h) (.refl s₃) trivial
  · have e := keep_out hP
    subst e
    obtain ⟨rfl, hI₃⟩ := reads_ints hra
    exact h s₃ D (S₂.set st₃ hlo₃) (hR₂.step st₃ (nin1 n.1) (nin1 hRL)) (plain_reads hp hra) (st02.fresh hD) (st02.wide.andThen st₃ (fun _ h => .inl h) all0 (fun _ h => .inl h) all0)
/-- by_rest = [..] -/
theorem law_14 (FF : Facts C) (hA : Room 60 A) {L d q R R' : Addr} {pm doc : Value} {lo : List (Str × Value)} {Q : Flow → Shared → Prop} {xs rs : List Int} (S : LS C L d q lo s) (hr : Row C s.heap (L + 3) R xs) (hr' : Row C s.heap (L + 4) R' rs) (hl9 : xs.length ≤ 9) (hl : rs.length = xs.length) (hRL : R ≠ L) (hRL' : R' ≠ L)
    (h : ∀ s' D, LS C L d q (put "by_rest" (.ref D) lo) s' → Row C s'.heap (L + 3) R xs → Reads s'.heap (.ref D) (lstL (keepBy xs rs)) [D] → s.heap.get? D = none → Stp C [L] [] s s' → wpAny (MM C) A (execs (lawBody.drop 16) (lawEnv C L pm doc)) Q E s') :
    wpAny (MM C) A (execs (lawBody.drop 15) (lawEnv C L pm doc)) Q E s := by
  have hw := S.wd
  obtain ⟨vs, hvl, hI⟩ := hr.list
  have hlen : vs.length = xs.length := hI.length
  refine wpAny_execs_cons (st_lc FF (k := 50) (cl := [("rows", L + 3), ("rests", L + 4)]) rfl (hA.less (by omega)) (ev_callb FF hw (.type "range") (arg1 (ev_callb FF hw (.builtin "len") (arg1 (ev_cell hr.cell (len_l hvl (by omega) fun u s₁ st₁ => ?_) rfl))))) rfl)
  refine call_rng1 FF (by omega) (by omega) fun s₂ r₂ st₂ hg₂ hr₂ hit => ?_
  rw [hlen] at hit
  have st02 := st₁.trans st₂
  have S₂ := S.still st02
  have hR₂ := hr.still st02
  have hR₂' := hr'.still st02
  have hit₂ := hit s₂ (.refl _) rfl S₂.wd
  rw [intsFrom_eq, Int.toNat_natCast] at hit₂
  have n := add_ne L
  refine ⟨_, [], [L + 3, R, L + 4, R'], [], fun _ => True, keepP rs, fun d d' => ∀ i, d = .int i → d' = .int (xs.getD i.toNat 0), lo, ⟨hit₂, (fun _ h => nomatch h), S₂.wd, by rw [List.length_map, intsUp_len]; omega, ?_, (fun _ _ h => nomatch h), (fun _ h => nomatch h), (fun _ _ _ _ _ _ _ => trivial), (fun _ _ _ h => nomatch h), trivial, fun L' hL' => ?_⟩, S₂.loc, nin_nil, nin_nil, fun D s₃ ys ds' as' hP st₃ _ hp hD hra has hDa hlo₃ => ?_⟩
  · intro a ha
    simp only [List.mem_cons, List.not_mem_nil, or_false] at ha
    rcases ha with rfl | rfl | rfl | rfl
    · exact hR₂.live.1
    · exact hR₂.live.2
    · exact hR₂'.live.1
    · exact hR₂'.live.2
  · refine map_inv fun i hi => ⟨fun A s₃ l w as Q E hA hw₃ hloc hlk hrd hag _ hq => ?_, fun hpi A s₃ l w as Q E hA hw₃ hloc hlk hrd hag _ hq => ?_⟩
    · obtain ⟨u, rfl, rfl⟩ := reads_int hrd
      have := intsUp_mem _ _ _ hi
      exact keep_test (hR₂'.agree hag (by simp) (by simp)) hloc hlk (by omega) (by omega) (by omega) hq
    · obtain ⟨u, rfl, rfl⟩ := reads_int hrd
      have := intsUp_mem _ _ _ hi
      have hR₃ := hR₂.agree hag (by simp) (by simp)
      obtain ⟨vs₃, hvl₃, hI₃⟩ := hR₃.list
      have hget : xs[i.toNat]? = some (xs.getD i.toNat 0) := by
        have : i.toNat < xs.length := by omega
        simp [List.getD, this]
      obtain ⟨u', hu⟩ := intsAre_get hI₃ hget
      refine ev_item_list (ev_cell hR₃.cell (ev_local hloc hlk ⟨R, _, i, u, _, rfl, rfl, hvl₃, by omega, by omega, by simpa using hu, ?_⟩) rfl)
      exact hq _ s₃ [] _ (fun j e => by cases e; rfl) (.int _ _) (fun _ h => nomatch h) (.refl s₃) trivial
  · have e := keep_out hP
    subst e
    obtain ⟨rfl, hI₃⟩ := reads_ints hra
    exact h s₃ D (S₂.set st₃ hlo₃) (hR₂.step st₃ (nin1 n.1) (nin1 hRL)) (plain_reads hp hra) (st02.fresh hD) (st02.wide.andThen st₃ (fun _ h => .inl h) all0 (fun _ h => .inl h) all0)
end
end Mine

namespace Mine
open PySem PySem.Calls PySem.W PyProof.Rows
section
variable {C : Cx} {A : Around} {E : Value → Shared → Prop} {s : Shared} {env : Env}

/-- calling a generator def that is woken at one place alone -/
theorem call_gen_at (FF : Facts C) {f : Addr} {fd : FuncData} {o : Obj} {body : List Stmt} {vals : List Value} {kws : List (Str × Value)} {binds : List (Str × Value)} {Q : Value → Shared → Prop} {k : Nat} {ds : List PyData} {R X : List Addr} {A₀ : Around} (hw : Wd C s.heap) (hA : Room k A) (hA₀ : Room (k + 1) A₀)
    (ho : s.heap.get? f = some o) (hd : o.data = .func fd) (hco : fd.scope.isCoroutine = false) (hgen : fd.scope.isGenerator = true) (hk : fd.scope.kind = .function) (hbody : fd.body = .stmts body) (hcd : s.heap.CodeRec fd.code fd.qualname)
    (hbind : BindsTo s fd ⟨vals, kws⟩ binds) (hcell : ∀ x ∈ fd.scope.names, x.2 ≠ .cell) (hloc : ∀ x ∈ binds, fd.scope.names.lookup x.1 = some .local) (hR : ∀ a ∈ X ++ R, Live C s.heap a)
    (go : ∀ (s₁ : Shared) (L : Addr), Loc C s₁.heap L binds.reverse → Wd C s₁.heap → s.heap.get? L = none → Agree C (X ++ R) [] s s₁ → (∀ a ∈ (L :: X) ++ R, Live C s₁.heap a) →
      SegN C A₀.in1 finRet ds ⟨L :: X, R, []⟩ (.func body (callEnv fd L f)) ((MM C).den (.func body (callEnv fd L f))) [] s₁)
    (h : ∀ s₁ L a g, s.heap.get? L = none → s.heap.get? a = none → s.gens[g]? = none → Stp C [] [] s s₁ → s₁.TypeIs (.ref a) "generator" → Iter C A₀ a ds ⟨L :: X, a :: R, [g]⟩ s₁ → (∀ b ∈ (L :: X) ++ (a :: R), Live C s₁.heap b) → (∀ A, SelfIt C A a ⟨L :: X, a :: R, [g]⟩ s₁) → Q (.ref a) s₁) :
    wpAny (MM C) A (call (.ref f) vals kws) Q E s := by
  refine wpAny_call (codeAny_call_generator hA.d ho hd hco hgen hbody hcd (hbind _ _ _ _ ?_))
  refine wpAny_newFunctionEnv hcell hloc (fun h₀ hns hsb => ?_) hk
  have hk₀ : ∀ b o, s.heap.get? b = some o → h₀.get? b = some o := fun b o e => hsb.extBut b o (Nat.ne_of_lt (Heap.lt_size e)) (Heap.get?_push_of_some _ e)
  refine ⟨(FF.lim _ hw).fresh _ hsb, ?_⟩
  have hLf := get_size s.heap
  have hLa : ∃ o, h₀.get? s.heap.objs.size = some o := let ⟨o, _, _, e, _⟩ := hns; ⟨o, e⟩
  have haf₀ := get_size h₀
  have haf : s.heap.get? h₀.objs.size = none := by
    cases e : s.heap.get? h₀.objs.size with
    | none => rfl
    | some o => have := hk₀ _ _ e; rw [haf₀] at this; cases this
  dsimp only
  generalize hgo : ({ cls := .type "generator", data := .fields #[.int s.gens.size 0, .str fd.name (s.toks + binds.length), .str fd.qualname (s.toks + binds.length + 1)] } : Obj) = go'
  generalize hcd' : Code.func body (newEnv fd.scope s.heap.objs.size fd.globals fd.closure (fd.qualname ++ ".<locals>.") (some f) fd.code none fd.builtins) = cd
  have hfr : (s.gens.push (.fresh cd))[s.gens.size]? = some (.fresh cd) := by simp
  have st : Stp C [] [] s { heap := h₀.push go', gens := s.gens.push (.fresh cd), drawn := s.drawn, toks := s.toks + binds.length + 1 + 1, os := s.os } :=
    ⟨fun b o _ _ e => Heap.get?_push_of_some _ (hk₀ b o e), fun b o _ _ _ _ e => Heap.get?_push_of_some _ (hk₀ b o e), fun b o _ e => ⟨o, Heap.get?_push_of_some _ (hk₀ b o e)⟩,
     fun j y _ e => by
       have hj : j < s.gens.size := by
         rcases Nat.lt_or_ge j s.gens.size with q | q
         · exact q
         · rw [Array.getElem?_eq_none q] at e; cases e
       show (s.gens.push _)[j]? = some y
       rw [Array.getElem?_push_lt hj, ← Array.getElem?_eq_getElem hj]; exact e,
     rfl, fun b => AllBare.push b (by rw [← hcd']; rfl), fun w => w.keeps fun b o e => Heap.get?_push_of_some _ (hk₀ b o e)⟩
  have hIs : (h₀.push go').IsGen h₀.objs.size s.gens.size := ⟨go', _, _, Heap.get?_push_size _ (by rw [← hgo]; rfl), by rw [← hgo], by rw [← hgo], by rw [← hgo]⟩
  have hlo : Loc C (h₀.push go') s.heap.objs.size binds.reverse := ⟨hns.push _, hw.none hLf⟩
  have hlive : ∀ b ∈ (s.heap.objs.size :: X) ++ R, Live C (h₀.push go') b := fun b hb => by
    rcases List.mem_cons.mp hb with rfl | hb
    · obtain ⟨o, _, _, e, _⟩ := hlo.ns
      exact ⟨o, e, .inl (nb hlo.new)⟩
    · exact st.live (hR b hb) (by simp)
  have haX : h₀.objs.size ∉ s.heap.objs.size :: X := fun q => by
    rcases List.mem_cons.mp q with q | q
    · exact dead_of haf₀ hLa q
    · exact dead_of haf (hR _ (List.mem_append_left _ q)).some rfl
  have hgen' : ∀ s'', AgreeF C ⟨s.heap.objs.size :: X, R, []⟩ { heap := h₀.push go', gens := s.gens.push (.fresh cd), drawn := s.drawn, toks := s.toks + binds.length + 1 + 1, os := s.os } s'' → Wd C s''.heap → GoesI C A₀.in1 finRet ds ⟨s.heap.objs.size :: X, R, []⟩ (.fresh cd) s'' := fun s'' ag hw'' => by
    rw [← hcd']
    have hlo'' : Loc C s''.heap s.heap.objs.size binds.reverse := by
      obtain ⟨o, es, ep, e, r⟩ := hlo.ns
      exact ⟨⟨o, es, ep, ag.keep _ _ (.head _) (.inl (nb hlo.new)) e, r⟩, hlo.new⟩
    exact segN_goes (fun a ha => ag.live (hlive a ha) ha) (fun _ h => nomatch h) hw'' (go s'' _ hlo'' hw'' hLf ((st.agree (fun _ _ h => nomatch h) all0).trans (ag.mono (fun a h => .tail _ h) (fun _ h => h))) fun a ha => ag.live (hlive a ha) ha)
  refine h _ s.heap.objs.size h₀.objs.size s.gens.size hLf haf (by simp) st ⟨go', Heap.get?_push_size _ (by rw [← hgo]; rfl), by rw [← hgo]⟩
    (iter_gen (fin := finRet) FF hA₀ (fun x hx => by rw [hx]; rfl) (hw.none haf) ds ⟨s.heap.objs.size :: X, R, []⟩ _ hIs haX (fun h => nomatch h) ⟨_, hfr, hgen'⟩) (fun b hb => ?_) fun A s₁ ag hw' Q E hq => ?_
  · by_cases q : b = h₀.objs.size
    · subst q
      obtain ⟨o, nm, qn, e, _⟩ := hIs
      exact ⟨o, e, .inl (nb (hw.none haf))⟩
    · exact hlive b (by simp [q] at hb ⊢; exact hb)
  · obtain ⟨o, nm, qn, e, hc, hd, hs⟩ := hIs
    exact wpAny_pyIter_gen ⟨o, nm, qn, ag.keep _ _ (by simp) (.inl (nb (hw.none haf))) e, hc, hd, hs⟩ hq

/-- list(iterator), woken at one place alone -/
theorem call_list_at (FF : Facts C) {hp : Heap} (hw : Wd C hp) {it : Addr} {ds : List PyData} {F : Ft} {Q : Value → Shared → Prop} (hit : Iter C A.in1.in1 it ds F s) (hlive : ∀ a ∈ F.W ++ F.R, Live C s.heap a) (hself : ∀ A, SelfIt C A it F s) (hT : Lazy s it)
    (hsz : ds.length ≤ 100000)
    (h : ∀ s' S acc' as', s.heap.get? S = none → Stp C F.W F.V s s' → s'.heap.PlainList S acc' → ReadsAll s'.heap acc'.toList ds as' → (∀ a ∈ as', a ∈ F.W ∨ a ∈ F.R ∨ s.heap.get? a = none) → S ∉ as' → Q (.ref S) s')
    (hs : s.heap = hp := by rfl) : wpAny (MM C) A (call (.type "list") [.ref it]) Q E s := by
  subst hs
  have hSf := get_size s.heap
  refine callType_codes (Q₁ := fun obj s₁ => obj = .ref s.heap.objs.size ∧ s₁ = { s with heap := s.heap.push { cls := .type "list", data := .seq #[] } }) PySem.F.called_list (PySem.F.typeCall_list_1 _) PySem.F.entry_list_init
    (code_list_new _ ⟨rfl, rfl⟩) fun obj s₁ h₁ => ?_
  obtain ⟨rfl, rfl⟩ := h₁
  have hS : (s.heap.push { cls := .type "list", data := .seq #[] }).get? s.heap.objs.size = some { cls := .type "list", data := .seq #[] } := Heap.get?_push_size _ rfl
  have st : Stp C [] [] s { s with heap := s.heap.push { cls := .type "list", data := .seq #[] } } := Stp.push _
  have ag : AgreeF C F s { s with heap := s.heap.push { cls := .type "list", data := .seq #[] } } := st.agree (fun _ _ h => nomatch h) fun _ _ h => nomatch h
  have off : s.heap.objs.size ∉ F.W ++ F.R := fun q => by obtain ⟨o, e, _⟩ := hlive _ q; rw [hSf] at e; cases e
  have hw₁ := st.wd hw
  refine ⟨⟨_, hS, rfl⟩, PySem.F.args_list_init_2 _ _, ?_⟩
  show wpAny _ A.in1.in1 (do let old ← Builtin.List.listItems (.ref s.heap.objs.size); Builtin.List.listUpdate (.ref s.heap.objs.size) (fun _ => #[]); letGo old.toList.reverse; Builtin.List.listExtendWith (.ref s.heap.objs.size) (.ref it) .none) _ _ _
  refine wpAny_bind ?_
  unfold Builtin.List.listItems
  refine wpAny_bind (wpAny_seqItems hS rfl (wpAny_pure ?_))
  show wpAny _ A.in1.in1 (updateSeq s.heap.objs.size (fun _ => #[]) >>= fun _ => letGo (#[] : Array Value).toList.reverse >>= fun _ => Builtin.List.listExtendWith (.ref s.heap.objs.size) (.ref it) .none) _ _ _
  refine wpAny_bind (wpAny_updateSeq hS rfl ?_)
  have hS₂ := Heap.get?_update_self (Obj.mapSeq (fun _ => (#[] : Array Value))) hS rfl
  have hS₀ := hw.none hSf
  have st₂ : Stp C [s.heap.objs.size] [] { s with heap := s.heap.push { cls := .type "list", data := .seq #[] } } { s with heap := (s.heap.push { cls := .type "list", data := .seq #[] }).update s.heap.objs.size (Obj.mapSeq (fun _ => (#[] : Array Value))) } :=
    Stp.upd (s := { s with heap := s.heap.push { cls := .type "list", data := .seq #[] } }) (t := s.toks) FF hS₀ hS rfl (not_tup_list (xs := #[]) ⟨_, hS, rfl, _, rfl⟩)
  have ag₂ : AgreeF C F s { s with heap := (s.heap.push { cls := .type "list", data := .seq #[] }).update s.heap.objs.size (Obj.mapSeq (fun _ => (#[] : Array Value))) } := ag.trans (st₂.agree (fun a ha q => off (List.mem_singleton.mp q ▸ ha)) fun _ _ h => nomatch h)
  refine wpAny_bind (wpAny_letGo ?_)
  have hT₂ : (({ s with heap := (s.heap.push { cls := .type "list", data := .seq #[] }).update s.heap.objs.size (Obj.mapSeq (fun _ => (#[] : Array Value))) } : Shared) |> fun s => Lazy s it) := by
    obtain ⟨T, nh, o, e, hc⟩ := hT
    exact ⟨T, nh, o, st₂.keep _ _ (nin1 (ne_of_fresh hSf ⟨o, e⟩)) (.inr (by rw [hc]; nofun)) (st.keep _ _ (by simp) (.inr (by rw [hc]; nofun)) e), hc⟩
  refine extend_with FF hS₀ (st₂.wd hw₁) (hit.agree ag₂) (fun s₁ a => hself _ s₁ (ag₂.trans a)) hT₂ (Ne.symm (ne_of_fresh hSf hT.some)) (fun q => off (List.mem_append_left _ q)) (fun q => off (List.mem_append_right _ q)) hS₂ hsz fun s' acc' as' st' hS' hr' ha' hn' => ⟨rfl, ?_⟩
  refine h s' s.heap.objs.size acc' as' hSf ?_ hS' hr' (fun a ha => ?_) hn'
  · exact (st.andThen (W := F.W) (V := F.V) st₂ all0 all0 (all1 (.inr hSf)) all0).andThen st' (fun _ h => .inl h) (fun _ h => .inl h) (fun a h => by
      rcases List.mem_cons.mp h with rfl | h
      · exact .inr hSf
      · exact .inl h) (fun _ h => .inl h)
  · rcases ha' a ha with q | q | q
    · exact .inl q
    · exact .inr (.inl q)
    · rcases st₂.none_of q with z | z
      · rw [List.mem_singleton.mp z] at ha; exact (hn' ha).elim
      · exact .inr (.inr ((st.none_of z).elim (fun h => nomatch h) id))

/-- a statement that yields nothing, in a generator -/
theorem segN_stmt {fin : Result → Prop} {ds : List PyData} {Fn : Ft} {c : Code} {fs : List Frame} {st : Stmt} {K : Flow → Sem Fin} {H : Value → Sem Fin} {gd : Bool → Bool} {lv : List Value → List Value}
    (h : Wd C s.heap → wpAny (MM C) (A.over c fs) (exec st env) (fun f s' => f = .next ∧ ∃ Fm, Mid C Fn s s' Fm ∧ SegN C A fin ds Fm c (K .next) fs s') (fun _ _ => False) s) :
    SegN C A fin ds Fn c ((exec st env).wrap K H gd lv) fs s :=
  segN_wrap fun hw => wpAny_mono (h hw) (fun f s' h' => by obtain ⟨rfl, Fm, m, z⟩ := h'; exact ⟨Fm, m, z⟩) fun _ _ e => e
end
end Mine

namespace Mine
open PySem PySem.Calls PySem.W PyProof.Rows
section
variable {C : Cx} {A : Around} {E : Value → Shared → Prop} {s : Shared} {env : Env}
def uqBody : List Stmt := bodyOf (fnStmt 3)
def uqFBody : List Stmt := forBody (uqBody.getD 1 (.Pass ⟨0, 0, 0, 0⟩))
def uqTry : Stmt := uqFBody.getD 0 (.Pass ⟨0, 0, 0, 0⟩)
def uqFd (pm doc uc : Value) (t : Addr) : FuncData := { docDef (nameOf (fnStmt 3)) (paramsOf (fnStmt 3)) (bodyOf (fnStmt 3)) (scopeOf (fnStmt 3)) pm uc doc with defaults := .ref t }
abbrev uqEnv (L u : Addr) (pm doc uc : Value) (t : Addr) : Env := callEnv (uqFd pm doc uc t) L u

/-- what the try statement of unique does with an item: the set at Sa stands at z -/
structure Keyer (C : Cx) (n : Nat) (fr : List Env) (genv : Env) (Sa : Addr) (X : List Addr) (kv : Value) (σ : Type) (I : σ → Heap → Prop) (step : σ → PyData → Bool × σ) (ok : σ → PyData → Prop) : Prop where
  agree : ∀ (z : σ) (F : List Addr) (V : List Nat) (s s' : Shared), Agree C F V s s' → Sa ∈ F → I z s.heap → I z s'.heap
  try_ : ∀ (A : Around) (z : σ) (d : PyData) (s : Shared) (l : List (Str × Value)) (v : Value) (as : List Addr) (Q : Flow → Shared → Prop) (E : Value → Shared → Prop), Room n A → A.frames = some (genv :: fr) → ok z d → I z s.heap → Wd C s.heap → Loc C s.heap genv.locals l →
    gl l "seen" = some (.ref Sa) → gl l "key" = some kv → gl l "item" = some v → Reads s.heap v d as → (∀ a ∈ as, a ≠ genv.locals ∧ a ≠ Sa ∧ a ∉ X) → (∀ a ∈ genv.locals :: Sa :: X, Live C s.heap a) →
    (∀ s' l', Loc C s'.heap genv.locals l' → gl l' "seen" = some (.ref Sa) → gl l' "key" = some kv → gl l' "item" = some v → gl l' "new" = some (.bool (step z d).1) → I (step z d).2 s'.heap → Stp C (genv.locals :: Sa :: X) [] s s' → (∀ a ∈ genv.locals :: Sa :: X, Live C s'.heap a) → Q .next s') →
    wpAny (MM C) A (exec uqTry genv) Q E s

def keepS {σ : Type} (step : σ → PyData → Bool × σ) : σ → List PyData → List PyData
  | _, [] => []
  | z, d :: ds => if (step z d).1 then d :: keepS step (step z d).2 ds else keepS step (step z d).2 ds
def okAll {σ : Type} (step : σ → PyData → Bool × σ) (ok : σ → PyData → Prop) : σ → List PyData → Prop
  | _, [] => True
  | z, d :: ds => ok z d ∧ okAll step ok (step z d).2 ds

abbrev bigF (Ws : List Addr) (FO : Ft) : Ft := ⟨Ws ++ FO.W, FO.R, FO.V⟩
theorem live_loc {h : Heap} {L : Addr} {lo : List (Str × Value)} (x : Loc C h L lo) : Live C h L := by
  obtain ⟨o, _, _, e, _⟩ := x.ns
  exact ⟨o, e, .inl (nb x.new)⟩

theorem over_frames {c : Code} {fs : List Frame} : (A.over c fs).frames = pushEnvs c.envs (pushEnvs (envsOf (fs.map Frame.where_)) A.frames) := rfl
abbrev bigA (Ws as : List Addr) (FO : Ft) : Ft := ⟨Ws ++ FO.W, as ++ FO.R, FO.V⟩
theorem segN_sub {fin : Result → Prop} {ds : List PyData} {Fn Fm : Ft} {c : Code} {tt : Sem Fin} {fs : List Frame} (y : Mid C Fn s s Fm) (h : SegN C A fin ds Fm c tt fs s) : SegN C A fin ds Fn c tt fs s := fun hw F s₀ x => h hw F s₀ (x.trans y)

set_option maxHeartbeats 1000000 in
theorem uq_loop (FF : Facts C) {n : Nat} {fr : List Env} {L u Sa t : Addr} {pm doc uc kv : Value} {X : List Addr} {σ : Type} {I : σ → Heap → Prop} {step : σ → PyData → Bool × σ} {ok : σ → PyData → Prop} (KE : Keyer C n fr (uqEnv L u pm doc uc t) Sa X kv σ I step ok)
    (hA : Room (n + 1) A) (hfr : A.frames = some fr) {it : Addr} {px : Pos} {k₁ : Result → Sem Fin} {g₁ : Bool} {l₁ : List Value} {p₁ : Pos} {body : List Stmt} (hg₁ : g₁ = false) (hk₁ : k₁ (.ok .next) = leafOf (.ok (.ret .none))) (hWL : ∀ a ∈ Sa :: X, a ≠ L) :
    ∀ (ds : List PyData) (z : σ) (FO : Ft) (s : Shared) (lo : List (Str × Value)), okAll step ok z ds →
      Iter C (A.over (.forLoop (.Name "item" px) (.ref it) uqFBody [] (uqEnv L u pm doc uc t)) [.ret k₁ none g₁ l₁ (.func body (uqEnv L u pm doc uc t)) p₁ []]) it ds FO s →
      Loc C s.heap L lo → gl lo "seen" = some (.ref Sa) → gl lo "key" = some kv → I z s.heap → (∀ a ∈ L :: Sa :: X, a ∉ FO.W ++ FO.R) → (∀ a ∈ (bigF (L :: Sa :: X) FO).W ++ (bigF (L :: Sa :: X) FO).R, Live C s.heap a) → (∀ i ∈ FO.V, ∃ g, s.gens[i]? = some g) →
      SegN C A finRet (keepS step z ds) (bigF (L :: Sa :: X) FO) (.forLoop (.Name "item" px) (.ref it) uqFBody [] (uqEnv L u pm doc uc t)) ((MM C).den (.forLoop (.Name "item" px) (.ref it) uqFBody [] (uqEnv L u pm doc uc t)))
        [.ret k₁ none g₁ l₁ (.func body (uqEnv L u pm doc uc t)) p₁ []] s := by
  intro ds
  induction ds with
  | nil =>
    intro z FO s lo _ hO hlo hse hke hI hoff hl hv
    refine segN_for (F₁ := FO) hO (fun a h => List.mem_append_right _ h) (fun i h => h) hl (fun _ s' c' st => ?_) (fun d rem e => by cases e)
    refine ⟨⟨[], [], []⟩, Mid.of st (fun a h => .inl (List.mem_append_right _ h)) (fun i h => .inl h) (fun a h => nomatch h) (fun a h => nomatch h) (fun i h => nomatch h) (fun a h => nomatch h) (fun i h => nomatch h), segN_leaf _ ?_⟩
    rw [hk₁]
    exact segN_end _ rfl
  | cons d ds ih =>
    intro z FO s lo hok hO hlo hse hke hI hoff hl hv
    refine segN_for (F₁ := FO) hO (fun a h => List.mem_append_right _ h) (fun i h => h) hl (fun e => by cases e) (fun d' rem e v s₁ as FO' E' got hw₁ hO' => ?_)
    injection e with e1 e2
    subst e1 e2
    obtain ⟨hrd, has, st₁, nx⟩ := got
    have halW : ∀ a ∈ L :: Sa :: X, ∃ o, s.heap.get? a = some o := fun a ha => (hl a (List.mem_append_left _ (List.mem_append_left _ ha))).some
    have hoff' : ∀ a ∈ L :: Sa :: X, a ∉ FO'.W ++ FO'.R := fun a ha => nx.off (halW a ha) (fun h => hoff a ha (List.mem_append_left _ h)) (fun h => hoff a ha (List.mem_append_right _ h))
    have hoffW : ∀ a ∈ L :: Sa :: X, a ∉ FO.W := fun a ha h => hoff a ha (List.mem_append_left _ h)
    have hasW : ∀ b ∈ as, b ∉ L :: Sa :: X := fun b hb q => by
      rcases (has b hb).2 with z | z | z
      · exact hoff b q (List.mem_append_left _ z)
      · exact hoff b q (List.mem_append_right _ z)
      · exact dead_of z (halW b q) rfl
    have hlo₁ : Loc C s₁.heap L lo := st₁.loc hlo (hoffW L (.head _))
    have hI₁ : I z s₁.heap := KE.agree z (L :: Sa :: X) [] s s₁ (st₁.agree hoffW all0) (.tail _ (.head _)) hI
    have hlW₁ : ∀ a ∈ L :: Sa :: X, Live C s₁.heap a := fun a ha => st₁.live (hl a (List.mem_append_left _ (List.mem_append_left _ ha))) (hoffW a ha)
    have nL : L ∉ FO'.W ++ FO'.R := hoff' L (.head _)
    refine st_local FF hlo₁ fun s₂ hlo₂ st₂ hg₂ => ⟨bigA (L :: Sa :: X) as FO', ?_, fun K H gd lv hgd hK => ?_⟩
    · refine Mid.of (W := L :: FO.W) (V := FO.V) ((st₁.mono (fun a h => .tail _ h) fun _ h => h).more st₂ (all1 (.inl (.head _)))) (fun a h => .inl ?_) (fun i h => .inl h) (fun a h => ?_) (fun a h => ?_) nx.V (fun a h => ?_) (fun j hj => let ⟨g, e⟩ := nx.vlive j hj; ⟨g, st₂.gens j g (fun h => nomatch h) e⟩)
      · rcases List.mem_cons.mp h with rfl | h
        · exact .head _
        · exact List.mem_append_right _ h
      · rcases List.mem_append.mp h with h | h
        · exact .inl (List.mem_append_left _ h)
        · exact (nx.W a h).imp (fun z => List.mem_append_right _ z) id
      · rcases List.mem_append.mp h with h | h
        · rcases (has a h).2 with z | z | z
          · exact .inl (List.mem_append_right _ z)
          · exact .inr (.inl z)
          · exact .inr (.inr z)
        · rcases nx.R a h with z | z | z
          · exact .inl (List.mem_append_right _ z)
          · exact .inr (.inl z)
          · exact .inr (.inr z)
      · by_cases q : a = L
        · rw [q]; exact live_loc hlo₂
        · refine st₂.live ?_ (nin1 q)
          rcases List.mem_append.mp h with h | h
          · rcases List.mem_append.mp h with h | h
            · exact hlW₁ a h
            · exact nx.live a (List.mem_append_left _ h)
          · rcases List.mem_append.mp h with h | h
            · exact reads_live hrd a h
            · exact nx.live a (List.mem_append_right _ h)
    · have hw₂ := st₂.wd hw₁
      have hSL : Sa ≠ L := hWL Sa (.head _)
      have hI₂ : I z s₂.heap := KE.agree z [Sa] [] s₁ s₂ (st₂.agree (all1 (nin1 hSL)) all0) (.head _) hI₁
      have hlW₂ : ∀ a ∈ L :: Sa :: X, Live C s₂.heap a := fun a ha => by
        rcases List.mem_cons.mp ha with rfl | ha
        · exact live_loc hlo₂
        · exact st₂.live (hlW₁ a (.tail _ ha)) (nin1 (hWL a ha))
      have hO₂ := hO'.agree (st₂.agree (fun a ha => nin1 fun (q : a = L) => nL (by rw [← q]; exact ha)) (fun _ _ h => nomatch h))
      have hrd₂ : Reads s₂.heap v d as := st₂.reads hrd (fun a ha => nin1 fun (q : a = L) => hasW a ha (by rw [q]; exact .head _))
      have hF₂ : ∀ a ∈ FO'.W ++ FO'.R, Live C s₂.heap a := fun a ha => st₂.live (nx.live a ha) (nin1 fun (q : a = L) => nL (by rw [← q]; exact ha))
      have hV₂ : ∀ j ∈ FO'.V, ∃ g, s₂.gens[j]? = some g := fun j hj => let ⟨g, e⟩ := nx.vlive j hj; ⟨g, st₂.gens j g (fun h => nomatch h) e⟩
      refine segN_cons hgd fun K' H' gd' lv' hgd' hK' => segN_stmt fun hw₂ => ?_
      refine KE.try_ _ z d s₂ _ v as _ _ (Room.over1 hA) ?_ hok.1 hI₂ hw₂ hlo₂ (put_ne hse) (put_ne hke) put_eq hrd₂ (fun a ha => ⟨fun q => hasW a ha (by rw [q]; exact .head _), fun q => hasW a ha (by rw [q]; exact .tail _ (.head _)), fun q => hasW a ha (.tail _ (.tail _ q))⟩) hlW₂ fun s₃ l₃ hlo₃ hse₃ hke₃ hit₃ hnew₃ hI₃ st₃ hlW₃ => ?_
      · rw [over_frames, hfr]; rfl
      have hoW : ∀ a ∈ FO'.W ++ FO'.R, a ∉ L :: Sa :: X := fun a ha q => hoff' a q ha
      have hF₃ : ∀ a ∈ FO'.W ++ FO'.R, Live C s₃.heap a := fun a ha => st₃.live (hF₂ a ha) (hoW a ha)
      have hV₃ : ∀ j ∈ FO'.V, ∃ g, s₃.gens[j]? = some g := fun j hj => let ⟨g, e⟩ := hV₂ j hj; ⟨g, st₃.gens j g (fun h => nomatch h) e⟩
      have hO₃ := hO₂.agree (st₃.agree hoW (fun _ _ h => nomatch h))
      have hrd₃ := st₃.reads hrd₂ hasW
      have hl₃ : ∀ a ∈ (bigA (L :: Sa :: X) as FO').W ++ (bigA (L :: Sa :: X) as FO').R, Live C s₃.heap a := fun a h => by
        rcases List.mem_append.mp h with h | h
        · rcases List.mem_append.mp h with h | h
          · exact hlW₃ a h
          · exact hF₃ a (List.mem_append_left _ h)
        · rcases List.mem_append.mp h with h | h
          · exact reads_live hrd₃ a h
          · exact hF₃ a (List.mem_append_right _ h)
      refine ⟨rfl, bigA (L :: Sa :: X) as FO', Mid.of st₃ (fun a h => .inl (List.mem_append_left _ h)) all0 (fun _ h => .inl h) (fun _ h => .inr (.inl h)) (fun _ h => .inl h) hl₃ hV₃, ?_⟩
      rw [hK']
      refine segN_cons hgd fun K₂ H₂ gd₂ lv₂ hgd₂ hK₂ => segN_If fun hw₃ => ?_
      refine isTrue_plain (ev_local hlo₃ hnew₃ (wpAny_truthy_bool ⟨bigA (L :: Sa :: X) as FO', Mid.refl hl₃ hV₃, ?_⟩))
      have fin_ : ∀ s₄, AgreeF C (bigA (L :: Sa :: X) as FO') s₃ s₄ → SegN C A finRet (keepS step (step z d).2 ds) (bigA (L :: Sa :: X) as FO') (.forLoop (.Name "item" px) (.ref it) uqFBody [] (uqEnv L u pm doc uc t)) (K .next)
          [.ret k₁ none g₁ l₁ (.func body (uqEnv L u pm doc uc t)) p₁ []] s₄ := fun s₄ ag => by
        rw [hK]
        have sub : ∀ a ∈ (bigF (L :: Sa :: X) FO').W ++ (bigF (L :: Sa :: X) FO').R, a ∈ (bigA (L :: Sa :: X) as FO').W ++ (bigA (L :: Sa :: X) as FO').R := fun a h =>
          (List.mem_append.mp h).elim (fun h => List.mem_append_left _ h) fun h => List.mem_append_right _ (List.mem_append_right _ h)
        have ag' : AgreeF C (bigF (L :: Sa :: X) FO') s₃ s₄ := ag.mono sub (fun _ h => h)
        have hl₄ : ∀ a ∈ (bigF (L :: Sa :: X) FO').W ++ (bigF (L :: Sa :: X) FO').R, Live C s₄.heap a := fun a h => ag'.live (hl₃ a (sub a h)) h
        have hV₄ : ∀ j ∈ FO'.V, ∃ g, s₄.gens[j]? = some g := fun j hj => let ⟨g, e⟩ := hV₃ j hj; ⟨g, ag'.gens j g hj e⟩
        refine segN_sub (Fm := bigF (L :: Sa :: X) FO') ⟨.refl s₄, fun _ h => .inl h, fun a h => .inr (.inl (List.mem_append_right _ h)), fun _ h => .inl h, hl₄, hV₄⟩ ?_
        refine segN_again rfl (ih _ FO' s₄ l₃ hok.2 (hO₃.agree (ag'.mono (fun a h => ?_) fun _ h => h)) (agree_loc ag' hlo₃ (.head _)) hse₃ hke₃ (KE.agree _ _ _ _ _ ag' (.tail _ (.head _)) hI₃) hoff' hl₄ hV₄)
        exact (List.mem_append.mp h).elim (fun h => List.mem_append_left _ (List.mem_append_right _ h)) fun h => List.mem_append_right _ h
      cases hb : (step z d).1 with
      | false =>
        simp only [keepS, hb, Bool.false_eq_true, if_false]
        refine segN_nil ?_
        rw [hK₂]
        refine segN_nil ?_
        exact fin_ s₃ (.refl s₃)
      | true =>
        simp only [keepS, hb, if_true]
        refine segN_cons hgd₂ fun K₃ H₃ gd₃ lv₃ hgd₃ hK₃ => segN_Yield hgd₃ rfl (by subst hg₁; rfl) fun hw₃ => ?_
        refine ev_local hlo₃ hit₃ ⟨bigA (L :: Sa :: X) as FO', as, Mid.refl hl₃ hV₃, hrd₃, fun a ha => ⟨fun q => ?_, List.mem_append_left _ ha⟩, fun s₄ ag => ?_⟩
        · rcases List.mem_append.mp q with q | q
          · exact hasW a ha q
          · exact (has a ha).1 q
        · rw [hK₃]
          refine segN_nil ?_
          rw [hK₂]
          refine segN_nil ?_
          exact fin_ s₄ ag
end
end Mine

namespace Mine
open PySem PySem.Calls PySem.W PyProof.Rows
section
variable {C : Cx} {A : Around} {E : Value → Shared → Prop} {s : Shared} {env : Env}

/-- set() -/
theorem ev_set0 (FF : Facts C) {hp : Heap} (hw : Wd C hp) {np pos : Pos} {Q : Value → Shared → Prop}
    (h : ∀ s' Sa led, Stp C [] [] s s' → s'.gens = s.gens → s.heap.get? Sa = none → s'.heap.get? Sa = some { cls := .type "set", dict := none, data := .set #[] 0 (.fresh 0 0 led) } → Q (.ref Sa) s') (hs : s.heap = hp := by rfl)
    (hk : env.scope.kind = .function := by rfl) (hx : env.kindOf "set" = some .globalImplicit := by rfl) (hg : env.globals = mainGlobals := by rfl) (hb : env.builtins = builtinsNs := by rfl) :
    wpAny (MM C) A (eval (.Call (.Name "set" np) [] [] pos) env) Q E s := by
  refine wpAny_Call_NameR (ev_b FF hw (v := .type "set") ?_ hs (by decide) rfl (by decide) hk hx hg hb)
  refine callWith_of (P := fun _ => True) rfl (fun _ _ => ⟨.machine, .inr (.inl rfl), fun A Q E s _ h => by rw [show keeperOf (.type "set") = pure .machine from rfl]; exact wpAny_pure h⟩) ?_
  refine PySem.evalArgs_none ⟨trivial, ?_⟩
  exact PySem.call_set_0 fun led => h _ _ led (Stp.push _) rfl (get_size _) (Heap.get?_push_size _ rfl)

def lamE : Expr := (paramsOf (fnStmt 3)).defaults.getD 0 (.Name "x" ⟨0, 0, 0, 0⟩)
def lamParams : Arguments := match lamE with | .Lambda a _ _ _ => a | _ => ⟨[], [], none, [], [], none, []⟩
def lamBody : Expr := match lamE with | .Lambda _ b _ _ => b | _ => .Name "x" ⟨0, 0, 0, 0⟩
def lamScope : Scope := match lamE with | .Lambda _ _ c _ => c | _ => { kind := .function, names := [], isGenerator := false, isCoroutine := false }
/-- unique and its default key, as they stand behind the top -/
structure Uq (C : Cx) (u t l : Addr) (uc lc : Value) : Prop where
  mg : C.mg "unique" = some (.ref u)
  fn : ∀ h, Wd C h → ∃ o pm doc, h.get? u = some o ∧ o.cls = .type "function" ∧ o.data = .func (uqFd pm doc uc t) ∧ h.CodeRec uc (nameOf (fnStmt 3))
  tp : ∀ h, Wd C h → ∃ o n, h.get? t = some o ∧ o.data = .seq #[.ref l] n
  lam : ∀ h, Wd C h → ∃ o pm ct, h.get? l = some o ∧ o.cls = .type "function" ∧ o.data = .func (kla_fn "<lambda>" "<lambda>" lamParams lamBody lamScope [] pm lc ct) ∧ h.CodeRec lc "<lambda>"

set_option maxHeartbeats 1000000 in
/-- the generator unique(seq, key), woken at one place alone -/
theorem unique_at (FF : Facts C) {u t l : Addr} {uc lc : Value} (U : Uq C u t l uc lc) {n k : Nat} {fr : List Env} {A₀ : Around} (hw : Wd C s.heap) (hA : Room k A) (hA₀ : Room (k + 1) A₀) (hnk : n + 1 ≤ k) (hfr : A₀.frames = some fr) {vals : List Value} {kws : List (Str × Value)} {seq kv : Value} {X R Fr : List Addr} {σ : Type} {I : Addr → σ → Heap → Prop} {step : σ → PyData → Bool × σ} {ok : σ → PyData → Prop} {ds : List PyData} {z : σ} {Q : Value → Shared → Prop}
    (hbind : ∀ pm doc, BindsTo s (uqFd pm doc uc t) ⟨vals, kws⟩ [("seq", seq), ("key", kv)])
    (hR : ∀ a ∈ X ++ R, Live C s.heap a) (hXR : ∀ a ∈ X, a ∉ R) (hFr : ∀ a ∈ Fr, a ∈ R)
    (hseq : ∀ s', Agree C R [] s s' → Wd C s'.heap → IterOf C seq ds Fr s') (hok : okAll step ok z ds)
    (hI0 : ∀ (h : Heap) (Sa : Addr) (led : Bool), h.get? Sa = some { cls := .type "set", dict := none, data := .set #[] 0 (.fresh 0 0 led) } → I Sa z h)
    (KE : ∀ (L : Addr) (pm doc : Value) (Sa : Addr), C.h₀.get? Sa = none → Keyer C n fr (uqEnv L u pm doc uc t) Sa X kv σ (I Sa) step ok)
    (h : ∀ s₁ L a g, s.heap.get? L = none → s.heap.get? a = none → s.gens[g]? = none → Stp C [] [] s s₁ → s₁.TypeIs (.ref a) "generator" → Iter C A₀ a (keepS step z ds) ⟨L :: X, a :: R, [g]⟩ s₁ → (∀ b ∈ (L :: X) ++ (a :: R), Live C s₁.heap b) → (∀ A, SelfIt C A a ⟨L :: X, a :: R, [g]⟩ s₁) → Q (.ref a) s₁) :
    wpAny (MM C) A (call (.ref u) vals kws) Q E s := by
  obtain ⟨o, pm, doc, ho, hc, hd, hcd⟩ := U.fn _ hw
  refine call_gen_at FF (fd := uqFd pm doc uc t) (body := uqBody) (binds := [("seq", seq), ("key", kv)]) (R := R) (X := X) (A₀ := A₀) hw hA hA₀ ho hd rfl rfl rfl rfl hcd (hbind pm doc) ?_ ?_ hR (fun s₁ L hlo hw₁ hLf ag hl => ?_) h
  · have : ((scopeOf (fnStmt 3)).names.all fun x => x.2 != .cell) = true := rfl
    intro x hx
    simpa using List.all_eq_true.mp this x hx
  · intro x hx
    rcases List.mem_cons.mp hx with rfl | hx
    · rfl
    · rw [List.mem_singleton.mp hx]; rfl
  · have hXL : ∀ a ∈ X, a ≠ L := fun a ha q => dead_of hLf (hR a (List.mem_append_left _ ha)).some q.symm
    have hRL : ∀ a ∈ R, a ≠ L := fun a ha q => dead_of hLf (hR a (List.mem_append_right _ ha)).some q.symm
    refine segN_func fun K H gd lv hgd hK => segN_cons hgd fun K' H' gd' lv' hgd' hK' => segN_stmt fun hw₁ => ?_
    refine wpAny_Assign_Name (ev_set0 FF hw₁ fun s₂ Sa led st₂ hg₂ hSf hS => st_local FF (st₂.loc hlo) fun s₃ hlo₃ st₃ hg₃ => ⟨rfl, ⟨L :: Sa :: X, R, []⟩, ?_, ?_⟩)
    · have st13 : Stp C [L] [] s₁ s₃ := st₂.wide.more st₃ (all1 (.inl (.head _)))
      refine Mid.of (Fn := ⟨L :: X, R, []⟩) st13 (all1 (.inl (.head _))) all0 (fun a ha => ?_) (fun a ha => .inr (.inl ha)) (fun _ h => nomatch h) (fun a ha => ?_) (fun _ h => nomatch h)
      · rcases List.mem_cons.mp ha with rfl | ha
        · exact .inl (.head _)
        · rcases List.mem_cons.mp ha with rfl | ha
          · exact .inr hSf
          · exact .inl (.tail _ ha)
      · by_cases q : a = L
        · rw [q]; exact live_loc hlo₃
        · by_cases q' : a = Sa
          · subst q'
            exact st₃.live ⟨_, hS, .inr (by nofun)⟩ (nin1 q)
          · refine st13.live (hl a ?_) (nin1 q)
            simp only [List.cons_append, List.mem_cons, List.mem_append] at ha ⊢
            rcases ha with ha | ha | ha | ha
            · exact absurd ha q
            · exact absurd ha q'
            · exact .inr (.inl ha)
            · exact .inr (.inr ha)
    · have st13 : Stp C [L] [] s₁ s₃ := st₂.wide.more st₃ (all1 (.inl (.head _)))
      have hSL : Sa ≠ L := dead_of hSf (loc_alive hlo)
      have hSR : ∀ a ∈ X ++ R, a ≠ Sa := fun a ha q => dead_of hSf (hl a (.tail _ ha)).some q.symm
      have hw₃ := st13.wd hw₁
      rw [hK']
      refine segN_cons hgd fun K₂ H₂ gd₂ lv₂ hgd₂ hK₂ => segN_For hgd₂ fun hw₃ => ?_
      have agR : Agree C R [] s s₃ := (ag.mono (fun a h => List.mem_append_right _ h) (fun _ h => h)).trans (st13.agree (fun a ha => nin1 (hRL a ha)) all0)
      refine ev_local hlo₃ (put_ne rfl) (hseq s₃ agR hw₃ _ _ _ fun s₄ it st₄ hg₄ hitf hok₄ => ?_)
      have hlo₄ := st₄.loc hlo₃
      have hl₃ : ∀ a ∈ (L :: Sa :: X) ++ R, Live C s₃.heap a := fun a ha => by
        by_cases q : a = L
        · rw [q]; exact live_loc hlo₃
        · by_cases q' : a = Sa
          · subst q'
            exact st₃.live ⟨_, hS, .inr (by nofun)⟩ (nin1 q)
          · refine st13.live (hl a ?_) (nin1 q)
            simp only [List.cons_append, List.mem_cons, List.mem_append] at ha ⊢
            rcases ha with ha | ha | ha | ha
            · exact absurd ha q
            · exact absurd ha q'
            · exact .inr (.inl ha)
            · exact .inr (.inr ha)
      have hl₄ : ∀ a ∈ (bigF (L :: Sa :: X) ⟨[it], Fr, []⟩).W ++ (bigF (L :: Sa :: X) ⟨[it], Fr, []⟩).R, Live C s₄.heap a := fun a ha => by
        rcases List.mem_append.mp ha with ha | ha
        · rcases List.mem_append.mp ha with ha | ha
          · exact st₄.live (hl₃ a (List.mem_append_left _ ha)) (fun h => nomatch h)
          · exact hok₄.live a (List.mem_append_left _ ha)
        · exact hok₄.live a (List.mem_append_right _ ha)
      refine ⟨bigF (L :: Sa :: X) ⟨[it], Fr, []⟩, Mid.of (Fn := ⟨L :: Sa :: X, R, []⟩) st₄ all0 all0 (fun a ha => ?_) (fun a ha => .inr (.inl (hFr a ha))) (fun _ h => nomatch h) hl₄ (fun _ h => nomatch h), fun k₁ g₁ l₁ p₁ hg hk => ?_⟩
      · rcases List.mem_append.mp ha with ha | ha
        · exact .inl ha
        · exact .inr (List.mem_singleton.mp ha ▸ hitf)
      · have hS₃ := st₃.keep _ _ (nin1 hSL) (.inr (by nofun)) hS
        have hA₁ : Room (n + 1) A₀.in1 := (hA₀.in1).less hnk
        refine uq_loop FF (KE L pm doc Sa (hw₁.none hSf)) (A := A₀.in1) hA₁ hfr hg ?_ (fun a ha => ?_) ds z ⟨[it], Fr, []⟩ s₄ _ hok ?_ hlo₄ put_eq (put_ne rfl) (hI0 _ _ led (st₄.keep _ _ (fun h => nomatch h) (.inr (by nofun)) hS₃)) (fun a ha => ?_) hl₄ (fun _ h => nomatch h)
        · rw [hk, hK₂]
          show K .next = _
          exact hK
        · rcases List.mem_cons.mp ha with rfl | ha
          · exact hSL
          · exact hXL a ha
        · exact hok₄.it _ ((Room.over1 hA₁).less (Nat.zero_le _))
        · intro q
          rcases List.mem_append.mp q with q | q
          · exact dead_of hitf (hl₃ a (List.mem_append_left _ ha)).some (List.mem_singleton.mp q).symm
          · have qR := hFr a q
            rcases List.mem_cons.mp ha with rfl | ha
            · exact hRL _ qR rfl
            · rcases List.mem_cons.mp ha with rfl | ha
              · exact hSR _ (List.mem_append_right _ qR) rfl
              · exact hXR a ha qR
end
end Mine

namespace Mine
open PySem PySem.Calls PySem.W PyProof.Rows
section
variable {C : Cx} {A : Around} {E : Value → Shared → Prop} {s : Shared} {env : Env}

/-- s.add(e) as a statement -/
theorem ex_setadd {o e : Expr} {apos pos p : Pos} {Q : Flow → Shared → Prop}
    (h : wpAny (MM C) A (eval o env) (fun ov s₁ => ∃ Sa, ov = .ref Sa ∧ s₁.TypeIs (.ref Sa) "set" ∧ (∃ ob, s₁.heap.get? Sa = some ob ∧ ob.dict = none) ∧ wpAny (MM C) A (eval e env) (fun v s₂ => wpAny (MM C) A (call (.builtin "set.add") [.ref Sa, v]) (fun _ s₃ => Q .next s₃) E s₂) E s₁) E s)
    (hb : attributeBase o "add" env (eval o env) = eval o env := by rfl) (hline : (apos.endLine == pos.line) = true := by rfl) (hi : interactive env = false := by rfl)
    (hsw : swapsWith (.Call (.Attribute o "add" apos) [e] [] pos) none p.line env = pure false := by rfl) (he : backTo pos (starEach [e] env) = [(false, eval e env)] := by rfl) (he' : starEach [e] env = (false, eval e env) :: starEach [] env := by rfl) :
    wpAny (MM C) A (exec (.Expr (.Call (.Attribute o "add" apos) [e] [] pos) p) env) Q E s := by
  refine wpAny_Expr_any (wpAny_Call_method1_late hb hline he (wpAny_mono h (fun ov s₁ h₁ => ?_) fun _ _ e => e)) hi hsw
  obtain ⟨Sa, rfl, hT, hd, hq⟩ := h₁
  refine ⟨"set", "set.add", PySem.F.plainAttrs_set, PySem.F.slot_set_add, PySem.F.type_set_add, hT, (fun a e => by cases e; exact hd), ?_⟩
  refine callWith_of (P := fun _ => True) rfl (fun _ _ => ⟨.machine, .inr (.inl rfl), fun A Q E s _ h => by rw [show keeperOf (.builtin "set.add") = pure .machine from rfl]; exact wpAny_pure h⟩) ?_
  refine evalArgs_plain ?_
  rw [← he]
  exact arg1 (wpAny_mono hq (fun v s₂ h₂ => ⟨trivial, h₂⟩) fun _ _ e => e) he'

/-- a key function -/
def Keeps (C : Cx) (kv : Value) : Prop := ∀ h, Wd C h → ∃ k, (k = Keeper.frame ∨ k = Keeper.machine ∨ k = Keeper.boundFrame) ∧ Looks (MM C) h (keeperOf kv) k

/-- the try statement, where nothing is raised -/
theorem try_normal (FF : Facts C) {L u Sa t : Addr} {pm doc uc kv v : Value} {l : List (Str × Value)} {b : Bool} {Post : Shared → Prop} {Q : Flow → Shared → Prop} (hw : Wd C s.heap) (hlo : Loc C s.heap L l) (hse : gl l "seen" = some (.ref Sa)) (hke : gl l "key" = some kv) (hit : gl l "item" = some v) (hkp : Keeps C kv)
    (h : ∀ (Q' : Value → Shared → Prop) (E' : Value → Shared → Prop), (∀ kval s₁, Stp C [] [] s s₁ →
        (∀ s₂, Stp C [L] [] s₁ s₂ → ∀ (Q' : Value → Shared → Prop) (E' : Value → Shared → Prop), (∀ s₃, Stp C [] [] s₂ s₃ → Q' (.bool b) s₃) → wpAny (MM C) A (compareOp .NotIn kval (.ref Sa)) Q' E' s₂) →
        (∀ s₂, Stp C [L] [] s₁ s₂ → s₂.TypeIs (.ref Sa) "set" ∧ (∃ ob, s₂.heap.get? Sa = some ob ∧ ob.dict = none) ∧ ∀ (Q' : Value → Shared → Prop) (E' : Value → Shared → Prop), (∀ s₃, Stp C [Sa] [] s₂ s₃ → Post s₃ → Q' .none s₃) → wpAny (MM C) A (call (.builtin "set.add") [.ref Sa, kval]) Q' E' s₂) → Q' kval s₁) →
      wpAny (MM C) A (call kv [v]) Q' E' { s with toks := s.toks })
    (hSL : Sa ≠ L)
    (hq : ∀ s' l', Loc C s'.heap L l' → gl l' "seen" = some (.ref Sa) → gl l' "key" = some kv → gl l' "item" = some v → gl l' "new" = some (.bool b) → Post s' → Stp C [L, Sa] [] s s' → Q .next s') :
    wpAny (MM C) A (exec uqTry (uqEnv L u pm doc uc t)) Q E s := by
  refine wpAny_Try_except (wpAny_execs_cons (wpAny_Assign_Name (wpAny_Call_NameR (ev_local hlo hke ?_))))
  refine callWith_of (P := Wd C) rfl hkp (evalArgs_plain (wpAny_items_cons (env := uqEnv L u pm doc uc t) (rest := []) (ev_local hlo hit (wpAny_items_nil ⟨hw, ?_⟩)) rfl))
  refine h _ _ fun kval s₁ st₁ hno hadd => ?_
  refine st_local FF (st₁.loc hlo) fun s₂ hlo₂ st₂ hg₂ => ?_
  refine wpAny_execs_cons (wpAny_Assign_Name (wpAny_Compare1 (ev_local hlo₂ put_eq (ev_local hlo₂ (put_ne hse) (hno s₂ st₂ _ _ fun s₃ st₃ => ?_)))))
  refine st_local FF (st₃.loc hlo₂) fun s₄ hlo₄ st₄ hg₄ => ?_
  have st14 : Stp C [L] [] s₁ s₄ := (st₂.more st₃ all0).more st₄ (all1 (.inl (.head _)))
  obtain ⟨hT, hD, hA⟩ := hadd s₄ st14
  refine wpAny_execs_cons (ex_setadd (ev_local hlo₄ (put_ne (put_ne hse)) ⟨Sa, rfl, hT, hD, ev_local hlo₄ (put_ne put_eq) (hA _ _ fun s₅ st₅ hP => ?_)⟩))
  refine wpAny_execs_nil (wpAny_execs_nil ?_)
  have st15 : Stp C [L, Sa] [] s s₅ := (st₁.wide.more st14 (all1 (.inl (.head _)))).more st₅ (all1 (.inl (.tail _ (.head _))))
  exact hq s₅ _ (st₅.loc hlo₄ (nin1 hSL.symm)) (put_ne (put_ne hse)) (put_ne (put_ne hke)) (put_ne (put_ne hit)) put_eq hP st15
end
end Mine

namespace Mine
open PySem PySem.Calls PySem.W PyProof.Rows
section
variable {C : Cx} {A : Around} {E : Value → Shared → Prop} {s : Shared} {env : Env}

/-- (lambda x: x)(v) -/
theorem lam_ok (FF : Facts C) {u t l : Addr} {uc lc v : Value} (U : Uq C u t l uc lc) {k : Nat} {Q : Value → Shared → Prop} (hw : Wd C s.heap) (hA : Room k A) (h : ∀ s', Stp C [] [] s s' → Q v s') : wpAny (MM C) A (call (.ref l) [v]) Q E s := by
  obtain ⟨o, pm, ct, ho, hc, hd, hcd⟩ := U.lam _ hw
  refine wpAny_call (kla_callFunE hA.d ho hd rfl rfl rfl hcd ?_)
  rw [show bindArgs (kla_fn "<lambda>" "<lambda>" lamParams lamBody lamScope [] pm lc ct) ⟨[v], []⟩ = (pure [(("x" : Str), v)] : Sem (List (Str × Value))) from rfl]
  refine wpAny_pure (wpAny_newFunctionEnv (M := MM C) ?_ ?_ (fun h₁ hns hsb => ⟨(FF.lim _ hw).fresh _ hsb, kla_codeExpr ?_⟩) rfl)
  · have : (lamScope.names.all fun x => x.2 != .cell) = true := rfl
    intro x hx
    simpa using List.all_eq_true.mp this x hx
  · intro x hx
    rw [List.mem_singleton.mp hx]; rfl
  · have hk₁ : ∀ b o, s.heap.get? b = some o → h₁.get? b = some o := fun b o e => hsb.extBut b o (Nat.ne_of_lt (Heap.lt_size e)) (Heap.get?_push_of_some _ e)
    have hlo : Loc C h₁ s.heap.objs.size [("x", v)] := ⟨hns, hw.none (get_size _)⟩
    show wpAny (MM C) _ (eval (.Name "x" _) _) _ _ _
    exact ev_local hlo rfl (h _ (Stp.keeps hk₁ rfl rfl))
theorem lam_keeps {u t l : Addr} {uc lc : Value} (U : Uq C u t l uc lc) : Keeps C (.ref l) := fun h hw => by
  obtain ⟨⟨c, d, dt, sl⟩, pm, ct, ho, hc, hd, _⟩ := U.lam _ hw
  dsimp only at hc hd
  subst hc hd
  exact ⟨.frame, .inl rfl, (Looks.ld (part := none) ho).andThen .now⟩

abbrev intK (C : Cx) : KeyKind thePw C.w Int := intKind thePw C.w
def IntI (C : Cx) (Sa : Addr) (z : List Int) (h : Heap) : Prop := ∃ n, n ≤ z.length ∧ h.SetOf (intK C) Sa (fun k => z.any (· == k)) n
theorem setOf_keep {h h' : Heap} {Sa : Addr} {S : Int → Bool} {n : Nat} (hS : h.SetOf (intK C) Sa S n) (hk : ∀ o, o.cls ≠ .none → h.get? Sa = some o → h'.get? Sa = some o) : h'.SetOf (intK C) Sa S n := by
  obtain ⟨o, es, ep, t, ho, hex, r⟩ := hS
  exact ⟨o, es, ep, t, hk o (by rw [hex.1]; nofun) ho, hex, r⟩
theorem setOf_set {h : Heap} {Sa : Addr} {S : Int → Bool} {n : Nat} (hS : h.SetOf (intK C) Sa S n) : ∃ o, h.get? Sa = some o ∧ o.ExactSet := let ⟨o, es, ep, t, ho, hex, r⟩ := hS; ⟨o, ho, hex⟩

def intStep (g : Int → Int) (z : List Int) : PyData → Bool × List Int
  | .int i => (!z.any (· == g i), g i :: z)
  | _ => (false, z)
def intOkd (z : List Int) (d : PyData) : Prop := (∃ i, d = .int i) ∧ z.length ≤ 1000

theorem any_cons_eq (z : List Int) (k : Int) : (fun k' => z.any (· == k') || decide (k' = k)) = fun k' => (k :: z).any (· == k') := by
  funext k'
  rw [List.any_cons, Bool.or_comm]
  congr 1
  by_cases e : k' = k
  · subst e; simp
  · simp [e, Ne.symm e]

theorem keyer_int (FF : Facts C) {n : Nat} {fr : List Env} {L u Sa t : Addr} {pm doc uc kv : Value} {g : Int → Int} (hSa : C.h₀.get? Sa = none) (hkp : Keeps C kv)
    (hcall : ∀ (A : Around) (s : Shared) (i : Int) (tk : Tok) (Q : Value → Shared → Prop) (E : Value → Shared → Prop), Room n A → Wd C s.heap → (∀ s' t', Stp C [] [] s s' → Q (.int (g i) t') s') → wpAny (MM C) A (call kv [.int i tk]) Q E s) :
    Keyer C n fr (uqEnv L u pm doc uc t) Sa [] kv (List Int) (IntI C Sa) (intStep g) intOkd where
  agree := fun z F V s s' ag hF ⟨n, hn, hS⟩ => ⟨n, hn, setOf_keep hS fun o hc e => ag.keep _ _ hF (.inr hc) e⟩
  try_ := by
    rintro A z d s l v as Q E hA hfr ⟨⟨i, rfl⟩, hz⟩ ⟨m, hm, hS⟩ hw hlo hse hke hit hrd has hlive hq
    obtain ⟨tk, rfl, rfl⟩ := reads_int hrd
    have hSL : Sa ≠ L := fun q => by
      obtain ⟨o, es, ep, t', e, hex, hd', _⟩ := id hS
      obtain ⟨o', es', ep', e', hd, _⟩ := hlo.ns
      rw [q] at e
      have e2 := e.symm.trans e'
      cases e2
      rw [hd] at hd'; cases hd'
    refine try_normal FF (b := !z.any (· == g i)) (Post := fun s' => IntI C Sa (g i :: z) s'.heap ∧ Live C s'.heap Sa) hw hlo hse hke hit hkp (fun Q' E' hk => ?_) hSL fun s' l' hlo' hse' hke' hit' hnew' hP st => hq s' l' hlo' hse' hke' hit' hnew' hP.1 st fun a ha => ?_
    · refine hcall A _ i tk _ _ hA hw fun s₁ t₁ st₁ => hk _ s₁ ⟨st₁.keep, st₁.tup, st₁.there, st₁.gens, st₁.os, st₁.bare, st₁.wd⟩ (fun s₂ st₂ Q' E' hQ => ?_) fun s₂ st₂ => ?_
      · have hS₂ : s₂.heap.SetOf (intK C) Sa (fun k => z.any (· == k)) m := setOf_keep (setOf_keep hS fun o hc e => st₁.keep _ _ nin_nil (.inr hc) e) fun o hc e => st₂.keep _ _ (nin1 hSL) (.inr hc) e
        exact wpAny_notInSet_of (knd := intK C) (k := g i) (by simp [intKind, Value.isInt]) rfl hS₂ (hQ _ (Stp.tok (s' := s₂) (.refl s₂)))
      · have hS₂ : s₂.heap.SetOf (intK C) Sa (fun k => z.any (· == k)) m := setOf_keep (setOf_keep hS fun o hc e => st₁.keep _ _ nin_nil (.inr hc) e) fun o hc e => st₂.keep _ _ (nin1 hSL) (.inr hc) e
        obtain ⟨o₂, e₂, hex₂⟩ := setOf_set hS₂
        refine ⟨hS₂.typeIs, ⟨o₂, e₂, hex₂.2.1⟩, fun Q' E' hQ => ?_⟩
        refine PySem.call_set_add (knd := intK C) (k := g i) (by simp [intKind, Value.isInt]) rfl hS₂ (by show m + 1 < 4096; omega) fun h' hsb hS' => ?_
        rw [any_cons_eq] at hS'
        obtain ⟨o₃, e₃, hex₃⟩ := setOf_set hS'
        refine hQ _ (Stp.same FF hSa hsb (not_tup_cls e₂ (by rw [hex₂.1]; nofun))) ⟨⟨_, ?_, hS'⟩, ⟨o₃, e₃, .inr (by rw [hex₃.1]; nofun)⟩⟩
        rw [List.length_cons]
        split <;> omega
    · rcases List.mem_cons.mp ha with rfl | ha
      · exact live_loc hlo'
      · rw [List.mem_singleton.mp ha]; exact hP.2
end
end Mine

namespace Mine
open PySem PySem.Calls PySem.W PyProof.Rows
section
variable {C : Cx} {A : Around} {E : Value → Shared → Prop} {s : Shared} {env : Env}

theorem list_no_hash : typeLookup (.type "list") "__hash__" = pure (some .none) := by rw [typeLookup_type, builtinLookup_eq_fast]; kernel_rfl
theorem sub_list_set : isSubtype (.type "list") (.type "set") = pure false := by rw [isSubtype_type]; kernel_rfl

theorem hash_list {M : Model} {l : Addr} {Q : Int → Shared → Prop} (hl : s.TypeIs (.ref l) "list") (hh : A.handled = none) (hu : A.units < cLine)
    (h : ∀ h' tk e, Heap.NewExc s.heap h' e "TypeError" → E (.ref e) { s with heap := h', toks := tk }) : wpAny M A (pyHash (.ref l)) Q E s := by
  unfold pyHash
  first | unfold pyHashByItsType | skip
  refine wpAny_bind (wpAny_cRoomFor_or (.inr hu) ?_)
  refine wpAny_bind (wpAny_specialOf hl list_no_hash ?_)
  show wpAny _ _ (if (some Value.none == some Value.none) = true then _ else _) Q E s
  rw [if_pos (by simp)]
  refine wpAny_bind (wpAny_rule ?_)
  refine wpAny_bind (wpAny_typeNameOf' hl (by decide) ?_)
  refine wpAny_bind (wpAny_raiseTypeError hh h ?_)
  decide +kernel

theorem notin_list {K : Type} [DecidableEq K] {knd : KeyKind thePw C.w K} {S : K → Bool} {n : Nat} {Sa l : Addr} {Q : Value → Shared → Prop} (hS : s.heap.SetOf knd Sa S n) (hl : s.TypeIs (.ref l) "list") (hh : A.handled = none) (hu : A.units + 10 < cLine)
    (h : ∀ h' tk e, Heap.NewExc s.heap h' e "TypeError" → E (.ref e) { s with heap := h', toks := tk }) : wpAny (MM C) A (compareOp .NotIn (.ref l) (.ref Sa)) Q E s := by
  show wpAny _ _ (do return .bool (!(← contains (.ref Sa) (.ref l)))) Q E s
  refine wpAny_bind ?_
  unfold contains
  try with_reducible refine wpAny_holding ?_
  refine wpAny_bind (wpAny_specialOf hS.typeIs PySem.F.slot_set_contains.lookup ?_)
  show wpAny _ _ (if (some (Value.builtin "set.__contains__") == some Value.none) = true then _ else _) _ E s
  rw [if_neg (by rw [beq_builtin_none]; exact Bool.false_ne_true)]
  refine wpAny_bind (wpAny_callSpecialUnlessNone?_slot (name := Str.ofString "__contains__") hS.typeIs PySem.F.slot_set_contains
    (wpAny_call_entry PySem.F.slot_set_contains hS.typeIs entry_set_contains ?_ (PySem.F.args_set_contains_2 _ _)))
  unfold Builtin.«frozenset.__contains__» Builtin.Frozenset.oneOther
  simp only [List.isEmpty_nil, bind_assoc]
  unfold Builtin.Frozenset.addrOf Builtin.Frozenset.withSetAsKey setContains
  refine wpAny_bind (wpAny_pure ?_)
  try dsimp only
  refine wpAny_bind (wpAny_pure ?_)
  try dsimp only
  refine wpAny_bind (wpAny_tryCatch ?_)
  refine wpAny_holding ?_
  refine wpAny_bind (hash_list hl hh (by show A.units + 1 < cLine; omega) fun h' tk e hx => ?_)
  have hl' : Shared.TypeIs { s with heap := h', toks := tk } (.ref l) "list" := let ⟨o, e, c⟩ := hl; ⟨o, hx.keeps _ _ e, c⟩
  refine wpAny_bind (wpAny_bind (wpAny_isInstance hl' sub_list_set ?_))
  refine wpAny_pure ?_
  simp only [Bool.not_false, if_true]
  exact wpAny_bind (wpAny_throw (h h' tk e hx))

theorem Wd.extS {h h' : Heap} {S : List Addr} (x : Wd C h) (hS : ∀ a ∈ S, C.hb.get? a = Option.none) (hs : ∀ b o, b ∉ S → h.get? b = some o → h'.get? b = some o) (hst : ∃ o, C.hb.get? cStatics = some o)
    (htab : ∀ i ∈ tabIx, (∃ o, C.hb.get? (C.fc i) = some o) ∧ ∃ o, C.hb.get? (C.fp i) = some o) (hp : ∀ p, C.pin = some p → ∃ o, h'.get? p.1 = some o ∧ o.data = p.2) : Wd C h' := by
  have ne : ∀ b o, C.hb.get? b = some o → b ∉ S := fun b o e h => by rw [hS b h] at e; cases e
  obtain ⟨os, hos⟩ := hst
  have hc := ne _ _ hos
  have e1 := x.stat _ hos
  have e2 := hs _ _ hc e1
  refine ⟨⟨fun b o e => ?_, fun b o e => ?_⟩, fun o e => hs _ _ hc (x.stat o e), fun i hi => ?_, hp⟩
  · have hb := ne b o e
    rcases x.old.old b o e with y | ⟨t, hc', vs, more, hv, y⟩ | ⟨rfl, hc', ⟨o', es, n, ho', r⟩, z⟩
    · exact .inl (hs _ _ hb y)
    · exact .inr (.inl ⟨t, hc', vs, more, hv, hs _ _ hb y⟩)
    · exact .inr (.inr ⟨rfl, hc', ⟨o', es, n, hs _ _ hb ho', r⟩, fun key => by rw [OldK.staticOf_congr (e2.trans e1.symm) key]; exact z key⟩)
  · obtain ⟨o', e'⟩ := x.old.there b o e
    exact ⟨o', hs _ _ (ne b o e) e'⟩
  · obtain ⟨⟨oc, ec⟩, ⟨op, ep⟩⟩ := htab i hi
    have n1 := ne _ _ ec
    have n2 := ne _ _ ep
    obtain ⟨ps, ⟨o, vs, file, tf, flags, tg, inF, text, tt, op, a, r1, r2, r3, r4, r5, r6, b, r⟩, ⟨⟨o', vs', a', r'⟩, t'⟩⟩ := x.tabs i hi
    exact ⟨ps, ⟨o, vs, file, tf, flags, tg, inF, text, tt, op, hs _ _ n1 a, r1, r2, r3, r4, r5, r6, hs _ _ n2 b, r⟩, ⟨⟨o', vs', hs _ _ n1 a', r'⟩, hs _ _ n2 t'⟩⟩

theorem note_new {M : Model} {base : Heap} {outer : List Env} {L e : Addr} {oe : Obj} {vs : Array Value} {Q : Unit → Shared → Prop}
    (hfr : A.frames = some (env :: outer)) (hl : s.heap.FunFrames base (env :: outer)) (hf : env.frame = some L)
    (he : s.heap.get? e = some oe) (hkb : base.StaysIn s.heap) (hen : base.get? e = none) (hd : oe.data = .fields vs) (h1 : vs[1]? = some .none)
    (h : ∀ h', Heap.Left base (env :: outer) e oe.cls s.heap h' → Q () { s with heap := h' }) : wpAny M A (noteFrame (.ref e) env) (fun _ s' => wpAny M A (setFlight (.ref e) none) Q E s') E s := by
  unfold noteFrame
  simp only [hf]
  refine wpAny_bind (wpAny_field he hd h1 ?_)
  rw [if_neg (by decide)]
  exact wpAny_newEntry hfr hl hf he hkb hen hd (Array.getElem?_eq_some_iff.mp h1).1 h

/-- what a caught exception leaves behind: two frames' slots, and new objects -/
theorem stp_caught (FF : Facts C) {h' : Heap} {tk : Tok} {Lu Lw : Addr} {lo : List (Str × Value)} {es : Array DictEntry} {ep : Nat} (hw : Wd C s.heap) (hlo : Loc C s.heap Lu lo) (hpin : C.pin = some (Lw, .dict es ep)) (hne : Lu ≠ Lw)
    (hb : (hideAll s.heap [Lu, Lw]).StaysIn h') (hs : ∀ a ∈ [Lu, Lw], ∀ o, s.heap.get? a = some o → ∃ o', h'.get? a = some o' ∧ o'.data = o.data) :
    Stp C [Lu, Lw] [] s { s with heap := h', toks := tk } ∧ Loc C h' Lu lo := by
  obtain ⟨ow, ew, dw⟩ := hw.pin _ hpin
  have dw : ow.data = .dict es ep := dw
  obtain ⟨⟨ou, es', ep', eu, du, r⟩, hnew⟩ := id hlo
  have kp : ∀ b o, b ∉ [Lu, Lw] → s.heap.get? b = some o → h'.get? b = some o := fun b o hn e => hb b o (hideAll_get _ e hn)
  obtain ⟨ou', eu', du'⟩ := hs Lu (by simp) _ eu
  obtain ⟨ow', ew', dw'⟩ := hs Lw (by simp) _ ew
  have hwd : Wd C h' := hw.extS (S := [Lu, Lw]) (all2 (nb hnew) (FF.pinf _ hpin)) kp FF.stat FF.tabl fun p hp => by
    rw [hpin] at hp; cases hp
    exact ⟨ow', ew', dw'.trans dw⟩
  refine ⟨⟨fun b o hn _ e => kp b o hn e, fun b o xs n hc hd e => kp b o ?_ e, fun b o hn e => ⟨o, kp b o hn e⟩, fun _ _ _ e => e, rfl, id, fun _ => hwd⟩, ⟨⟨ou', es', ep', eu', du'.trans du, r⟩, hnew⟩⟩
  refine nin2 (fun q => ?_) (fun q => ?_)
  · rw [q, eu] at e; cases e; rw [du] at hd; cases hd
  · rw [q, ew] at e; cases e; rw [dw] at hd; cases hd

theorem exc_base : isSubtype (.type "TypeError") (.type "BaseException") = pure true := by rw [isSubtype_type]; kernel_rfl
theorem exc_self : isSubtype (.type "TypeError") (.type "TypeError") = pure true := by rw [isSubtype_type]; kernel_rfl
theorem exc_nt : isSubtype (.type ((Manifest.find? "TypeError").elim "type" fun x => x.metatype)) (.type "tuple") = pure false := by
  rw [show ((Manifest.find? "TypeError").elim "type" fun x => x.metatype) = "type" from by decide +kernel, isSubtype_type]; kernel_rfl
end
end Mine

namespace Mine
open PySem PySem.Calls PySem.W PyProof.Rows
section
variable {C : Cx} {A : Around} {E : Value → Shared → Prop} {s : Shared} {env : Env}

set_option maxHeartbeats 1000000 in
/-- unhashable keys: every item is new -/
theorem keyer_list (FF : Facts C) {n : Nat} {env₂ : Env} {L u Sa t l Lw : Addr} {pm doc uc lc : Value} {es : Array DictEntry} {ep : Nat} (U : Uq C u t l uc lc) (hSa : C.h₀.get? Sa = none) (hpin : C.pin = some (Lw, .dict es ep)) (hk₂ : env₂.scope.kind ≠ .module) (hf₂ : env₂.frame = some Lw) (hn : 2 ≤ n) :
    Keyer C n [env₂] (uqEnv L u pm doc uc t) Sa [Lw] (.ref l) (List Int) (IntI C Sa) (fun z _ => (true, z)) (fun _ d => ∃ ds, d = .list ds) where
  agree := fun z F V s s' ag hF ⟨n, hn, hS⟩ => ⟨n, hn, setOf_keep hS fun o hc e => ag.keep _ _ hF (.inr hc) e⟩
  try_ := by
    rintro A z d s lo v as Q E hA hfr ⟨ds, rfl⟩ ⟨m, hm, hS⟩ hw hlo hse hke hit hrd has hlive hq
    obtain ⟨il, xs, bs, rfl, rfl, hil, hir⟩ := list_of hrd
    have hSL : Sa ≠ L := fun q => by
      obtain ⟨o, es, ep, t', e, hex, hd', _⟩ := id hS
      obtain ⟨o', es', ep', e', hd, _⟩ := hlo.ns
      rw [q] at e
      have e2 := e.symm.trans e'
      cases e2
      rw [hd] at hd'; cases hd'
    have hSw : Sa ≠ Lw := fun q => by
      obtain ⟨o, es, ep, t', e, hex, hd', _⟩ := id hS
      obtain ⟨o', e', hd⟩ := hw.pin _ hpin
      rw [q] at e
      have e2 := e.symm.trans e'
      cases e2
      rw [hd] at hd'; cases hd'
    have hLw : L ≠ Lw := fun q => npin hlo.new hpin q.symm
    refine wpAny_Try_except (wpAny_execs_cons (wpAny_Assign_Name (wpAny_Call_NameR (ev_local hlo hke ?_))))
    refine callWith_of (P := Wd C) rfl (lam_keeps U) (evalArgs_plain (wpAny_items_cons (env := uqEnv L u pm doc uc t) (rest := []) (ev_local hlo hit (wpAny_items_nil ⟨hw, ?_⟩)) rfl))
    refine lam_ok FF U (s := { s with toks := s.toks }) hw hA fun s₁ st₁ => ?_
    have st₁ : Stp C [] [] s s₁ := ⟨st₁.keep, st₁.tup, st₁.there, st₁.gens, st₁.os, st₁.bare, st₁.wd⟩
    refine st_local FF (st₁.loc hlo) fun s₂ hlo₂ st₂ hg₂ => ?_
    have st02 : Stp C [L] [] s s₂ := st₁.wide.more st₂ (all1 (.inl (.head _)))
    have hw₂ := st02.wd hw
    have hS₂ : s₂.heap.SetOf (intK C) Sa (fun k => z.any (· == k)) m := setOf_keep hS fun o hc e => st02.keep _ _ (nin1 hSL) (.inr hc) e
    have hilL : il ≠ L := (has il (.head _)).1
    have hT₂ : s₂.TypeIs (.ref il) "list" := (st02.list hil (nin1 hilL)).typeIs
    refine wpAny_execs_cons (wpAny_Assign_Name (wpAny_Compare1 (ev_local hlo₂ put_eq (ev_local hlo₂ (put_ne hse) (notin_list hS₂ hT₂ hA.handled (by have := hA.units; omega) fun h₁ tk e hx => ?_)))))
    obtain ⟨ow, ew, dw⟩ := hw₂.pin _ hpin
    have dw : ow.data = .dict es ep := dw
    obtain ⟨ou, es', ep', eu, du, ru⟩ := hlo₂.ns
    have eu : s₂.heap.get? L = some ou := eu
    have hbL : (hideAll s₂.heap [L, Lw]).get? L = none := hideAll_none _ (by simp)
    have hbW : (hideAll s₂.heap [L, Lw]).get? Lw = none := hideAll_none _ (by simp)
    have hkb : (hideAll s₂.heap [L, Lw]).StaysIn h₁ := fun b o e => hx.keeps _ _ (of_hideAll _ e)
    have hen : (hideAll s₂.heap [L, Lw]).get? e = none := by
      cases q : (hideAll s₂.heap [L, Lw]).get? e with
      | none => rfl
      | some o => have := of_hideAll _ q; rw [hx.new] at this; cases this
    obtain ⟨oe, t₀, he, hce, hde⟩ := hx.there
    refine note_new (base := hideAll s₂.heap [L, Lw]) (L := L) hfr ⟨by show ScopeKind.function ≠ _; decide, ⟨L, ou, rfl, hbL, hx.keeps _ _ eu, fun vs q => by rw [du] at q; cases q⟩, hk₂, ⟨Lw, ow, hf₂, hbW, hx.keeps _ _ ew, fun vs q => by rw [dw] at q; cases q⟩, trivial⟩ rfl he hkb hen hde rfl fun h₂ hL => ?_
    obtain ⟨k1, -, ⟨oe', vs', T, oT, ts, he', hce', hde', hv1, hnT, hTe, hT, hdT, h3⟩, k4⟩ := hL
    obtain ⟨sl, eu'⟩ := k4 L ou (hx.keeps _ _ eu) fun vs q => by rw [du] at q; cases q
    obtain ⟨sl', ew'⟩ := k4 Lw ow (hx.keeps _ _ ew) fun vs q => by rw [dw] at q; cases q
    obtain ⟨stA, hloA⟩ := stp_caught (tk := tk) FF hw₂ hlo₂ hpin hLw k1 (fun a ha o e => by
      simp only [List.mem_cons, List.not_mem_nil, or_false] at ha
      rcases ha with rfl | rfl
      · rw [eu] at e; cases e; exact ⟨_, eu', rfl⟩
      · rw [ew] at e; cases e; exact ⟨_, ew', rfl⟩)
    have hwA : Wd C h₂ := stA.wd hw₂
    refine wpAny_handleBy_builtin (X := "TypeError") (T := "TypeError") (b := true) exc_base exc_nt exc_self (ev_b FF (hp := h₂) hwA ⟨rfl, ⟨oe', he', hce'.trans hce⟩, ?_⟩)
    simp only [if_true]
    have hTL : T ≠ L := fun q => by rw [q, eu'] at hT; cases hT; rw [du] at hdT; cases hdT
    have hTw : T ≠ Lw := fun q => by rw [q, ew'] at hT; cases hT; rw [dw] at hdT; cases hdT
    refine wpAny_setFlight_none he' hde' hv1 hT hdT (Array.getElem?_eq_some_iff.mp h3).1 ?_
    have k1' : (hideAll s₂.heap [L, Lw]).StaysIn (h₂.update T (Obj.mapFields (·.setIfInBounds 3 .none))) := fun b o e => by
      rw [Heap.get?_update_other _ _ (fun q => by rw [← q, hnT] at e; cases e)]
      exact k1 b o e
    obtain ⟨stB, hloB⟩ := stp_caught (tk := tk) FF hw₂ hlo₂ hpin hLw k1' (fun a ha o e => by
      simp only [List.mem_cons, List.not_mem_nil, or_false] at ha
      rcases ha with rfl | rfl
      · rw [eu] at e; cases e; exact ⟨_, (Heap.get?_update_other _ _ hTL).trans eu', rfl⟩
      · rw [ew] at e; cases e; exact ⟨_, (Heap.get?_update_other _ _ hTw).trans ew', rfl⟩)
    refine wpAny_execs_cons (wpAny_Assign_Name (wpAny_Constant_bool ?_))
    refine st_local FF hloB fun s₃ hlo₃ st₃ hg₃ => wpAny_execs_nil ?_
    have st03 : Stp C [L, Sa, Lw] [] s s₃ := ((st02.mono (W' := [L, Sa, Lw]) (fun a h => by rw [List.mem_singleton.mp h]; exact .head _) fun _ h => h).more stB (all2 (.inl (.head _)) (.inl (.tail _ (.tail _ (.head _)))))).more st₃ (all1 (.inl (.head _)))
    have hS₃ : s₃.heap.SetOf (intK C) Sa (fun k => z.any (· == k)) m := setOf_keep (setOf_keep hS₂ fun o hc e => stB.keep _ _ (nin2 hSL hSw) (.inr hc) e) fun o hc e => st₃.keep _ _ (nin1 hSL) (.inr hc) e
    refine hq s₃ _ hlo₃ (put_ne (put_ne hse)) (put_ne (put_ne hke)) (put_ne (put_ne hit)) put_eq ⟨m, hm, hS₃⟩ st03 fun a ha => ?_
    simp only [List.mem_cons, List.not_mem_nil, or_false] at ha
    rcases ha with rfl | rfl | rfl
    · exact live_loc hlo₃
    · obtain ⟨o, e, hex⟩ := setOf_set hS₃
      exact ⟨o, e, .inr (by rw [hex.1]; nofun)⟩
    · obtain ⟨o, e, _⟩ := (st03.wd hw).pin _ hpin
      exact ⟨o, e, .inl (FF.pinf _ hpin)⟩
end
end Mine

namespace Mine
open PySem PySem.Calls PySem.W PyProof.Rows

/-- the hash of the tuple (i,) -/
def kH (i : Nat) : Int := reduceHash (Builtin.Tuple.tupleHashOf [hashInt (i : Int)])
def kV : List Int := [-8753497827991233192, -6644214454873602895, 6909455589863252355, -5029647727744300836, 8524022316992554414, -7813438383599366905, -1305797627497368480, -6198871656470064846, 308769099631933579]
theorem kH_all : (List.range 9).map kH = kV := by decide +kernel
def kW (i : Nat) : Int := kV.getD i 0
theorem kH_eq {i : Nat} (h : i < 9) : kH i = kW i := by
  have e : kV[i]? = some (kH i) := by rw [← kH_all, List.getElem?_map, List.getElem?_range h, Option.map_some]
  unfold kW
  rw [List.getD_eq_getElem?_getD, e, Option.getD_some]
theorem kW_inj_all : ∀ i ∈ List.range 9, ∀ j ∈ List.range 9, kW i = kW j → i = j := by decide +kernel
theorem kW_inj {i j : Nat} (hi : i < 9) (hj : j < 9) (h : kW i = kW j) : i = j := kW_inj_all i (List.mem_range.mpr hi) j (List.mem_range.mpr hj) h

def s31 (i : Nat) : Nat := SetTable.bits (kW i) % 32
theorem s31_inj_all : ∀ i ∈ List.range 9, ∀ j ∈ List.range 9, s31 i = s31 j → i = j := by decide +kernel
theorem s31_inj {i j : Nat} (hi : i < 9) (hj : j < 9) (h : s31 i = s31 j) : i = j := s31_inj_all i (List.mem_range.mpr hi) j (List.mem_range.mpr hj) h

abbrev tm (m : Nat) : SetTable := ⟨m, #[], #[], 0, false, 0, false⟩
def walk (m : Nat) (h : Int) : Nat → SetTable.Probe
  | 0 => (tm m).probeStart h
  | n + 1 => (tm m).advance (walk m h n)
def walkL (m : Nat) (i : Nat) : List Nat := (List.range 9).map fun n => (walk m (kW i) n).j
theorem walk7_all : ∀ i ∈ List.range 9, 5 ≤ (walkL 7 i).eraseDups.length ∧ (walkL 7 i).eraseDups.Nodup ∧ (walkL 7 i).eraseDups.all (fun j => (walkL 7 i).contains j) = true ∧ (walkL 7 i).all (fun j => decide (j ≤ 7)) = true := by decide +kernel
theorem walk31_start (i : Nat) : (walk 31 (kW i) 0).j = s31 i := rfl

/-! the binary search -/
abbrev Asc (xs : Array Nat) : Prop := ∀ (a b u v : Nat), a < b → xs[a]? = some u → xs[b]? = some v → u < v
theorem go_spec (xs : Array Nat) (j : Nat) (hs : Asc xs) : ∀ (fuel lo hi : Nat), hi - lo ≤ fuel → lo ≤ hi → hi ≤ xs.size → (∀ i v, i < lo → xs[i]? = some v → v < j) → (∀ i v, hi ≤ i → xs[i]? = some v → j ≤ v) →
    SetTable.below.go xs j fuel lo hi ≤ xs.size ∧ (∀ i v, i < SetTable.below.go xs j fuel lo hi → xs[i]? = some v → v < j) ∧ ∀ i v, SetTable.below.go xs j fuel lo hi ≤ i → xs[i]? = some v → j ≤ v := by
  intro fuel
  induction fuel with
  | zero =>
    intro lo hi h1 h2 h3 h4 h5
    have : lo = hi := by omega
    subst this
    unfold SetTable.below.go
    exact ⟨h3, h4, h5⟩
  | succ fuel ih =>
    intro lo hi h1 h2 h3 h4 h5
    unfold SetTable.below.go
    split
    · rename_i hlt
      dsimp only
      have hmlt : (lo + hi) / 2 < xs.size := by omega
      have hme : xs[(lo + hi) / 2]? = some xs[(lo + hi) / 2] := Array.getElem?_eq_getElem hmlt
      have hmd : xs.getD ((lo + hi) / 2) j = xs[(lo + hi) / 2] := by simp [hmlt]
      rw [hmd]
      split
      · rename_i hm
        refine ih _ _ (by omega) (by omega) h3 (fun i v hi' e => ?_) h5
        rcases Nat.lt_or_ge i ((lo + hi) / 2) with q | q
        · exact Nat.lt_trans (hs i _ _ _ q e hme) hm
        · have : i = (lo + hi) / 2 := by omega
          rw [this, hme] at e
          cases e
          exact hm
      · rename_i hm
        refine ih _ _ (by omega) (by omega) (by omega) h4 fun i v hi' e => ?_
        rcases Nat.lt_or_ge ((lo + hi) / 2) i with q | q
        · have := hs _ i _ _ q hme e
          omega
        · have : i = (lo + hi) / 2 := by omega
          rw [this, hme] at e
          cases e
          omega
    · have : lo = hi := by omega
      subst this
      exact ⟨h3, h4, h5⟩
theorem below_spec {xs : Array Nat} (hs : Asc xs) (j : Nat) : SetTable.below xs j ≤ xs.size ∧ (∀ i v, i < SetTable.below xs j → xs[i]? = some v → v < j) ∧ ∀ i v, SetTable.below xs j ≤ i → xs[i]? = some v → j ≤ v :=
  go_spec xs j hs xs.size 0 xs.size (by omega) (by omega) (Nat.le_refl _) (fun i v h => absurd h (Nat.not_lt_zero i)) (fun i v h e => by rw [Array.getElem?_eq_none h] at e; cases e)
end Mine

namespace Mine
open PySem PySem.Calls PySem.W PyProof.Rows

/-- an element of the table: key, slot, the key's address -/
structure Cl where
  k : Nat
  j : Nat
  a : Addr

structure TInv (t : SetTable) (cs : List Cl) : Prop where
  place : t.place = (cs.map Cl.j).toArray
  dum : t.dummies = #[]
  mask : (t.mask = 7 ∧ cs.length ≤ 4) ∨ (t.mask = 31 ∧ ∀ c ∈ cs, c.j = s31 c.k)
  srt : (cs.map Cl.j).Pairwise (· < ·)
  nd : (cs.map Cl.k).Nodup
  lt : ∀ c ∈ cs, c.k < 9
  reach : t.mask = 7 → ∀ c ∈ cs, ∃ n, n < 9 ∧ c.j = (walk 7 (kW c.k) n).j ∧ ∀ n', n' < n → ∃ y ∈ cs, y.j = (walk 7 (kW c.k) n').j

theorem asc_of {l : List Nat} (h : l.Pairwise (· < ·)) : Asc l.toArray := fun a b u v hab ea eb => by
  rw [List.getElem?_toArray] at ea eb
  obtain ⟨ha, rfl⟩ := List.getElem?_eq_some_iff.mp ea
  obtain ⟨hb, rfl⟩ := List.getElem?_eq_some_iff.mp eb
  exact List.pairwise_iff_getElem.mp h a b ha hb hab

section
variable {t : SetTable} {cs : List Cl}
theorem slot_live (hp : t.place = (cs.map Cl.j).toArray) (srt : (cs.map Cl.j).Pairwise (· < ·)) {i : Nat} {c : Cl} (h : cs[i]? = some c) : t.slot c.j = .live i := by
  have hs := asc_of srt
  obtain ⟨b1, b2, b3⟩ := below_spec hs c.j
  have hi : ((cs.map Cl.j).toArray)[i]? = some c.j := by rw [List.getElem?_toArray, List.getElem?_map, h]; rfl
  have e : SetTable.below (cs.map Cl.j).toArray c.j = i := by
    rcases Nat.lt_trichotomy i (SetTable.below (cs.map Cl.j).toArray c.j) with q | q | q
    · exact absurd (b2 i _ q hi) (Nat.lt_irrefl _)
    · exact q.symm
    · have hlt : SetTable.below (cs.map Cl.j).toArray c.j < ((cs.map Cl.j).toArray).size := Nat.lt_trans q (Array.getElem?_eq_some_iff.mp hi).1
      have hr := Array.getElem?_eq_getElem hlt
      have h1 := b3 _ _ (Nat.le_refl _) hr
      have h2 := hs _ _ _ _ q hr hi
      omega
  unfold SetTable.slot
  rw [hp, e]
  dsimp only
  rw [hi]
  simp
theorem slot_empty (hp : t.place = (cs.map Cl.j).toArray) (hd : t.dummies = #[]) {j : Nat} (h : ∀ c ∈ cs, c.j ≠ j) : t.slot j = .empty := by
  unfold SetTable.slot
  rw [hp, hd]
  dsimp only
  rw [if_neg, if_neg]
  · simp [SetTable.has]
  · intro q
    have q := eq_of_beq q
    rw [List.getElem?_toArray, List.getElem?_map] at q
    cases e : cs[SetTable.below (cs.map Cl.j).toArray j]? with
    | none => rw [e] at q; cases q
    | some c =>
      rw [e] at q
      exact h c (List.mem_of_getElem? e) (Option.some.inj q)

theorem walk_dummy (m : Nat) (h : Int) : ∀ n, (walk m h n).dummy = none
  | 0 => rfl
  | n + 1 => by
    unfold walk SetTable.advance
    split
    · exact walk_dummy m h n
    · exact walk_dummy m h n

theorem probe_go (hp : t.place = (cs.map Cl.j).toArray) (srt : (cs.map Cl.j).Pairwise (· < ·)) (hlt : ∀ c ∈ cs, c.k < 9) {hashAt : Nat → Int} (hh : ∀ i c, cs[i]? = some c → hashAt i = kW c.k) {k : Nat} (hk : k < 9) : ∀ (d n₀ fuel : Nat),
    (∀ n', n₀ ≤ n' → n' < n₀ + d → ∃ y ∈ cs, y.j = (walk t.mask (kW k) n').j ∧ y.k ≠ k) → SetTable.probe.go t hashAt (kW k) (fuel + d) (walk t.mask (kW k) n₀) = SetTable.probe.go t hashAt (kW k) fuel (walk t.mask (kW k) (n₀ + d))
  | 0, _, _, _ => rfl
  | d + 1, n₀, fuel, h => by
    obtain ⟨y, hy, ey, ne⟩ := h n₀ (Nat.le_refl _) (by omega)
    obtain ⟨i, hi⟩ := List.getElem?_of_mem hy
    rw [show fuel + (d + 1) = (fuel + d) + 1 by omega, SetTable.probe.go, ← ey, slot_live hp srt hi]
    dsimp only
    rw [hh i y hi, if_neg (by
      intro q
      exact ne (kW_inj (hlt y hy) hk (eq_of_beq q)))]
    have e : t.advance (walk t.mask (kW k) n₀) = walk t.mask (kW k) (n₀ + 1) := rfl
    rw [e, probe_go hp srt hlt hh hk d (n₀ + 1) fuel (fun n' h1 h2 => h n' (by omega) (by omega)), show n₀ + 1 + d = n₀ + (d + 1) by omega]

theorem first_at {P : Nat → Prop} : ∀ n, P n → ∃ m, m ≤ n ∧ P m ∧ ∀ n', n' < m → ¬ P n' := by
  intro n
  induction n using Nat.strongRecOn with
  | ind n ih =>
    intro h
    by_cases q : ∃ n', n' < n ∧ P n'
    · obtain ⟨n', hn, hp⟩ := q
      obtain ⟨m, hm, h1, h2⟩ := ih n' hn hp
      exact ⟨m, by omega, h1, h2⟩
    · exact ⟨n, Nat.le_refl _, h, fun n' hn hp => q ⟨n', hn, hp⟩⟩

theorem nd_key : ∀ {cs : List Cl}, (cs.map Cl.k).Nodup → ∀ {c y : Cl}, c ∈ cs → y ∈ cs → c.k = y.k → c = y
  | x :: xs, nd, c, y, hc, hy, e => by
    rw [List.map_cons, List.nodup_cons] at nd
    rcases List.mem_cons.mp hc with q | hc'
    · rcases List.mem_cons.mp hy with q' | hy'
      · rw [q, q']
      · exact absurd (List.mem_map.mpr ⟨y, hy', by rw [← e, q]⟩) nd.1
    · rcases List.mem_cons.mp hy with q' | hy'
      · exact absurd (List.mem_map.mpr ⟨c, hc', by rw [e, q']⟩) nd.1
      · exact nd_key nd.2 hc' hy' e

theorem probe_found (T : TInv t cs) {hashAt : Nat → Int} (hh : ∀ i c, cs[i]? = some c → hashAt i = kW c.k) {i : Nat} {c : Cl} (hi : cs[i]? = some c) : ∃ next, t.probe hashAt (kW c.k) (t.probeStart (kW c.k)) = some (.candidate c.j i next) := by
  have hc := List.mem_of_getElem? hi
  have hk := T.lt c hc
  have last : ∀ fuel n, c.j = (walk t.mask (kW c.k) n).j → ∃ next, SetTable.probe.go t hashAt (kW c.k) (fuel + 1) (walk t.mask (kW c.k) n) = some (.candidate c.j i next) := fun fuel n e => by
    rw [SetTable.probe.go, ← e, slot_live T.place T.srt hi]
    dsimp only
    rw [hh i c hi, if_pos (by simp)]
    exact ⟨_, rfl⟩
  have start : t.probeStart (kW c.k) = walk t.mask (kW c.k) 0 := rfl
  unfold SetTable.probe
  rw [start]
  rcases T.mask with ⟨hm, hl⟩ | ⟨hm, hs⟩
  · obtain ⟨n, hn, e, hb⟩ := T.reach hm c hc
    rw [← hm] at e hb
    obtain ⟨m, hmn, e', hmin⟩ := first_at (P := fun n => c.j = (walk t.mask (kW c.k) n).j) n e
    have ef : 10 * SetTable.turns t.mask = ((219 - m) + 1) + m := by rw [hm]; show 220 = _; omega
    rw [ef, probe_go T.place T.srt T.lt hh hk m 0 _ (fun n' _ h2 => ?_), Nat.zero_add]
    · exact last _ m e'
    · obtain ⟨y, hy, ey⟩ := hb n' (by omega)
      refine ⟨y, hy, ey, fun q => hmin n' (by omega) ?_⟩
      rw [← ey, nd_key T.nd hy hc q]
  · have ef : 10 * SetTable.turns t.mask = 459 + 1 := by rw [hm]; rfl
    rw [ef]
    exact last _ 0 (by rw [hm, hs c hc]; rfl)

theorem probe_absent (T : TInv t cs) {hashAt : Nat → Int} (hh : ∀ i c, cs[i]? = some c → hashAt i = kW c.k) {k : Nat} (hk : k < 9) (hne : ∀ c ∈ cs, c.k ≠ k) :
    ∃ n, n < 9 ∧ t.probe hashAt (kW k) (t.probeStart (kW k)) = some (.empty (walk t.mask (kW k) n).j none) ∧ (∀ c ∈ cs, c.j ≠ (walk t.mask (kW k) n).j) ∧ (∀ n', n' < n → ∃ y ∈ cs, y.j = (walk t.mask (kW k) n').j) ∧ (t.mask = 31 → n = 0) := by
  have last : ∀ fuel n, (∀ c ∈ cs, c.j ≠ (walk t.mask (kW k) n).j) → SetTable.probe.go t hashAt (kW k) (fuel + 1) (walk t.mask (kW k) n) = some (.empty (walk t.mask (kW k) n).j none) := fun fuel n e => by
    rw [SetTable.probe.go, slot_empty T.place T.dum e]
    dsimp only
    rw [walk_dummy]
  have start : t.probeStart (kW k) = walk t.mask (kW k) 0 := rfl
  unfold SetTable.probe
  rw [start]
  rcases T.mask with ⟨hm, hl⟩ | ⟨hm, hs⟩
  · have ex : ∃ n, n < 9 ∧ ∀ c ∈ cs, c.j ≠ (walk t.mask (kW k) n).j := by
      apply Classical.byContradiction
      intro hno
      obtain ⟨h5, hnd, hin, _⟩ := walk7_all k (List.mem_range.mpr hk)
      have sub : (walkL 7 k).eraseDups ⊆ cs.map Cl.j := fun j hj => by
        have hj' := List.all_eq_true.mp hin j hj
        have hj' : j ∈ walkL 7 k := by simpa using hj'
        obtain ⟨n, hn, rfl⟩ := List.mem_map.mp hj'
        have hn := List.mem_range.mp hn
        apply Classical.byContradiction
        intro hnot
        refine hno ⟨n, hn, fun c hc q => hnot ?_⟩
        rw [hm] at q
        exact List.mem_map.mpr ⟨c, hc, q⟩
      have := List.Nodup.length_le_of_subset hnd sub
      rw [List.length_map] at this
      omega
    obtain ⟨n, hn, h⟩ := ex
    obtain ⟨m, hmn, h', hmin⟩ := first_at (P := fun n => ∀ c ∈ cs, c.j ≠ (walk t.mask (kW k) n).j) n h
    have occ : ∀ n', n' < m → ∃ y ∈ cs, y.j = (walk t.mask (kW k) n').j := fun n' hn' => by
      have := hmin n' hn'
      apply Classical.byContradiction
      intro hno
      exact this fun c hc q => hno ⟨c, hc, q⟩
    refine ⟨m, by omega, ?_, h', occ, fun q => by rw [hm] at q; cases q⟩
    have ef : 10 * SetTable.turns t.mask = ((219 - m) + 1) + m := by rw [hm]; show 220 = _; omega
    rw [ef, probe_go T.place T.srt T.lt hh hk m 0 _ (fun n' _ h2 => ?_), Nat.zero_add]
    · exact last _ m h'
    · obtain ⟨y, hy, ey⟩ := occ n' (by omega)
      exact ⟨y, hy, ey, hne y hy⟩
  · have ef : 10 * SetTable.turns t.mask = 459 + 1 := by rw [hm]; rfl
    have h0 : ∀ c ∈ cs, c.j ≠ (walk t.mask (kW k) 0).j := fun c hc q => by
      rw [hs c hc, hm, walk31_start] at q
      exact hne c hc (s31_inj (T.lt c hc) hk q)
    refine ⟨0, by omega, ?_, h0, fun n' h => absurd h (Nat.not_lt_zero _), fun _ => rfl⟩
    rw [ef]
    exact last _ 0 h0
end
end Mine

namespace Mine
open PySem PySem.Calls PySem.W PyProof.Rows

def ins (cs : List Cl) (p : Nat) (c : Cl) : List Cl := cs.take p ++ c :: cs.drop p
theorem mem_ins {cs : List Cl} {p : Nat} {c x : Cl} : x ∈ ins cs p c ↔ x = c ∨ x ∈ cs := by
  have e := List.take_append_drop p cs
  unfold ins
  rw [List.mem_append, List.mem_cons]
  constructor
  · rintro (h | h | h)
    · exact .inr (List.mem_of_mem_take h)
    · exact .inl h
    · exact .inr (List.mem_of_mem_drop h)
  · rintro (h | h)
    · exact .inr (.inl h)
    · rw [← e, List.mem_append] at h
      exact h.imp id .inr
theorem ins_length {cs : List Cl} {p : Nat} {c : Cl} : (ins cs p c).length = cs.length + 1 := by
  unfold ins
  rw [List.length_append, List.length_cons, List.length_take, List.length_drop]
  omega
theorem ins_map {α : Type} (f : Cl → α) (cs : List Cl) (p : Nat) (c : Cl) : (ins cs p c).map f = (cs.map f).take p ++ f c :: (cs.map f).drop p := by
  unfold ins
  rw [List.map_append, List.map_cons, List.map_take, List.map_drop]
theorem insertAt_map {α : Type} (f : Cl → α) (cs : List Cl) (p : Nat) (c : Cl) : SetTable.insertAt (cs.map f).toArray p (f c) = ((ins cs p c).map f).toArray := by
  apply Array.toList_inj.mp
  rw [SetTable.toList_insertAt, ins_map]
theorem len9 {cs : List Cl} (nd : (cs.map Cl.k).Nodup) (lt : ∀ c ∈ cs, c.k < 9) : cs.length ≤ 9 := by
  have := List.Nodup.length_le_of_subset nd (l₂ := List.range 9) fun k hk => by
    obtain ⟨c, hc, rfl⟩ := List.mem_map.mp hk
    exact List.mem_range.mpr (lt c hc)
  simpa using this

/-- a new element is put into its slot -/
theorem put_inv {t : SetTable} {cs : List Cl} (T : TInv t cs) {k n : Nat} (a : Addr) (hk : k < 9) (hne : ∀ c ∈ cs, c.k ≠ k) (hn : n < 9) (hj : ∀ c ∈ cs, c.j ≠ (walk t.mask (kW k) n).j) (occ : ∀ n', n' < n → ∃ y ∈ cs, y.j = (walk t.mask (kW k) n').j) (h0 : t.mask = 31 → n = 0) :
    ∃ p, t.put (walk t.mask (kW k) n).j = ({ t with place := ((ins cs p ⟨k, (walk t.mask (kW k) n).j, a⟩).map Cl.j).toArray }, p) ∧
      ((ins cs p ⟨k, (walk t.mask (kW k) n).j, a⟩).map Cl.k).Nodup ∧ (∀ c ∈ ins cs p ⟨k, (walk t.mask (kW k) n).j, a⟩, c.k < 9) ∧
      ((({ t with place := ((ins cs p ⟨k, (walk t.mask (kW k) n).j, a⟩).map Cl.j).toArray } : SetTable).tooFull = true ∧ cs.length = 4 ∧ t.mask = 7) ∨
       (({ t with place := ((ins cs p ⟨k, (walk t.mask (kW k) n).j, a⟩).map Cl.j).toArray } : SetTable).tooFull = false ∧ TInv { t with place := ((ins cs p ⟨k, (walk t.mask (kW k) n).j, a⟩).map Cl.j).toArray } (ins cs p ⟨k, (walk t.mask (kW k) n).j, a⟩))) := by
  generalize hjj : (walk t.mask (kW k) n).j = j at *
  obtain ⟨b1, b2, b3⟩ := below_spec (asc_of T.srt) j
  refine ⟨SetTable.below (cs.map Cl.j).toArray j, ?_, ?_, ?_, ?_⟩
  · unfold SetTable.put
    rw [T.place, T.dum]
    have hh : SetTable.has #[] j = false := by simp [SetTable.has]
    dsimp only
    rw [hh]
    simp only [Bool.false_eq_true, if_false]
    rw [show j = Cl.j ⟨k, j, a⟩ from rfl, insertAt_map Cl.j cs _ ⟨k, j, a⟩, ← T.dum]
  · rw [ins_map]
    have p := (List.perm_middle (a := k) (l₁ := (cs.map Cl.k).take (SetTable.below (cs.map Cl.j).toArray j)) (l₂ := (cs.map Cl.k).drop (SetTable.below (cs.map Cl.j).toArray j)))
    rw [List.take_append_drop] at p
    refine (List.Perm.nodup_iff p).mpr (List.nodup_cons.mpr ⟨fun h => ?_, T.nd⟩)
    obtain ⟨c, hc, e⟩ := List.mem_map.mp h
    exact hne c hc e
  · intro c hc
    rcases mem_ins.mp hc with rfl | hc
    · exact hk
    · exact T.lt c hc
  · generalize hp : SetTable.below (cs.map Cl.j).toArray j = p at *
    have nd' : ((ins cs p ⟨k, j, a⟩).map Cl.k).Nodup := by
      rw [ins_map]
      have q := (List.perm_middle (a := k) (l₁ := (cs.map Cl.k).take p) (l₂ := (cs.map Cl.k).drop p))
      rw [List.take_append_drop] at q
      refine (List.Perm.nodup_iff q).mpr (List.nodup_cons.mpr ⟨fun h => ?_, T.nd⟩)
      obtain ⟨c, hc, e⟩ := List.mem_map.mp h
      exact hne c hc e
    have lt' : ∀ c ∈ ins cs p ⟨k, j, a⟩, c.k < 9 := fun c hc => by
      rcases mem_ins.mp hc with rfl | hc
      · exact hk
      · exact T.lt c hc
    have srt' : ((ins cs p ⟨k, j, a⟩).map Cl.j).Pairwise (· < ·) := by
      rw [ins_map, List.pairwise_append, List.pairwise_cons]
      have lo : ∀ x ∈ (cs.map Cl.j).take p, x < j := fun x hx => by
        obtain ⟨i, hi, e⟩ := List.mem_take_iff_getElem.mp hx
        refine b2 i x (by omega) ?_
        rw [List.getElem?_toArray, List.getElem?_eq_getElem (by omega), e]
      have hi : ∀ x ∈ (cs.map Cl.j).drop p, j < x := fun x hx => by
        obtain ⟨i, hi, e⟩ := List.mem_drop_iff_getElem.mp hx
        have h1 := b3 (p + i) x (by omega) (by rw [List.getElem?_toArray, List.getElem?_eq_getElem (by omega), e])
        have h2 : x ≠ j := fun q => by
          obtain ⟨c, hc, e'⟩ := List.mem_map.mp (List.mem_of_mem_drop hx)
          exact hj c hc (e'.trans q)
        omega
      refine ⟨T.srt.sublist (List.take_sublist _ _), ⟨hi, T.srt.sublist (List.drop_sublist _ _)⟩, fun x hx y hy => ?_⟩
      have := lo x hx
      rcases List.mem_cons.mp hy with q | q
      · rw [q]; exact this
      · exact Nat.lt_trans this (hi y q)
    have hfill : ({ t with place := ((ins cs p ⟨k, j, a⟩).map Cl.j).toArray } : SetTable).fill = cs.length + 1 := by
      unfold SetTable.fill
      dsimp only
      rw [T.dum, List.size_toArray, List.length_map, ins_length]; rfl
    have full : ({ t with place := ((ins cs p ⟨k, j, a⟩).map Cl.j).toArray } : SetTable).tooFull = decide ((cs.length + 1) * 5 ≥ t.mask * 3) := by
      unfold SetTable.tooFull
      rw [hfill]
    have l9 := len9 nd' lt'
    rw [ins_length] at l9
    rw [full]
    by_cases h4 : cs.length = 4 ∧ t.mask = 7
    · exact .inl ⟨by rw [h4.1, h4.2]; rfl, h4⟩
    · refine .inr ⟨?_, ⟨rfl, T.dum, ?_, srt', nd', lt', fun hm c hc => ?_⟩⟩
      · rcases T.mask with ⟨hm, hl⟩ | ⟨hm, _⟩
        · rw [hm]
          have : cs.length ≠ 4 := fun q => h4 ⟨q, hm⟩
          exact decide_eq_false (by omega)
        · rw [hm]; exact decide_eq_false (by omega)
      · rcases T.mask with ⟨hm, hl⟩ | ⟨hm, hs⟩
        · refine .inl ⟨hm, ?_⟩
          rw [ins_length]
          have : cs.length ≠ 4 := fun q => h4 ⟨q, hm⟩
          omega
        · refine .inr ⟨hm, fun c hc => ?_⟩
          rcases mem_ins.mp hc with rfl | hc
          · show j = s31 k
            rw [← hjj, hm, h0 hm]; rfl
          · exact hs c hc
      · have hm : t.mask = 7 := hm
        rw [hm] at occ hjj
        rcases mem_ins.mp hc with rfl | hc
        · exact ⟨n, hn, hjj.symm, fun n' h => let ⟨y, hy, e⟩ := occ n' h; ⟨y, mem_ins.mpr (.inr hy), e⟩⟩
        · obtain ⟨n', hn', e, h⟩ := T.reach hm c hc
          exact ⟨n', hn', e, fun n'' h'' => let ⟨y, hy, e⟩ := h n'' h''; ⟨y, mem_ins.mpr (.inr hy), e⟩⟩
end Mine

namespace Mine
open PySem PySem.Calls PySem.W PyProof.Rows

theorem fm_congr {α β : Type} {f g : α → Option β} : ∀ {l : List α}, (∀ x ∈ l, f x = g x) → l.filterMap f = l.filterMap g
  | [], _ => rfl
  | x :: l, h => by
    rw [List.filterMap_cons, List.filterMap_cons, h x (.head _), fm_congr fun y hy => h y (.tail _ hy)]
def own (cs : List Cl) (j : Nat) : Option Nat := cs.findIdx? fun c => s31 c.k == j
theorem s31_lt (k : Nat) : s31 k < 32 := Nat.mod_lt _ (by decide)
theorem own_none {cs : List Cl} {j : Nat} (h : ∀ c ∈ cs, s31 c.k ≠ j) : own cs j = none := by
  unfold own
  rw [List.findIdx?_eq_none_iff]
  intro c hc
  simpa using h c hc
theorem own_snoc (cs : List Cl) (c : Cl) (j : Nat) : own (cs ++ [c]) j = match own cs j with | some i => some i | none => if s31 c.k = j then some cs.length else none := by
  unfold own
  rw [List.findIdx?_append]
  cases e : cs.findIdx? (fun c => s31 c.k == j) with
  | some i => simp
  | none =>
    simp only [List.findIdx?_cons, List.findIdx?_nil]
    by_cases h : s31 c.k = j
    · simp [h]
    · simp [h]
theorem free_at {owner : Array (Option Nat)} {k fuel : Nat} (h : owner.getD (s31 k) (some 0) = none) : SetTable.layClean.free 31 owner (fuel + 1) (SetTable.bits (kW k) % (31 + 1)) (SetTable.bits (kW k)) = some (s31 k) := by
  have es : SetTable.bits (kW k) % (31 + 1) = s31 k := rfl
  rw [es]
  generalize SetTable.bits (kW k) = pb
  unfold SetTable.layClean.free
  have hr : ∃ m, SetTable.runEnd 31 (s31 k) + 1 - s31 k = m + 1 := by
    unfold SetTable.runEnd
    split
    · exact ⟨9, by omega⟩
    · exact ⟨0, by omega⟩
  obtain ⟨m, hm⟩ := hr
  rw [hm, List.range_succ_eq_map, List.find?_cons_of_pos (by simp [h])]
  rfl

/-- the elements laid one by one, each into its own place -/
theorem fold_ok : ∀ (rest done : List Cl) (owner : Array (Option Nat)), ((done ++ rest).map Cl.k).Nodup → (∀ c ∈ done ++ rest, c.k < 9) → owner.size = 32 → (∀ j, j < 32 → owner[j]? = some (own done j)) →
    ∃ owner' : Array (Option Nat), owner'.size = 32 ∧ (∀ j, j < 32 → owner'[j]? = some (own (done ++ rest) j)) ∧
      (rest.map fun c => kW c.k).foldl (init := some (owner, done.length)) (fun acc h => do
        let (owner, k) ← acc
        let j ← SetTable.layClean.free 31 owner (SetTable.turns 31) (SetTable.bits h % (31 + 1)) (SetTable.bits h)
        pure (owner.setIfInBounds j (some k), k + 1)) = some (owner', (done ++ rest).length)
  | [], done, owner, _, _, hs, ho => ⟨owner, hs, by simpa using ho, by simp⟩
  | c :: rest, done, owner, nd, lt, hs, ho => by
    have hc9 := lt c (by simp)
    have hne : ∀ y ∈ done, s31 y.k ≠ s31 c.k := fun y hy q => by
      have e := s31_inj (lt y (by simp [hy])) hc9 q
      rw [List.map_append, List.nodup_append] at nd
      exact nd.2.2 y.k (List.mem_map.mpr ⟨y, hy, rfl⟩) c.k (by simp) e
    have hfree : owner.getD (s31 c.k) (some 0) = none := by
      have := ho (s31 c.k) (s31_lt c.k)
      rw [own_none hne] at this
      simp [Array.getD_eq_getD_getElem?, this]
    have hst : done ++ c :: rest = (done ++ [c]) ++ rest := by simp
    rw [hst] at nd lt ⊢
    obtain ⟨owner', h1, h2, h3⟩ := fold_ok rest (done ++ [c]) (owner.setIfInBounds (s31 c.k) (some done.length)) nd lt (by simpa using hs) fun j hj => by
      rw [own_snoc, Array.getElem?_setIfInBounds]
      by_cases q : s31 c.k = j
      · subst q
        rw [if_pos rfl, if_pos (by rw [hs]; exact hj), own_none hne]
        simp
      · rw [if_neg q, ho j hj]
        cases own done j <;> simp [q]
    refine ⟨owner', h1, h2, ?_⟩
    rw [List.map_cons, List.foldl_cons]
    have step : (do
        let (owner, k) ← (some (owner, done.length) : Option (Array (Option Nat) × Nat))
        let j ← SetTable.layClean.free 31 owner (SetTable.turns 31) (SetTable.bits (kW c.k) % (31 + 1)) (SetTable.bits (kW c.k))
        pure (owner.setIfInBounds j (some k), k + 1)) = some (owner.setIfInBounds (s31 c.k) (some done.length), (done ++ [c]).length) := by
      have ef : SetTable.turns 31 = 45 + 1 := rfl
      simp only [Option.bind_eq_bind, Option.bind_some]
      rw [ef, free_at hfree]
      simp
    rw [step]
    exact h3

def seat (cs : List Cl) (j : Nat) : Option Cl := cs.find? fun c => s31 c.k == j
def reseat (cs : List Cl) : List Cl := (List.range 32).filterMap (seat cs)
theorem own_seat (cs : List Cl) (j : Nat) : (own cs j).bind (fun i => cs[i]?) = seat cs j := by
  unfold own seat
  induction cs with
  | nil => rfl
  | cons c cs ih =>
    rw [List.findIdx?_cons, List.find?_cons]
    cases h : (s31 c.k == j) with
    | true => simp
    | false =>
      simp only [Bool.false_eq_true, if_false]
      rw [← ih]
      cases cs.findIdx? fun c => s31 c.k == j <;> simp
theorem own_place (cs : List Cl) (j : Nat) : (own cs j).map (fun _ => j) = (seat cs j).map fun c => s31 c.k := by
  unfold own seat
  induction cs with
  | nil => rfl
  | cons c cs ih =>
    rw [List.findIdx?_cons, List.find?_cons]
    cases h : (s31 c.k == j) with
    | true => simpa using (eq_of_beq h).symm
    | false =>
      simp only [Bool.false_eq_true, if_false]
      rw [← ih]
      cases cs.findIdx? fun c => s31 c.k == j <;> simp
theorem seat_some {cs : List Cl} {j : Nat} {c : Cl} (h : seat cs j = some c) : c ∈ cs ∧ s31 c.k = j := ⟨List.mem_of_find?_eq_some h, by have := List.find?_some h; simpa using this⟩
theorem mem_reseat {cs : List Cl} (nd : (cs.map Cl.k).Nodup) (lt : ∀ c ∈ cs, c.k < 9) {c : Cl} : c ∈ reseat cs ↔ c ∈ cs := by
  unfold reseat
  rw [List.mem_filterMap]
  constructor
  · rintro ⟨j, _, h⟩
    exact (seat_some h).1
  · intro hc
    refine ⟨s31 c.k, List.mem_range.mpr (s31_lt _), ?_⟩
    cases e : seat cs (s31 c.k) with
    | none => exact absurd (List.find?_eq_none.mp e c hc) (by simp)
    | some y =>
      obtain ⟨hy, q⟩ := seat_some e
      rw [nd_key nd hy hc (s31_inj (lt y hy) (lt c hc) q)]
theorem reseat_srt (cs : List Cl) : (reseat cs).Pairwise fun a b => s31 a.k < s31 b.k := by
  unfold reseat
  refine List.Pairwise.filterMap (R := (· < ·)) _ (fun a a' hlt b hb b' hb' => ?_) List.pairwise_lt_range
  rw [(seat_some hb).2, (seat_some hb').2]; exact hlt
theorem reseat_nd (cs : List Cl) : ((reseat cs).map Cl.k).Nodup := by
  unfold List.Nodup
  rw [List.pairwise_map]
  exact (reseat_srt cs).imp fun h q => by rw [q] at h; exact absurd h (Nat.lt_irrefl _)
theorem reseat_len {cs : List Cl} (nd : (cs.map Cl.k).Nodup) (lt : ∀ c ∈ cs, c.k < 9) : (reseat cs).length = cs.length := by
  have h1 := List.Nodup.length_le_of_subset (reseat_nd cs) (l₂ := cs.map Cl.k) fun k hk => by
    obtain ⟨c, hc, rfl⟩ := List.mem_map.mp hk
    exact List.mem_map.mpr ⟨c, (mem_reseat nd lt).mp hc, rfl⟩
  have h2 := List.Nodup.length_le_of_subset nd (l₂ := (reseat cs).map Cl.k) fun k hk => by
    obtain ⟨c, hc, rfl⟩ := List.mem_map.mp hk
    exact List.mem_map.mpr ⟨c, (mem_reseat nd lt).mpr hc, rfl⟩
  simp only [List.length_map] at h1 h2
  omega

/-- the table is laid anew, with 32 slots -/
theorem laid_ok {cs : List Cl} (nd : (cs.map Cl.k).Nodup) (lt : ∀ c ∈ cs, c.k < 9) (f m : Nat) (l p : Bool) :
    ∃ order : Array Nat, SetTable.laid 31 f m l p (cs.map fun c => kW c.k).toArray = some (⟨31, (((reseat cs).map fun c => ({ c with j := s31 c.k } : Cl)).map Cl.j).toArray, #[], f, l, m, p⟩, order) ∧
      order.toList.filterMap (fun i => cs[i]?) = reseat cs ∧ (∀ i ∈ order.toList, i < cs.length) ∧ TInv ⟨31, (((reseat cs).map fun c => ({ c with j := s31 c.k } : Cl)).map Cl.j).toArray, #[], f, l, m, p⟩ ((reseat cs).map fun c => ({ c with j := s31 c.k } : Cl)) := by
  obtain ⟨owner, h1, h2, h3⟩ := fold_ok cs [] (Array.replicate 32 none) (by simpa using nd) (by simpa using lt) (by simp) fun j hj => by simp [hj, own]
  rw [List.nil_append] at h2
  have hcl : SetTable.layClean 31 (cs.map fun c => kW c.k).toArray = some owner := by
    unfold SetTable.layClean
    rw [← Array.foldl_toList]
    rw [show (31 + 1 : Nat) = 32 from rfl] at h3 ⊢
    rw [show ([] : List Cl).length = 0 from rfl] at h3
    simp only [h3]
    rfl
  have hlive : (List.range (31 + 1)).filterMap (fun j => (owner.getD j none).map (j, ·)) = (List.range 32).filterMap fun j => (own cs j).map (j, ·) := by
    refine fm_congr fun j hj => ?_
    have := h2 j (List.mem_range.mp hj)
    simp [Array.getD_eq_getD_getElem?, this]
  refine ⟨(((List.range 32).filterMap fun j => (own cs j).map (j, ·)).map (·.2)).toArray, ?_, ?_, ?_, ?_⟩
  · unfold SetTable.laid
    rw [hcl]
    simp only [Option.bind_eq_bind, Option.bind_some, hlive]
    have hpl : ((List.range 32).filterMap fun j => (own cs j).map (j, ·)).map (·.1) = ((reseat cs).map fun c => ({ c with j := s31 c.k } : Cl)).map Cl.j := by
      unfold reseat
      rw [List.map_filterMap, List.map_map, List.map_filterMap]
      refine fm_congr fun j _ => ?_
      have := own_place cs j
      rw [Option.map_map]
      exact this
    rw [hpl]
    rfl
  · rw [List.filterMap_map]
    unfold reseat
    rw [List.filterMap_filterMap]
    refine fm_congr fun j _ => ?_
    rw [← own_seat]
    cases own cs j <;> rfl
  · intro i hi
    obtain ⟨x, hx, rfl⟩ := List.mem_map.mp hi
    obtain ⟨j, _, e⟩ := List.mem_filterMap.mp hx
    cases e' : own cs j with
    | none => rw [e'] at e; cases e
    | some i' =>
      rw [e'] at e
      cases e
      exact (List.findIdx?_eq_some_iff_getElem.mp e').1
  · refine ⟨rfl, rfl, .inr ⟨rfl, ?_⟩, ?_, ?_, ?_, fun q => by cases q⟩
    · intro c hc
      obtain ⟨y, _, rfl⟩ := List.mem_map.mp hc
      rfl
    · rw [List.map_map, List.pairwise_map]
      exact reseat_srt cs
    · rw [List.map_map]
      exact reseat_nd cs
    · intro c hc
      obtain ⟨y, hy, rfl⟩ := List.mem_map.mp hc
      exact lt y ((mem_reseat nd lt).mp hy)
end Mine

namespace Mine
open PySem PySem.Calls PySem.W PyProof.Rows
section
variable {C : Cx} {A : Around} {E : Value → Shared → Prop} {s : Shared} {env : Env}

abbrev KeyAt (C : Cx) (h : Heap) (k : Nat) (a : Addr) : Prop := IsTupleKey (intK C) h [(k : Int)] a
theorem KeyAt.items {h : Heap} {k : Nat} {a : Addr} (x : KeyAt C h k a) : ∃ o n t, h.get? a = some o ∧ o.cls = .type "tuple" ∧ o.data = .seq #[.int (k : Int) t] n := by
  obtain ⟨o, items, n, ho, hc, hd, hi⟩ := x
  cases e : items.toList with
  | nil => rw [e] at hi; cases hi
  | cons v vs =>
    rw [e] at hi
    cases hi with
    | cons h1 h2 =>
      cases h2
      obtain ⟨t, rfl⟩ := Value.isInt_shape h1
      refine ⟨o, n, t, ho, hc, ?_⟩
      rw [hd, show items = #[.int (k : Int) t] from Array.toList_inj.mp e]
theorem KeyAt.hash (k : Nat) : tupleKeyHash (intK C) [(k : Int)] = kH k := rfl
theorem KeyAt.keep {h h' : Heap} {k : Nat} {a : Addr} (x : KeyAt C h k a) (hk : ∀ o xs n, o.cls = .type "tuple" → o.data = .seq xs n → h.get? a = some o → h'.get? a = some o) : KeyAt C h' k a := by
  obtain ⟨o, items, n, ho, hc, hd, hi⟩ := x
  exact ⟨o, items, n, hk o items n hc hd ho, hc, hd, hi⟩

theorem ofClass_key {k : Nat} {a : Addr} {Q : Bool → Shared → Prop} (x : KeyAt C s.heap k a) (h : Q false s) : wpAny (MM C) A (ofAClassStatement 8 (.ref a)) Q E s := by
  have hT := x.typeIs
  obtain ⟨o, n, t, ho, hc, hd⟩ := x.items
  unfold ofAClassStatement
  refine wpAny_bind (wpAny_typeOf hT ?_)
  dsimp only
  rw [if_pos (by decide)]
  refine wpAny_bind (wpAny_pure ?_)
  simp only [Bool.not_true, Bool.false_eq_true, if_false]
  refine wpAny_bind (wpAny_seqItems ho hd ?_)
  dsimp only
  refine wpAny_bind ?_
  rw [← Array.forIn_toList]
  refine wpAny_forIn_list _ (fun rest r s' => r.1 = none ∧ s' = s ∧ ∀ v ∈ rest, ∃ i u, v = .int i u) _ ?_ ?_ _ _ ⟨rfl, rfl, fun v hv => ⟨_, _, List.mem_singleton.mp hv⟩⟩
  · rintro v rest r s' ⟨hr, rfl, hall⟩
    obtain ⟨i, u, rfl⟩ := hall v List.mem_cons_self
    refine wpAny_bind (wpAny_pure (a := false) ?_)
    simp only [Bool.false_eq_true, if_false]
    exact wpAny_pure ⟨rfl, rfl, fun w hw => hall w (List.mem_cons_of_mem _ hw)⟩
  · rintro ⟨r1, r2⟩ s' ⟨hr, rfl, _⟩
    simp only at hr
    subst hr
    exact wpAny_pure h
theorem hashVal_key {k : Nat} {a : Addr} {Q : Bool → Shared → Prop} (x : KeyAt C s.heap k a) (h : Q true s) : wpAny (MM C) A (hashByValue 8 (.ref a)) Q E s := by
  have hT := x.typeIs
  obtain ⟨o, n, t, ho, hc, hd⟩ := x.items
  unfold hashByValue
  refine wpAny_bind (wpAny_specialOf hT PySem.F.slot_tuple_hash.lookup ?_)
  show wpAny (MM C) A (seqItems? (.ref a) >>= _) Q E s
  refine wpAny_bind (wpAny_seqItems ho hd ?_)
  refine wpAny_bind ?_
  rw [← Array.forIn_toList]
  refine wpAny_forIn_list _ (fun rest r s' => r.1 = none ∧ s' = s ∧ ∀ v ∈ rest, ∃ i u, v = .int i u) _ ?_ ?_ _ _ ⟨rfl, rfl, fun v hv => ⟨(k : Int), t, by simpa using hv⟩⟩
  · rintro v rest r s' ⟨hr, rfl, hall⟩
    obtain ⟨i, u, rfl⟩ := hall v List.mem_cons_self
    refine wpAny_bind (wpAny_pure (a := true) ?_)
    simp only [Bool.not_true, Bool.false_eq_true, if_false]
    exact wpAny_pure ⟨rfl, rfl, fun w hw => hall w (List.mem_cons_of_mem _ hw)⟩
  · rintro ⟨r1, r2⟩ s' ⟨hr, rfl, _⟩
    simp only at hr
    subst hr
    exact wpAny_pure h
theorem seen_key {k : Nat} {a : Addr} {ys : List Value} {Q : Bool → Shared → Prop} (x : KeyAt C s.heap k a) (hy : ∀ y ∈ ys, ∃ k' b, y = .ref b ∧ KeyAt C s.heap k' b) (h : Q false s) : wpAny (MM C) A (searchCouldBeSeen (.ref a) ys) Q E s := by
  unfold searchCouldBeSeen
  refine wpAny_bind ?_
  refine wpAny_forIn_list _ (fun rest r s' => r.1 = none ∧ s' = s ∧ ∀ y ∈ rest, ∃ k' b, y = .ref b ∧ KeyAt C s.heap k' b) _ ?_ ?_ _ _ ⟨rfl, rfl, hy⟩
  · rintro v rest r s' ⟨hr, rfl, hall⟩
    obtain ⟨k', b, rfl, hb⟩ := hall v List.mem_cons_self
    have hall' : ∀ y ∈ rest, ∃ k' b, y = .ref b ∧ KeyAt C s'.heap k' b := fun w hw => hall w (List.mem_cons_of_mem _ hw)
    dsimp only
    split
    · exact wpAny_pure ⟨rfl, rfl, hall'⟩
    · refine wpAny_bind (wpAny_eqIsQuiet_tuple x ?_)
      simp only [Bool.not_true, Bool.false_eq_true, if_false]
      refine wpAny_bind (wpAny_eqIsQuiet_tuple hb ?_)
      simp only [Bool.not_true, Bool.false_eq_true, if_false]
      refine wpAny_bind (ofClass_key x ?_)
      simp only [Bool.false_eq_true, if_false]
      refine wpAny_bind (ofClass_key hb ?_)
      simp only [Bool.false_eq_true, if_false]
      exact wpAny_pure ⟨rfl, rfl, hall'⟩
  · rintro ⟨r1, r2⟩ s' ⟨hr, rfl, _⟩
    simp only at hr
    subst hr
    exact wpAny_pure h
end
end Mine

namespace Mine
open PySem PySem.Calls PySem.W PyProof.Rows
section
variable {C : Cx} {A : Around} {E : Value → Shared → Prop} {s : Shared} {env : Env}

def esOf (cs : List Cl) : Array (Int × Value) := (cs.map fun c => (kW c.k, Value.ref c.a)).toArray
structure TabH (C : Cx) (h : Heap) (Sa : Addr) (o : Obj) (ep : Nat) (t : SetTable) (cs : List Cl) : Prop where
  get : h.get? Sa = some o
  ex : o.ExactSet
  data : o.data = .set (esOf cs) ep t
  inv : TInv t cs
  keys : ∀ c ∈ cs, KeyAt C h c.k c.a
theorem esOf_size (cs : List Cl) : (esOf cs).size = cs.length := by simp [esOf]
theorem esOf_get (cs : List Cl) (i : Nat) : (esOf cs)[i]? = (cs[i]?).map fun c => (kW c.k, Value.ref c.a) := by simp [esOf]
theorem TInv.fits {t : SetTable} {cs : List Cl} (T : TInv t cs) : t.fits (esOf cs).size = true := by
  have hz : t.place.size = cs.length := by rw [T.place]; simp
  have l9 := len9 T.nd T.lt
  have hf : t.fill = cs.length := by unfold SetTable.fill; rw [hz, T.dum]; rfl
  simp only [SetTable.fits, Bool.and_eq_true, beq_iff_eq, decide_eq_true_eq]
  rw [hf, hz, esOf_size]
  refine ⟨rfl, ?_⟩
  rcases T.mask with ⟨hm, hl⟩ | ⟨hm, _⟩ <;> rw [hm] <;> omega
theorem TInv.way {t : SetTable} {cs : List Cl} (T : TInv t cs) : t.gaveWay = false := by
  rcases T.mask with ⟨hm, hl⟩ | ⟨hm, _⟩ <;> (unfold SetTable.gaveWay; rw [hm]; rfl)

theorem search_there {Sa a : Addr} {o : Obj} {ep : Nat} {t : SetTable} {cs : List Cl} (x : TabH C s.heap Sa o ep t cs) {i : Nat} {c : Cl} (hi : cs[i]? = some c) (hk : KeyAt C s.heap c.k a) (hu : A.units < cLine) {adding : Bool} {Q : SetFound → Shared → Prop}
    (h : Q (.there (if adding then none else some i)) s) : wpAny (MM C) A (setSearch Sa (.ref a) (kW c.k) adding) Q E s := by
  show wpAny _ _ (setSearchFrom Sa (.ref a) (kW c.k) adding (99999 + 1) none) Q E s
  rw [setSearchFrom]
  refine wpAny_bind (wpAny_setState_of x.get x.data x.inv.fits ?_)
  dsimp only
  rw [x.inv.way]
  simp only [Bool.false_eq_true, if_false]
  refine wpAny_bind (wpAny_pure ?_)
  obtain ⟨next, hp⟩ := probe_found x.inv (hashAt := fun i => ((esOf cs)[i]?.map (·.1)).getD 0) (fun i c h => by rw [esOf_get, h]; rfl) hi
  have hc := List.mem_of_getElem? hi
  have hsl := slot_live x.inv.place x.inv.srt hi
  have hsame : t.sameMemory t.moves t.mask = some true := by unfold SetTable.sameMemory; simp
  have hiS : ∀ (Q : Bool → Shared → Prop), Q true s → wpAny (MM C) A (isSame (.ref c.a) (.ref c.a)) Q E s := fun Q hq => by
    unfold isSame
    dsimp only
    rw [if_pos (by simp)]
    exact wpAny_pure hq
  split
  · rename_i met hm
    have e : some met = some (SetTable.Met.candidate c.j i next) := hm.symm.trans hp
    cases e
    dsimp only
    split
    · refine wpAny_bind (seen_key hk (fun y hy => ?_) ?_)
      · obtain ⟨e, he, rfl⟩ := List.mem_map.mp hy
        have he := (Array.mem_filter.mp (Array.mem_toList_iff.mp he)).1
        have he : e ∈ cs.map fun c => (kW c.k, Value.ref c.a) := by simpa [esOf] using he
        obtain ⟨c', hc', rfl⟩ := List.mem_map.mp he
        exact ⟨_, _, rfl, x.keys c' hc'⟩
      simp only [Bool.false_eq_true, if_false]
      rw [esOf_get, hi]
      simp only [Option.map_some]
      refine wpAny_bind (wpAny_holding (wpAny_eqBool_tuple (knd := intK C) hu (x.keys c hc) hk ?_))
      simp only [decide_true]
      refine wpAny_bind (wpAny_setState_of x.get x.data x.inv.fits ?_)
      cases adding with
      | true =>
        simp only [Bool.and_self, if_true]
        exact wpAny_pure h
      | false =>
        simp only [Bool.false_and, Bool.false_eq_true, if_false, hsame, if_true, hsl, esOf_get, hi, Option.map_some]
        refine wpAny_bind (hiS _ ?_)
        refine wpAny_bind (wpAny_pure ?_)
        simp only [if_true]
        exact wpAny_pure h
    · rw [esOf_get, hi]
      simp only [Option.map_some]
      refine wpAny_bind (wpAny_holding (wpAny_eqBool_tuple (knd := intK C) hu (x.keys c hc) hk ?_))
      simp only [decide_true]
      refine wpAny_bind (wpAny_setState_of x.get x.data x.inv.fits ?_)
      cases adding with
      | true =>
        simp only [Bool.and_self, if_true]
        exact wpAny_pure h
      | false =>
        simp only [Bool.false_and, Bool.false_eq_true, if_false, hsame, if_true, hsl, esOf_get, hi, Option.map_some]
        refine wpAny_bind (hiS _ ?_)
        refine wpAny_bind (wpAny_pure ?_)
        simp only [if_true]
        exact wpAny_pure h
  · rename_i hm
    exact (hm _ hp).elim
end
end Mine

namespace Mine
open PySem PySem.Calls PySem.W PyProof.Rows
section
variable {C : Cx} {A : Around} {E : Value → Shared → Prop} {s : Shared} {env : Env}

theorem search_free {Sa a : Addr} {o : Obj} {ep j k : Nat} {t : SetTable} {cs : List Cl} (x : TabH C s.heap Sa o ep t cs) {adding : Bool} {Q : SetFound → Shared → Prop}
    (hp : t.probe (fun i => ((esOf cs)[i]?.map (·.1)).getD 0) (kW k) (t.probeStart (kW k)) = some (.empty j none))
    (h : Q (.free j false) s) : wpAny (MM C) A (setSearch Sa (.ref a) (kW k) adding) Q E s := by
  show wpAny _ _ (setSearchFrom Sa (.ref a) (kW k) adding (99999 + 1) none) Q E s
  rw [setSearchFrom]
  refine wpAny_bind (wpAny_setState_of x.get x.data x.inv.fits ?_)
  dsimp only
  rw [x.inv.way]
  simp only [Bool.false_eq_true, if_false]
  refine wpAny_bind (wpAny_pure ?_)
  split
  · rename_i met hm
    have e : some met = some (SetTable.Met.empty j none) := hm.symm.trans hp
    cases e
    exact wpAny_pure h
  · rename_i hm
    exact (hm _ hp).elim
theorem hashAt_ok (cs : List Cl) (i : Nat) (c : Cl) (h : cs[i]? = some c) : (fun i => (((esOf cs)[i]?).map (·.1)).getD 0) i = kW c.k := by
  show (((esOf cs)[i]?).map (·.1)).getD 0 = _
  rw [esOf_get, h]; rfl
theorem any_false {cs : List Cl} {k : Nat} (h : cs.any (fun c => c.k == k) = false) : ∀ c ∈ cs, c.k ≠ k := fun c hc q => by
  have := List.any_eq_false.mp h c hc
  simp [q] at this
theorem any_true {cs : List Cl} {k : Nat} (h : cs.any (fun c => c.k == k) = true) : ∃ (i : Nat) (c : Cl), cs[i]? = some c ∧ c.k = k := by
  obtain ⟨c, hc, q⟩ := List.any_eq_true.mp h
  obtain ⟨i, hi⟩ := List.getElem?_of_mem hc
  exact ⟨i, c, hi, by simpa using q⟩
theorem TabH.tok {Sa : Addr} {o : Obj} {ep : Nat} {t : SetTable} {cs : List Cl} (x : TabH C s.heap Sa o ep t cs) (tk : Tok) : TabH C ({ s with toks := tk } : Shared).heap Sa o ep t cs := x
theorem TabH.typeIs {Sa : Addr} {o : Obj} {ep : Nat} {t : SetTable} {cs : List Cl} (x : TabH C s.heap Sa o ep t cs) : s.TypeIs (.ref Sa) "set" := ⟨o, x.get, x.ex.1⟩

theorem notin_tab {Sa a : Addr} {o : Obj} {ep k : Nat} {t : SetTable} {cs : List Cl} {Q : Value → Shared → Prop} (x : TabH C s.heap Sa o ep t cs) (hk9 : k < 9) (hk : KeyAt C s.heap k a) (hu : A.units + 10 < cLine)
    (h : ∀ tk, Q (.bool (!cs.any fun c => c.k == k)) { s with toks := tk }) : wpAny (MM C) A (compareOp .NotIn (.ref a) (.ref Sa)) Q E s := by
  show wpAny _ _ (do return .bool (!(← contains (.ref Sa) (.ref a)))) Q E s
  refine wpAny_bind ?_
  unfold contains
  try with_reducible refine wpAny_holding ?_
  refine wpAny_bind (wpAny_specialOf x.typeIs PySem.F.slot_set_contains.lookup ?_)
  show wpAny _ _ (if (some (Value.builtin "set.__contains__") == some Value.none) = true then _ else _) _ E s
  rw [if_neg (by rw [beq_builtin_none]; exact Bool.false_ne_true)]
  refine wpAny_bind (wpAny_callSpecialUnlessNone?_slot (name := Str.ofString "__contains__") x.typeIs PySem.F.slot_set_contains
    (wpAny_call_entry PySem.F.slot_set_contains x.typeIs entry_set_contains ?_ (PySem.F.args_set_contains_2 _ _)))
  unfold Builtin.«frozenset.__contains__» Builtin.Frozenset.oneOther
  simp only [List.isEmpty_nil, bind_assoc]
  unfold Builtin.Frozenset.addrOf Builtin.Frozenset.withSetAsKey setContains
  refine wpAny_bind (wpAny_pure ?_)
  try dsimp only
  refine wpAny_bind (wpAny_pure ?_)
  try dsimp only
  refine wpAny_bind (wpAny_tryCatch ?_)
  refine wpAny_holding ?_
  refine wpAny_bind (wpAny_pyHash_tuple (knd := intK C) (by show A.units + 1 < cLine; omega) hk ?_)
  rw [KeyAt.hash, kH_eq hk9]
  have x' := x.tok (s := s) (s.toks + ([(k : Int)].length + 1))
  show wpAny _ _ (setFindIn Sa (.ref a) (kW k) (99999 + 1) >>= _) _ _ _
  rw [setFindIn]
  refine wpAny_bind (wpAny_bind (wpAny_setState_of x'.get x'.data x'.inv.fits ?_))
  dsimp only
  rw [show byScan (.ref a) (esOf cs) = false from rfl]
  simp only [Bool.false_eq_true, if_false]
  have hu' : (A.in1).units < cLine := by show A.units + 1 < cLine; omega
  cases hany : cs.any fun c => c.k == k with
  | true =>
    rw [hany] at h
    obtain ⟨i, c, hi, hck⟩ := any_true hany
    subst hck
    refine wpAny_bind (search_there x' hi hk hu' (adding := false) ?_)
    refine wpAny_pure (wpAny_pure ?_)
    show wpAny _ _ (ret (Value.bool true)) _ _ _
    exact wpAny_pure ⟨_, rfl, wpAny_truthy_bool (wpAny_pure (h _))⟩
  | false =>
    rw [hany] at h
    obtain ⟨n, hn, hp, _⟩ := probe_absent x.inv (hashAt_ok cs) hk9 (any_false hany)
    refine wpAny_bind (search_free x' hp ?_)
    refine wpAny_pure (wpAny_pure ?_)
    show wpAny _ _ (ret (Value.bool false)) _ _ _
    exact wpAny_pure ⟨_, rfl, wpAny_truthy_bool (wpAny_pure (h _))⟩
end
end Mine

namespace Mine
open PySem PySem.Calls PySem.W PyProof.Rows
section
variable {C : Cx} {A : Around} {E : Value → Shared → Prop} {s : Shared} {env : Env}

theorem esOf_ins (cs : List Cl) (p : Nat) (c : Cl) : SetTable.insertAt (esOf cs) p (kW c.k, Value.ref c.a) = esOf (ins cs p c) := insertAt_map (fun c => (kW c.k, Value.ref c.a)) cs p c
theorem esOf_hash (cs : List Cl) : (esOf cs).map (·.1) = (cs.map fun c => kW c.k).toArray := by
  unfold esOf
  simp [Function.comp_def]
theorem ins_any {cs : List Cl} {p : Nat} {c : Cl} (k' : Nat) : (ins cs p c).any (fun x => x.k == k') = (cs.any (fun x => x.k == k') || decide (k' = c.k)) := by
  rw [Bool.eq_iff_iff, List.any_eq_true, Bool.or_eq_true, List.any_eq_true, decide_eq_true_eq]
  constructor
  · rintro ⟨x, hx, q⟩
    rcases mem_ins.mp hx with rfl | hx
    · exact .inr (eq_of_beq q).symm
    · exact .inl ⟨x, hx, q⟩
  · rintro (⟨x, hx, q⟩ | q)
    · exact ⟨x, mem_ins.mpr (.inr hx), q⟩
    · exact ⟨c, mem_ins.mpr (.inl rfl), by simp [q]⟩
theorem store_at {h : Heap} {Sa : Addr} {o : Obj} {es es' : Array (Int × Value)} {ep : Nat} {t t' : SetTable} (ho : h.get? Sa = some o) (hd : o.data = .set es ep t) :
    (h.update Sa (Obj.putSet es' t')).get? Sa = some { o with data := .set es' (ep + 1) t' } := by
  have := Heap.get?_update_self (Obj.putSet es' t') ho (by rw [putSet_of es' t' hd]; rfl)
  rw [putSet_of es' t' hd] at this; exact this

theorem relay_ok {Sa : Addr} {o : Obj} {ep : Nat} {t : SetTable} {cs : List Cl} {Q : Unit → Shared → Prop} (ho : s.heap.get? Sa = some o) (hd : o.data = .set (esOf cs) ep t) (hf : t.fits (esOf cs).size = true) (nd : (cs.map Cl.k).Nodup) (lt : ∀ c ∈ cs, c.k < 9)
    (h : ∀ t', TInv t' ((reseat cs).map fun c => ({ c with j := s31 c.k } : Cl)) → Q () { s with heap := s.heap.update Sa (Obj.putSet (esOf ((reseat cs).map fun c => ({ c with j := s31 c.k } : Cl))) t') }) :
    wpAny (MM C) A (setRelay Sa (SetTable.grown 5)) Q E s := by
  unfold setRelay
  refine wpAny_bind (wpAny_setState_of ho hd hf ?_)
  dsimp only
  rw [if_neg (by decide +kernel)]
  obtain ⟨t'', order, h1, h2, h4⟩ : ∃ (t'' : SetTable) (order : Array Nat), SetTable.laid 31 t.finger (t.movedTo 31) t.led t.plain (cs.map fun c => kW c.k).toArray = some (t'', order) ∧ order.toList.filterMap (fun i => cs[i]?) = reseat cs ∧ TInv t'' ((reseat cs).map fun c => ({ c with j := s31 c.k } : Cl)) := by
    obtain ⟨order, h1, h2, h3, h4⟩ := laid_ok nd lt t.finger (t.movedTo 31) t.led t.plain
    exact ⟨_, order, h1, h2, h4⟩
  have hre : t.relaid ((esOf cs).map (·.1)) (SetTable.grown 5) = some (t'', order) := by
    unfold SetTable.relaid
    rw [esOf_hash, show SetTable.sizeAbove (SetTable.grown 5) - 1 = 31 by decide +kernel]
    exact h1
  have hes : order.filterMap (fun i => (esOf cs)[i]?) = esOf ((reseat cs).map fun c => ({ c with j := s31 c.k } : Cl)) := by
    apply Array.toList_inj.mp
    rw [Array.toList_filterMap]
    have e : (fun i => (esOf cs)[i]?) = fun i => (cs[i]?).map fun (c : Cl) => (kW c.k, Value.ref c.a) := funext fun i => esOf_get cs i
    rw [e, ← List.map_filterMap, h2]
    simp [esOf, Function.comp_def]
  have hsz : (esOf ((reseat cs).map fun c => ({ c with j := s31 c.k } : Cl))).size = (esOf cs).size := by
    rw [esOf_size, esOf_size, List.length_map, reseat_len nd lt]
  rw [hre]
  refine wpAny_bind (m := (do
    let es' := order.filterMap (fun i => (esOf cs)[i]?)
    if es'.size != (esOf cs).size then unsupported "internal:set-table-lost-an-element"
    pure (es', t'') : Sem (Array (Int × Value) × SetTable))) ?_
  rw [hes]
  dsimp only
  rw [hsz]
  simp only [bne_self_eq_false, Bool.false_eq_true, if_false]
  refine wpAny_bind (wpAny_pure (wpAny_pure ?_))
  dsimp only
  refine wpAny_storeSet_of ho hd (h _ h4) ?_
  rw [hsz, esOf_size]
  have := len9 nd lt
  rw [sizeLine_eq]; omega
end
end Mine

namespace Mine
open PySem PySem.Calls PySem.W PyProof.Rows
section
variable {C : Cx} {A : Around} {E : Value → Shared → Prop} {s : Shared} {env : Env}

theorem key_ne {h : Heap} {Sa a : Addr} {o : Obj} {k : Nat} (ho : h.get? Sa = some o) (hc : o.cls = .type "set") (x : KeyAt C h k a) : a ≠ Sa := fun q => by
  obtain ⟨o', _, _, e, hc', _⟩ := x
  rw [q, ho] at e; cases e
  rw [hc] at hc'; exact absurd hc' (by simp)

set_option maxHeartbeats 1000000 in
theorem add_tab {Sa a : Addr} {o : Obj} {ep k : Nat} {t : SetTable} {cs : List Cl} {Q : Value → Shared → Prop} (x : TabH C s.heap Sa o ep t cs) (hk9 : k < 9) (hk : KeyAt C s.heap k a) (hu : A.units + 10 < cLine)
    (h : ∀ h' tk o' ep' t' cs', Heap.SameBut Sa s.heap h' → TabH C h' Sa o' ep' t' cs' → (∀ k', cs'.any (fun c => c.k == k') = (cs.any (fun c => c.k == k') || decide (k' = k))) → Q .none { s with heap := h', toks := tk }) :
    wpAny (MM C) A (call (.builtin "set.add") [.ref Sa, .ref a]) Q E s := by
  refine wpAny_call_entry PySem.F.slot_set_add x.typeIs PySem.F.entry_set_add ?_ (PySem.F.args_set_add_2 _ _)
  unfold Builtin.«set.add» Builtin.Frozenset.oneOther
  simp only [List.isEmpty_nil, bind_assoc]
  unfold Builtin.Frozenset.addrOf setAdd
  refine wpAny_bind (wpAny_pure ?_)
  try dsimp only
  refine wpAny_bind (wpAny_pure ?_)
  try dsimp only
  refine wpAny_bind ?_
  refine wpAny_holding ?_
  refine wpAny_bind (wpAny_pyHash_tuple (knd := intK C) (by show A.units + 1 < cLine; omega) hk ?_)
  rw [KeyAt.hash, kH_eq hk9]
  have x' := x.tok (s := s) (s.toks + ([(k : Int)].length + 1))
  have hu' : (A.in1).units < cLine := by show A.units + 1 < cLine; omega
  unfold setAddHashed
  refine wpAny_holding ?_
  show wpAny _ _ (setAddHashedIn Sa (.ref a) (kW k) (99999 + 1)) _ _ _
  rw [setAddHashedIn]
  refine wpAny_bind (wpAny_setState_of x'.get x'.data x'.inv.fits ?_)
  dsimp only
  rw [show byScan (.ref a) (esOf cs) = false from rfl]
  simp only [Bool.false_eq_true, if_false]
  cases hany : cs.any fun c => c.k == k with
  | true =>
    obtain ⟨i, c, hi, hck⟩ := any_true hany
    subst hck
    refine wpAny_bind (search_there x' hi hk hu' (adding := true) ?_)
    dsimp only
    refine wpAny_pure ?_
    show wpAny _ _ (ret Value.none) _ _ _
    refine wpAny_pure ⟨_, rfl, ?_⟩
    refine h s.heap _ o ep t cs (.refl _ _) x fun k' => ?_
    by_cases q : k' = c.k
    · subst q; rw [hany]; rfl
    · rw [decide_eq_false q, Bool.or_false]
  | false =>
    obtain ⟨n, hn, hp, hj, occ, h0⟩ := probe_absent x.inv (hashAt_ok cs) hk9 (any_false hany)
    refine wpAny_bind (search_free x' hp ?_)
    dsimp only
    obtain ⟨p, hput, nd', lt', hfull⟩ := put_inv x.inv a hk9 (any_false hany) hn hj occ h0
    refine wpAny_bind (wpAny_setState_of x'.get x'.data x'.inv.fits ?_)
    dsimp only
    rw [hput]
    dsimp only
    generalize hcc : (⟨k, (walk t.mask (kW k) n).j, a⟩ : Cl) = c at *
    have hck : c.k = k := by rw [← hcc]
    have hca : c.a = a := by rw [← hcc]
    have hes : SetTable.insertAt (esOf cs) p (kW k, Value.ref a) = esOf (ins cs p c) := by rw [← esOf_ins, hck, hca]
    rw [hes]
    have hl9 := len9 nd' lt'
    have sz : (esOf (ins cs p c)).size ≤ sizeLine := by rw [esOf_size, sizeLine_eq]; omega
    have hany' : ∀ k', (ins cs p c).any (fun c => c.k == k') = (cs.any (fun c => c.k == k') || decide (k' = k)) := fun k' => by rw [ins_any, hck]
    -- the state behind the store
    have keep1 : ∀ es' t' b, b ≠ Sa → (s.heap.update Sa (Obj.putSet es' t')).get? b = s.heap.get? b := fun es' t' b hb => Heap.get?_update_other _ _ (Ne.symm hb)
    have keysI : ∀ es' t', ∀ y ∈ ins cs p c, KeyAt C (s.heap.update Sa (Obj.putSet es' t')) y.k y.a := fun es' t' y hy => by
      have hy' : KeyAt C s.heap y.k y.a := by
        rcases mem_ins.mp hy with rfl | hy
        · rw [hck, hca]; exact hk
        · exact x.keys y hy
      exact hy'.keep fun o' xs n' _ _ e => (keep1 es' t' _ (key_ne x.get x.ex.1 hy')).trans e
    have ho1 := store_at (es' := esOf (ins cs p c)) (t' := { t with place := ((ins cs p c).map Cl.j).toArray }) x.get x.data
    have hsb1 := Heap.SameBut.update s.heap Sa (Obj.putSet (esOf (ins cs p c)) { t with place := ((ins cs p c).map Cl.j).toArray })
    have rest : wpAny (MM C) A.in1 (do
        storeSet Sa (esOf (ins cs p c)) { t with place := ((ins cs p c).map Cl.j).toArray }
        if ({ t with place := ((ins cs p c).map Cl.j).toArray } : SetTable).tooFull = true then do
          setRelay Sa (SetTable.grown ((esOf cs).size + 1))
          pure true
        else pure true) (fun b s' => wpAny (MM C) A.in1 (ret Value.none) (fun fin s' => ∃ v, fin = .done (.ret v) ∧ Q v s') E s') E { s with toks := s.toks + ([(k : Int)].length + 1) } := by
      refine wpAny_bind (wpAny_storeSet_of x'.get x'.data ?_ sz)
      rcases hfull with ⟨hf, h4, hm⟩ | ⟨hf, T'⟩
      · rw [if_pos hf, esOf_size, h4]
        have hfit : ({ t with place := ((ins cs p c).map Cl.j).toArray } : SetTable).fits (esOf (ins cs p c)).size = true := by
          have hz : ({ t with place := ((ins cs p c).map Cl.j).toArray } : SetTable).fill = 5 := by
            unfold SetTable.fill
            dsimp only
            rw [x.inv.dum, List.size_toArray, List.length_map, ins_length, h4]; rfl
          simp only [SetTable.fits, Bool.and_eq_true, beq_iff_eq, decide_eq_true_eq]
          rw [hz, esOf_size, hm]
          exact ⟨by simp, by decide⟩
        refine wpAny_bind (relay_ok (s := { s with heap := s.heap.update Sa (Obj.putSet (esOf (ins cs p c)) { t with place := ((ins cs p c).map Cl.j).toArray }), toks := s.toks + ([(k : Int)].length + 1) }) ho1 rfl hfit nd' lt' fun t' T' => ?_)
        have ho2 := store_at (es' := esOf ((reseat (ins cs p c)).map fun c => ({ c with j := s31 c.k } : Cl))) (t' := t') ho1 rfl
        have hsb2 := Heap.SameBut.update (s.heap.update Sa (Obj.putSet (esOf (ins cs p c)) { t with place := ((ins cs p c).map Cl.j).toArray })) Sa (Obj.putSet (esOf ((reseat (ins cs p c)).map fun c => ({ c with j := s31 c.k } : Cl))) t')
        refine wpAny_pure (wpAny_pure ⟨_, rfl, h _ _ _ _ t' _ (hsb1.trans hsb2) ⟨ho2, ⟨x.ex.1, x.ex.2.1, x.ex.2.2⟩, rfl, T', fun y hy => ?_⟩ fun k' => ?_⟩)
        · obtain ⟨z, hz, rfl⟩ := List.mem_map.mp hy
          have hz := (mem_reseat nd' lt').mp hz
          have kz := keysI (esOf (ins cs p c)) { t with place := ((ins cs p c).map Cl.j).toArray } z hz
          exact kz.keep fun o' xs n' _ _ e => (Heap.get?_update_other _ _ (Ne.symm (key_ne ho1 x.ex.1 kz))).trans e
        · rw [← hany', Bool.eq_iff_iff, List.any_eq_true, List.any_eq_true]
          constructor
          · rintro ⟨y, hy, q⟩
            obtain ⟨z, hz, rfl⟩ := List.mem_map.mp hy
            exact ⟨z, (mem_reseat nd' lt').mp hz, q⟩
          · rintro ⟨z, hz, q⟩
            exact ⟨_, List.mem_map.mpr ⟨z, (mem_reseat nd' lt').mpr hz, rfl⟩, q⟩
      · rw [if_neg (by rw [hf]; exact Bool.false_ne_true)]
        exact wpAny_pure (wpAny_pure ⟨_, rfl, h _ _ _ _ _ _ hsb1 ⟨ho1, ⟨x.ex.1, x.ex.2.1, x.ex.2.2⟩, rfl, T', keysI _ _⟩ hany'⟩)
    split
    · refine wpAny_bind (hashVal_key hk ?_)
      simp only [if_true, Bool.not_false, Bool.true_and]
      exact rest
    · refine wpAny_bind (wpAny_pure ?_)
      simp only [if_true, Bool.not_false, Bool.true_and]
      exact rest
end
end Mine

namespace Mine
open PySem PySem.Calls PySem.W PyProof.Rows
section
variable {C : Cx} {A : Around} {E : Value → Shared → Prop} {s : Shared} {env : Env}

def TabI (C : Cx) (Sa : Addr) (z : List Int) (h : Heap) : Prop := ∃ o ep t cs, TabH C h Sa o ep t cs ∧ ∀ k : Nat, z.any (· == (k : Int)) = cs.any fun c => c.k == k
def tabStep (z : List Int) : PyData → Bool × List Int
  | .list [.int i] => (!z.any (· == i), i :: z)
  | _ => (false, z)
theorem TabH.keep {h h' : Heap} {Sa : Addr} {o : Obj} {ep : Nat} {t : SetTable} {cs : List Cl} (x : TabH C h Sa o ep t cs) (hk : ∀ o, o.cls ≠ .none → h.get? Sa = some o → h'.get? Sa = some o) (ht : ∀ (b : Addr) (o : Obj) (xs : Array Value) (n : Nat), o.cls = .type "tuple" → o.data = .seq xs n → h.get? b = some o → h'.get? b = some o) : TabH C h' Sa o ep t cs :=
  ⟨hk _ (by rw [x.ex.1]; nofun) x.get, x.ex, x.data, x.inv, fun c hc => (x.keys c hc).keep (ht c.a)⟩
theorem keyAt_of {h : Heap} {v : Value} {i : Int} {as : List Addr} (hi : 0 ≤ i) (r : Reads h v (.tuple [.int i]) as) : ∃ a, v = .ref a ∧ KeyAt C h i.toNat a := by
  cases r with
  | tuple e hc hd r =>
    rename_i a o xs n
    refine ⟨a, rfl, o, xs, n, e, hc, hd, ?_⟩
    obtain ⟨v, vs, b, c, e1, -, r1, r2⟩ := readsAll_cons r
    obtain ⟨u, rfl, -⟩ := reads_int r1
    cases r2
    rw [e1]
    have : ((i.toNat : Nat) : Int) = i := by omega
    rw [this]
    exact .cons (by simp [intKind, Value.isInt]) .nil

theorem keeps_fa (FF : Facts C) {i : Nat} (hi : i ∈ fnIx) : Keeps C (.ref (C.fa i)) := fun h hw => looks_fn FF hi h hw

theorem keyer_tab (FF : Facts C) {n : Nat} {fr : List Env} {L u Sa t : Addr} {pm doc uc : Value} (hSa : C.h₀.get? Sa = none) (hn : 9 ≤ n) :
    Keyer C n fr (uqEnv L u pm doc uc t) Sa [] (.ref (C.fa 2)) (List Int) (TabI C Sa) tabStep (fun _ d => ∃ i : Int, d = .list [.int i] ∧ 0 ≤ i ∧ i ≤ 8) where
  agree := fun z F V s s' ag hF ⟨o, ep, t, cs, x, hz⟩ => ⟨o, ep, t, cs, x.keep (fun o hc e => ag.keep _ _ hF (.inr hc) e) ag.tup, hz⟩
  try_ := by
    rintro A z d s l v as Q E hA hfr ⟨i, rfl, i0, i8⟩ ⟨o, ep, tb, cs, x, hz⟩ hw hlo hse hke hit hrd has hlive hq
    have hSL : Sa ≠ L := fun q => by
      have e := x.get
      obtain ⟨o', es', ep', e', hd, _⟩ := hlo.ns
      rw [q] at e
      have e2 := e.symm.trans e'
      cases e2
      have := x.data
      rw [hd] at this; cases this
    have hi : ((i.toNat : Nat) : Int) = i := by omega
    have hzi := hz i.toNat
    rw [hi] at hzi
    refine try_normal FF (b := !z.any (· == i)) (Post := fun s' => TabI C Sa (i :: z) s'.heap ∧ Live C s'.heap Sa) hw hlo hse hke hit (keeps_fa FF (by decide)) (fun Q' E' hk => ?_) hSL fun s' l' hlo' hse' hke' hit' hnew' hP st => hq s' l' hlo' hse' hke' hit' hnew' hP.1 st fun a ha => ?_
    · refine mh_ok FF 1 [.list [.int i]] (fun d hd => ?_) _ (.head _) A { s with toks := s.toks } v as _ _ (hA.less hn) hw hrd fun s₁ r st₁ hr => ?_
      · rw [List.mem_singleton.mp hd]
        exact ⟨by simp, fun d hd => by rw [List.mem_singleton.mp hd]; trivial⟩
      · have st₁ : Stp C [] [] s s₁ := ⟨st₁.keep, st₁.tup, st₁.there, st₁.gens, st₁.os, st₁.bare, st₁.wd⟩
        obtain ⟨a, rfl, hka⟩ := keyAt_of (C := C) i0 (show Reads s₁.heap r (.tuple [.int i]) [] from hr)
        have at₂ : ∀ s₂, Stp C [L] [] s₁ s₂ → TabH C s₂.heap Sa o ep tb cs ∧ KeyAt C s₂.heap i.toNat a := fun s₂ st₂ =>
          ⟨(x.keep (fun o hc e => st₁.keep _ _ nin_nil (.inr hc) e) st₁.tup).keep (fun o hc e => st₂.keep _ _ (nin1 hSL) (.inr hc) e) st₂.tup, hka.keep fun o xs n hc hd e => st₂.tup _ o xs n hc hd e⟩
        have hu : A.units + 10 < cLine := by have := hA.units; omega
        refine hk _ s₁ st₁ (fun s₂ st₂ Q' E' hQ => ?_) fun s₂ st₂ => ?_
        · obtain ⟨x₂, k₂⟩ := at₂ s₂ st₂
          refine notin_tab x₂ (by omega) k₂ hu fun tk => ?_
          rw [← hzi]
          exact hQ _ (Stp.tok (s' := s₂) (.refl s₂))
        · obtain ⟨x₂, k₂⟩ := at₂ s₂ st₂
          refine ⟨x₂.typeIs, ⟨o, x₂.get, x₂.ex.2.1⟩, fun Q' E' hQ => ?_⟩
          refine add_tab x₂ (by omega) k₂ hu fun h' tk o' ep' t' cs' hsb x' hany => ?_
          refine hQ _ (Stp.same FF hSa hsb (not_tup_cls x₂.get (by rw [x₂.ex.1]; nofun))) ⟨⟨o', ep', t', cs', x', fun k => ?_⟩, ⟨o', x'.get, .inr (by rw [x'.ex.1]; nofun)⟩⟩
          rw [hany, List.any_cons, hz k, Bool.or_comm]
          congr 1
          by_cases q : k = i.toNat
          · rw [q, hi]; simp
          · have : ¬ i = (k : Int) := fun e => q (by omega)
            rw [decide_eq_false q]
            exact beq_eq_false_iff_ne.mpr this
    · rcases List.mem_cons.mp ha with rfl | ha
      · exact live_loc hlo'
      · rw [List.mem_singleton.mp ha]; exact hP.2
theorem tab_start {h : Heap} {Sa : Addr} {led : Bool} (e : h.get? Sa = some { cls := .type "set", dict := none, data := .set #[] 0 (.fresh 0 0 led) }) : TabI C Sa [] h :=
  ⟨_, 0, .fresh 0 0 led, [], ⟨e, ⟨rfl, rfl, rfl⟩, rfl, ⟨rfl, rfl, .inl ⟨rfl, by decide⟩, .nil, .nil, (fun _ h => nomatch h), (fun _ _ h => nomatch h)⟩, (fun _ h => nomatch h)⟩, fun k => rfl⟩
theorem int_start {h : Heap} {Sa : Addr} {led : Bool} (e : h.get? Sa = some { cls := .type "set", dict := none, data := .set #[] 0 (.fresh 0 0 led) }) : IntI C Sa [] h :=
  ⟨0, Nat.le_refl _, _, #[], 0, _, e, ⟨rfl, rfl, rfl⟩, rfl, (fun e he => by simp at he), (fun k => by simp), by decide, rfl, rfl⟩
end
end Mine

namespace Mine
open PySem PySem.Calls PySem.W PyProof.Rows
section
variable {C : Cx} {A : Around} {E : Value → Shared → Prop} {s : Shared} {env : Env}

theorem uq_keeps {u t l : Addr} {uc lc : Value} (U : Uq C u t l uc lc) : Keeps C (.ref u) := fun h hw => by
  obtain ⟨⟨c, d, dt, sl⟩, pm, doc, ho, hc, hd, _⟩ := U.fn _ hw
  dsimp only at hc hd
  subst hc hd
  exact ⟨.frame, .inl rfl, (Looks.ld (part := none) ho).andThen .now⟩
/-- unique(e) -/
theorem ev_uq1 (FF : Facts C) {u t l : Addr} {uc lc : Value} (U : Uq C u t l uc lc) {hp : Heap} (hw : Wd C hp) {np pos : Pos} {e : Expr} {Q : Value → Shared → Prop}
    (h : wpAny (MM C) A (eval e env) (fun v s₁ => Wd C s₁.heap ∧ wpAny (MM C) A (call (.ref u) [v]) Q E s₁) E s) (hs : s.heap = hp := by rfl)
    (hk : env.scope.kind = .function := by rfl) (hx : env.kindOf "unique" = some .globalImplicit := by rfl) (hg : env.globals = mainGlobals := by rfl)
    (he : starEach [e] env = (false, eval e env) :: starEach [] env := by rfl) :
    wpAny (MM C) A (eval (.Call (.Name "unique" np) [e] [] pos) env) Q E s := by
  refine wpAny_Call_NameR (ev_glob FF hw U.mg ?_ hs hk hx hg)
  rw [he]
  refine callWith_of (P := Wd C) rfl (uq_keeps U) (evalArgs_plain ?_)
  have := arg1 (pos := pos) (Q := fun vs s' => Wd C s'.heap ∧ wpAny (MM C) A (call (.ref u) ([] ++ vs)) Q E s') h he
  rw [he] at this
  exact this
/-- unique(e, key=f) -/
theorem ev_uqk (FF : Facts C) {u t l : Addr} {uc lc : Value} (U : Uq C u t l uc lc) {hp : Heap} (hw : Wd C hp) {np pos kp : Pos} {e ke : Expr} {Q : Value → Shared → Prop}
    (h : wpAny (MM C) A (eval e env) (fun v s₁ => wpAny (MM C) A (eval ke env) (fun kv s₂ => Wd C s₂.heap ∧ wpAny (MM C) A (call (.ref u) [v] [("key", kv)]) Q E s₂) E s₁) E s) (hs : s.heap = hp := by rfl)
    (hk : env.scope.kind = .function := by rfl) (hx : env.kindOf "unique" = some .globalImplicit := by rfl) (hg : env.globals = mainGlobals := by rfl)
    (he : starEach [e] env = (false, eval e env) :: starEach [] env := by rfl) :
    wpAny (MM C) A (eval (.Call (.Name "unique" np) [e] [⟨some "key", ke, kp⟩] pos) env) Q E s := by
  show wpAny (MM C) A (do callWith pos (← eval (.Name "unique" np) env) [] (backTo pos (starEach [e] env)) (backToKw pos (keywordEach [⟨some "key", ke, kp⟩] env))) Q E s
  refine wpAny_bind (ev_glob FF hw U.mg ?_ hs hk hx hg)
  rw [he]
  refine callWith_of (P := Wd C) rfl (uq_keeps U) (PySem.evalArgs_kw rfl ?_)
  have := arg1 (pos := pos) (Q := fun vs s₁ => wpAny (MM C) A (evalAll ((backToKw pos (keywordEach [⟨some "key", ke, kp⟩] env)).map (·.2))) (fun ks s₂ => Wd C s₂.heap ∧ wpAny (MM C) A (call (.ref u) ([] ++ vs) ([("key" : Str)].zip ks)) Q E s₂) E s₁)
    (wpAny_mono h (fun v s₁ h₁ => (wpAny_evalAll_cons (wpAny_bind (wpAny_mono h₁ (fun kv s₂ h₂ => wpAny_bind (wpAny_standAt (wpAny_pure (wpAny_evalAll_nil h₂)))) fun _ _ x => x)) : wpAny (MM C) A (evalAll [(do let v ← eval ke env; standAt pos; pure v)]) _ E s₁)) fun _ _ x => x) he
  rw [he] at this
  exact this

theorem binds_default {u t l : Addr} {uc lc : Value} (U : Uq C u t l uc lc) (hw : Wd C s.heap) (pm doc seq : Value) : BindsTo s (uqFd pm doc uc t) ⟨[seq], []⟩ [("seq", seq), ("key", .ref l)] := by
  obtain ⟨o, n, e, d⟩ := U.tp _ hw
  exact BindsTo.of_defaults (T := t) rfl e d rfl rfl
theorem binds_key {u t l : Addr} {uc lc : Value} (U : Uq C u t l uc lc) (hw : Wd C s.heap) (pm doc seq kv : Value) : BindsTo s (uqFd pm doc uc t) ⟨[seq], [("key", kv)]⟩ [("seq", seq), ("key", kv)] := by
  obtain ⟨o, n, e, d⟩ := U.tp _ hw
  exact BindsTo.of_defaults (T := t) rfl e d rfl rfl

theorem keepS_len {σ : Type} {step : σ → PyData → Bool × σ} : ∀ (ds : List PyData) (z : σ), (keepS step z ds).length ≤ ds.length
  | [], _ => Nat.le_refl _
  | d :: ds, z => by
    have := keepS_len (step := step) ds (step z d).2
    unfold keepS
    split
    · rw [List.length_cons, List.length_cons]; omega
    · rw [List.length_cons]; omega

/-- list(unique(..)) -/
theorem list_uq (FF : Facts C) {u t l : Addr} {uc lc : Value} (U : Uq C u t l uc lc) {fr : List Env} (hw : Wd C s.heap) (hA : Room 60 A) (hfr : A.frames = some fr) {vals : List Value} {kws : List (Str × Value)} {seq kv : Value} {X R Fr : List Addr} {σ : Type} {I : Addr → σ → Heap → Prop} {step : σ → PyData → Bool × σ} {ok : σ → PyData → Prop} {ds : List PyData} {z : σ} {Q : Value → Shared → Prop}
    (hbind : ∀ pm doc, BindsTo s (uqFd pm doc uc t) ⟨vals, kws⟩ [("seq", seq), ("key", kv)])
    (hR : ∀ a ∈ X ++ R, Live C s.heap a) (hXR : ∀ a ∈ X, a ∉ R) (hFr : ∀ a ∈ Fr, a ∈ R)
    (hseq : ∀ s', Agree C R [] s s' → Wd C s'.heap → IterOf C seq ds Fr s') (hok : okAll step ok z ds) (hlen : ds.length ≤ 1000)
    (hI0 : ∀ (h : Heap) (Sa : Addr) (led : Bool), h.get? Sa = some { cls := .type "set", dict := none, data := .set #[] 0 (.fresh 0 0 led) } → I Sa z h)
    (KE : ∀ (L : Addr) (pm doc : Value) (Sa : Addr), C.h₀.get? Sa = none → Keyer C 20 fr (uqEnv L u pm doc uc t) Sa X kv σ (I Sa) step ok)
    (h : ∀ s' S as', Stp C X [] s s' → s.heap.get? S = none → Reads s'.heap (.ref S) (.list (keepS step z ds)) (S :: as') → Q (.ref S) s') :
    wpAny (MM C) A (call (.ref u) vals kws) (fun g s₁ => wpAny (MM C) A (call (.type "list") [g]) Q E s₁) E s := by
  refine unique_at FF U (n := 20) (k := 30) (A₀ := A.in1.in1) hw (hA.less (by omega)) (Room.in1 (Room.in1 (hA.less (by omega)))) (by omega) hfr hbind hR hXR hFr hseq hok hI0 KE fun s₁ L a g hL ha hg st hT hit hlive hself => ?_
  refine call_list_at FF (st.wd hw) hit hlive hself (lazy_gen hT) (by have := keepS_len (step := step) ds z; omega) fun s₂ S acc as hS st₂ hp hr ha₂ hna => ?_
  refine h s₂ S as (st.andThen st₂ (fun _ h => nomatch h) all0 (fun a ha => ?_) (all1 (.inr hg))) (st.fresh hS) (plain_reads (ys := acc.toList) (by simpa using hp) hr)
  rcases List.mem_cons.mp ha with rfl | ha
  · exact .inr hL
  · exact .inl ha
end
end Mine

namespace Mine
open PySem PySem.Calls PySem.W PyProof.Rows

def keepG (g : Int → Int) : List Int → List Int → List Int
  | _, [] => []
  | z, x :: xs => if (!z.any (· == g x)) = true then x :: keepG g (g x :: z) xs else keepG g (g x :: z) xs
theorem keepS_int (g : Int → Int) : ∀ (xs z : List Int), keepS (intStep g) z (iL xs) = iL (keepG g z xs)
  | [], _ => rfl
  | x :: xs, z => by
    show keepS (intStep g) z (PyData.int x :: iL xs) = _
    unfold keepS keepG
    show (if (!z.any (· == g x)) = true then PyData.int x :: keepS (intStep g) (g x :: z) (iL xs) else keepS (intStep g) (g x :: z) (iL xs)) = _
    rw [keepS_int g xs (g x :: z)]
    split <;> rfl
def sng (i : Int) : PyData := .list [.int i]
theorem keepS_tab : ∀ (xs z : List Int), keepS tabStep z (xs.map sng) = (keepG id z xs).map sng
  | [], _ => rfl
  | x :: xs, z => by
    show keepS tabStep z (sng x :: xs.map sng) = _
    unfold keepS keepG
    show (if (!z.any (· == x)) = true then sng x :: keepS tabStep (x :: z) (xs.map sng) else keepS tabStep (x :: z) (xs.map sng)) = List.map sng (if (!z.any (· == x)) = true then x :: keepG id (x :: z) xs else keepG id (x :: z) xs)
    rw [keepS_tab xs (x :: z)]
    split <;> rfl
theorem keepS_all {σ : Type} : ∀ (ds : List PyData) (z : σ), keepS (fun z _ => (true, z)) z ds = ds
  | [], _ => rfl
  | d :: ds, z => by
    unfold keepS
    simp only [if_true]
    rw [keepS_all ds z]
theorem keepG_by (g : Int → Int) : ∀ (suf pre z : List Int), (∀ k, z.any (· == k) = (pre.map g).any (· == k)) →
    keepG g z suf = ((intsUp pre.length suf.length).filter (keepF ((pre ++ suf).map g))).map fun i => (pre ++ suf).getD i.toNat 0
  | [], _, _, _ => by simp [keepG, intsUp]
  | x :: suf, pre, z, hz => by
    have ih := keepG_by g suf (pre ++ [x]) (g x :: z) fun k => by
      rw [List.any_cons, hz k, List.map_append, List.any_append, Bool.or_comm]
      simp
    rw [show (pre ++ [x]) ++ suf = pre ++ x :: suf by simp, show (((pre ++ [x]).length : Nat) : Int) = (pre.length : Int) + 1 by simp] at ih
    have hf : keepF ((pre ++ x :: suf).map g) (pre.length : Int) = !z.any (· == g x) := by
      unfold keepF
      rw [hz (g x), Int.toNat_natCast, List.map_append]
      have h1 : (pre.map g ++ (x :: suf).map g).take pre.length = pre.map g := by
        rw [List.take_append_of_le_length (by simp), List.take_of_length_le (by simp)]
      have h2 : (pre.map g ++ (x :: suf).map g).getD pre.length 0 = g x := by
        simp [List.getD_eq_getElem?_getD, List.getElem?_append_right]
      rw [h1, h2]
    have hx : (pre ++ x :: suf).getD pre.length 0 = x := by
      simp [List.getD_eq_getElem?_getD, List.getElem?_append_right]
    rw [List.length_cons, intsUp, List.filter_cons, hf]
    unfold keepG
    split
    · rw [List.map_cons, Int.toNat_natCast, hx, ih]
    · exact ih
theorem keep_first (xs : List Int) : keepG id [] xs = keepBy xs xs := by
  have := keepG_by id xs [] [] fun k => rfl
  simpa [keepBy] using this
theorem keep_rest (g : Int → Int) (xs : List Int) : keepG g [] xs = keepBy xs (xs.map g) := by
  have := keepG_by g xs [] [] fun k => rfl
  simpa [keepBy] using this
theorem ok_int {g : Int → Int} : ∀ (xs z : List Int), z.length + xs.length ≤ 1000 → okAll (intStep g) intOkd z (iL xs)
  | [], _, _ => trivial
  | x :: xs, z, h => by
    rw [List.length_cons] at h
    exact ⟨⟨⟨x, rfl⟩, by omega⟩, ok_int xs (g x :: z) (by rw [List.length_cons]; omega)⟩
theorem ok_all {σ : Type} {step : σ → PyData → Bool × σ} {P : PyData → Prop} : ∀ (ds : List PyData) (z : σ), (∀ d ∈ ds, P d) → okAll step (fun _ d => P d) z ds
  | [], _, _ => trivial
  | d :: ds, z, h => ⟨h d (.head _), ok_all ds _ fun y hy => h y (.tail _ hy)⟩
end Mine

namespace Mine
open PySem PySem.Calls PySem.W PyProof.Rows
section
variable {C : Cx} {A : Around} {E : Value → Shared → Prop} {s : Shared} {env : Env}
theorem agree_tuple {F : List Addr} {V : List Nat} {s' : Shared} {t : Addr} {xs : Array Value} (ag : Agree C F V s s') (h : s.heap.IsTuple t xs) : s'.heap.IsTuple t xs := by
  obtain ⟨o, e, c, n, d⟩ := h
  exact ⟨o, ag.tup _ _ _ _ c d e, c, n, d⟩
/-- the check of unique at ints -/
theorem law_15 (FF : Facts C) {u t l : Addr} {uc lc : Value} (U : Uq C u t l uc lc) (hA : Room 60 A) {fr : List Env} (hfr : A.frames = some fr) {L d q R F1 B1 : Addr} {pm doc : Value} {lo : List (Str × Value)} {Q : Flow → Shared → Prop} {xs : List Int} (S : LS C L d q lo s) (hr : Row C s.heap (L + 3) R xs) (hl9 : xs.length ≤ 9)
    (hfi : gl lo "first" = some (.ref F1)) (hF1 : Reads s.heap (.ref F1) (lstL (keepBy xs xs)) [F1]) (hby : gl lo "by_rest" = some (.ref B1)) (hB1 : Reads s.heap (.ref B1) (lstL (keepBy xs (xs.map (·.fmod 3)))) [B1])
    (h : ∀ s', LS C L d q lo s' → Stp C [] [] s s' → wpAny (MM C) A (execs (lawBody.drop 17) (lawEnv C L pm doc)) Q E s') :
    wpAny (MM C) A (execs (lawBody.drop 16) (lawEnv C L pm doc)) Q E s := by
  have hw := S.wd
  refine wpAny_execs_cons (wpAny_If (isTrue_or (wpAny_isTrue_Compare1 (ev_callb FF hw (.type "list") (arg1 (ev_uq1 FF U hw (ev_cell hr.cell ⟨hw, ?_⟩ rfl)))))))
  refine list_uq FF U hw hA hfr (X := []) (R := [R]) (Fr := [R]) (I := fun Sa => IntI C Sa) (step := intStep id) (ok := intOkd) (ds := iL xs) (z := []) (fun pm doc => binds_default U hw pm doc (.ref R)) (all1 hr.live.2) (fun _ h => nomatch h) (fun _ h => h) (fun s' ag hw' => ?_) (ok_int xs [] (by simp; omega)) (by rw [List.length_map]; omega) (fun h Sa led e => int_start e)
    (fun L pm doc Sa hSa => keyer_int FF hSa (lam_keeps U) fun A s i tk Q E hA hw hq => lam_ok FF U hw hA fun s' st => hq s' tk st) fun s₁ S₁ as₁ st₁ hS₁ hr₁ => ?_
  · obtain ⟨vs, bs, eb, hl, hrr⟩ := reads_list (ag.reads hr.reads (fun _ h => h))
    have hb0 : bs = [] := by simpa using eb.symm
    subst hb0
    exact iterOf_list FF hw' hl (by simpa using hrr)
  · rw [keepS_int, keep_first] at hr₁
    have S' := S.still st₁
    have hw₁ := S'.wd
    refine ev_local S'.loc hfi (ne_same hA hr₁ (st₁.reads hF1 (fun _ _ h => nomatch h)) (sh_lstL _) (by decide) (wpAny_truthy_bool ?_))
    rw [if_neg Bool.false_ne_true]
    have hrow₁ := hr.still st₁
    obtain ⟨vs, hvl, hI⟩ := hrow₁.list
    have hlen : vs.length = xs.length := hI.length
    refine isTrue_or (wpAny_isTrue_Compare1 (ev_callb FF hw₁ (.type "list") (arg1 (ev_uqk FF U hw₁ (ev_callb FF hw₁ (.type "tuple") (arg1 (ev_cell hrow₁.cell (call_tuple_l FF hvl (by simpa using intsAre_reads hI) (fun s₂ t₂ st₂ hg₂ ht₂ hr₂ => ?_) (by rw [List.size_toArray]; omega)) rfl)))))))
    have S₂ := S'.still st₂
    have hw₂ := S₂.wd
    refine ev_fn FF hw₂ 20 ⟨hw₂, ?_⟩
    have htt := isTuple_of ht₂
    refine list_uq FF U hw₂ hA hfr (X := []) (R := []) (Fr := []) (I := fun Sa => IntI C Sa) (step := intStep (·.fmod 3)) (ok := intOkd) (ds := iL xs) (z := []) (fun pm doc => binds_key U hw₂ pm doc (.ref t₂) (.ref (C.fa 20))) (fun _ h => nomatch h) (fun _ h => nomatch h) (fun _ h => h) (fun s' ag hw' => ?_) (ok_int xs [] (by simp; omega)) (by rw [List.length_map]; omega) (fun h Sa led e => int_start e)
      (fun L pm doc Sa hSa => keyer_int FF hSa (keeps_fa FF (by decide)) fun A s i tk Q E hA hw hq => rest_ok FF hw (k := 19) hA fun s' t' st hg => hq s' t' st) fun s₃ S₃ as₃ st₃ hS₃ hr₃ => ?_
    · exact iterOf_tuple FF hw' (agree_tuple ag htt) (by simpa using intsAre_reads hI)
    · rw [keepS_int, keep_rest] at hr₃
      have st13 := (st₁.trans st₂).trans st₃
      have S₃' := S₂.still st₃
      refine ev_local S₃'.loc hby (ne_same hA hr₃ (st13.reads hB1 (fun _ _ h => nomatch h)) (sh_lstL _) (by decide) (wpAny_truthy_bool ?_))
      rw [if_neg Bool.false_ne_true]
      refine isTrue_or_nil ?_
      rw [if_neg Bool.false_ne_true]
      exact wpAny_execs_nil (h s₃ S₃' st13)
end
end Mine

namespace Mine
open PySem PySem.Calls PySem.W PyProof.Rows
section
variable {C : Cx} {A : Around} {E : Value → Shared → Prop} {s : Shared} {env : Env}

theorem sng_out {xs : List Int} {ds' : List PyData} (hP : Paired (fun d d' => ∀ i, d = .int i → d' = sng i) ((iL xs).filter fun _ => true) ds') : ds' = xs.map sng := by
  rw [filter_all] at hP
  exact paired_to (g := sng) hP fun i _ y hy => hy i rfl
/-- [[item] for item in X]: what one turn needs -/
theorem sng_in (FF : Facts C) {k : Nat} {genv : Addr → Env} {ip lp : Pos} {v : Value} {Rv : Addr} {xs : List Int} (hv : v = .ref Rv) (hw : Wd C s.heap) (hr : Reads s.heap (.ref Rv) (lstL xs) [Rv]) (hl : xs.length ≤ 1000)
    (hk : ∀ L', (genv L').scope.kind = .function := by intro _; rfl) (hlk : ∀ L', (genv L').kindOf "item" = some .local := by intro _; rfl) (he : ∀ L', starEach [.Name "item" ip] (genv L') = (false, eval (.Name "item" ip) (genv L')) :: starEach [] (genv L') := by intro _; rfl) :
    CompIn C A k genv "item" [] (.List [.Name "item" ip] lp) v (iL xs) [Rv] [] [] (fun _ => True) (fun _ => true) (fun d d' => ∀ i, d = .int i → d' = sng i) s := by
  subst hv
  obtain ⟨vs, bs, eb, hvl, hrr⟩ := reads_list hr
  have hb0 : bs = [] := by simpa using eb.symm
  subst hb0
  refine ⟨iterOf_list FF hw hvl (by simpa using hrr), all1 (reads_alive hr _ (.head _)), hw, by rw [List.length_map]; omega, (fun _ h => nomatch h), (fun _ h => nomatch h), (fun _ h => nomatch h), (fun _ _ _ _ _ _ _ => trivial), (fun _ _ _ h => nomatch h), trivial, fun L' hL' => ?_⟩
  refine map_inv fun i hi => compOk_elt fun A s₃ l w as Q E hA hw₃ hloc hlk' hrd hag _ hq => ?_
  obtain ⟨u, rfl, rfl⟩ := reads_int hrd
  refine ev_list (arg1 (ev_local hloc hlk' ⟨by rw [sizeLine_eq]; simp, fun s₄ a st₄ hg₄ hf₄ hp₄ => ?_⟩ rfl (hk L') (hlk L')) (he L'))
  exact hq _ s₄ [a] (sng i) (fun j e => by cases e; rfl) (plain_reads (as := []) hp₄ (readsAll_one (.int _ _))) (all1 (.inr hf₄)) st₄ trivial

/-- lists = [[item] for item in rows] -/
theorem law_16 (FF : Facts C) (hA : Room 60 A) {L d q R : Addr} {pm doc : Value} {lo : List (Str × Value)} {Q : Flow → Shared → Prop} {xs : List Int} (S : LS C L d q lo s) (hr : Row C s.heap (L + 3) R xs) (hl9 : xs.length ≤ 9) (hRL : R ≠ L)
    (h : ∀ s' D as, LS C L d q (put "lists" (.ref D) lo) s' → Reads s'.heap (.ref D) (.list (xs.map sng)) (D :: as) → (∀ a ∈ D :: as, a ≠ L) → Stp C [L] [] s s' → wpAny (MM C) A (execs (lawBody.drop 18) (lawEnv C L pm doc)) Q E s') :
    wpAny (MM C) A (execs (lawBody.drop 17) (lawEnv C L pm doc)) Q E s := by
  have hw := S.wd
  refine wpAny_execs_cons (st_lc FF (k := 50) (cl := []) rfl (hA.less (by omega)) (ev_cell hr.cell ⟨_, _, _, _, _, _, _, lo, sng_in FF rfl hw hr.reads (by omega), S.loc, nin1 hRL.symm, (fun h => nomatch h), fun D s₃ ys ds' as' hP st₃ _ hp hD hra has hDa hlo₃ => ?_⟩ rfl) rfl)
  have e := sng_out hP
  subst e
  refine h s₃ D as' (S.set st₃ hlo₃) (plain_reads hp hra) (fun a ha => ?_) st₃
  rcases List.mem_cons.mp ha with rfl | ha
  · exact dead_of hD (loc_alive S.loc)
  · rcases has a ha with z | z
    · rw [List.mem_singleton.mp z]; exact hRL
    · exact dead_of z (loc_alive S.loc)
end
end Mine

namespace Mine
open PySem PySem.Calls PySem.W PyProof.Rows
section
variable {C : Cx} {A : Around} {E : Value → Shared → Prop} {s : Shared} {env : Env}

/-- the context with one object pinned -/
abbrev Cx.pinned (C : Cx) (L : Addr) (d : Data) : Cx := { C with pin := some (L, d) }
theorem unpin {L : Addr} {d : Data} (hp : C.pin = none) {h : Heap} (x : Wd (C.pinned L d) h) : Wd C h := ⟨x.old, x.stat, x.tabs, fun p q => by rw [hp] at q; cases q⟩
theorem dopin {L : Addr} {d : Data} {h : Heap} (x : Wd C h) (e : ∃ o, h.get? L = some o ∧ o.data = d) : Wd (C.pinned L d) h := ⟨x.old, x.stat, x.tabs, fun p q => by
  have q : some (L, d) = some p := q
  cases q; exact e⟩
theorem pin_facts (FF : Facts C) (hp : C.pin = none) {L : Addr} {d : Data} (hL : C.hb.get? L = none) : Facts (C.pinned L d) where
  nb := FF.nb
  g := fun h x => FF.g h (unpin hp x)
  b := fun h x => FF.b h (unpin hp x)
  lim := fun h x => FF.lim h (unpin hp x)
  bmod := fun h x => FF.bmod h (unpin hp x)
  bi := FF.bi
  stat := FF.stat
  pinf := fun p q => by
    have q : some (L, d) = some p := q
    cases q; exact hL
  tabl := FF.tabl
  tab0 := FF.tab0
  tabd := FF.tabd
  mgf := FF.mgf
  fn := fun i hi h x => FF.fn i hi h (unpin hp x)
theorem pin_uq {u t l : Addr} {uc lc : Value} (U : Uq C u t l uc lc) (hp : C.pin = none) {L : Addr} {d : Data} : Uq (C.pinned L d) u t l uc lc :=
  ⟨U.mg, fun h x => U.fn h (unpin hp x), fun h x => U.tp h (unpin hp x), fun h x => U.lam h (unpin hp x)⟩
theorem pin_stp {L : Addr} {d : Data} {W : List Addr} {V : List Nat} {s' : Shared} (hp : C.pin = none) (st : Stp (C.pinned L d) W V s s') (hw : Wd (C.pinned L d) s.heap) : Stp C W V s s' :=
  ⟨st.keep, st.tup, st.there, st.gens, st.os, st.bare, fun _ => unpin hp (st.wd hw)⟩

set_option maxHeartbeats 1000000 in
/-- the checks of unique at lists -/
theorem law_17 (FF : Facts C) (hp0 : C.pin = none) {u t l : Addr} {uc lc : Value} (U : Uq C u t l uc lc) (hA : Room 60 A) {L d q R F1 D : Addr} {pm doc : Value} (hfr : A.frames = some [lawEnv C L pm doc]) {lo : List (Str × Value)} {Q : Flow → Shared → Prop} {xs : List Int} {as : List Addr} (S : LS C L d q lo s) (hr : Row C s.heap (L + 3) R xs) (hl9 : xs.length ≤ 9) (hx8 : ∀ x ∈ xs, 0 ≤ x ∧ x ≤ 8) (hRL : R ≠ L) (hFL : F1 ≠ L)
    (hfi : gl lo "first" = some (.ref F1)) (hF1 : Reads s.heap (.ref F1) (lstL (keepBy xs xs)) [F1]) (hli : gl lo "lists" = some (.ref D)) (hD : Reads s.heap (.ref D) (.list (xs.map sng)) (D :: as)) (hDL : ∀ a ∈ D :: as, a ≠ L)
    (h : ∀ s', LS C L d q lo s' → Row C s'.heap (L + 3) R xs → Stp C [L] [] s s' → wpAny (MM C) A (execs (lawBody.drop 19) (lawEnv C L pm doc)) Q E s') :
    wpAny (MM C) A (execs (lawBody.drop 18) (lawEnv C L pm doc)) Q E s := by
  have hw := S.wd
  have shS : ∀ ys : List Int, Sh 2 (.list (ys.map sng)) := fun ys => Sh.list (map_inv fun i _ => Sh.list (n := 0) fun x hx => by rw [List.mem_singleton.mp hx]; exact Sh.int 0 i)
  obtain ⟨⟨oL, es, ep, eL, dL, rL⟩, newL⟩ := id S.loc
  have hbL : C.hb.get? L = none := nb newL
  have hwP : Wd (C.pinned L (.dict es ep)) s.heap := dopin hw ⟨oL, eL, dL⟩
  have FP := pin_facts FF hp0 (L := L) (d := .dict es ep) hbL
  have UP := pin_uq U hp0 (L := L) (d := .dict es ep)
  refine wpAny_execs_cons (wpAny_If (isTrue_or (wpAny_isTrue_Compare1 (ev_callb FF hw (.type "list") (arg1 (ev_uq1 FF U hw (ev_local S.loc hli ⟨hw, ?_⟩)))))))
  refine list_uq (C := C.pinned L (.dict es ep)) FP UP hwP hA hfr (X := [L]) (R := D :: as) (Fr := D :: as) (I := fun Sa => IntI (C.pinned L (.dict es ep)) Sa) (step := fun z _ => (true, z)) (ok := fun _ d => ∃ ds, d = .list ds) (ds := xs.map sng) (z := []) (fun pm doc => binds_default UP hwP pm doc (.ref D)) (fun a ha => ?_) (fun a ha q => hDL a q (List.mem_singleton.mp ha)) (fun _ h => h) (fun s' ag hw' => ?_) (ok_all _ _ (map_inv fun i _ => ⟨_, rfl⟩)) (by rw [List.length_map]; omega) (fun h Sa led e => int_start e)
    (fun L' pm doc Sa hSa => keyer_list FP UP hSa rfl (by show ScopeKind.function ≠ _; decide) rfl (by decide)) fun s₁ S₁ as₁ st₁ hS₁ hr₁ => ?_
  · rcases List.mem_append.mp ha with ha | ha
    · rw [List.mem_singleton.mp ha]
      exact ⟨oL, eL, .inl hbL⟩
    · exact reads_live hD a ha
  · obtain ⟨vs, bs, eb, hl, hrr⟩ := reads_list (ag.reads hD (fun _ h => h))
    cases eb
    exact iterOf_list FP hw' hl (by simpa using hrr)
  · rw [keepS_all] at hr₁
    have hwP₁ := st₁.wd hwP
    obtain ⟨oL', eL', dL'⟩ := hwP₁.pin _ rfl
    have st₁ := pin_stp hp0 st₁ hwP
    have hloc₁ : Loc C s₁.heap L lo := ⟨⟨oL', es, ep, eL', dL', rL⟩, newL⟩
    have S₁' := S.set st₁ hloc₁
    have hw₁ := S₁'.wd
    have hD₁ := st₁.reads hD (fun a ha => nin1 (hDL a ha))
    have n := add_ne L
    have hrow₁ := hr.step st₁ (nin1 n.1) (nin1 hRL)
    refine ev_local S₁'.loc hli (ne_same hA hr₁ hD₁ (shS xs) (by decide) (wpAny_truthy_bool ?_))
    rw [if_neg Bool.false_ne_true]
    refine isTrue_or (wpAny_isTrue_Compare1 (ev_callb FF hw₁ (.type "list") (arg1 (ev_uqk FF U hw₁ (ev_local S₁'.loc hli (ev_fn FF hw₁ 2 ⟨hw₁, ?_⟩))))))
    refine list_uq FF U hw₁ hA hfr (X := []) (R := D :: as) (Fr := D :: as) (I := fun Sa => TabI C Sa) (step := tabStep) (ok := fun _ d => ∃ i : Int, d = .list [.int i] ∧ 0 ≤ i ∧ i ≤ 8) (ds := xs.map sng) (z := []) (fun pm doc => binds_key U hw₁ pm doc (.ref D) (.ref (C.fa 2))) (reads_live hD₁) (fun _ h => nomatch h) (fun _ h => h) (fun s' ag hw' => ?_) (ok_all _ _ (map_inv fun i hi => ⟨i, rfl, hx8 i hi⟩)) (by rw [List.length_map]; omega) (fun h Sa led e => tab_start e)
      (fun L' pm doc Sa hSa => keyer_tab FF hSa (by decide)) fun s₂ S₂ as₂ st₂ hS₂ hr₂ => ?_
    · obtain ⟨vs, bs, eb, hl, hrr⟩ := reads_list (ag.reads hD₁ (fun _ h => h))
      cases eb
      exact iterOf_list FF hw' hl (by simpa using hrr)
    · rw [keepS_tab, keep_first] at hr₂
      have S₂' := S₁'.still st₂
      have hF₁ := st₂.reads (st₁.reads hF1 (all1 (nin1 hFL))) (fun _ _ h => nomatch h)
      have hkl : (keepBy xs xs).length ≤ 1000 := by
        unfold keepBy
        rw [List.length_map]
        have := List.length_filter_le (keepF xs) (intsUp 0 xs.length)
        rw [intsUp_len] at this
        omega
      refine ev_lc FF (k := 50) (cl := []) rfl (hA.less (by omega)) (ev_local S₂'.loc hfi ⟨_, _, _, _, _, _, _, sng_in FF rfl S₂'.wd hF₁ hkl, fun D₃ s₃ ys ds' as' hP st₃ _ hp hD₃ hra has hDa => ?_⟩)
      have e := sng_out hP
      subst e
      refine ne_same hA (st₃.reads hr₂ fun _ _ h => nomatch h) (plain_reads hp hra) (shS _) (by decide) (wpAny_truthy_bool ?_)
      rw [if_neg Bool.false_ne_true]
      refine isTrue_or_nil ?_
      rw [if_neg Bool.false_ne_true]
      have st23 := st₂.trans st₃
      exact wpAny_execs_nil (h s₃ (S₁'.still st23) (hrow₁.still st23) (st₁.more st23 all0))
end
end Mine

namespace Mine
open PySem PySem.Calls PySem.W PyProof.Rows
section
variable {C : Cx} {A : Around} {E : Value → Shared → Prop} {s : Shared} {env : Env}
theorem tup_reads {h : Heap} {t : Addr} {vs : List Value} {ds : List PyData} {as : List Addr} (e : h.get? t = some { cls := .type "tuple", data := .seq vs.toArray }) (r : ReadsAll h vs ds as) : Reads h (.ref t) (.tuple ds) as := .tuple e rfl rfl (by simpa using r)
theorem mh_int (n : Nat) (x : Int) : mhD n (.int x) = .int x := by cases n <;> rfl
theorem mh_ints (n : Nat) (xs : List Int) : (iL xs).map (mhD n) = iL xs := by
  induction xs with
  | nil => rfl
  | cons x xs ih =>
    show mhD n (.int x) :: (iL xs).map (mhD n) = .int x :: iL xs
    rw [mh_int, ih]
theorem ok_int1 (n : Nat) (x : Int) : okD n (.int x) := by cases n <;> trivial
theorem ok_lst (n : Nat) {xs : List Int} (h : xs.length ≤ 9) : okD (n + 1) (lstL xs) := ⟨by rw [List.length_map]; omega, map_inv fun i _ => ok_int1 n i⟩
def lastD (xs : List Int) : PyData := .tuple [tupL xs, .tuple [tupL xs, .int 1], .str "ab"]
theorem mh_last (xs : List Int) : mhD 3 (.list [lstL xs, .tuple [lstL xs, .int 1], .str "ab"]) = lastD xs := by
  show PyData.tuple [.tuple ((iL xs).map (mhD 1)), .tuple [.tuple ((iL xs).map (mhD 0)), .int 1], .str "ab"] = _
  rw [mh_ints, mh_ints]; rfl

/-- return multihash(..) == .. and multihash(3) == 3 -/
theorem law_18 (FF : Facts C) (hA : Room 60 A) {L d q R : Addr} {pm doc : Value} {lo : List (Str × Value)} {Q : Flow → Shared → Prop} {xs : List Int} (S : LS C L d q lo s) (hr : Row C s.heap (L + 3) R xs) (hl9 : xs.length ≤ 9)
    (h : ∀ s', LS C L d q lo s' → Stp C [] [] s s' → Q (.ret (.bool true)) s') :
    wpAny (MM C) A (execs (lawBody.drop 19) (lawEnv C L pm doc)) Q E s := by
  have hw := S.wd
  obtain ⟨vs, hvl, hI⟩ := hr.list
  have hlen : vs.length = xs.length := hI.length
  refine wpAny_execs_cons (wpAny_Return_some (BoolOp_and (wpAny_Compare1 (ev_call FF hw 2 (arg1 (ev_list (wpAny_items_cons (ev_cell hr.cell ?_ rfl))))))))
  refine wpAny_items_cons (ev_tuple (arg2 (ev_cell hr.cell (wpAny_Constant_int ⟨by rw [sizeLine_eq]; simp, fun s₁ t₁ st₁ hg₁ hf₁ ht₁ => ?_⟩) rfl)))
  refine arg1 (wpAny_Constant_str ⟨by rw [sizeLine_eq]; simp, fun s₂ l₂ st₂ hg₂ hf₂ hp₂ => ?_⟩)
  have e1 : Stp C [] [] s s₁ := ⟨st₁.keep, st₁.tup, st₁.there, st₁.gens, st₁.os, st₁.bare, st₁.wd⟩
  have e2 : Stp C [] [] s₁ s₂ := ⟨st₂.keep, st₂.tup, st₂.there, st₂.gens, st₂.os, st₂.bare, st₂.wd⟩
  have S₁ := S.still e1
  have S₂ := S₁.still e2
  have e12 := e1.trans e2
  have hr₂ := hr.still e12
  have rR : Reads s₂.heap (.ref R) (lstL xs) [R] := hr₂.reads
  have rT : Reads s₂.heap (.ref t₁) (.tuple [lstL xs, .int 1]) [R] := e2.reads (tup_reads (as := [R] ++ []) ht₁ (.cons (hr.still e1).reads (by simpa using readsAll_one (Reads.int 1 _)))) (fun _ _ h => nomatch h)
  have rD : Reads s₂.heap (.ref l₂) (.list [lstL xs, .tuple [lstL xs, .int 1], .str "ab"]) (l₂ :: ([R] ++ ([R] ++ []))) := plain_reads hp₂ (.cons rR (.cons rT (readsAll_one (.str _ _))))
  refine ⟨S₂.wd, mh_ok FF 3 [.list [lstL xs, .tuple [lstL xs, .int 1], .str "ab"]] (fun d hd => ?_) _ (.head _) A s₂ _ _ _ _ (hA.less (by omega)) S₂.wd rD fun s₃ r₃ st₃ hr₃ => ?_⟩
  · rw [List.mem_singleton.mp hd]
    refine ⟨by simp, fun d hd => ?_⟩
    simp only [List.mem_cons, List.not_mem_nil, or_false] at hd
    rcases hd with rfl | rfl | rfl
    · exact ok_lst 1 hl9
    · refine ⟨by simp, fun d hd => ?_⟩
      simp only [List.mem_cons, List.not_mem_nil, or_false] at hd
      rcases hd with rfl | rfl
      · exact ok_lst 0 hl9
      · exact ok_int1 1 1
    · trivial
  · rw [mh_last] at hr₃
    have S₃ := S₂.still st₃
    have hrow₃ := hr₂.still st₃
    obtain ⟨vs₃, hvl₃, hI₃⟩ := hrow₃.list
    have hlen₃ : vs₃.length = xs.length := hI₃.length
    refine ev_tuple (wpAny_items_cons (ev_callb FF S₃.wd (.type "tuple") (arg1 (ev_cell hrow₃.cell (call_tuple_l FF hvl₃ (by simpa using intsAre_reads hI₃) (fun s₄ t₄ st₄ hg₄ ht₄ hr₄ => ?_) (by rw [List.size_toArray]; omega)) rfl))))
    have S₄ := S₃.still st₄
    have hrow₄ := hrow₃.still st₄
    have hvl₄ := st₄.list hvl₃
    refine wpAny_items_cons (ev_tuple (arg2 (ev_callb FF S₄.wd (.type "tuple") (arg1 (ev_cell hrow₄.cell (call_tuple_l FF hvl₄ (by simpa using intsAre_reads hI₃) (fun s₅ t₅ st₅ hg₅ ht₅ hr₅ => wpAny_Constant_int ⟨by rw [sizeLine_eq]; simp, fun s₆ t₆ st₆ hg₆ hf₆ ht₆ => ?_⟩) (by rw [List.size_toArray]; omega)) rfl)))))
    refine arg1 (wpAny_Constant_str ⟨by rw [sizeLine_eq]; simp, fun s₇ t₇ st₇ hg₇ hf₇ ht₇ => ?_⟩)
    have e6 : Stp C [] [] s₅ s₆ := ⟨st₆.keep, st₆.tup, st₆.there, st₆.gens, st₆.os, st₆.bare, st₆.wd⟩
    have e7 : Stp C [] [] s₆ s₇ := ⟨st₇.keep, st₇.tup, st₇.there, st₇.gens, st₇.os, st₇.bare, st₇.wd⟩
    have e67 := e6.trans e7
    have q4 : Reads s₇.heap (.ref t₄) (tupL xs) [] := (st₅.trans e67).reads (TupI.reads ⟨t₄, vs₃, rfl, isTuple_of ht₄, hI₃⟩) (fun _ _ h => nomatch h)
    have q5 : Reads s₆.heap (.ref t₅) (tupL xs) [] := e6.reads (TupI.reads ⟨t₅, vs₃, rfl, isTuple_of ht₅, hI₃⟩) (fun _ _ h => nomatch h)
    have q6 : Reads s₇.heap (.ref t₆) (.tuple [tupL xs, .int 1]) [] := e7.reads (tup_reads (as := [] ++ []) ht₆ (.cons q5 (by simpa using readsAll_one (Reads.int 1 _)))) (fun _ _ h => nomatch h)
    have q7 : Reads s₇.heap (.ref t₇) (lastD xs) [] := tup_reads (as := [] ++ ([] ++ [])) ht₇ (.cons q4 (.cons q6 (readsAll_one (.str _ _))))
    have e37 := (st₄.trans st₅).trans e67
    have sh : Sh 3 (lastD xs) := Sh.tuple fun x hx => by
      simp only [List.mem_cons, List.not_mem_nil, or_false] at hx
      rcases hx with rfl | rfl | rfl
      · exact (sh_tupL xs).less (by decide)
      · refine Sh.tuple fun y hy => ?_
        simp only [List.mem_cons, List.not_mem_nil, or_false] at hy
        rcases hy with rfl | rfl
        · exact sh_tupL xs
        · exact Sh.int 1 1
      · exact Sh.str 2 (by decide +kernel)
    have S₇ := S₃.still e37
    refine eq_same hA (e37.reads hr₃ (fun _ _ h => nomatch h)) q7 sh (by decide) (wpAny_truthy_bool ?_)
    rw [if_pos rfl]
    refine BoolOp_one (wpAny_Compare1 (ev_call FF S₇.wd 2 (arg1 (wpAny_Constant_int ⟨S₇.wd, ?_⟩))))
    refine mh_ok FF 0 [.int 3] (fun d hd => by rw [List.mem_singleton.mp hd]; trivial) _ (.head _) A { s₇ with toks := s₇.toks + 1 } _ _ _ _ (hA.less (by omega)) S₇.wd (.int 3 _) fun s₈ r₈ st₈ hr₈ => ?_
    obtain ⟨u, rfl, -⟩ := reads_int (show Reads s₈.heap r₈ (.int 3) [] from hr₈)
    have e8 : Stp C [] [] s₇ s₈ := ⟨st₈.keep, st₈.tup, st₈.there, st₈.gens, st₈.os, st₈.bare, st₈.wd⟩
    refine wpAny_Constant_int (eq_int ?_)
    exact h _ ((S₇.still e8).still (Stp.tok (s' := s₈) (.refl s₈))) (((e12.trans st₃).trans e37).trans (Stp.tok (s' := s₈) e8))
end
end Mine

namespace Mine
open PySem PySem.Calls PySem.W PyProof.Rows
section
variable {C : Cx} {A : Around} {E : Value → Shared → Prop} {s : Shared} {env : Env}

/-- what the end asks of the steps -/
structure Eb (s s' : Shared) : Prop where
  os : s'.os = s.os
  bare : AllBare s.gens → AllBare s'.gens
theorem Eb.trans {s s' s'' : Shared} (x : Eb s s') (y : Eb s' s'') : Eb s s'' := ⟨y.os.trans x.os, fun b => y.bare (x.bare b)⟩
theorem Stp.eb {W : List Addr} {V : List Nat} {s s' : Shared} (x : Stp C W V s s') : Eb s s' := ⟨x.os, x.bare⟩

set_option maxHeartbeats 1000000 in
theorem law_body (FF : Facts C) (hp0 : C.pin = none) {u t l₀ : Addr} {uc lc : Value} (U : Uq C u t l₀ uc lc) (hA : Room 60 A) {L l : Addr} {pm doc : Value} (hfr : A.frames = some [lawEnv C L pm doc]) {lo : List (Str × Value)} {vs : List Value} {ns : List Int} {Q : Flow → Shared → Prop} (hw : Wd C s.heap) (hn : Loc C s.heap L lo)
    (hc1 : s.heap.IsCell (L + 1) none) (hc2 : s.heap.IsCell (L + 2) none) (hc3 : s.heap.IsCell (L + 3) none) (hc4 : s.heap.IsCell (L + 4) none) (new : ∀ a, L ≤ a → C.h₀.get? a = none)
    (hsc : gl lo "script" = some (.ref l)) (hl : s.heap.IsList l vs.toArray) (hI : IntsAre vs ns) (hlen : ns.length ≤ 1000)
    (h : ∀ s', Wd C s'.heap → Eb s s' → Q (.ret (.bool true)) s') : wpAny (MM C) A (execs lawBody (lawEnv C L pm doc)) Q E s := by
  have n := add_ne L
  have n20 : L + 2 ≠ L := Nat.ne_of_gt (Nat.lt_succ_of_lt (Nat.lt_succ_self L))
  have n21 : L + 2 ≠ L + 1 := (Nat.ne_of_lt (Nat.lt_succ_self _)).symm
  have w2 := new (L + 2) (Nat.le_add_right L 2)
  have w3 := new (L + 3) (Nat.le_add_right L 3)
  have w4 := new (L + 4) (Nat.le_add_right L 4)
  refine law_1 FF (k := 59) hA hw hn hc1 new (fun a ha => ?_) hsc hl hI hlen fun s₂ d q lo₂ tt m ut um S₂ ht hm t1 t7 m1 m4 st₂ => ?_
  · simp only [List.mem_cons, List.not_mem_nil, or_false] at ha
    rcases ha with rfl | rfl | rfl | rfl | rfl
    · exact loc_alive hn
    · exact alive_cell hc1
    · exact alive_cell hc2
    · exact alive_cell hc3
    · exact alive_cell hc4
  have b2 := st₂.eb
  have hc2 := st₂.cell hc2 w2 (nin2 n20 n21)
  have hc3 := st₂.cell hc3 w3 (nin2 n.1 n.2.1)
  have hc4 := st₂.cell hc4 w4 (nin2 n.2.2.1 n.2.2.2.1)
  have p2 := S₂.ap (L + 2) (by simp)
  have p3 := S₂.ap (L + 3) (by simp)
  have p4 := S₂.ap (L + 4) (by simp)
  have k2 : L + 2 ∉ [L, d, q] := by simp [n20, p2.1, p2.2]
  have k3 : L + 3 ∉ [L, d, q] := by simp [n.1, p3.1, p3.2]
  have k4 : L + 4 ∉ [L, d, q] := by simp [n.2.2.1, p4.1, p4.2]
  refine law_2 FF hA S₂ ht hm t1 t7 m1 m4 fun s₃ S₃ st₃ => ?_
  have b3 := b2.trans st₃.eb
  have hc2 := st₃.cell hc2 w2
  have hc3 := st₃.cell hc3 w3
  have hc4 := st₃.cell hc4 w4
  refine law_3 FF hA S₃ fun s₄ v zs S₄ hv hzb z1 z4 st₄ => ?_
  have b4 := b3.trans st₄.eb
  have hc2 := st₄.cell hc2 w2 k2
  have hc3 := st₄.cell hc3 w3 k3
  have hc4 := st₄.cell hc4 w4 k4
  refine law_4 FF hA S₄ put_eq hv hzb z4 fun s₅ lo₅ S₅ st₅ => ?_
  have b5 := b4.trans st₅.eb
  have hc2 := st₅.cell hc2 w2 (nin1 n20)
  have hc3 := st₅.cell hc3 w3 (nin1 n.1)
  have hc4 := st₅.cell hc4 w4 (nin1 n.2.2.1)
  refine law_5 FF hA S₅ hc2 fun s₆ w ms S₆ hcR hwr hb6 n1 n6 st₆ => ?_
  have b6 := b5.trans st₆.eb
  have j3 : L + 3 ∉ [L + 2, d, q] := by simp [n.2.2.2.2.2.1, p3.1, p3.2]
  have j4 : L + 4 ∉ [L + 2, d, q] := by simp [n.2.2.2.2.2.2, p4.1, p4.2]
  have hc3 := st₆.cell hc3 w3 j3
  have hc4 := st₆.cell hc4 w4 j4
  refine law_6 FF hA S₆ hcR hwr n1 n6 fun s₇ D iss as S₇ hD h3 hb st₇ => ?_
  have b7 := b6.trans st₇.eb
  have hc3 := st₇.cell hc3 w3 k3
  have hc4 := st₇.cell hc4 w4 k4
  have hcR := st₇.cell hcR w2 k2
  have hwr := hwr.keep st₇
  refine law_7 FF hA S₇ hcR hwr n6 put_eq hD h3 hb fun s₈ S₈ st₈ => ?_
  have b8 := b7.trans st₈.eb
  have hc3 := st₈.cell hc3 w3
  have hc4 := st₈.cell hc4 w4
  have hcR := st₈.cell hcR w2
  have hwr := hwr.keep st₈
  refine law_8 FF hA S₈ hcR hwr n1 n6 fun s₉ lo₉ S₉ st₉ => ?_
  have b9 := b8.trans st₉.eb
  have hc3 := st₉.cell hc3 w3 (nin1 n.1)
  have hc4 := st₉.cell hc4 w4 (nin1 n.2.2.1)
  have hcR := st₉.cell hcR w2 (nin1 n20)
  have hwr := hwr.keep st₉
  refine law_9 FF hA S₉ hcR hwr n1 n6 fun s₁₀ D' nss S₁₀ hD' h3' hb' st₁₀ => ?_
  have b10 := b9.trans st₁₀.eb
  have hc3 := st₁₀.cell hc3 w3 k3
  have hc4 := st₁₀.cell hc4 w4 k4
  refine law_10 FF hA S₁₀ put_eq hD' h3' hb' fun s₁₁ S₁₁ st₁₁ => ?_
  have b11 := b10.trans st₁₁.eb
  have hc3 := st₁₁.cell hc3 w3
  have hc4 := st₁₁.cell hc4 w4
  refine law_11 FF hA S₁₁ hc3 fun s₁₂ R xs S₁₂ hR hRf h9 hx st₁₂ => ?_
  have b12 := b11.trans st₁₂.eb
  have hRL : R ≠ L := dead_of hRf (loc_alive S₁₁.loc)
  have hR4 : R ≠ L + 4 := dead_of hRf (alive_cell hc4)
  have hc4 := st₁₂.cell hc4 w4 (by simp [n.2.2.2.2.1, p4.1, p4.2])
  refine law_12 FF hA S₁₂ hR h9 hRL fun s₁₃ F1 S₁₃ hR₁₃ hF1 hF1f st₁₃ => ?_
  have b13 := b12.trans st₁₃.eb
  have hFL : F1 ≠ L := dead_of hF1f (loc_alive S₁₂.loc)
  have hF4 : F1 ≠ L + 4 := dead_of hF1f (alive_cell hc4)
  have hc4 := st₁₃.cell hc4 w4 (nin1 n.2.2.1)
  refine law_13 FF hA S₁₃ hR₁₃ h9 hc4 hR4 fun s₁₄ R' S₁₄ hR₁₄ hR'₁₄ hR'f st₁₄ => ?_
  have b14 := b13.trans st₁₄.eb
  have hRL' : R' ≠ L := dead_of hR'f (loc_alive S₁₃.loc)
  have hF1 := st₁₄.reads hF1 (all1 (nin1 hF4))
  refine law_14 FF hA S₁₄ hR₁₄ hR'₁₄ h9 (by rw [List.length_map]) hRL hRL' fun s₁₅ B1 S₁₅ hR₁₅ hB1 hB1f st₁₅ => ?_
  have b15 := b14.trans st₁₅.eb
  have hF1 := st₁₅.reads hF1 (all1 (nin1 hFL))
  refine law_15 FF U hA hfr S₁₅ hR₁₅ h9 (put_ne put_eq) hF1 put_eq hB1 fun s₁₆ S₁₆ st₁₆ => ?_
  have b16 := b15.trans st₁₆.eb
  have hF1 := st₁₆.reads hF1 (fun _ _ h => nomatch h)
  have hR₁₆ := hR₁₅.still st₁₆
  refine law_16 FF hA S₁₆ hR₁₆ h9 hRL fun s₁₇ D₁ as₁ S₁₇ hD₁ hDL st₁₇ => ?_
  have b17 := b16.trans st₁₇.eb
  have hF1 := st₁₇.reads hF1 (all1 (nin1 hFL))
  have hR₁₇ := hR₁₆.step st₁₇ (nin1 n.1) (nin1 hRL)
  refine law_17 FF hp0 U hA hfr S₁₇ hR₁₇ h9 hx hRL hFL (put_ne (put_ne put_eq)) hF1 put_eq hD₁ hDL fun s₁₈ S₁₈ hR₁₈ st₁₈ => ?_
  have b18 := b17.trans st₁₈.eb
  refine law_18 FF hA S₁₈ hR₁₈ h9 fun s₁₉ S₁₉ st₁₉ => ?_
  exact h s₁₉ S₁₉.wd (b18.trans st₁₉.eb)

/-- law(script) -/
theorem law_ok (FF : Facts C) (hp0 : C.pin = none) {u t l₀ : Addr} {uc lc : Value} (U : Uq C u t l₀ uc lc) (hlaw : FnAt C s.heap 21) (hw : Wd C s.heap) (hA : Room 61 A) (hfr : A.frames = some []) {l : Addr} {vs : List Value} {ns : List Int} {Q : Value → Shared → Prop} (hl : s.heap.IsList l vs.toArray) (hI : IntsAre vs ns) (hlen : ns.length ≤ 1000)
    (h : ∀ s', Wd C s'.heap → Eb s s' → Q (.bool true) s') : wpAny (MM C) A (call (.ref (C.fa 21)) [.ref l]) Q E s := by
  obtain ⟨o, pm, doc, ho, hc, hd, hcd⟩ := hlaw
  refine wpAny_call (codeAny_call_cells (fd := docDef (nameOf (fnStmt 21)) (paramsOf (fnStmt 21)) (bodyOf (fnStmt 21)) (scopeOf (fnStmt 21)) pm (.ref (C.fc 21)) doc) (binds := [("script", .ref l)]) hA.d ho hd (FF.lim _ hw) hcd rfl rfl rfl
    (fun x hx => by rw [List.mem_singleton.mp hx]; exact .inl rfl) (fun s₁ x => ?_) rfl rfl rfl)
  obtain ⟨h', tk, rfl, hk₁⟩ := x.done
  have st : Stp C [] [] s { s with heap := h', toks := tk } := Stp.keeps hk₁ rfl rfl
  have hns := x.toInCall.ns
  rw [show (bindL (callEnvC (docDef (nameOf (fnStmt 21)) (paramsOf (fnStmt 21)) (bodyOf (fnStmt 21)) (scopeOf (fnStmt 21)) pm (.ref (C.fc 21)) doc) s.heap.objs.size (C.fa 21)).kindOf [("script", .ref l)] fun _ => none) = fun y => (bindP (fun x => (scopeOf (fnStmt 21)).names.lookup x) [("script", .ref l)] []).lookup y from bindL_eq _ _ []] at hns
  have new : ∀ a, s.heap.objs.size ≤ a → C.h₀.get? a = none := fun a ha => hw.none (get_ge ha)
  refine law_body FF hp0 U (L := s.heap.objs.size) (hA.deeper) (Around.frames_deeper hfr) (st.wd hw) ⟨hns, new _ (Nat.le_refl _)⟩ (x.cell "draw" _ rfl) (x.cell "row" _ rfl) (x.cell "rows" _ rfl) (x.cell "rests" _ rfl) new rfl (st.list hl) hI hlen fun s' hw' eb => h s' hw' (st.eb.trans eb)
end
end Mine

namespace Mine
open PySem
def faOf : Nat → Addr
  | 2 => 34 | 3 => 49 | 4 => 56 | 5 => 63 | 6 => 70 | 8 => 77 | 10 => 84 | 11 => 91 | 12 => 96 | 13 => 103 | 14 => 110 | 16 => 115 | 17 => 122 | 18 => 127 | 19 => 134 | 20 => 141 | 21 => 146 | _ => 0
def fcOf (i : Nat) : Addr := faOf i - 1
def fpOf : Nat → Addr
  | 6 => 65 | 10 => 79 | 11 => 86 | _ => 0
end Mine

open PySem PySem.W PySem.W.X PySem.W.ZRun PyProof.Rows
set_option maxHeartbeats 0 in
theorem PySem.Challenge.cw_fc0115_01_holds : PySem.Challenge.rw_fc0115_01.Holds := by
  w_on; o_law; x_head; (case hw => w_witness2)
  k_fill
  intro w s₀ s₁ mg mb G Y fa o pm cd doc dV kV ho hd hcd hD hmg hg args vals as hpre hlay hrd hwl hlo
  have KX := kIn_of Y
  have X := (Ground.X G).1
  have V := (Ground.X G).2
  refine Ground.open G ?_
  intro T B D TE TW
  wrow_args hpre hlay hrd hwl hlo
  obtain ⟨bm, ob, hb1, hb2, hb3, hb4, hb5, hb6⟩ := T.bmain
  let C : Mine.Cx := ⟨w, mg, mb, s₁.heap, bm, ob, Mine.faOf, Mine.fcOf, Mine.fpOf, none⟩
  have hK : ∀ a o, (PySem.Challenge.cw_fc0115_01_holds.heap_39 w.params).lookup a = some o → s₁.heap.get? a = some o := KX
  have FF : Mine.Facts C := by
    refine Mine.facts_mk T.g T.b T.nolimit ⟨T.g, hb1, hb2, hb3, hb4, hb5, hb6⟩ T.builtins ?nb ?tab ?hfp ?tabd ?mgf ?fn ?fc ?fst
    case hfp => show ∀ i ∈ Mine.tabIx, Mine.fpOf i ≠ cStatics; decide
    case tabd => show ∀ i ∈ Mine.tabIx, ∀ j ∈ Mine.tabIx, Mine.fcOf i ≠ Mine.fpOf j ∧ (i ≠ j → Mine.fpOf i ≠ Mine.fpOf j); decide
    case fst => show ∀ i ∈ Mine.fnIx, Mine.faOf i ≠ cStatics ∧ Mine.fcOf i ≠ cStatics; decide
    case fn =>
      intro i hi
      simp only [Mine.fnIx, List.mem_cons, List.not_mem_nil, or_false] at hi
      rcases hi with rfl | rfl | rfl | rfl | rfl | rfl | rfl | rfl | rfl | rfl | rfl | rfl | rfl | rfl | rfl
      · exact ⟨_, _, _, hK 34 _ rfl, rfl, rfl⟩
      · exact ⟨_, _, _, hK 56 _ rfl, rfl, rfl⟩
      · exact ⟨_, _, _, hK 63 _ rfl, rfl, rfl⟩
      · exact ⟨_, _, _, hK 70 _ rfl, rfl, rfl⟩
      · exact ⟨_, _, _, hK 77 _ rfl, rfl, rfl⟩
      · exact ⟨_, _, _, hK 84 _ rfl, rfl, rfl⟩
      · exact ⟨_, _, _, hK 91 _ rfl, rfl, rfl⟩
      · exact ⟨_, _, _, hK 96 _ rfl, rfl, rfl⟩
      · exact ⟨_, _, _, hK 103 _ rfl, rfl, rfl⟩
      · exact ⟨_, _, _, hK 110 _ rfl, rfl, rfl⟩
      · exact ⟨_, _, _, hK 115 _ rfl, rfl, rfl⟩
      · exact ⟨_, _, _, hK 122 _ rfl, rfl, rfl⟩
      · exact ⟨_, _, _, hK 127 _ rfl, rfl, rfl⟩
      · exact ⟨_, _, _, hK 134 _ rfl, rfl, rfl⟩
      · exact ⟨_, _, _, hK 141 _ rfl, rfl, rfl⟩
    case fc =>
      intro i hi
      simp only [Mine.fnIx, List.mem_cons, List.not_mem_nil, or_false] at hi
      rcases hi with rfl | rfl | rfl | rfl | rfl | rfl | rfl | rfl | rfl | rfl | rfl | rfl | rfl | rfl | rfl
      · exact ⟨_, _, _, hK 33 _ rfl, rfl, rfl, rfl⟩
      · exact ⟨_, _, _, hK 55 _ rfl, rfl, rfl, rfl⟩
      · exact ⟨_, _, _, hK 62 _ rfl, rfl, rfl, rfl⟩
      · exact ⟨_, _, _, hK 69 _ rfl, rfl, rfl, rfl⟩
      · exact ⟨_, _, _, hK 76 _ rfl, rfl, rfl, rfl⟩
      · exact ⟨_, _, _, hK 83 _ rfl, rfl, rfl, rfl⟩
      · exact ⟨_, _, _, hK 90 _ rfl, rfl, rfl, rfl⟩
      · exact ⟨_, _, _, hK 95 _ rfl, rfl, rfl, rfl⟩
      · exact ⟨_, _, _, hK 102 _ rfl, rfl, rfl, rfl⟩
      · exact ⟨_, _, _, hK 109 _ rfl, rfl, rfl, rfl⟩
      · exact ⟨_, _, _, hK 114 _ rfl, rfl, rfl, rfl⟩
      · exact ⟨_, _, _, hK 121 _ rfl, rfl, rfl, rfl⟩
      · exact ⟨_, _, _, hK 126 _ rfl, rfl, rfl, rfl⟩
      · exact ⟨_, _, _, hK 133 _ rfl, rfl, rfl, rfl⟩
      · exact ⟨_, _, _, hK 140 _ rfl, rfl, rfl, rfl⟩
    case mgf =>
      obtain ⟨o', es, ep, e', d', sk, hf⟩ := T.g
      rw [show mainGlobals = (3 : Addr) from rfl, hK 3 _ rfl] at e'
      cases e'
      cases d'
      intro i hi
      simp only [Mine.fnIx, List.mem_cons, List.not_mem_nil, or_false] at hi
      rcases hi with rfl | rfl | rfl | rfl | rfl | rfl | rfl | rfl | rfl | rfl | rfl | rfl | rfl | rfl | rfl
      all_goals exact (hf _).symm.trans rfl
    case nb =>
      obtain ⟨o', es, ep, e', d', sk, hf⟩ := T.g
      rw [show mainGlobals = (3 : Addr) from rfl, hK 3 _ rfl] at e'
      cases e'
      cases d'
      intro x hx
      simp only [Mine.biNames, List.mem_cons, List.not_mem_nil, or_false] at hx
      rcases hx with rfl | rfl | rfl | rfl | rfl | rfl | rfl | rfl | rfl | rfl | rfl | rfl
      all_goals exact (hf _).symm.trans rfl
    case tab =>
      have mgi : mg "index" = some (.ref 70) ∧ mg "assocsized" = some (.ref 84) ∧ mg "makeops" = some (.ref 91) := by
        obtain ⟨o', es, ep, e', d', sk, hf⟩ := T.g
        rw [show mainGlobals = (3 : Addr) from rfl, hK 3 _ rfl] at e'
        cases e'
        cases d'
        exact ⟨(hf _).symm.trans rfl, (hf _).symm.trans rfl, (hf _).symm.trans rfl⟩
      have look : ∀ nm : Str, ((recsOf PySem.Challenge.cw_fc0115_01_holds.view_39).any fun d => d.name == nm) = true → ∃ d ∈ recsOf PySem.Challenge.cw_fc0115_01_holds.view_39, d.name = nm := fun nm h => by
        obtain ⟨d, hd, he⟩ := List.any_eq_true.mp h
        exact ⟨d, hd, by simpa using he⟩
      intro i hi
      simp only [Mine.tabIx, List.mem_cons, List.not_mem_nil, or_false] at hi
      rcases hi with rfl | rfl | rfl
      · obtain ⟨d, hd, he⟩ := look "index" (by rfl)
        obtain ⟨a, oo, fd, c, P, h1, h2, h3, h4, h5, h6⟩ := T.tab d hd
        rw [he] at h1
        exact Mine.tab_of h1 mgi.1 h2 (hK 70 _ rfl) h3 rfl h4 rfl h6 (hK 69 _ rfl) rfl rfl
      · obtain ⟨d, hd, he⟩ := look "assocsized" (by rfl)
        obtain ⟨a, oo, fd, c, P, h1, h2, h3, h4, h5, h6⟩ := T.tab d hd
        rw [he] at h1
        exact Mine.tab_of h1 mgi.2.1 h2 (hK 84 _ rfl) h3 rfl h4 rfl h6 (hK 83 _ rfl) rfl rfl
      · obtain ⟨d, hd, he⟩ := look "makeops" (by rfl)
        obtain ⟨a, oo, fd, c, P, h1, h2, h3, h4, h5, h6⟩ := T.tab d hd
        rw [he] at h1
        exact Mine.tab_of h1 mgi.2.2 h2 (hK 91 _ rfl) h3 rfl h4 rfl h6 (hK 90 _ rfl) rfl rfl
  have hmgs : mg "law" = some (.ref 146) ∧ mg "unique" = some (.ref 49) := by
    obtain ⟨o', es, ep, e', d', sk, hf⟩ := T.g
    rw [show mainGlobals = (3 : Addr) from rfl, hK 3 _ rfl] at e'
    cases e'
    cases d'
    exact ⟨(hf _).symm.trans rfl, (hf _).symm.trans rfl⟩
  have hfa : fa = 146 := by
    have e := hmg.symm.trans hmgs.1
    cases e
    rfl
  have hw : Mine.Wd C s₁.heap := by
    refine ⟨OldK.refl _, fun o e => e, fun i hi => ⟨#[], ?_, (FF.tab0 i hi).1⟩, fun p hp => nomatch hp⟩
    have ht := (FF.tab0 i hi).1.2
    simp only [Mine.tabIx, List.mem_cons, List.not_mem_nil, or_false] at hi
    rcases hi with rfl | rfl | rfl
    · exact ⟨_, _, _, _, _, _, _, _, _, _, hK 69 _ rfl, rfl, rfl, rfl, rfl, rfl, rfl, ht, rfl, trivial, by show (69 : Nat) ≠ 65; decide⟩
    · exact ⟨_, _, _, _, _, _, _, _, _, _, hK 83 _ rfl, rfl, rfl, rfl, rfl, rfl, rfl, ht, rfl, trivial, by show (83 : Nat) ≠ 79; decide⟩
    · exact ⟨_, _, _, _, _, _, _, _, _, _, hK 90 _ rfl, rfl, rfl, rfl, rfl, rfl, rfl, ht, rfl, trivial, by show (90 : Nat) ≠ 86; decide⟩
  have U : Mine.Uq C 49 42 41 (.ref 48) (.ref 40) := by
    refine ⟨hmgs.2, fun h x => ?_, fun h x => ?_, fun h x => ?_⟩
    · exact ⟨_, _, _, x.kept (hK 49 _ rfl) (by decide) (.inl (by nofun)), rfl, rfl, _, _, _, _, rfl, x.kept (hK 48 _ rfl) (by decide) (.inl (by nofun)), rfl, rfl⟩
    · exact ⟨_, _, x.kept (hK 42 _ rfl) (by decide) (.inl (by nofun)), rfl⟩
    · exact ⟨_, _, _, x.kept (hK 41 _ rfl) (by decide) (.inl (by nofun)), rfl, rfl, _, _, _, _, rfl, x.kept (hK 40 _ rfl) (by decide) (.inl (by nofun)), rfl, rfl⟩
  have hlaw : Mine.FnAt C s₁.heap 21 := ⟨_, _, _, hK 146 _ rfl, rfl, rfl, _, _, _, _, rfl, hK 145 _ rfl, rfl, rfl⟩
  subst hfa
  rename_i ns hs hlay0 hLy hr hl2 as4 as3 l vs as0 hL ra w1 r0 hI hr' hc hc'
  show wpAny (model Challenge.rw_fc0115_01.row.prog w) callerA (call (.ref 146) [.ref l]) _ _ s₁
  refine Mine.law_ok (C := C) FF rfl U hlaw hw ⟨rfl, by decide +kernel, by decide +kernel⟩ rfl hL hI (by omega) fun s' hw' eb => ⟨.inl ⟨_, .bool true, [], rfl, fun _ => rfl, .bool _, by wrow_post, fun _ => ⟨.nil, fun _ h => nomatch h⟩⟩, hw'.old, eb.os, eb.bare ?_⟩
  rw [hg]
  exact fun g h => by simp at h
