import PyProof.Rows.All
import Wide.All
import OpenK.AllK
import Wide.FinOn
import Lean
import PySem.Challenge.RW_kq0031_01
open PySem PySem.W PyProof.Rows PySem.Calls
set_option Elab.async false
namespace Mine
set_option maxRecDepth 100000 in
set_option maxHeartbeats 8000000 in
open_top hd for PySem.Challenge.rw_kq0031_01
end Mine
set_option maxRecDepth 100000
namespace Mine

noncomputable abbrev Kn := Addr → Option Obj
noncomputable def Kn.le (g g' : Kn) : Prop := ∀ a o, g a = some o → g' a = some o
noncomputable def upd (g : Kn) (a : Addr) (o : Obj) : Kn := fun x => if x = a then some o else g x
theorem Kn.le.refl (g : Kn) : g.le g := fun _ _ e => e
theorem Kn.le.trans {g g' g'' : Kn} (x : g.le g') (y : g'.le g'') : g.le g'' := fun a o e => y a o (x a o e)
theorem upd_self (g : Kn) (a : Addr) (o : Obj) : upd g a o a = some o := by simp [upd]
theorem upd_ne {g : Kn} {a x : Addr} (o : Obj) (h : x ≠ a) : upd g a o x = g x := by simp [upd, h]

/-- the base: what the start laid stands -/
structure Cx (w : World) (b : Heap) (mg mb : Str → Option Value) : Prop where
  K : Frag.In (hd.heap_39 w.params) b
  g : b.Ns mainGlobals mg
  bi : b.Ns builtinsNs mb
  nolimit : b.NoLimit
  boot : ∀ x : Str, x ≠ "__name__" → mb x = bootBuiltins x

structure Know (b : Shared) (g : Kn) (s : Shared) : Prop where
  base : ∀ a o, b.heap.get? a = some o → g a = some o
  inn : ∀ a o, g a = some o → s.heap.get? a = some o
  gens : s.gens = b.gens
  os : s.os = b.os

theorem Know.keeps {b s : Shared} {g : Kn} (x : Know b g s) : ∀ a o, b.heap.get? a = some o → s.heap.get? a = some o := fun a o e => x.inn a o (x.base a o e)

structure At (b : Shared) (g₀ : Kn) (s₀ : Shared) (fp : Addr → Prop) (L : Addr) (m : Str → Option Value) (g μ : Kn) (s : Shared) : Prop where
  base : ∀ a o, b.heap.get? a = some o → g₀ a = some o
  le : g₀.le g
  inn : ∀ a o, g a = some o → s.heap.get? a = some o
  keep : ∀ a o, ¬ fp a → s₀.heap.get? a = some o → s.heap.get? a = some o
  old : ∀ a, a < s₀.heap.objs.size → g a = g₀ a
  gens : s.gens = b.gens
  os : s.os = b.os
  ns : s.heap.Ns L m
  offL : g L = none
  newL : s₀.heap.objs.size ≤ L
  mine : ∀ a o, μ a = some o → s.heap.get? a = some o ∧ g a = none ∧ a ≠ L ∧ (fp a ∨ s₀.heap.objs.size ≤ a)

structure Grown (b : Shared) (g : Kn) (s : Shared) (fp : Addr → Prop) (g' : Kn) (s' : Shared) : Prop where
  le : g.le g'
  inn : ∀ a o, g' a = some o → s'.heap.get? a = some o
  keep : ∀ a o, ¬ fp a → s.heap.get? a = some o → s'.heap.get? a = some o
  old : ∀ a, a < s.heap.objs.size → g' a = g a
  gens : s'.gens = b.gens
  os : s'.os = b.os

/-- everything that stood stands -/
structure Kept (b : Shared) (s s' : Shared) : Prop where
  keep : ∀ a o, s.heap.get? a = some o → s'.heap.get? a = some o
  gens : s'.gens = s.gens
  os : s'.os = s.os

section
variable {b s s' s₀ : Shared} {g₀ g g' μ : Kn} {fp : Addr → Prop} {L : Addr} {m m' : Str → Option Value}

theorem At.know (A : At b g₀ s₀ fp L m g μ s) : Know b g s := ⟨fun a o e => A.le a o (A.base a o e), A.inn, A.gens, A.os⟩
theorem At.keeps (A : At b g₀ s₀ fp L m g μ s) : ∀ a o, b.heap.get? a = some o → s.heap.get? a = some o := A.know.keeps
theorem At.ltL (A : At b g₀ s₀ fp L m g μ s) : L < s.heap.objs.size := A.ns.lt
theorem At.size (A : At b g₀ s₀ fp L m g μ s) : s₀.heap.objs.size ≤ s.heap.objs.size := Nat.le_of_lt (Nat.lt_of_le_of_lt A.newL A.ltL)

theorem At.kept (A : At b g₀ s₀ fp L m g μ s) (k : Kept b s s') : At b g₀ s₀ fp L m g μ s' where
  base := A.base
  le := A.le
  inn := fun a o e => k.keep a o (A.inn a o e)
  keep := fun a o h e => k.keep a o (A.keep a o h e)
  old := A.old
  gens := k.gens.trans A.gens
  os := k.os.trans A.os
  ns := A.ns.keeps k.keep
  offL := A.offL
  newL := A.newL
  mine := fun a o e => let ⟨h1, h2, h3, h4⟩ := A.mine a o e; ⟨k.keep a o h1, h2, h3, h4⟩

theorem At.heap {h' : Heap} {tk : Nat} (A : At b g₀ s₀ fp L m g μ s) (k : ∀ a o, s.heap.get? a = some o → h'.get? a = some o) : At b g₀ s₀ fp L m g μ { s with heap := h', toks := tk } :=
  A.kept ⟨k, rfl, rfl⟩
theorem At.toks {tk : Nat} (A : At b g₀ s₀ fp L m g μ s) : At b g₀ s₀ fp L m g μ { s with toks := tk } := A.kept ⟨fun _ _ e => e, rfl, rfl⟩

theorem At.ext {h' : Heap} {tk : Nat} (A : At b g₀ s₀ fp L m g μ s) (k : Heap.ExtBut s.heap.objs.size s.heap h') : At b g₀ s₀ fp L m g μ { s with heap := h', toks := tk } :=
  A.heap fun a o e => k a o (Nat.ne_of_lt (Heap.lt_size e)) e

/-- a new object that no one will change -/
theorem At.learn {a : Addr} {o : Obj} (A : At b g₀ s₀ fp L m g μ s) (ho : s.heap.get? a = some o) (hL : a ≠ L) (hg : g a = none) (hn : s₀.heap.objs.size ≤ a) (hm : μ a = none) : At b g₀ s₀ fp L m (upd g a o) μ s where
  base := A.base
  le := fun x y e => by
    by_cases h : x = a
    · subst h; rw [A.le x y e] at hg; cases hg
    · rw [upd_ne o h]; exact A.le x y e
  inn := fun x y e => by
    by_cases h : x = a
    · subst h; rw [upd_self] at e; cases e; exact ho
    · rw [upd_ne o h] at e; exact A.inn x y e
  keep := A.keep
  old := fun x hx => by rw [upd_ne o (by rintro rfl; exact absurd hx (Nat.not_lt.mpr hn))]; exact A.old x hx
  gens := A.gens
  os := A.os
  ns := A.ns
  offL := by rw [upd_ne o (Ne.symm hL)]; exact A.offL
  newL := A.newL
  mine := fun x y e => by
    have hx : x ≠ a := by rintro rfl; rw [hm] at e; cases e
    obtain ⟨h1, h2, h3, h4⟩ := A.mine x y e
    exact ⟨h1, by rw [upd_ne o hx]; exact h2, h3, h4⟩

theorem At.freshG (A : At b g₀ s₀ fp L m g μ s) {a : Addr} (h : s.heap.objs.size ≤ a) : g a = none := by
  cases e : g a with
  | none => rfl
  | some o => exact absurd (Heap.lt_size (A.inn a o e)) (Nat.not_lt.mpr h)
theorem At.freshM (A : At b g₀ s₀ fp L m g μ s) {a : Addr} (h : s.heap.objs.size ≤ a) : μ a = none := by
  cases e : μ a with
  | none => rfl
  | some o => exact absurd (Heap.lt_size (A.mine a o e).1) (Nat.not_lt.mpr h)

theorem At.push {tk : Nat} (A : At b g₀ s₀ fp L m g μ s) (o : Obj) : At b g₀ s₀ fp L m g μ { s with heap := s.heap.push o, toks := tk } := A.heap fun _ _ e => Heap.get?_push_of_some _ e

theorem At.new {tk : Nat} (A : At b g₀ s₀ fp L m g μ s) (o : Obj) (hf : o.isFreed = false := by rfl) : At b g₀ s₀ fp L m (upd g s.heap.objs.size o) μ { s with heap := s.heap.push o, toks := tk } :=
  (A.push (tk := tk) o).learn (Heap.get?_push_size _ hf) (Nat.ne_of_gt A.ltL) (A.freshG (Nat.le_refl _)) A.size (A.freshM (Nat.le_refl _))

/-- a new object of our own -/
theorem At.own {a : Addr} {o : Obj} (A : At b g₀ s₀ fp L m g μ s) (ho : s.heap.get? a = some o) (hL : a ≠ L) (hg : g a = none) (hn : fp a ∨ s₀.heap.objs.size ≤ a) : At b g₀ s₀ fp L m g (upd μ a o) s :=
  ⟨A.base, A.le, A.inn, A.keep, A.old, A.gens, A.os, A.ns, A.offL, A.newL, fun x y e => by
    by_cases h : x = a
    · subst h; rw [upd_self] at e; cases e; exact ⟨ho, hg, hL, hn⟩
    · rw [upd_ne o h] at e
      exact A.mine x y e⟩
theorem At.newMut {tk : Nat} (A : At b g₀ s₀ fp L m g μ s) (o : Obj) (hf : o.isFreed = false := by rfl) : At b g₀ s₀ fp L m g (upd μ s.heap.objs.size o) { s with heap := s.heap.push o, toks := tk } :=
  (A.push (tk := tk) o).own (Heap.get?_push_size _ hf) (Nat.ne_of_gt A.ltL) (A.freshG (Nat.le_refl _)) (.inr A.size)
theorem At.drop (A : At b g₀ s₀ fp L m g μ s) {μ' : Kn} (h : μ'.le μ) : At b g₀ s₀ fp L m g μ' s :=
  { A with mine := fun a o e => A.mine a o (h a o e) }

/-- a name is stored -/
theorem At.store {h' : Heap} {tk : Nat} (A : At b g₀ s₀ fp L m g μ s) (hn : h'.Ns L m') (hs : Heap.SameBut L s.heap h') : At b g₀ s₀ fp L m' g μ { s with heap := h', toks := tk } where
  base := A.base
  le := A.le
  inn := fun a o e => (hs.2 a (by rintro rfl; rw [A.offL] at e; cases e)).trans (A.inn a o e)
  keep := fun a o h e => (hs.2 a (by rintro rfl; exact absurd (Heap.lt_size e) (Nat.not_lt.mpr A.newL))).trans (A.keep a o h e)
  old := A.old
  gens := A.gens
  os := A.os
  ns := hn
  offL := A.offL
  newL := A.newL
  mine := fun a o e => let ⟨h1, h2, h3, h4⟩ := A.mine a o e; ⟨(hs.2 a h3).trans h1, h2, h3, h4⟩

/-- an object of our own turns -/
theorem At.set {a : Addr} {o o' : Obj} {h' : Heap} {tk : Nat} (A : At b g₀ s₀ fp L m g μ s) (hm : μ a = some o) (hs : Heap.SameBut a s.heap h') (ho : h'.get? a = some o') : At b g₀ s₀ fp L m g (upd μ a o') { s with heap := h', toks := tk } := by
  obtain ⟨h1, h2, h3, h4⟩ := A.mine a o hm
  exact {
    base := A.base
    le := A.le
    inn := fun x y e => (hs.2 x (by rintro rfl; rw [h2] at e; cases e)).trans (A.inn x y e)
    keep := fun x y hx e => by
      refine (hs.2 x ?_).trans (A.keep x y hx e)
      rintro rfl
      rcases h4 with h4 | h4
      · exact hx h4
      · exact absurd (Heap.lt_size e) (Nat.not_lt.mpr h4)
    old := A.old
    gens := A.gens
    os := A.os
    ns := A.ns.sameBut hs (Ne.symm h3)
    offL := A.offL
    newL := A.newL
    mine := fun x y e => by
      by_cases h : x = a
      · subst h; rw [upd_self] at e; cases e; exact ⟨ho, h2, h3, h4⟩
      · rw [upd_ne o' h] at e
        obtain ⟨q1, q2, q3, q4⟩ := A.mine x y e
        exact ⟨(hs.2 x h).trans q1, q2, q3, q4⟩ }

/-- an object of our own is at rest from here on -/
theorem At.rest {a : Addr} {o : Obj} (A : At b g₀ s₀ fp L m g μ s) (hm : μ a = some o) (hn : s₀.heap.objs.size ≤ a) : At b g₀ s₀ fp L m (upd g a o) (fun x => if x = a then none else μ x) s := by
  obtain ⟨h1, h2, h3, _⟩ := A.mine a o hm
  refine At.learn (A.drop (μ' := fun x => if x = a then none else μ x) fun x y e => ?_) h1 h3 h2 hn (by simp)
  by_cases h : x = a
  · subst h; simp at e
  · simpa [h] using e

theorem At.grown (A : At b g₀ s₀ fp L m g μ s) (G : Grown b g s (fun _ => False) g' s') : At b g₀ s₀ fp L m g' μ s' where
  base := A.base
  le := A.le.trans G.le
  inn := G.inn
  keep := fun a o h e => G.keep a o id (A.keep a o h e)
  old := fun a h => (G.old a (Nat.lt_of_lt_of_le h A.size)).trans (A.old a h)
  gens := G.gens
  os := G.os
  ns := A.ns.keeps fun a o e => G.keep a o id e
  offL := (G.old L A.ltL).trans A.offL
  newL := A.newL
  mine := fun a o e => let ⟨h1, h2, h3, h4⟩ := A.mine a o e; ⟨G.keep a o id h1, (G.old a (Heap.lt_size h1)).trans h2, h3, h4⟩

theorem At.done (A : At b g₀ s₀ fp L m g μ s) : Grown b g₀ s₀ fp g s := ⟨A.le, A.inn, A.keep, A.old, A.gens, A.os⟩

theorem Know.enter {h₁ : Heap} {tk : Nat} (k : Know b g s) (hns : h₁.Ns s.heap.objs.size m) (hk : ∀ a o, s.heap.get? a = some o → h₁.get? a = some o)
    (hμ : ∀ a o, μ a = some o → s.heap.get? a = some o ∧ g a = none ∧ fp a) : At b g s fp s.heap.objs.size m g μ { s with heap := h₁, toks := tk } where
  base := k.base
  le := Kn.le.refl g
  inn := fun a o e => hk a o (k.inn a o e)
  keep := fun a o _ e => hk a o e
  old := fun _ _ => rfl
  gens := k.gens
  os := k.os
  ns := hns
  offL := by
    cases e : g s.heap.objs.size with
    | none => rfl
    | some o => exact absurd (Heap.lt_size (k.inn _ o e)) (Nat.lt_irrefl _)
  newL := Nat.le_refl _
  mine := fun a o e => let ⟨h1, h2, h3⟩ := hμ a o e; ⟨hk a o h1, h2, Nat.ne_of_lt (Heap.lt_size h1), .inl h3⟩
end

/-- room for frames and C calls -/
structure Room (A : Around) (d u : Nat) : Prop where
  hd : A.handled = none
  depth : A.depth + d < recursionLimit
  units : A.units + u < cLine
theorem Room.deeper {A : Around} {d u : Nat} (R : Room A (d + 1) (u + 3)) (env : Env) : Room (A.deeper env) d u :=
  ⟨R.hd, by have := R.depth; show A.depth + 1 + d < _; omega, by have := R.units; show A.units + 3 + u < _; omega⟩
theorem Room.in1 {A : Around} {d u : Nat} (R : Room A d (u + 1)) : Room A.in1 d u := ⟨R.hd, R.depth, by have := R.units; show A.units + 1 + u < _; omega⟩
theorem Room.less {A : Around} {d u d' u' : Nat} (R : Room A d u) (hd : d' ≤ d) (hu : u' ≤ u) : Room A d' u' := ⟨R.hd, by have := R.depth; omega, by have := R.units; omega⟩

/-! the texts' functions -/
noncomputable def fdAt (P : Params) (a : Addr) : FuncData := match (hd.heap_39 P).lookup a with
  | some ⟨_, _, .func fd, _⟩ => fd
  | _ => default
noncomputable def stmtsOf (fd : FuncData) : List Stmt := match fd.body with
  | .stmts b => b
  | _ => []

/-! the kit's steps again, what follows behind a name: a goal says each thing once -/
section
variable {M : Model} {A : Around} {E : Value → Shared → Prop} {s : Shared} {env : Env}
noncomputable abbrev SeqK (M : Model) (A : Around) (rest : List Stmt) (env : Env) (Q : Flow → Shared → Prop) (E : Value → Shared → Prop) (f : Flow) (s' : Shared) : Prop := match f with
  | .next => wpAny M A (execs rest env) Q E s'
  | f => Q f s'
theorem exCons_ {st : Stmt} {rest : List Stmt} {Q : Flow → Shared → Prop} (h : wpAny M A (exec st env) (SeqK M A rest env Q E) E s) : wpAny M A (execs (st :: rest) env) Q E s :=
  PySem.wpAny_execs_cons (wpAny_mono h (fun f _ h' => by cases f <;> exact h') fun _ _ x => x)
noncomputable abbrev ConsK (Q : List Value → Shared → Prop) (v : Value) (vs : List Value) (s' : Shared) : Prop := Q (v :: vs) s'
noncomputable abbrev ArgK (M : Model) (A : Around) (pos : Pos) (rest : List Expr) (env : Env) (Q : List Value → Shared → Prop) (E : Value → Shared → Prop) (v : Value) (s' : Shared) : Prop := wpAny M A (spliced (backTo pos (starEach rest env))) (ConsK Q v) E s'
theorem argCons_ {e : Expr} {rest : List Expr} {pos : Pos} {Q : List Value → Shared → Prop} (h : wpAny M A (eval e env) (ArgK M A pos rest env Q E) E s)
    (he : starEach (e :: rest) env = (false, eval e env) :: starEach rest env := by rfl) : wpAny M A (spliced (backTo pos (starEach (e :: rest) env))) Q E s := PyProof.Rows.args_cons h he
noncomputable abbrev TupK (M : Model) (A : Around) (Q : Value → Shared → Prop) (E : Value → Shared → Prop) (vs : List Value) (s' : Shared) : Prop := wpAny M A (newTuple vs) Q E s'
theorem tupE_ {elts : List Expr} {k : Nat} {pos : Pos} {Q : Value → Shared → Prop} (h : wpAny M A (spliced (backTo pos (starEach elts env))) (TupK M A Q E) E s) : wpAny M A (eval (.Tuple elts k pos) env) Q E s := PyProof.Rows.Tuple_ h
noncomputable abbrev CmpK2 (M : Model) (A : Around) (op : CmpOp) (a : Value) (Q : Value → Shared → Prop) (E : Value → Shared → Prop) (b : Value) (s' : Shared) : Prop := wpAny M A (compareOp op a b) Q E s'
noncomputable abbrev CmpK (M : Model) (A : Around) (op : CmpOp) (r : Expr) (env : Env) (Q : Value → Shared → Prop) (E : Value → Shared → Prop) (a : Value) (s' : Shared) : Prop := wpAny M A (eval r env) (CmpK2 M A op a Q E) E s'
theorem cmpE_ {l : Expr} {op : CmpOp} {r : Expr} {pos : Pos} {Q : Value → Shared → Prop} (h : wpAny M A (eval l env) (CmpK M A op r env Q E) E s) (hm : behindInMarks op r = false := by with_unfolding_all rfl) :
    wpAny M A (eval (.Compare l [op] [r] pos) env) Q E s := PySem.wpAny_Compare1 h hm
noncomputable abbrev TruK (M : Model) (A : Around) (Q : Bool → Shared → Prop) (E : Value → Shared → Prop) (c : Value) (s' : Shared) : Prop := wpAny M A (truthy c) Q E s'
theorem cmpT_ {l : Expr} {op : CmpOp} {r : Expr} {pos : Pos} {whole : Sem Value} {Q : Bool → Shared → Prop} (h : wpAny M A (eval l env) (CmpK M A op r env (TruK M A Q E) E) E s) (hm : behindInMarks op r = false := by with_unfolding_all rfl) :
    wpAny M A (isTrue (.Compare l [op] [r] pos) env whole) Q E s := PySem.wpAny_isTrue_Compare1 h hm
noncomputable abbrev BinK2 (M : Model) (A : Around) (op : Operator) (a : Value) (Q : Value → Shared → Prop) (E : Value → Shared → Prop) (b : Value) (s' : Shared) : Prop := wpAny M A (binaryOp op a b) Q E s'
noncomputable abbrev BinK (M : Model) (A : Around) (op : Operator) (r : Expr) (env : Env) (Q : Value → Shared → Prop) (E : Value → Shared → Prop) (a : Value) (s' : Shared) : Prop := wpAny M A (eval r env) (BinK2 M A op a Q E) E s'
theorem binE_ {l : Expr} {op : Operator} {r : Expr} {pos : Pos} {Q : Value → Shared → Prop} (h : wpAny M A (eval l env) (BinK M A op r env Q E) E s) : wpAny M A (eval (.BinOp l op r pos) env) Q E s := PySem.wpAny_BinOp h
noncomputable abbrev NextK (Q : Flow → Shared → Prop) (_ : Unit) (s' : Shared) : Prop := Q .next s'
noncomputable abbrev StoK (M : Model) (A : Around) (env : Env) (x : Str) (Q : Flow → Shared → Prop) (E : Value → Shared → Prop) (v : Value) (s' : Shared) : Prop := wpAny M A (storeName env x v) (NextK Q) E s'
theorem asgName_ {x : Str} {pos' : Pos} {value : Expr} {pos : Pos} {Q : Flow → Shared → Prop} (h : wpAny M A (eval value env) (StoK M A env x Q E) E s) (hs : swapsWith value (some (.Name x pos')) pos.line env = pure false := by rfl) :
    wpAny M A (exec (.Assign [.Name x pos'] value pos) env) Q E s := PySem.wpAny_Assign_Name h hs
noncomputable abbrev RetK (Q : Flow → Shared → Prop) (v : Value) (s' : Shared) : Prop := Q (.ret v) s'
theorem retE_ {e : Expr} {pos : Pos} {Q : Flow → Shared → Prop} (h : wpAny M A (eval e env) (RetK Q) E s) : wpAny M A (exec (.Return (some e) pos) env) Q E s := PySem.wpAny_Return_some h
end

section
variable {w : World} {b s : Shared} {mg mb : Str → Option Value} {prog : Program} {A : Around} {E : Value → Shared → Prop} {g μ : Kn} {fp : Addr → Prop}

theorem enter {a : Addr} {fd : FuncData} {pos : List Value} {kw : List (Str × Value)} {binds : List (Str × Value)} {Q : Value → Shared → Prop} {d u : Nat} {o : Obj}
    (R : Room A (d + 1) (u + 3)) (C : Cx w b.heap mg mb) (k : Know b g s) (ho : (hd.heap_39 w.params).lookup a = some o) (hdt : o.data = .func fd)
    (hcd : codeIn (hd.heap_39 w.params) fd.code fd.qualname = true) (hbody : fd.body = .stmts (stmtsOf fd))
    (hbind : bindArgs fd ⟨pos, kw⟩ = pure binds) (hcell : ∀ x ∈ fd.scope.names, x.2 ≠ .cell) (hloc : ∀ x ∈ binds, fd.scope.names.lookup x.1 = some .local)
    (hμ : ∀ a o, μ a = some o → s.heap.get? a = some o ∧ g a = none ∧ fp a)
    (h : ∀ s₁, At b g s fp s.heap.objs.size (fun x => binds.reverse.lookup x) g μ s₁ → Room (A.deeper (callEnv fd s.heap.objs.size a)) d u →
      wpAny (model prog w) (A.deeper (callEnv fd s.heap.objs.size a)) (execs (stmtsOf fd) (callEnv fd s.heap.objs.size a)) (fun f s' => Q (match f with | .ret v => v | _ => .none) s') (fun _ _ => False) s₁)
    (hco : fd.scope.isCoroutine = false := by rfl) (hgen : fd.scope.isGenerator = false := by rfl) (hk : fd.scope.kind = .function := by rfl) :
    wpAny (model prog w) A (call (.ref a) pos kw) Q E s := by
  have Ks : Frag.In (hd.heap_39 w.params) s.heap := fun x y e => k.keeps x y (C.K x y e)
  refine wpAny_call (codeAny_call_def (fd := fd) (body := stmtsOf fd) (binds := binds) (by have := R.depth; omega) (Ks _ _ ho) hdt (C.nolimit.keeps k.keeps) (codeRec_of Ks hcd) hbody (BindsTo.of_eq hbind) hcell hloc
    (fun h₁ hns hk₁ => ?_) hco hgen hk)
  exact wpAny_mono (h _ (k.enter hns hk₁ hμ) (R.deeper _)) (fun _ _ q => q) (fun _ _ q => q.elim)
end
end Mine

namespace Mine

noncomputable def tupObj (vs : List Value) (n : Nat) : Obj := { cls := .type "tuple", data := .seq vs.toArray n }
noncomputable def lstObj (vs : List Value) (n : Nat) : Obj := { cls := .type "list", data := .seq vs.toArray n }

mutual
inductive Rd (g : Kn) : Value → PyData → Prop
  | none : Rd g .none .none
  | bool (b : Bool) : Rd g (.bool b) (.bool b)
  | int (i : Int) (t : Tok) : Rd g (.int i t) (.int i)
  | str (x : Str) (t : Tok) : Rd g (.str x t) (.str x)
  | tup {a : Addr} {vs : List Value} {n : Nat} {ds : List PyData} : g a = some (tupObj vs n) → RdAll g vs ds → Rd g (.ref a) (.tuple ds)
inductive RdAll (g : Kn) : List Value → List PyData → Prop
  | nil : RdAll g [] []
  | cons {v : Value} {d : PyData} {vs : List Value} {ds : List PyData} : Rd g v d → RdAll g vs ds → RdAll g (v :: vs) (d :: ds)
end

section
variable {g g' : Kn}
mutual
theorem Rd.mono (h : g.le g') : ∀ {v : Value} {d : PyData}, Rd g v d → Rd g' v d
  | _, _, .none => .none
  | _, _, .bool b => .bool b
  | _, _, .int i t => .int i t
  | _, _, .str x t => .str x t
  | _, _, .tup e r => .tup (h _ _ e) (RdAll.mono h r)
theorem RdAll.mono (h : g.le g') : ∀ {vs : List Value} {ds : List PyData}, RdAll g vs ds → RdAll g' vs ds
  | _, _, .nil => .nil
  | _, _, .cons a r => .cons (Rd.mono h a) (RdAll.mono h r)
end
mutual
theorem Rd.reads {h : Heap} (k : ∀ a o, g a = some o → h.get? a = some o) : ∀ {v : Value} {d : PyData}, Rd g v d → ∃ as, Reads h v d as
  | _, _, .none => ⟨_, .none⟩
  | _, _, .bool b => ⟨_, .bool b⟩
  | _, _, .int i t => ⟨_, .int i t⟩
  | _, _, .str x t => ⟨_, .str x t⟩
  | _, _, .tup e r => let ⟨as, q⟩ := RdAll.reads k r; ⟨as, reads_tuple_at (k _ _ e) rfl rfl (by simpa using q)⟩
theorem RdAll.reads {h : Heap} (k : ∀ a o, g a = some o → h.get? a = some o) : ∀ {vs : List Value} {ds : List PyData}, RdAll g vs ds → ∃ as, ReadsAll h vs ds as
  | _, _, .nil => ⟨_, .nil⟩
  | _, _, .cons a r => let ⟨_, p⟩ := Rd.reads k a; let ⟨_, q⟩ := RdAll.reads k r; ⟨_, .cons p q⟩
end
theorem RdAll.length : ∀ {vs : List Value} {ds : List PyData}, RdAll g vs ds → vs.length = ds.length
  | _, _, .nil => rfl
  | _, _, .cons _ r => by rw [List.length_cons, List.length_cons, r.length]
theorem RdAll.get : ∀ {vs : List Value} {ds : List PyData}, RdAll g vs ds → ∀ {i : Nat} {d : PyData}, ds[i]? = some d → ∃ v, vs[i]? = some v ∧ Rd g v d
  | _, _, .nil, i, d, h => by simp at h
  | _, _, .cons a r, 0, d, h => by simp at h; subst h; exact ⟨_, rfl, a⟩
  | _, _, .cons a r, i + 1, d, h => by simpa using r.get (i := i) (d := d) (by simpa using h)
theorem RdAll.append : ∀ {vs : List Value} {ds : List PyData}, RdAll g vs ds → ∀ {vs' : List Value} {ds' : List PyData}, RdAll g vs' ds' → RdAll g (vs ++ vs') (ds ++ ds')
  | _, _, .nil, _, _, q => q
  | _, _, .cons a r, _, _, q => .cons a (r.append q)
theorem RdAll.take : ∀ {vs : List Value} {ds : List PyData}, RdAll g vs ds → ∀ k : Nat, RdAll g (vs.take k) (ds.take k)
  | _, _, _, 0 => .nil
  | _, _, .nil, _ + 1 => .nil
  | _, _, .cons a r, k + 1 => .cons a (r.take k)
theorem RdAll.drop : ∀ {vs : List Value} {ds : List PyData}, RdAll g vs ds → ∀ k : Nat, RdAll g (vs.drop k) (ds.drop k)
  | _, _, h, 0 => h
  | _, _, .nil, _ + 1 => .nil
  | _, _, .cons _ r, k + 1 => r.drop k
theorem Rd.tupE {v : Value} {ds : List PyData} (h : Rd g v (.tuple ds)) : ∃ a vs n, v = .ref a ∧ g a = some (tupObj vs n) ∧ RdAll g vs ds := by
  cases h with
  | tup e r => exact ⟨_, _, _, rfl, e, r⟩
theorem Rd.intE {v : Value} {i : Int} (h : Rd g v (.int i)) : ∃ t, v = .int i t := by cases h; exact ⟨_, rfl⟩
theorem Rd.strE {v : Value} {x : Str} (h : Rd g v (.str x)) : ∃ t, v = .str x t := by cases h; exact ⟨_, rfl⟩
theorem Rd.boolE {v : Value} {x : Bool} (h : Rd g v (.bool x)) : v = .bool x := by cases h; rfl
end

/-- a list at rest -/
noncomputable def Ls (g : Kn) (v : Value) (ds : List PyData) : Prop := ∃ a vs n, v = .ref a ∧ g a = some (lstObj vs n) ∧ RdAll g vs ds
theorem Ls.mono {g g' : Kn} (h : g.le g') {v : Value} {ds : List PyData} : Ls g v ds → Ls g' v ds := fun ⟨a, vs, n, e, q, r⟩ => ⟨a, vs, n, e, h _ _ q, r.mono h⟩

section
variable {prog : Program} {w : World} {A : Around} {E : Value → Shared → Prop} {b s s₀ : Shared} {g₀ g μ : Kn} {fp : Addr → Prop} {L : Addr} {m : Str → Option Value} {env : Env} {mg mb : Str → Option Value}

theorem At.isTup (At' : At b g₀ s₀ fp L m g μ s) {a : Addr} {vs : List Value} {n : Nat} (h : g a = some (tupObj vs n)) : IsTup s.heap a vs.toArray := ⟨_, At'.inn _ _ h, rfl, n, rfl⟩
theorem At.isList (At' : At b g₀ s₀ fp L m g μ s) {a : Addr} {vs : List Value} {n : Nat} (h : g a = some (lstObj vs n)) : s.heap.IsList a vs.toArray := ⟨_, At'.inn _ _ h, rfl, n, rfl⟩

/-! names -/
theorem name_ (h : At b g₀ s₀ fp L m g μ s) {x : Str} {pos : Pos} {v : Value} {Q : Value → Shared → Prop} (hl : env.kindOf x = some .local) (hk : env.scope.kind = .function) (hL : env.locals = L) (hv : m x = some v) (q : Q v s)
    (hd : (x == ("__debug__" : Str)) = false := by decide) : wpAny (model prog w) A (eval (.Name x pos) env) Q E s :=
  wpAny_Name (wpAny_loadName_local hk hl (hL ▸ h.ns) hv q) hd
theorem store_ (h : At b g₀ s₀ fp L m g μ s) {x : Str} {v : Value} {Q : Unit → Shared → Prop} (hl : env.kindOf x = some .local) (hk : env.scope.kind = .function) (hL : env.locals = L)
    (q : ∀ s', At b g₀ s₀ fp L (fun y => if y = x then some v else m y) g μ s' → Q () s') : wpAny (model prog w) A (storeName env x v) Q E s := by
  subst hL
  exact wpAny_storeName_local hl h.ns (fun h' hn hs => q _ (h.store hn hs)) (by rw [hk]; rfl)
theorem global_ (C : Cx w b.heap mg mb) (h : At b g₀ s₀ fp L m g μ s) {x : Str} {pos : Pos} {v : Value} {Q : Value → Shared → Prop} (hl : env.kindOf x = some .globalImplicit) (hk : env.scope.kind = .function) (hG : env.globals = mainGlobals)
    (hv : nsIn (hd.heap_39 w.params) mainGlobals x = some (some v)) (q : Q v s) (hd : (x == ("__debug__" : Str)) = false := by decide) : wpAny (model prog w) A (eval (.Name x pos) env) Q E s :=
  Name_function_global hk hl (loadGlobal_global (hG ▸ C.g.keeps h.keeps) (mg_of C.K C.g hv) q) hd
theorem builtin_ (C : Cx w b.heap mg mb) (h : At b g₀ s₀ fp L m g μ s) {x : Str} {pos : Pos} {v : Value} {Q : Value → Shared → Prop} (hl : env.kindOf x = some .globalImplicit) (hk : env.scope.kind = .function) (hG : env.globals = mainGlobals) (hB : env.builtins = builtinsNs)
    (hv : nsIn (hd.heap_39 w.params) mainGlobals x = some none) (hb : bootBuiltins x = some v) (hn : x ≠ "__name__") (q : Q v s) (hd : (x == ("__debug__" : Str)) = false := by decide) :
    wpAny (model prog w) A (eval (.Name x pos) env) Q E s :=
  Name_function_global hk hl (loadGlobal_builtin (hG ▸ C.g.keeps h.keeps) (mg_none_of C.K C.g hv) (hB ▸ C.bi.keeps h.keeps) ((C.boot x hn).trans hb) q) hd

/-! constants -/
theorem int_ (h : At b g₀ s₀ fp L m g μ s) {i : Int} {k : Nat} {pos : Pos} {Q : Value → Shared → Prop} (q : ∀ s' t, At b g₀ s₀ fp L m g μ s' → Q (.int i t) s') : wpAny (model prog w) A (eval (.Constant (.int i) k pos) env) Q E s :=
  wpAny_Constant_int (q _ _ h.toks)
theorem str_ (h : At b g₀ s₀ fp L m g μ s) {x : Str} {k : Nat} {pos : Pos} {Q : Value → Shared → Prop} (q : ∀ s' t, At b g₀ s₀ fp L m g μ s' → Q (.str x t) s') : wpAny (model prog w) A (eval (.Constant (.str x) k pos) env) Q E s :=
  Constant_str (q _ _ h.toks)
theorem bool_ {v : Bool} {k : Nat} {pos : Pos} {Q : Value → Shared → Prop} (q : Q (.bool v) s) : wpAny (model prog w) A (eval (.Constant (.bool v) k pos) env) Q E s := fun _ _ _ => q
theorem none_ {k : Nat} {pos : Pos} {Q : Value → Shared → Prop} (q : Q .none s) : wpAny (model prog w) A (eval (.Constant .none k pos) env) Q E s := fun _ _ _ => q

/-! tuples -/
theorem le_upd {a : Addr} {o : Obj} (h : g a = none) : g.le (upd g a o) := fun x y e => by
  rw [upd_ne]; exact e
  rintro rfl; rw [h] at e; cases e

theorem newTuple_ (h : At b g₀ s₀ fp L m g μ s) {vs : List Value} {ds : List PyData} {Q : Value → Shared → Prop} (hr : RdAll g vs ds) (q : ∀ s' g' v, g.le g' → Rd g' v (.tuple ds) → At b g₀ s₀ fp L m g' μ s' → Q v s')
    (hsz : ds.length ≤ 1000) : wpAny (model prog w) A (newTuple vs) Q E s :=
  have hle : g.le (upd g s.heap.objs.size (tupObj vs 0)) := le_upd (h.freshG (Nat.le_refl _))
  wpAny_newObj_type (q _ _ _ hle (.tup (upd_self _ _ _) (hr.mono hle)) (h.new (tupObj vs 0))) (by show vs.toArray.size ≤ sizeLine; rw [List.size_toArray, hr.length, sizeLine_eq]; omega)
theorem newList_ (h : At b g₀ s₀ fp L m g μ s) {vs : List Value} {ds : List PyData} {Q : Value → Shared → Prop} (hr : RdAll g vs ds) (q : ∀ s' g' v, g.le g' → Ls g' v ds → At b g₀ s₀ fp L m g' μ s' → Q v s')
    (hsz : ds.length ≤ 1000) : wpAny (model prog w) A (newList vs) Q E s :=
  have hle : g.le (upd g s.heap.objs.size (lstObj vs 0)) := le_upd (h.freshG (Nat.le_refl _))
  wpAny_newObj_type (q _ _ _ hle ⟨_, _, _, rfl, upd_self _ _ _, hr.mono hle⟩ (h.new (lstObj vs 0))) (by show vs.toArray.size ≤ sizeLine; rw [List.size_toArray, hr.length, sizeLine_eq]; omega)

/-! two data compared -/
theorem eq_ (h : At b g₀ s₀ fp L m g μ s) {u v : Value} {d e : PyData} {Q : Value → Shared → Prop} (hu : Rd g u d) (hv : Rd g v e) (hd : SeqAt.shaped d = true) (he : SeqAt.shaped e = true) (R : A.units + 64 < cLine)
    (q : Q (.bool (d.eqv e)) s) : wpAny (model prog w) A (compareOp .Eq u v) Q E s :=
  let ⟨_, p1⟩ := hu.reads h.inn; let ⟨_, p2⟩ := hv.reads h.inn; eq_dataH p1 p2 hd he R q
theorem ne_ (h : At b g₀ s₀ fp L m g μ s) {u v : Value} {d e : PyData} {Q : Value → Shared → Prop} (hu : Rd g u d) (hv : Rd g v e) (hd : SeqAt.shaped d = true) (he : SeqAt.shaped e = true) (R : A.units + 64 < cLine)
    (q : Q (.bool (!d.eqv e)) s) : wpAny (model prog w) A (compareOp .NotEq u v) Q E s :=
  let ⟨_, p1⟩ := hu.reads h.inn; let ⟨_, p2⟩ := hv.reads h.inn; ne_dataH p1 p2 hd he R q
end
end Mine

namespace Mine

noncomputable def wipe (μ : Kn) (I : Addr) : Kn := fun x => if x = I then none else μ x
theorem wipe_ne {μ : Kn} {I a : Addr} (h : a ≠ I) : wipe μ I a = μ a := by simp [wipe, h]
theorem wipe_self {μ : Kn} {I : Addr} : wipe μ I I = none := by simp [wipe]

structure Iter (prog : Program) (w : World) (A : Around) (I : Addr) (g : Kn) (ds : List PyData) (St : Nat → Obj → Prop) : Prop where
  cls : ∀ i o, St i o → ∃ n, o.cls = .type n ∧ (["enumerate", "zip", "dict_itemiterator", "dict_reverseitemiterator", "odict_iterator", "itertools.zip_longest", "itertools.pairwise"] : List String).contains n = false
  item : ∀ (i : Nat) (d : PyData) (s : Shared) (o : Obj) (Q : Option Value → Shared → Prop) (E : Value → Shared → Prop), ds[i]? = some d → (∀ a x, g a = some x → s.heap.get? a = some x) → s.heap.get? I = some o → St i o →
    (∀ v h' tk o', Rd g v d → Heap.SameBut I s.heap h' → h'.get? I = some o' → St (i + 1) o' → Q (some v) { s with heap := h', toks := tk }) → wpAny (model prog w) A (pyNext (.ref I)) Q E s
  done : ∀ (s : Shared) (o : Obj) (Q : Option Value → Shared → Prop) (E : Value → Shared → Prop), (∀ a x, g a = some x → s.heap.get? a = some x) → s.heap.get? I = some o → St ds.length o →
    (∀ h' tk, Heap.ExtBut I s.heap h' → Q none { s with heap := h', toks := tk }) → wpAny (model prog w) A (pyNext (.ref I)) Q E s
  self : ∀ (i : Nat) (s : Shared) (o : Obj) (Q : Value → Shared → Prop) (E : Value → Shared → Prop), s.heap.get? I = some o → St i o → Q (.ref I) s → wpAny (model prog w) A (pyIter (.ref I)) Q E s

theorem Iter.list {prog : Program} {w : World} {A : Around} (hh : A.handled = none) {I l : Addr} {g : Kn} {vs : List Value} {n : Nat} {ds : List PyData} (hl : g l = some (lstObj vs n)) (hr : RdAll g vs ds) :
    Iter prog w A I g ds (fun i o => o.cls = .type "list_iterator" ∧ o.data = .fields #[.ref l, .int i 0]) where
  cls := fun i o h => ⟨_, h.1, by decide⟩
  item := fun i d s o Q E hd hk ho hs q => by
    obtain ⟨v, hv, rv⟩ := hr.get hd
    have hL : s.heap.IsList l vs.toArray := ⟨_, hk _ _ hl, rfl, n, rfl⟩
    refine wpAny_pyNext_list_item (l := l) (i := i) (x := v) ⟨o, ho, hs.1, hs.2⟩ hL (by simpa using hv) fun h' hit' hs' => ?_
    obtain ⟨o', ho', hc', hd'⟩ := hit'
    exact q v h' s.toks o' rv hs' ho' ⟨hc', hd'⟩
  done := fun s o Q E hk ho hs q => by
    have hL : s.heap.IsList l vs.toArray := ⟨_, hk _ _ hl, rfl, n, rfl⟩
    refine wpAny_pyNext_list_end (l := l) (i := ds.length) hh ⟨o, ho, hs.1, hs.2⟩ hL (by simp [hr.length]) fun h' he => q h' s.toks he
  self := fun i s o Q E ho hs q => wpAny_pyIter_listiter (l := l) (i := i) ⟨o, ho, hs.1, hs.2⟩ q

theorem Iter.tuple {prog : Program} {w : World} {A : Around} (hh : A.handled = none) {I l : Addr} {g : Kn} {vs : List Value} {n : Nat} {ds : List PyData} (hl : g l = some (tupObj vs n)) (hr : RdAll g vs ds) :
    Iter prog w A I g ds (fun i o => o.cls = .type "tuple_iterator" ∧ o.data = .fields #[.ref l, .int i 0]) where
  cls := fun i o h => ⟨_, h.1, by decide⟩
  item := fun i d s o Q E hd hk ho hs q => by
    obtain ⟨v, hv, rv⟩ := hr.get hd
    have hL : s.heap.IsTuple l vs.toArray := ⟨_, hk _ _ hl, rfl, n, rfl⟩
    refine wpAny_pyNext_tuple_item (t := l) (i := i) (x := v) ⟨o, ho, hs.1, hs.2⟩ hL (by simpa using hv) fun h' hit' hs' => ?_
    obtain ⟨o', ho', hc', hd'⟩ := hit'
    exact q v h' s.toks o' rv hs' ho' ⟨hc', hd'⟩
  done := fun s o Q E hk ho hs q => by
    have hL : s.heap.IsTuple l vs.toArray := ⟨_, hk _ _ hl, rfl, n, rfl⟩
    refine wpAny_pyNext_tuple_end (t := l) (i := ds.length) hh ⟨o, ho, hs.1, hs.2⟩ hL (by simp [hr.length]) fun h' he => q h' s.toks he
  self := fun i s o Q E ho hs q => wpAny_pyIter_tupleiter (t := l) (i := i) ⟨o, ho, hs.1, hs.2⟩ q

noncomputable def rints (a : Int) (n : Nat) : List PyData := (List.range n).map fun (i : Nat) => .int (a + i)
theorem rints_length (a : Int) (n : Nat) : (rints a n).length = n := by simp [rints]
theorem rints_get {a : Int} {n i : Nat} {d : PyData} (h : (rints a n)[i]? = some d) : i < n ∧ d = .int (a + i) := by
  unfold rints at h
  rw [List.getElem?_map] at h
  by_cases hi : i < n
  · rw [List.getElem?_range hi] at h; simp at h; exact ⟨hi, h.symm⟩
  · rw [List.getElem?_eq_none (by simpa using Nat.le_of_not_lt hi)] at h; simp at h


theorem Iter.range {prog : Program} {w : World} {A : Around} (hh : A.handled = none) {I : Addr} {g : Kn} (a : Int) (n : Nat) :
    Iter prog w A I g (rints a n) (fun i o => o = { cls := .type "range_iterator", data := .fields #[rawInt (a + i), rawInt ((n : Int) - i), rawInt 1] }) where
  cls := fun i o h => ⟨"range_iterator", by rw [h], by decide⟩
  item := fun i d s o Q E hd hk ho hs q => by
    subst hs
    obtain ⟨hi, rfl⟩ := rints_get hd
    refine wpAny_pyNext_range_item (x := a + i) (left := (n : Int) - i) (step := 1) ho (by omega) fun h' hit' hs' => ?_
    refine q _ h' _ _ (.int _ _) hs' hit' ?_
    have e1 : a + ((i + 1 : Nat) : Int) = a + (i : Int) + 1 := by omega
    have e2 : (n : Int) - ((i + 1 : Nat) : Int) = (n : Int) - (i : Int) - 1 := by omega
    rw [e1, e2]
  done := fun s o Q E hk ho hs q => by
    subst hs
    refine wpAny_pyNext_range_end (x := a + (rints a n).length) (left := (n : Int) - (rints a n).length) (step := 1) hh ho (by rw [rints_length]; omega) fun h' he => q h' s.toks he
  self := fun i s o Q E ho hs q => by
    subst hs
    exact wpAny_pyIter_rangeiter (x := a + i) (left := (n : Int) - i) (step := 1) ho q

section
variable {prog : Program} {w : World} {A : Around} {E : Value → Shared → Prop} {b s s₀ : Shared} {g₀ g μ : Kn} {fp : Addr → Prop} {L : Addr} {m : Str → Option Value} {env : Env} {mg mb : Str → Option Value}

theorem letGo_plain {I : Addr} {o : Obj} {target : Expr} {v : Value} {Q : Unit → Shared → Prop} (ho : s.heap.get? I = some o) (hc : ∃ n, o.cls = .type n ∧ (["enumerate", "zip", "dict_itemiterator", "dict_reverseitemiterator", "odict_iterator", "itertools.zip_longest", "itertools.pairwise"] : List String).contains n = false)
    (h : Q () s) : wpAny (model prog w) A (letOwnedTupleGo target (.ref I) v) Q E s := by
  obtain ⟨n, hn, hc⟩ := hc
  have key : ∀ a : Addr, wpAny (model prog w) A (do
      let o ← load I
      match o.cls, o.data with
      | .type n, .fields vs =>
        if ["enumerate", "zip", "dict_itemiterator", "dict_reverseitemiterator", "odict_iterator", "itertools.zip_longest", "itertools.pairwise"].contains n && vs[0]? == some (rawInt a) then
          rule "for.unpacks-the-owned-tuple"
          updateField I 0 .none
      | _, _ => pure ()) Q E s := fun a => by
    refine wpAny_bind (wpAny_load ho ?_)
    rw [hn]
    split
    · rename_i n' vs e1 _
      cases e1
      rw [hc, Bool.false_and]
      exact wpAny_pure h
    · exact wpAny_pure h
  unfold letOwnedTupleGo
  split
  · cases v <;> first | exact key _ | exact wpAny_pure h
  · cases v <;> first | exact key _ | exact wpAny_pure h
  · exact wpAny_pure h

/-- behind a turn -/
noncomputable def Turn (b : Shared) (g₀ : Kn) (s₀ : Shared) (fp : Addr → Prop) (L I : Addr) (J : (Str → Option Value) → Kn → Kn → Prop) (g μ : Kn) (Q : Flow → Shared → Prop) (f : Flow) (s : Shared) : Prop :=
  match f with
  | .next | .cont => ∃ m' g' μ', J m' g' μ' ∧ At b g₀ s₀ fp L m' g' μ' s ∧ μ' I = μ I ∧ g.le g'
  | .brk => Q .next s
  | .ret v => Q (.ret v) s

theorem loop_ {I : Addr} {ds : List PyData} {St : Nat → Obj → Prop} {o : Obj} {target : Expr} {body : List Stmt} {Q : Flow → Shared → Prop} (J : Nat → (Str → Option Value) → Kn → Kn → Prop)
    (It : Iter prog w A I g ds St) (h : At b g₀ s₀ fp L m g μ s) (hI : μ I = some o) (hs : St 0 o) (j0 : J 0 m g μ)
    (hJ : ∀ i m g μ₁ μ₂, (∀ a, a ≠ I → μ₂ a = μ₁ a) → J i m g μ₁ → J i m g μ₂)
    (turn : ∀ i d v m' g' μ' s', ds[i]? = some d → Rd g' v d → g.le g' → J i m' g' μ' → At b g₀ s₀ fp L m' g' μ' s' → (∃ o, μ' I = some o) →
      wpAny (model prog w) A (assign target env v) (fun _ s₂ => wpAny (model prog w) A (execs body env) (Turn b g₀ s₀ fp L I (J (i + 1)) g' μ' Q) (fun _ _ => False) s₂) (fun _ _ => False) s')
    (done : ∀ m' g' μ' s', g.le g' → J ds.length m' g' μ' → At b g₀ s₀ fp L m' g' μ' s' → Q .next s') :
    codeAny (model prog w) A (.forLoop target (.ref I) body [] env) (fun r s' => match r with | .ok f => Q f s' | .error e => cameBackBy (model prog w) A env E e s') s := by
  refine codeAny_forLoop_any (fun k s' => ∃ i m' g' μ' o', i ≤ ds.length ∧ k = ds.length + 1 - i ∧ g.le g' ∧ J i m' g' μ' ∧ At b g₀ s₀ fp L m' g' μ' s' ∧ μ' I = some o' ∧ St i o') ?_ (ds.length + 1) ⟨0, m, g, μ, o, Nat.zero_le _, rfl, Kn.le.refl _, j0, h, hI, hs⟩
  rintro k s' ⟨i, m', g', μ', o', hi, rfl, hle, hj, hA, hI', hs'⟩
  have kn : ∀ a x, g a = some x → s'.heap.get? a = some x := fun a x e => hA.inn a x (hle a x e)
  by_cases hlt : i < ds.length
  · refine It.item i ds[i] s' o' _ _ (by simp [hlt]) kn (hA.mine I o' hI').1 hs' fun v h' tk o'' rv hsb ho'' hs'' => ?_
    have hA' := hA.set (tk := tk) hI' hsb ho''
    refine letGo_plain (s := { s' with heap := h', toks := tk }) ho'' (It.cls _ _ hs'') ?_
    have hj' := hJ i m' g' μ' (upd μ' I o'') (fun a ha => upd_ne o'' ha) hj
    refine wpAny_mono (turn i ds[i] v m' g' (upd μ' I o'') _ (by simp [hlt]) (rv.mono hle) hle hj' hA' ⟨_, upd_self _ _ _⟩) (fun _ s₂ h₂ => wpAny_mono h₂ (fun f s₃ h₃ => ?_) fun _ _ e => e.elim) fun _ _ e => e.elim
    unfold Turn at h₃
    cases f with
    | next =>
      obtain ⟨m₃, g₃, μ₃, j₃, A₃, e₃, l₃⟩ := h₃
      exact ⟨ds.length + 1 - (i + 1), by omega, i + 1, m₃, g₃, μ₃, o'', hlt, rfl, hle.trans l₃, j₃, A₃, e₃.trans (upd_self _ _ _), hs''⟩
    | cont =>
      obtain ⟨m₃, g₃, μ₃, j₃, A₃, e₃, l₃⟩ := h₃
      exact ⟨ds.length + 1 - (i + 1), by omega, i + 1, m₃, g₃, μ₃, o'', hlt, rfl, hle.trans l₃, j₃, A₃, e₃.trans (upd_self _ _ _), hs''⟩
    | brk => exact h₃
    | ret v => exact h₃
  · have hin : i = ds.length := by omega
    subst hin
    refine It.done s' o' _ _ kn (hA.mine I o' hI').1 hs' fun h' tk he => ?_
    refine wpAny_execs_nil ?_
    obtain ⟨q1, q2, q3, q4⟩ := hA.mine I o' hI'
    have hA' : At b g₀ s₀ fp L m' g' (wipe μ' I) { s' with heap := h', toks := tk } := {
      base := hA.base
      le := hA.le
      inn := fun a x e => he a x (by rintro rfl; rw [q2] at e; cases e) (hA.inn a x e)
      keep := fun a x hx e => by
        refine he a x ?_ (hA.keep a x hx e)
        rintro rfl
        rcases q4 with q4 | q4
        · exact hx q4
        · exact absurd (Heap.lt_size e) (Nat.not_lt.mpr q4)
      old := hA.old
      gens := hA.gens
      os := hA.os
      ns := hA.ns.extBut he (Ne.symm q3)
      offL := hA.offL
      newL := hA.newL
      mine := fun a x e => by
        by_cases ha : a = I
        · subst ha; rw [wipe_self] at e; cases e
        · rw [wipe_ne ha] at e
          obtain ⟨r1, r2, r3, r4⟩ := hA.mine a x e
          exact ⟨he a x ha r1, r2, r3, r4⟩ }
    exact done m' g' (wipe μ' I) _ hle (hJ _ m' g' μ' _ (fun a ha => wipe_ne ha) hj) hA'

theorem for_list_ {v : Value} {ds : List PyData} {target : Expr} {body : List Stmt} {Q : Flow → Shared → Prop} (J : Addr → Nat → (Str → Option Value) → Kn → Kn → Prop) (hh : A.handled = none)
    (h : At b g₀ s₀ fp L m g μ s) (hv : Ls g v ds) (j0 : ∀ I μ', s.heap.objs.size = I → (∀ a, a ≠ I → μ' a = μ a) → J I 0 m g μ')
    (hJ : ∀ I i m g μ₁ μ₂, s.heap.objs.size = I → (∀ a, a ≠ I → μ₂ a = μ₁ a) → J I i m g μ₁ → J I i m g μ₂)
    (turn : ∀ I i d v m' g' μ' s', s.heap.objs.size = I → ds[i]? = some d → Rd g' v d → g.le g' → J I i m' g' μ' → At b g₀ s₀ fp L m' g' μ' s' →
      wpAny (model prog w) A (assign target env v) (fun _ s₂ => wpAny (model prog w) A (execs body env) (Turn b g₀ s₀ fp L I (J I (i + 1)) g' μ' Q) (fun _ _ => False) s₂) (fun _ _ => False) s')
    (done : ∀ I m' g' μ' s', s.heap.objs.size = I → g.le g' → J I ds.length m' g' μ' → At b g₀ s₀ fp L m' g' μ' s' → Q .next s') :
    wpAny (model prog w) A (pyIter v) (fun it s₂ => codeAny (model prog w) A (.forLoop target it body [] env) (fun r s' => match r with | .ok f => Q f s' | .error e => cameBackBy (model prog w) A env E e s') s₂) E s := by
  obtain ⟨a, vs, n, rfl, hg, hr⟩ := hv
  refine wpAny_pyIter_list (h.isList hg) ?_
  have hA := h.newMut (tk := s.toks) ({ cls := .type "list_iterator", data := .fields #[.ref a, .int (0 : Nat) 0] } : Obj)
  refine loop_ (J s.heap.objs.size) (Iter.list hh hg hr) hA (upd_self _ _ _) ⟨rfl, rfl⟩ (j0 _ _ rfl fun x hx => upd_ne _ hx) (fun i m g μ₁ μ₂ => hJ _ i m g μ₁ μ₂ rfl) (fun i d v m' g' μ' s' z1 z2 z3 z4 z5 _ => turn _ i d v m' g' μ' s' rfl z1 z2 z3 z4 z5) fun m' g' μ' s' => done _ m' g' μ' s' rfl
theorem for_list2_ {v : Value} {ds : List PyData} {target : Expr} {body : List Stmt} {Q : Flow → Shared → Prop} (J : Addr → Nat → (Str → Option Value) → Kn → Kn → Prop) (hh : A.handled = none)
    (h : At b g₀ s₀ fp L m g μ s) (hv : Ls g v ds) (j0 : ∀ I μ', s.heap.objs.size = I → (∀ a, a ≠ I → μ' a = μ a) → J I 0 m g μ')
    (hJ : ∀ I i m g μ₁ μ₂, s.heap.objs.size = I → (∀ a, a ≠ I → μ₂ a = μ₁ a) → J I i m g μ₁ → J I i m g μ₂)
    (turn : ∀ I i d v m' g' μ' s', s.heap.objs.size = I → ds[i]? = some d → Rd g' v d → g.le g' → J I i m' g' μ' → At b g₀ s₀ fp L m' g' μ' s' → (∃ o, μ' I = some o) →
      wpAny (model prog w) A (assign target env v) (fun _ s₂ => wpAny (model prog w) A (execs body env) (Turn b g₀ s₀ fp L I (J I (i + 1)) g' μ' Q) (fun _ _ => False) s₂) (fun _ _ => False) s')
    (done : ∀ I m' g' μ' s', s.heap.objs.size = I → g.le g' → J I ds.length m' g' μ' → At b g₀ s₀ fp L m' g' μ' s' → Q .next s') :
    wpAny (model prog w) A (pyIter v) (fun it s₂ => codeAny (model prog w) A (.forLoop target it body [] env) (fun r s' => match r with | .ok f => Q f s' | .error e => cameBackBy (model prog w) A env E e s') s₂) E s := by
  obtain ⟨a, vs, n, rfl, hg, hr⟩ := hv
  refine wpAny_pyIter_list (h.isList hg) ?_
  have hA := h.newMut (tk := s.toks) ({ cls := .type "list_iterator", data := .fields #[.ref a, .int (0 : Nat) 0] } : Obj)
  refine loop_ (J s.heap.objs.size) (Iter.list hh hg hr) hA (upd_self _ _ _) ⟨rfl, rfl⟩ (j0 _ _ rfl fun x hx => upd_ne _ hx) (fun i m g μ₁ μ₂ => hJ _ i m g μ₁ μ₂ rfl) (fun i d v m' g' μ' s' => turn _ i d v m' g' μ' s' rfl) fun m' g' μ' s' => done _ m' g' μ' s' rfl
end
end Mine

namespace Mine
noncomputable abbrev bnd (m : Str → Option Value) (x : Str) (v : Value) : Str → Option Value := fun y => if y = x then some v else m y

section
variable {prog : Program} {w : World} {A : Around} {E : Value → Shared → Prop} {b s s₀ : Shared} {g₀ g μ : Kn} {fp : Addr → Prop} {L : Addr} {m : Str → Option Value} {env : Env} {mg mb : Str → Option Value}

theorem assignN_ (h : At b g₀ s₀ fp L m g μ s) {x : Str} {p : Pos} {v : Value} {Q : Unit → Shared → Prop} (hl : env.kindOf x = some .local) (hk : env.scope.kind = .function) (hL : env.locals = L)
    (q : ∀ s', At b g₀ s₀ fp L (bnd m x v) g μ s' → Q () s') : wpAny (model prog w) A (assign (.Name x p) env v) Q E s :=
  wpAny_assign_Name (store_ h hl hk hL q)

theorem assign3_ (hh : A.handled = none) (h : At b g₀ s₀ fp L m g μ s) {x y z : Str} {px py pz pos : Pos} {k : Nat} {v : Value} {dx dy dz : PyData} {Q : Unit → Shared → Prop} (hv : Rd g v (.tuple [dx, dy, dz]))
    (hx : env.kindOf x = some .local) (hy : env.kindOf y = some .local) (hz : env.kindOf z = some .local) (hk : env.scope.kind = .function) (hL : env.locals = L)
    (q : ∀ s' u1 u2 u3, Rd g u1 dx → Rd g u2 dy → Rd g u3 dz → At b g₀ s₀ fp L (bnd (bnd (bnd m x u1) y u2) z u3) g μ s' → Q () s') :
    wpAny (model prog w) A (assign (.Tuple [.Name x px, .Name y py, .Name z pz] k pos) env v) Q E s := by
  obtain ⟨a, vs, n, rfl, hg, hr⟩ := hv.tupE
  cases hr with
  | cons r1 hr => cases hr with
    | cons r2 hr => cases hr with
      | cons r3 hr =>
        cases hr
        refine assign_Tuple_tuple hh (h.isTup hg) rfl rfl fun h' he => ?_
        have h1 := h.ext (tk := s.toks) he
        refine assignInOrder_cons (t := assign (.Name x px) env) (assignN_ h1 hx hk hL fun s1 h1 => ?_)
        refine assignInOrder_cons (t := assign (.Name y py) env) (assignN_ h1 hy hk hL fun s1 h1 => ?_)
        refine assignInOrder_cons (t := assign (.Name z pz) env) (assignN_ h1 hz hk hL fun s1 h1 => ?_)
        exact assignInOrder_nil (q s1 _ _ _ r1 r2 r3 h1)
theorem assign2_ (hh : A.handled = none) (h : At b g₀ s₀ fp L m g μ s) {x y : Str} {px py pos : Pos} {k : Nat} {v : Value} {dx dy : PyData} {Q : Unit → Shared → Prop} (hv : Rd g v (.tuple [dx, dy]))
    (hx : env.kindOf x = some .local) (hy : env.kindOf y = some .local) (hk : env.scope.kind = .function) (hL : env.locals = L)
    (q : ∀ s' u1 u2, Rd g u1 dx → Rd g u2 dy → At b g₀ s₀ fp L (bnd (bnd m x u1) y u2) g μ s' → Q () s') :
    wpAny (model prog w) A (assign (.Tuple [.Name x px, .Name y py] k pos) env v) Q E s := by
  obtain ⟨a, vs, n, rfl, hg, hr⟩ := hv.tupE
  cases hr with
  | cons r1 hr => cases hr with
    | cons r2 hr =>
      cases hr
      refine assign_Tuple_tuple hh (h.isTup hg) rfl rfl fun h' he => ?_
      have h1 := h.ext (tk := s.toks) he
      refine assignInOrder_cons (t := assign (.Name x px) env) (assignN_ h1 hx hk hL fun s1 h1 => ?_)
      refine assignInOrder_cons (t := assign (.Name y py) env) (assignN_ h1 hy hk hL fun s1 h1 => ?_)
      exact assignInOrder_nil (q s1 _ _ r1 r2 h1)
end
end Mine

namespace Mine
section
variable {prog : Program} {w : World} {A : Around} {E : Value → Shared → Prop} {b s s₀ : Shared} {g₀ g μ : Kn} {fp : Addr → Prop} {L : Addr} {m : Str → Option Value} {env : Env} {mg mb : Str → Option Value}

theorem adjust_upto (i : Int) (n : Nat) : Builtin.Slice.sliceAdjust none (some i) 1 (n : Int) = (0, (clipAt n i : Int)) := by
  unfold Builtin.Slice.sliceAdjust
  have h1 : ¬ ((1 : Int) < 0) := by omega
  have h := clipAt_cast n i
  simp only [h1, if_false]
  congr 1
  by_cases hi : i < 0
  · simp only [hi, if_true] at h ⊢; omega
  · simp only [hi, if_false] at h ⊢; omega
theorem places_upto (k : Nat) : Builtin.Slice.slicePlaces 0 (k : Int) 1 = k := by
  unfold Builtin.Slice.slicePlaces
  have h1 : (1 : Int) > 0 := by omega
  simp only [h1, if_true, Int.ediv_one]
  split <;> omega
theorem clipAt_le (n : Nat) (i : Int) : clipAt n i ≤ n := by have := clipAt_cast n i; omega

theorem sliceApplied_upto {sl : Addr} {n : Nat} {i : Int} {u : Tok} {Q : Int × Int × Nat → Shared → Prop} (hs : s.heap.IsSliceOf sl .none (.int i u) .none) (h : Q (0, 1, clipAt n i) s) :
    wpAny (model prog w) A (Builtin.Slice.sliceApplied (.ref sl) (pure (n : Int))) Q E s := by
  obtain ⟨os, hos, hcs, hds⟩ := id hs
  unfold Builtin.Slice.sliceApplied Builtin.Slice.sliceFields
  refine wpAny_bind (wpAny_bind (wpAny_field hos hds (x := .none) rfl (wpAny_bind (wpAny_field hos hds (x := .int i u) rfl (wpAny_bind (wpAny_field hos hds (x := .none) rfl (wpAny_pure ?_)))))))
  refine wpAny_bind (slicePart_none ?_)
  show wpAny _ _ (if ((1 : Int) == 0) = true then _ else _) _ _ s
  rw [if_neg (by decide)]
  refine wpAny_bind (slicePart_none (wpAny_bind (slicePart_int (wpAny_bind (wpAny_pure ?_)))))
  show wpAny _ _ (match Builtin.Slice.sliceAdjust none (some i) 1 (n : Int) with | (lo, hi) => pure (lo, (1 : Int), Builtin.Slice.slicePlaces lo hi 1)) _ _ s
  rw [adjust_upto]
  show wpAny _ _ (pure ((0 : Int), (1 : Int), Builtin.Slice.slicePlaces 0 (clipAt n i : Int) 1)) _ _ s
  rw [places_upto]
  exact wpAny_pure h
theorem pick_upto (xs : Array Value) (k : Nat) (hk : k ≤ xs.size) : ((List.range k).filterMap fun (j : Nat) => xs[((0 : Int) + (j : Int) * 1).toNat]?).toArray = (xs.toList.take k).toArray := by
  have e : (fun (j : Nat) => xs[((0 : Int) + (j : Int) * 1).toNat]?) = fun j => xs[0 + j]? := by
    funext j
    have : ((0 : Int) + (j : Int) * 1).toNat = 0 + j := by omega
    rw [this]
  rw [e]
  have := pick_run xs 0 k
  rw [List.filterMap_map] at this
  have e2 : ((fun x => xs[x]?) ∘ fun x => 0 + x) = fun j => xs[0 + j]? := rfl
  rw [e2] at this
  rw [this, List.drop_zero]

theorem getItem_tuple_upto {t sl : Addr} {items : Array Value} {i : Int} {u : Tok} {Q : Value → Shared → Prop} (ht : IsTup s.heap t items) (hs : s.heap.IsSliceOf sl .none (.int i u) .none)
    (h1 : clipAt items.size i = items.size → Q (.ref t) s)
    (h2 : clipAt items.size i ≠ items.size → Q (.ref s.heap.objs.size) { s with heap := s.heap.push (tupObj (items.toList.take (clipAt items.size i)) 0) })
    (hsz : items.size ≤ sizeLine) : wpAny (model prog w) A (getItem (.ref t) (.ref sl)) Q E s := by
  have hle := clipAt_le items.size i
  have htake : sizeOk (.seq (items.toList.take (clipAt items.size i)).toArray) := by
    show (items.toList.take (clipAt items.size i)).toArray.size ≤ sizeLine
    rw [List.size_toArray, List.length_take, Array.length_toList]
    omega
  obtain ⟨os, hos, hcs, hds⟩ := id hs
  have hTs : s.TypeIs (.ref sl) "slice" := ⟨os, hos, hcs⟩
  unfold getItem
  try with_reducible refine wpAny_holding ?_
  first | refine wpAny_bind (wpAny_pure ?_) | skip
  refine wpAny_bind (wpAny_sequenceKey ht.typeIs (by decide) ?_)
  refine wpAny_bind (wpAny_callSpecial?_slot (name := Str.ofString "__getitem__") ht.typeIs slot_tuple_getitem
    (wpAny_call_entry slot_tuple_getitem ht.typeIs entry_tuple_getitem ?_ (args_tuple_getitem _ _)))
  show wpAny _ _ (Builtin.Tuple.tupleItemsOf (.ref t) >>= _) _ _ s
  refine wpAny_bind (tupleItemsOf_ ht ?_)
  refine wpAny_bind (wpAny_typeOf hTs ?_)
  rw [if_pos (by decide)]
  refine wpAny_bind (sliceApplied_upto hs ?_)
  show wpAny _ _ (if ((0 : Int) == 0 && (1 : Int) == 1 && (clipAt items.size i) == items.size) = true then _ else _) _ _ s
  by_cases hw : clipAt items.size i = items.size
  · rw [if_pos (by rw [hw]; simp)]
    refine wpAny_bind (m := Builtin.Tuple.tupleIsExact (.ref t)) ?_
    unfold Builtin.Tuple.tupleIsExact
    refine wpAny_bind (wpAny_typeOf ht.typeIs (wpAny_pure ?_))
    show wpAny _ _ (if (Value.type "tuple" == Value.type "tuple") = true then _ else _) _ _ s
    rw [if_pos (by simp)]
    refine wpAny_bind (wpAny_rule ?_)
    exact wpAny_bind (wpAny_pure (wpAny_pure ⟨_, rfl, wpAny_pure (h1 hw)⟩))
  · rw [if_neg (by simpa using hw), pick_upto items _ hle]
    first
      | exact wpAny_bind (m := Builtin.Tuple.tupleExact _) (wpAny_newObj_type (wpAny_pure ⟨_, rfl, wpAny_pure (h2 hw)⟩) htake)
      | exact wpAny_bind (m := Builtin.Tuple.tupleExact _) (wpAny_newObj_type (wpAny_bind (wpAny_pure (wpAny_pure ⟨_, rfl, wpAny_pure (h2 hw)⟩))) htake)
      | exact wpAny_bind (wpAny_bind (m := Builtin.Tuple.tupleExact _) (wpAny_newObj_type (wpAny_pure (wpAny_pure ⟨_, rfl, wpAny_pure (h2 hw)⟩)) htake))
      | exact wpAny_bind (wpAny_bind (m := Builtin.Tuple.tupleExact _) (wpAny_newObj_type (wpAny_pure ⟨_, rfl, wpAny_pure (h2 hw)⟩) htake))

noncomputable def UptoK (o : Value) (Q : Value → Shared → Prop) (vu : Value) (s₂ : Shared) : Prop := ∃ b s₀ g₀ fp L m g μ ds i t, At b g₀ s₀ fp L m g μ s₂ ∧ Rd g o (.tuple ds) ∧ ds.length ≤ 1000 ∧ vu = .int i t ∧
      ∀ s' g' r, g.le g' → At b g₀ s₀ fp L m g' μ s' → Rd g' r (.tuple (ds.take (clipAt ds.length i))) → Q r s'
theorem upto_in {b s s₀ : Shared} {g₀ g μ : Kn} {fp : Addr → Prop} {L : Addr} {m : Str → Option Value} {Q : Value → Shared → Prop} {o : Value} {ds : List PyData} {i : Int} {t : Tok} (h : At b g₀ s₀ fp L m g μ s) (hr : Rd g o (.tuple ds)) (hsz : ds.length ≤ 1000)
    (q : ∀ s' g' r, g.le g' → At b g₀ s₀ fp L m g' μ s' → Rd g' r (.tuple (ds.take (clipAt ds.length i))) → Q r s') : UptoK o Q (.int i t) s :=
  ⟨_, _, _, _, _, _, _, _, _, _, _, h, hr, hsz, rfl, q⟩
/-- v[:i] of a tuple; the parts' trees first -/
theorem slice_upto_ {value : Expr} {hi : Expr} {p pos : Pos} {Q : Value → Shared → Prop}
    (h : wpAny (model prog w) A (eval value env) (fun o s₁ => wpAny (model prog w) A (eval hi env) (UptoK o Q) E s₁) E s) :
    wpAny (model prog w) A (eval (.Subscript value (.Slice none (some hi) none p) pos) env) Q E s := by
  refine Subscript_ (wpAny_mono h (fun o s₁ h₁ => ?_) fun _ _ e => e)
  refine wpAny_Slice ?_
  rw [evalPart_none, evalPart_some]
  refine wpAny_pure (wpAny_mono h₁ (fun vu s₂ h₂ => wpAny_pure ?_) fun _ _ e => e)
  obtain ⟨b, s₀, g₀, fp, L, m, g, μ, ds, i, t, hA, hr, hsz, rfl, q⟩ := h₂
  obtain ⟨a, vs, n, rfl, hg, hall⟩ := hr.tupE
  have hA' := hA.push (tk := s₂.toks) { cls := .type "slice", data := .fields #[.none, .int i t, .none] }
  have ht := hA'.isTup hg
  have hlen : vs.toArray.size = ds.length := by simp [hall.length]
  refine tail_any ht.typeIs slot_tuple_getitem.lookup (getItem_tuple_upto ht (Heap.IsSliceOf.new ..) (fun e => ?_) (fun e => ?_) (by rw [hlen, sizeLine_eq]; omega)) (by with_unfolding_all rfl)
  · refine q _ g _ (Kn.le.refl _) hA' ?_
    rw [hlen] at e
    rw [e, List.take_length]
    exact .tup hg hall
  · have hA'' := hA'.new (tk := s₂.toks) (tupObj (vs.toArray.toList.take (clipAt vs.toArray.size i)) 0)
    refine q _ _ _ ?_ hA'' ?_
    · exact le_upd (hA'.freshG (Nat.le_refl _))
    · refine .tup (upd_self _ _ _) ?_
      rw [hlen]
      exact (hall.take _).mono (le_upd (hA'.freshG (Nat.le_refl _)))
end
end Mine

namespace Mine

noncomputable abbrev Way := List Str
noncomputable abbrev Cl := Int × Way × Int
noncomputable def encW (w : Way) : PyData := .tuple (w.map .str)
noncomputable def encC (c : Cl) : PyData := .tuple [.int c.1, encW c.2.1, .int c.2.2]
noncomputable def encQ (q : Way × Int) : PyData := .tuple [encW q.1, .int q.2]
structure OkW (w : Way) : Prop where
  names : ∀ x ∈ w, x = "a" ∨ x = "nested" ∨ x = "b"
  len : w.length ≤ 8

noncomputable def tells (marks : List Cl) (way : Way) (flag : Int) : Bool := marks.any fun c => c.2.2 == flag && (c.2.1 == way || (c.1 == 1 && c.2.1 == way.take c.2.1.length))

theorem noCells {l : List (Str × NameKind)} (h : (l.all fun x => x.2 != .cell) = true) : ∀ x ∈ l, x.2 ≠ .cell := fun x hx => by
  have := List.all_eq_true.mp h x hx
  simpa using this

theorem canLayAll0_map : ∀ w : Way, (∀ x ∈ w, x = "a" ∨ x = "nested" ∨ x = "b") → PyData.canLayAll0 (w.map .str) = true
  | [], _ => rfl
  | x :: r, h => by
    have h1 := canLayAll0_map r fun y hy => h y (.tail _ hy)
    have h2 : PyData.canLay0 (.str x) = true := by
      rw [PyData.canLay0]; rcases h x (.head _) with rfl | rfl | rfl <;> decide +kernel
    simp only [List.map_cons, PyData.canLayAll0, h1, h2, Bool.and_self]
theorem depthAll_map : ∀ w : Way, PyData.depthAll (w.map .str) ≤ 1
  | [] => by simp [PyData.depthAll]
  | x :: r => by
    have := depthAll_map r
    simp only [List.map_cons, PyData.depthAll, PyData.depth]
    omega
theorem shaped_W {w : Way} (h : OkW w) : SeqAt.shaped (encW w) = true := by
  have h1 := canLayAll0_map w h.names
  have h2 := depthAll_map w
  have h3 : (encW w).canLay0 = true := by unfold encW; rw [PyData.canLay0]; exact h1
  have h4 : (encW w).depth ≤ 64 := by unfold encW; rw [PyData.depth]; omega
  unfold SeqAt.shaped
  rw [h3, Bool.true_and]
  exact decide_eq_true h4
theorem eqvAll_strs : ∀ w u : Way, PyData.eqvAll (w.map .str) (u.map .str) = (w == u)
  | [], [] => rfl
  | [], _ :: _ => rfl
  | _ :: _, [] => rfl
  | x :: r, y :: t => by
    simp only [List.map_cons, PyData.eqvAll, PyData.eqv, eqvAll_strs r t]
    rfl
theorem eqv_W (w u : Way) : (encW w).eqv (encW u) = (w == u) := by
  unfold encW
  simp only [PyData.eqv]
  exact eqvAll_strs w u

set_option pp.deepTerms false
set_option pp.deepTerms.threshold 6

section
variable {w : World} {b s : Shared} {mg mb : Str → Option Value} {prog : Program} {A : Around} {E : Value → Shared → Prop} {g μ : Kn}
theorem Kept.of_grown {b s s' : Shared} {g g' : Kn} (k : Know b g s) (G : Grown b g s (fun _ => False) g' s') : Kept b s s' := ⟨fun a o e => G.keep a o id e, G.gens.trans k.gens.symm, G.os.trans k.os.symm⟩


noncomputable def LenK (Q : Value → Shared → Prop) (v : Value) (s₁ : Shared) : Prop := ∃ b s₀ g₀ fp L m g μ ds, At b g₀ s₀ fp L m g μ s₁ ∧ Rd g v (.tuple ds) ∧ ds.length ≤ 1000 ∧ ∀ s' t, At b g₀ s₀ fp L m g μ s' → Q (.int ds.length t) s'
theorem len_in {b s s₀ : Shared} {g₀ g μ : Kn} {fp : Addr → Prop} {L : Addr} {m : Str → Option Value} {Q : Value → Shared → Prop} {v : Value} {ds : List PyData} (h : At b g₀ s₀ fp L m g μ s) (hr : Rd g v (.tuple ds)) (hsz : ds.length ≤ 1000) (q : ∀ s' t, At b g₀ s₀ fp L m g μ s' → Q (.int ds.length t) s') : LenK Q v s :=
  ⟨_, _, _, _, _, _, _, _, _, h, hr, hsz, q⟩
theorem len_tup_ {A : Around} {s : Shared} {env : Env} {np pos : Pos} {e : Expr} {Q : Value → Shared → Prop} (C : Cx w b.heap mg mb) (hkeep : ∀ a o, b.heap.get? a = some o → s.heap.get? a = some o)
    (hl : env.kindOf "len" = some .globalImplicit) (hk : env.scope.kind = .function) (hG : env.globals = mainGlobals) (hB : env.builtins = builtinsNs) (hs : starEach [e] env = [(false, eval e env)])
    (h : wpAny (model prog w) A (eval e env) (LenK Q) E s) :
    wpAny (model prog w) A (eval (.Call (.Name "len" np) [e] [] pos) env) Q E s := by
  refine Call_Name1 ?_ hs
  refine Name_function_global hk hl (loadGlobal_builtin (hG ▸ C.g.keeps hkeep) (mg_none_of C.K C.g rfl) (hB ▸ C.bi.keeps hkeep) ((C.boot "len" (by decide)).trans boot_len) ?_)
  refine callWith_builtin1 (wpAny_mono h (fun v s₁ h₁ => ?_) fun _ _ e => e)
  obtain ⟨b, s₀, g₀, fp, L, m, g, μ, ds, hA, hr, hsz, q⟩ := h₁
  obtain ⟨a, vs, n, rfl, hg, hall⟩ := hr.tupE
  have hlen : vs.toArray.size = ds.length := by simp [hall.length]
  refine PyProof.Rows.len_tuple (hA.isTup hg) (by rw [hlen]; omega) ?_
  rw [hlen]
  exact q _ _ hA.toks

set_option maxHeartbeats 1000000 in
theorem tells_ {v1 v2 v3 : Value} {marks : List Cl} {way : Way} {flag : Int} {Q : Value → Shared → Prop} (R : Room A 2 90) (C : Cx w b.heap mg mb) (k : Know b g s)
    (h1 : Ls g v1 (marks.map encC)) (h2 : Rd g v2 (encW way)) (h3 : Rd g v3 (.int flag)) (ok : OkW way) (oks : ∀ c ∈ marks, OkW c.2.1)
    (q : ∀ s', Kept b s s' → Q (.bool (tells marks way flag)) s') : wpAny (model prog w) A (call (.ref 89) [v1, v2, v3]) Q E s := by
  refine enter (fd := fdAt w.params 89) (binds := [("marks", v1), ("way", v2), ("flag", v3)]) (fp := fun _ => False) (μ := fun _ => none) (d := 1) (u := 87) R C k rfl rfl (by kernel_rfl) rfl (by kernel_rfl) (noCells (by kernel_rfl)) (locs (by kernel_rfl)) (fun _ _ e => nomatch e) fun s₁ A₁ R₁ => ?_
  refine exCons_ ?_
  refine wpAny_For ?_
  refine name_ A₁ rfl rfl rfl rfl ?_
  refine for_list_ (fun I i m g μ => m "way" = some v2 ∧ m "flag" = some v3 ∧ tells (marks.take i) way flag = false) R₁.hd A₁ h1 ?_ ?_ ?_ ?_
  · intro I μ' _ _
    exact ⟨rfl, rfl, rfl⟩
  · intro I i m g μ₁ μ₂ _ _ j
    exact j
  · rintro I i d v m' g' μ' s' hI hd hr hle ⟨j1, j2, j3⟩ A₂
    rw [List.getElem?_map] at hd
    obtain ⟨c, hc, rfl⟩ := Option.map_eq_some_iff.mp hd
    refine assign3_ R₁.hd A₂ hr (by rfl) (by rfl) (by rfl) (by rfl) (by rfl) fun s1 u1 u2 u3 r1 r2 r3 A₃ => ?_
    have okc : OkW c.2.1 := oks c (List.mem_of_getElem? hc)
    obtain ⟨t3, rfl⟩ := h3.intE
    obtain ⟨t1, rfl⟩ := r1.intE
    obtain ⟨tt, rfl⟩ := r3.intE
    have h2' := h2.mono hle
    have hstep : ∀ v : Bool, (c.2.2 == flag && (c.2.1 == way || (c.1 == 1 && c.2.1 == way.take c.2.1.length))) = v → tells (marks.take (i + 1)) way flag = v := by
      intro v hv
      unfold tells at j3 ⊢
      rw [List.take_add_one, hc, List.any_append, j3, Bool.false_or]
      simpa using hv
    have hU : (A.deeper (callEnv (fdAt w.params 89) s.heap.objs.size 89)).units + 64 < cLine := by have := R₁.units; omega
    have yes : (c.2.2 == flag && (c.2.1 == way || (c.1 == 1 && c.2.1 == way.take c.2.1.length))) = true → tells marks way flag = true := by
      intro hv
      unfold tells
      exact List.any_eq_true.mpr ⟨c, List.mem_of_getElem? hc, hv⟩
    refine exCons_ (wpAny_If ?_)
    refine wpAny_mono (E := fun _ _ => False) (Q := fun v s' => v = (c.2.2 == flag && (c.2.1 == way || (c.1 == 1 && c.2.1 == way.take c.2.1.length))) ∧
      ∃ g'', g'.le g'' ∧ At b g s (fun _ => False) s.heap.objs.size (bnd (bnd (bnd m' "what" (.int c.1 t1)) "one" u2) "other" (.int c.2.2 tt)) g'' μ' s') ?_ (fun v s' h' => ?_) (fun _ _ e => e.elim)
    · refine isTrue_and ?_
      refine cmpT_ ?_
      refine name_ A₃ (by rfl) (by rfl) (by rfl) (by rfl) ?_
      refine name_ A₃ (by rfl) (by rfl) (by rfl) (by exact j2) ?_
      refine eq_int (wpAny_truthy_bool ?_)
      cases e1 : c.2.2 == flag with
      | false => exact ⟨by rw [Bool.false_and], g', Kn.le.refl _, A₃⟩
      | true =>
        simp only [if_true, Bool.true_and]
        refine isTrue_and ?_
        refine isTrue_or ?_
        refine cmpT_ ?_
        refine name_ A₃ (by rfl) (by rfl) (by rfl) (by rfl) ?_
        refine name_ A₃ (by rfl) (by rfl) (by rfl) (by exact j1) ?_
        refine eq_ A₃ r2 h2' (shaped_W okc) (shaped_W ok) hU ?_
        rw [eqv_W]
        refine wpAny_truthy_bool ?_
        cases e2 : c.2.1 == way with
        | true => exact isTrue_and_nil ⟨by rw [Bool.true_or], g', Kn.le.refl _, A₃⟩
        | false =>
          simp only [Bool.false_eq_true, if_false, Bool.false_or]
          refine isTrue_or ?_
          refine isTrue_and ?_
          refine cmpT_ ?_
          refine name_ A₃ (by rfl) (by rfl) (by rfl) (by rfl) ?_
          refine int_ A₃ fun s2 t2 A₄ => ?_
          refine eq_int (wpAny_truthy_bool ?_)
          cases e3 : c.1 == 1 with
          | false => exact isTrue_or_nil ⟨by rw [Bool.false_and], g', Kn.le.refl _, A₄⟩
          | true =>
            simp only [if_true, Bool.true_and]
            refine isTrue_and ?_
            refine cmpT_ ?_
            refine name_ A₄ (by rfl) (by rfl) (by rfl) (by rfl) ?_
            refine slice_upto_ ?_
            refine name_ A₄ (by rfl) (by rfl) (by rfl) (by exact j1) ?_
            refine len_tup_ C A₄.keeps (by rfl) (by rfl) (by rfl) (by rfl) (by rfl) ?_
            refine name_ A₄ (by rfl) (by rfl) (by rfl) (by rfl) ?_
            refine len_in A₄ r2 ?_ fun s3 t3 A₅ => ?_
            · have := okc.len; simp; omega
            refine upto_in A₅ h2' ?_ fun s4 g4 r hle4 A₆ hr6 => ?_
            · have := ok.len; simp; omega
            have et : (way.map PyData.str).take (clipAt (way.map PyData.str).length (c.2.1.map PyData.str).length) = (way.take c.2.1.length).map PyData.str := by
              rw [clipAt_nat, List.map_take, List.length_map, List.length_map]
              rcases Nat.le_total c.2.1.length way.length with h | h
              · rw [Nat.min_eq_left h]
              · rw [Nat.min_eq_right h, List.take_of_length_le (by simp), List.take_of_length_le (by simpa using h)]
            rw [et] at hr6
            have okt : OkW (way.take c.2.1.length) := ⟨fun x hx => ok.names x (List.mem_of_mem_take hx), by have := ok.len; rw [List.length_take]; omega⟩
            refine eq_ A₆ (r2.mono hle4) hr6 (shaped_W okc) (shaped_W okt) hU ?_
            have ee : PyData.eqv (encW c.2.1) (PyData.tuple ((way.take c.2.1.length).map PyData.str)) = (c.2.1 == way.take c.2.1.length) := eqv_W _ _
            rw [ee]
            refine wpAny_truthy_bool ?_
            cases e4 : c.2.1 == way.take c.2.1.length with
            | true => exact isTrue_and_nil (isTrue_and_nil ⟨rfl, g4, hle4, A₆⟩)
            | false => exact isTrue_or_nil ⟨rfl, g4, hle4, A₆⟩
    · obtain ⟨rfl, g'', hle', A₄⟩ := h'
      split
      · rename_i hv
        refine exCons_ (retE_ (bool_ ?_))
        rw [← yes hv]
        exact q _ (Kept.of_grown k A₄.done)
      · rename_i hv
        refine wpAny_execs_nil (wpAny_execs_nil ?_)
        refine ⟨_, _, _, ?_, A₄, rfl, hle'⟩
        exact ⟨j1, j2, hstep _ (by simpa using hv)⟩
  · rintro I m' g' μ' s' hI hle ⟨j1, j2, j3⟩ A₂
    refine exCons_ (retE_ (bool_ ?_))
    rw [List.take_of_length_le (by simp)] at j3
    rw [← j3]
    exact q _ (Kept.of_grown k A₂.done)
end
end Mine

namespace Mine
section
variable {prog : Program} {w : World} {A : Around} {E : Value → Shared → Prop} {b s s₀ : Shared} {g₀ g μ : Kn} {fp : Addr → Prop} {L : Addr} {m : Str → Option Value} {env : Env} {mg mb : Str → Option Value}

/-! two tuples, two lists added -/
theorem addTup_ (h : At b g₀ s₀ fp L m g μ s) {u v : Value} {ds es : List PyData} {Q : Value → Shared → Prop} (hu : Rd g u (.tuple ds)) (hv : Rd g v (.tuple es)) (hsz : ds.length + es.length ≤ 1000)
    (q : ∀ s' g' r, g.le g' → At b g₀ s₀ fp L m g' μ s' → Rd g' r (.tuple (ds ++ es)) → Q r s') : wpAny (model prog w) A (binaryOp .Add u v) Q E s := by
  obtain ⟨t, vs, n, rfl, hg, hall⟩ := hu.tupE
  obtain ⟨t', ws, n', rfl, hg', hall'⟩ := hv.tupE
  have hl := hall.length
  have hl' := hall'.length
  have ho := h.inn _ _ hg
  have ho' := h.inn _ _ hg'
  by_cases e1 : vs = []
  · subst e1
    cases hall
    exact concat_meets ⟨_, ho, rfl⟩ ⟨_, ho', rfl⟩ noFill_tuple_add seq_tuple_add PySem.F.slot_tuple_add PySem.F.entry_tuple_add (PySem.F.args_tuple_add_2 _ _)
      (tuple_addW0 t t' _ ws.toArray n n' none none #[] #[] (by simp)) ⟨ho, ho', q _ g _ (Kn.le.refl _) h (.tup hg' hall')⟩
  · by_cases e2 : ws = []
    · subst e2
      cases hall'
      exact concat_meets ⟨_, ho, rfl⟩ ⟨_, ho', rfl⟩ noFill_tuple_add seq_tuple_add PySem.F.slot_tuple_add PySem.F.entry_tuple_add (PySem.F.args_tuple_add_2 _ _)
        (tuple_addW1 t t' vs.toArray _ n n' none none #[] #[] (by simpa using e1) (by simp)) ⟨ho, ho', q _ g _ (Kn.le.refl _) h (by rw [List.append_nil]; exact .tup hg hall)⟩
    · refine concat_meets ⟨_, ho, rfl⟩ ⟨_, ho', rfl⟩ noFill_tuple_add seq_tuple_add PySem.F.slot_tuple_add PySem.F.entry_tuple_add (PySem.F.args_tuple_add_2 _ _)
        (tuple_addW2 t t' vs.toArray ws.toArray n n' none none #[] #[] (by simpa using e1) (by simpa using e2) (by rw [List.size_toArray, List.size_toArray, sizeLine_eq]; omega)) ⟨ho, ho', ?_⟩
      have e : vs.toArray ++ ws.toArray = (vs ++ ws).toArray := by simp
      rw [e]
      have hA := h.new (tk := s.toks) (tupObj (vs ++ ws) 0)
      exact q _ _ _ (le_upd (h.freshG (Nat.le_refl _))) hA (.tup (upd_self _ _ _) ((hall.append hall').mono (le_upd (h.freshG (Nat.le_refl _)))))

theorem addLst_ (h : At b g₀ s₀ fp L m g μ s) {u v : Value} {ds es : List PyData} {Q : Value → Shared → Prop} (hu : Ls g u ds) (hv : Ls g v es) (hsz : ds.length + es.length ≤ 1000)
    (q : ∀ s' g' r, g.le g' → At b g₀ s₀ fp L m g' μ s' → Ls g' r (ds ++ es) → Q r s') : wpAny (model prog w) A (binaryOp .Add u v) Q E s := by
  obtain ⟨t, vs, n, rfl, hg, hall⟩ := hu
  obtain ⟨t', ws, n', rfl, hg', hall'⟩ := hv
  have hl := hall.length
  have hl' := hall'.length
  have ho := h.inn _ _ hg
  have ho' := h.inn _ _ hg'
  refine concat_meets ⟨_, ho, rfl⟩ ⟨_, ho', rfl⟩ noFill_list_add seq_list_add PySem.F.slot_list_add PySem.F.entry_list_add (PySem.F.args_list_add_2 _ _)
    (list_addW t t' vs.toArray ws.toArray n n' none none #[] #[] (by rw [List.size_toArray, List.size_toArray, sizeLine_eq]; omega)) ⟨ho, ho', ?_⟩
  have e : vs.toArray ++ ws.toArray = (vs ++ ws).toArray := by simp
  rw [e]
  have hA := h.new (tk := s.toks) (lstObj (vs ++ ws) 0)
  exact q _ _ _ (le_upd (h.freshG (Nat.le_refl _))) hA ⟨_, _, 0, rfl, upd_self _ _ _, (hall.append hall').mono (le_upd (h.freshG (Nat.le_refl _)))⟩

/-! ranges -/
noncomputable def rngObj (a c : Int) (t u v : Tok) : Obj := { cls := .type "range", data := .fields #[.int a t, .int c u, .int 1 v] }
noncomputable def Rng (g : Kn) (v : Value) (a c : Int) : Prop := ∃ r t u k, v = .ref r ∧ g r = some (rngObj a c t u k)
theorem range1_ (h : At b g₀ s₀ fp L m g μ s) {n : Int} {t : Tok} {Q : Value → Shared → Prop} (q : ∀ s' g' r, g.le g' → At b g₀ s₀ fp L m g' μ s' → Rng g' r 0 n → Q r s') : wpAny (model prog w) A (call (.type "range") [.int n t]) Q E s :=
  call_range_1 (q _ _ _ (le_upd (h.freshG (Nat.le_refl _))) (h.new (rngObj 0 n s.toks t (s.toks + 1))) ⟨_, _, _, _, rfl, upd_self _ _ _⟩)
theorem range2_ (h : At b g₀ s₀ fp L m g μ s) {a n : Int} {t u : Tok} {Q : Value → Shared → Prop} (q : ∀ s' g' r, g.le g' → At b g₀ s₀ fp L m g' μ s' → Rng g' r a n → Q r s') : wpAny (model prog w) A (call (.type "range") [.int a u, .int n t]) Q E s :=
  call_range_2 (q _ _ _ (le_upd (h.freshG (Nat.le_refl _))) (h.new (rngObj a n u t s.toks)) ⟨_, _, _, _, rfl, upd_self _ _ _⟩)

theorem iter_range_ (h : At b g₀ s₀ fp L m g μ s) {v : Value} {a c : Int} {Q : Value → Shared → Prop} (hv : Rng g v a c) (ha : -1000 ≤ a) (ha' : a ≤ 1000) (hc : -1000 ≤ c) (hc' : c ≤ 1000) (hac : a ≤ c)
    (q : ∀ s' I o, s.heap.objs.size = I → At b g₀ s₀ fp L m g (upd μ I o) s' → o = { cls := .type "range_iterator", data := .fields #[rawInt (a + (0 : Nat)), rawInt (((c - a).toNat : Int) - (0 : Nat)), rawInt 1] } → Q (.ref I) s') :
    wpAny (model prog w) A (pyIter v) Q E s := by
  obtain ⟨r, t, u, k, rfl, hg⟩ := hv
  have hr : IsRange s.heap r a c 1 t u k := h.inn _ _ hg
  refine wpAny_pyIter_range hr (small_one (by omega) (by omega) (by omega) (by omega)) ?_
  rw [rangeSize_one]
  have e : (if a < c then c - a else 0) = (((c - a).toNat : Nat) : Int) - (0 : Nat) := by split <;> omega
  have e2 : rawInt a = rawInt (a + (0 : Nat)) := by simp
  rw [e, e2]
  exact q _ _ _ rfl (h.newMut _) rfl

theorem for_range_ {v : Value} {a c : Int} {target : Expr} {body : List Stmt} {Q : Flow → Shared → Prop} (J : Addr → Nat → (Str → Option Value) → Kn → Kn → Prop) (hh : A.handled = none)
    (h : At b g₀ s₀ fp L m g μ s) (hv : Rng g v a c) (ha : -1000 ≤ a) (ha' : a ≤ 1000) (hc : -1000 ≤ c) (hc' : c ≤ 1000) (hac : a ≤ c) (j0 : ∀ I μ', s.heap.objs.size = I → (∀ a, a ≠ I → μ' a = μ a) → J I 0 m g μ')
    (hJ : ∀ I i m g μ₁ μ₂, s.heap.objs.size = I → (∀ a, a ≠ I → μ₂ a = μ₁ a) → J I i m g μ₁ → J I i m g μ₂)
    (turn : ∀ I (i : Nat) t m' g' μ' s', s.heap.objs.size = I → (i : Int) < c - a → g.le g' → J I i m' g' μ' → At b g₀ s₀ fp L m' g' μ' s' →
      wpAny (model prog w) A (assign target env (.int (a + i) t)) (fun _ s₂ => wpAny (model prog w) A (execs body env) (Turn b g₀ s₀ fp L I (J I (i + 1)) g' μ' Q) (fun _ _ => False) s₂) (fun _ _ => False) s')
    (done : ∀ I m' g' μ' s', s.heap.objs.size = I → g.le g' → J I (c - a).toNat m' g' μ' → At b g₀ s₀ fp L m' g' μ' s' → Q .next s') :
    wpAny (model prog w) A (pyIter v) (fun it s₂ => codeAny (model prog w) A (.forLoop target it body [] env) (fun r s' => match r with | .ok f => Q f s' | .error e => cameBackBy (model prog w) A env E e s') s₂) E s := by
  refine iter_range_ h hv ha ha' hc hc' hac fun s' I o hI hA ho => ?_
  have It := Iter.range (prog := prog) (w := w) hh (I := I) (g := g) a (c - a).toNat
  have hlen := rints_length a (c - a).toNat
  have hget : ∀ (i : Nat) (d : PyData), (rints a (c - a).toNat)[i]? = some d → i < (c - a).toNat ∧ d = .int (a + i) := fun i d => rints_get
  generalize rints a (c - a).toNat = ds at It hlen hget
  refine loop_ (J I) It hA (upd_self _ _ _) ho (j0 _ _ hI fun x hx => upd_ne _ hx) (fun i m g μ₁ μ₂ => hJ _ i m g μ₁ μ₂ hI) (fun i d v m' g' μ' s' hd hr hle hj hA' _ => ?_) fun m' g' μ' s' hle hj hA' => ?_
  · obtain ⟨hi, e⟩ := hget i d hd
    subst e
    obtain ⟨t, rfl⟩ := hr.intE
    exact turn I i t m' g' μ' s' hI (by omega) hle hj hA'
  · rw [hlen] at hj
    exact done I m' g' μ' s' hI hle hj hA'

/-! x, y = (e, f) -/
noncomputable def SwapK (L : Addr) (x y : Str) (Q : Flow → Shared → Prop) (v : Value) (s₁ : Shared) : Prop := ∃ b s₀ g₀ fp m g μ dx dy, At b g₀ s₀ fp L m g μ s₁ ∧ Rd g v (.tuple [dx, dy]) ∧
      ∀ s' u1 u2, Rd g u1 dx → Rd g u2 dy → At b g₀ s₀ fp L (bnd (bnd m y u2) x u1) g μ s' → Q .next s'
theorem swap_in {b s s₀ : Shared} {g₀ g μ : Kn} {fp : Addr → Prop} {L : Addr} {m : Str → Option Value} {x y : Str} {Q : Flow → Shared → Prop} {v : Value} {dx dy : PyData} (h : At b g₀ s₀ fp L m g μ s) (hr : Rd g v (.tuple [dx, dy]))
    (q : ∀ s' u1 u2, Rd g u1 dx → Rd g u2 dy → At b g₀ s₀ fp L (bnd (bnd m y u2) x u1) g μ s' → Q .next s') : SwapK L x y Q v s :=
  ⟨_, _, _, _, _, _, _, _, _, h, hr, q⟩
theorem pairSwap_ (hh : A.handled = none) {x y : Str} {px py tpos pos : Pos} {k : Nat} {value : Expr} {Q : Flow → Shared → Prop}
    (hx : env.kindOf x = some .local) (hy : env.kindOf y = some .local) (hk : env.scope.kind = .function)
    (hw : swappedStores [.Tuple [.Name x px, .Name y py] k tpos] value env = pure (some [x, y])) (hs : swapsWithSole [.Tuple [.Name x px, .Name y py] k tpos] value pos.line env = pure false)
    (h : wpAny (model prog w) A (eval value env) (SwapK env.locals x y Q) E s) :
    wpAny (model prog w) A (exec (.Assign [.Tuple [.Name x px, .Name y py] k tpos] value pos) env) Q E s := by
  refine Assign_Tuple_swapped (names := [x, y]) (wpAny_mono h (fun v s₁ h₁ => ?_) fun _ _ e => e) hs hw
  obtain ⟨b, s₀, g₀, fp, m, g, μ, dx, dy, hA, hr, q⟩ := h₁
  obtain ⟨t, vs, n, rfl, hg, hall⟩ := hr.tupE
  cases hall with
  | @cons u1 _ _ _ r1 hall => cases hall with
    | @cons u2 _ _ _ r2 hall =>
      cases hall
      have ht : IsTup s₁.heap t #[u1, u2] := hA.isTup hg
      show wpAny (model prog w) A (unpackItems (.ref t) (#[u1, u2] : Array Value).size none) _ E s₁
      refine unpackItems_tuple hh ht fun h' he => ?_
      have h1 := hA.ext (tk := s₁.toks) he
      show wpAny (model prog w) A (assignInOrder [fun v => bindName env y v, fun v => bindName env x v] [u2, u1]) _ E _
      refine assignInOrder_cons (wpAny_bindName (store_ h1 hy hk rfl fun s2 h2 => ?_))
      refine assignInOrder_cons (wpAny_bindName (store_ h2 hx hk rfl fun s3 h3 => ?_))
      exact assignInOrder_nil (q s3 _ _ r1 r2 h3)

/-- an item of a tuple at a written place -/
theorem item_ {value slice : Expr} {Q : Value → Shared → Prop} (h : At b g₀ s₀ fp L m g μ s) {v : Value} {ds : List PyData} {k : Int} {u : Tok} {j : Nat} {d : PyData} (hv : Rd g v (.tuple ds)) (hlo : -(2 ^ 63) ≤ k) (hhi : k < 2 ^ 63)
    (hj : seqIndex? k ds.length = some j) (hd : ds[j]? = some d) (q : ∀ x, Rd g x d → Q x s)
    (hs : ∀ t, subscripted slice false (.ref t) (.int k u) = operate [.ref t, .int k u] (getItem (.ref t) (.int k u)) := by intro _; with_unfolding_all rfl) : wpAny (model prog w) A (subscriptTail value slice v (.int k u)) Q E s := by
  obtain ⟨t, vs, n, rfl, hg, hall⟩ := hv.tupE
  obtain ⟨x, hx, hr⟩ := hall.get hd
  have ht := h.isTup hg
  exact tail_any ht.typeIs slot_tuple_getitem.lookup (PyProof.Rows.getItem_tuple ht hlo hhi (by simpa [hall.length] using hj) (by simpa using hx) (q x hr)) (hs t)
end
end Mine

namespace Mine
noncomputable def nm (i : Int) : Str := if i = 0 then "a" else "nested"
noncomputable def sh : Nat → Int → Int
  | 0, x => x
  | n + 1, x => (sh n x).fdiv 2
noncomputable def wayOf : Nat → Int → Way
  | 0, _ => []
  | n + 1, x => wayOf n x ++ [nm ((sh n x).fmod 2)]
noncomputable def sizeOf' (number : Int) : Nat := ((number.fdiv 5).fmod 4 + 1).toNat
noncomputable def lawCall (number place : Int) : Cl :=
  (number.fmod 5, wayOf (sizeOf' number) ((number.fdiv 5).fdiv 4), (place + sh (sizeOf' number) ((number.fdiv 5).fdiv 4)).fmod 2)
theorem wayOf_length (n : Nat) (x : Int) : (wayOf n x).length = n := by
  induction n with
  | zero => rfl
  | succ n ih => simp [wayOf, ih]
theorem wayOf_names (n : Nat) (x : Int) : ∀ y ∈ wayOf n x, y = "a" ∨ y = "nested" := by
  induction n with
  | zero => intro y h; cases h
  | succ n ih =>
    intro y h
    rcases List.mem_append.mp h with h | h
    · exact ih y h
    · rw [List.mem_singleton.mp h]
      unfold nm
      split <;> simp
theorem fmod_cases (x : Int) : x.fmod 2 = 0 ∨ x.fmod 2 = 1 := by
  have := Int.fmod_nonneg_of_pos x (show (0 : Int) < 2 by decide)
  have := Int.fmod_lt_of_pos x (show (0 : Int) < 2 by decide)
  omega
theorem fmod4 (x : Int) : 0 ≤ x.fmod 4 ∧ x.fmod 4 < 4 := ⟨Int.fmod_nonneg_of_pos x (by decide), Int.fmod_lt_of_pos x (by decide)⟩

section
variable {w : World} {b s : Shared} {mg mb : Str → Option Value} {prog : Program} {A : Around} {E : Value → Shared → Prop} {g μ : Kn}
theorem Grown.toks {b : Shared} {g g' : Kn} {s s' : Shared} {fp : Addr → Prop} (G : Grown b g s fp g' s') : Grown b g s fp g' s' := G

set_option maxHeartbeats 1000000 in
theorem lawCall_ {t1 t2 : Tok} {number place : Int} {Q : Value → Shared → Prop} (R : Room A 2 90) (C : Cx w b.heap mg mb) (k : Know b g s)
    (q : ∀ s' g' v, Grown b g s (fun _ => False) g' s' → Rd g' v (encC (lawCall number place)) → Q v s') : wpAny (model prog w) A (call (.ref 77) [.int number t1, .int place t2]) Q E s := by
  refine enter (fd := fdAt w.params 77) (binds := [("number", .int number t1), ("place", .int place t2)]) (fp := fun _ => False) (μ := fun _ => none) (d := 1) (u := 87) R C k rfl rfl (by kernel_rfl) rfl (by kernel_rfl) (noCells (by kernel_rfl)) (locs (by kernel_rfl)) (fun _ _ e => nomatch e) fun s₁ A₁ R₁ => ?_
  have hW : ∀ i j : Int, j = 2 ∨ j = 4 ∨ j = 5 → Builtin.divisionGoesByPylong i j = false := fun i j h => PyProof.noPylong_small (by rcases h with rfl | rfl | rfl <;> decide)
  refine exCons_ ?_
  refine pairSwap_ R₁.hd (by rfl) (by rfl) (by rfl) (by rfl) (by rfl) ?_
  refine tupE_ ?_
  refine argCons_ (binE_ ?_)
  refine name_ A₁ (by rfl) (by rfl) (by rfl) (by rfl) ?_
  refine int_ A₁ fun s2 u2 A₂ => ?_
  refine mod_int' (by decide) ?_
  have A₃ := A₂.toks (tk := s2.toks + 1)
  refine argCons_ (binE_ ?_)
  refine name_ A₃ (by rfl) (by rfl) (by rfl) (by rfl) ?_
  refine int_ A₃ fun s4 u4 A₄ => ?_
  refine floordiv_int (by decide) ?_ (.inl (hW _ _ (by simp)))
  have A₅ := A₄.toks (tk := s4.toks + 1)
  refine args_nil ?_
  refine newTuple_ A₅ (.cons (.int _ _) (.cons (.int _ _) .nil)) (fun s6 g6 v6 hle6 r6 A₆ => ?_) (by simp)
  refine swap_in A₆ r6 fun s7 v1 v2 r1 r2 A₇ => ?_
  obtain ⟨tk1, rfl⟩ := r1.intE
  obtain ⟨tk2, rfl⟩ := r2.intE
  refine exCons_ ?_
  refine pairSwap_ R₁.hd (by rfl) (by rfl) (by rfl) (by rfl) (by rfl) ?_
  refine tupE_ ?_
  refine argCons_ (binE_ (binE_ ?_))
  refine name_ A₇ (by rfl) (by rfl) (by rfl) (by rfl) ?_
  refine int_ A₇ fun s8 u8 A₈ => ?_
  refine mod_int' (by decide) ?_
  have A₉ := A₈.toks (tk := s8.toks + 1)
  refine int_ A₉ fun s10 u10 B₁ => ?_
  refine add_int ?_
  have B₂ := B₁.toks (tk := s10.toks + 1)
  refine argCons_ (binE_ ?_)
  refine name_ B₂ (by rfl) (by rfl) (by rfl) (by rfl) ?_
  refine int_ B₂ fun s11 u11 B₃ => ?_
  refine floordiv_int (by decide) ?_ (.inl (hW _ _ (by simp)))
  have B₄ := B₃.toks (tk := s11.toks + 1)
  refine args_nil ?_
  refine newTuple_ B₄ (.cons (.int _ _) (.cons (.int _ _) .nil)) (fun s12 g12 v12 hle12 r12 B₅ => ?_) (by simp)
  refine swap_in B₅ r12 fun s13 v3 v4 r3 r4 B₆ => ?_
  obtain ⟨tk3, rfl⟩ := r3.intE
  obtain ⟨tk4, rfl⟩ := r4.intE
  refine exCons_ (asgName_ ?_)
  refine tupE_ (args_nil (newTuple_ B₆ .nil (fun s14 g14 v14 hle14 r14 B₇ => ?_) (by simp)))
  refine store_ B₇ (by rfl) (by rfl) (by rfl) fun s15 B₈ => ?_
  refine exCons_ (wpAny_For ?_)
  refine Call_Name1 ?_ (by rfl)
  refine builtin_ C B₈ (by rfl) (by rfl) (by rfl) (by rfl) (by rfl) boot_range (by decide) ?_
  refine callWith_type1 ?_
  refine name_ B₈ (by rfl) (by rfl) (by rfl) (by rfl) ?_
  refine range1_ B₈ fun s16 g16 r16 hle16 B₉ hr16 => ?_
  have h4 := fmod4 (number.fdiv 5)
  generalize hx0 : (number.fdiv 5).fdiv 4 = x0 at *
  refine for_range_ (fun _ i m g μ => m "what" = some (.int (number.fmod 5) tk1) ∧ m "place" = some (.int place t2) ∧ (∃ t, m "x" = some (.int (sh i x0) t)) ∧ ∃ v, m "way" = some v ∧ Rd g v (encW (wayOf i x0))) R₁.hd B₉ hr16
    (by omega) (by omega) (by omega) (by omega) (by omega) ?_ ?_ ?_ ?_
  · intro I μ' _ _
    exact ⟨by rfl, by rfl, ⟨_, by rfl⟩, ⟨_, by rfl, r14.mono hle16⟩⟩
  · intro I i m g μ₁ μ₂ _ _ j
    exact j
  · rintro I i t m' g' μ' s' hI hi hle ⟨j1, j2, ⟨tx, j3⟩, vw, j4, hr⟩ D₁
    refine assignN_ D₁ (by rfl) (by rfl) (by rfl) fun s1 D₂ => ?_
    refine exCons_ (asgName_ (binE_ ?_))
    refine name_ D₂ (by rfl) (by rfl) (by rfl) (by exact j4) ?_
    refine tupE_ (argCons_ (Subscript_ ?_))
    refine tupE_ (argCons_ (str_ D₂ fun s3 t3 D₃ => ?_))
    refine argCons_ (str_ D₃ fun s4 t4 D₄ => ?_)
    refine args_nil (newTuple_ D₄ (.cons (.str _ _) (.cons (.str _ _) .nil)) (fun s5 g5 v5 hle5 r5 D₅ => ?_) (by simp))
    refine binE_ ?_
    refine name_ D₅ (by rfl) (by rfl) (by rfl) (by exact j3) ?_
    refine int_ D₅ fun s6 t6 D₆ => ?_
    refine mod_int' (by decide) ?_
    have D₇ := D₆.toks (tk := s6.toks + 1)
    have hf := fmod_cases (sh i x0)
    have hit : ∃ j : Nat, seqIndex? ((sh i x0).fmod 2) 2 = some j ∧ ([.str "a", .str "nested"] : List PyData)[j]? = some (.str (nm ((sh i x0).fmod 2))) := by
      rcases hf with e | e
      · rw [e]; exact ⟨0, by decide, by simp [nm]⟩
      · rw [e]; exact ⟨1, by decide, by simp [nm]⟩
    obtain ⟨j, hj, hd⟩ := hit
    refine item_ D₇ r5 (by rcases hf with e | e <;> rw [e] <;> decide) (by rcases hf with e | e <;> rw [e] <;> decide) hj hd (fun x rx => ?_) (by intro _; with_unfolding_all rfl)
    refine args_nil (newTuple_ D₇ (.cons rx .nil) (fun s8 g8 v8 hle8 r8 D₈ => ?_) (by simp))
    have hlen := wayOf_length i x0
    refine addTup_ D₈ ((hr.mono hle5).mono hle8) r8 (by simp [hlen]; omega) fun s9 g9 v9 hle9 D₉ r9 => ?_
    refine store_ D₉ (by rfl) (by rfl) (by rfl) fun s10 E₁ => ?_
    refine exCons_ (asgName_ (binE_ ?_))
    refine name_ E₁ (by rfl) (by rfl) (by rfl) (by exact j3) ?_
    refine int_ E₁ fun s11 t11 E₂ => ?_
    refine floordiv_int (by decide) ?_ (.inl (hW _ _ (by simp)))
    have E₃ := E₂.toks (tk := s11.toks + 1)
    refine store_ E₃ (by rfl) (by rfl) (by rfl) fun s12 E₄ => ?_
    refine wpAny_execs_nil ?_
    refine ⟨_, _, _, ?_, E₄, rfl, hle5.trans (hle8.trans hle9)⟩
    refine ⟨j1, j2, ⟨_, by rfl⟩, ⟨v9, by rfl, ?_⟩⟩
    have e : encW (wayOf (i + 1) x0) = .tuple ((wayOf i x0).map PyData.str ++ [.str (nm ((sh i x0).fmod 2))]) := by simp [encW, wayOf]
    rw [e]
    exact r9
  · rintro I m' g' μ' s' hI hle ⟨j1, j2, ⟨tx, j3⟩, vw, j4, hr⟩ D₁
    refine exCons_ (retE_ ?_)
    refine tupE_ (argCons_ ?_)
    refine name_ D₁ (by rfl) (by rfl) (by rfl) (by exact j1) ?_
    refine argCons_ (name_ D₁ (by rfl) (by rfl) (by rfl) (by exact j4) ?_)
    refine argCons_ (binE_ (binE_ ?_))
    refine name_ D₁ (by rfl) (by rfl) (by rfl) (by exact j2) ?_
    refine name_ D₁ (by rfl) (by rfl) (by rfl) (by exact j3) ?_
    refine add_int ?_
    have D₂ := D₁.toks (tk := s'.toks + 1)
    refine int_ D₂ fun s2 u2 D₃ => ?_
    refine mod_int' (by decide) ?_
    have D₄ := D₃.toks (tk := s2.toks + 1)
    refine args_nil (newTuple_ D₄ (.cons (.int _ _) (.cons hr (.cons (.int _ _) .nil))) (fun s5 g5 v5 hle5 r5 D₅ => ?_) (by simp))
    refine q _ g5 _ D₅.done ?_
    have e : lawCall number place = (number.fmod 5, wayOf ((number.fdiv 5).fmod 4 + 1 - 0).toNat x0, (place + sh ((number.fdiv 5).fmod 4 + 1 - 0).toNat x0).fmod 2) := by
      unfold lawCall sizeOf'
      rw [hx0, Int.sub_zero]
    rw [e]
    exact r5
end
end Mine

namespace Mine
section
variable {prog : Program} {w : World} {A : Around} {E : Value → Shared → Prop} {b s s₀ : Shared} {g₀ g μ : Kn} {fp : Addr → Prop} {L : Addr} {m : Str → Option Value} {env : Env} {mg mb : Str → Option Value}

theorem iterL_ (hh : A.handled = none) (h : At b g₀ s₀ fp L m g μ s) {v : Value} {ds : List PyData} {Q : Value → Shared → Prop} (hv : Ls g v ds)
    (q : ∀ s' I o St, s.heap.objs.size = I → At b g₀ s₀ fp L m g (upd μ I o) s' → Iter prog w A I g ds St → St 0 o → Q (.ref I) s') : wpAny (model prog w) A (pyIter v) Q E s := by
  obtain ⟨a, vs, n, rfl, hg, hr⟩ := hv
  refine wpAny_pyIter_list (h.isList hg) ?_
  have hA := h.newMut (tk := s.toks) ({ cls := .type "list_iterator", data := .fields #[.ref a, .int (0 : Nat) 0] } : Obj)
  exact q _ _ _ _ rfl hA (Iter.list hh hg hr) ⟨rfl, rfl⟩
theorem iterR_ (hh : A.handled = none) (h : At b g₀ s₀ fp L m g μ s) {v : Value} {a c : Int} {Q : Value → Shared → Prop} (hv : Rng g v a c) (ha : -1000 ≤ a) (ha' : a ≤ 1000) (hc : -1000 ≤ c) (hc' : c ≤ 1000) (hac : a ≤ c)
    (q : ∀ s' I o St, s.heap.objs.size = I → At b g₀ s₀ fp L m g (upd μ I o) s' → Iter prog w A I g (rints a (c - a).toNat) St → St 0 o → Q (.ref I) s') : wpAny (model prog w) A (pyIter v) Q E s :=
  iter_range_ h hv ha ha' hc hc' hac fun s' I o hI hA ho => q s' I o _ hI hA (Iter.range hh a (c - a).toNat) (by exact ho)

/-! the frame of a block within a frame -/
theorem At.inner {C : Addr} {m' : Str → Option Value} {oL : Obj} {h' : Heap} {tk : Nat} (A' : At b g₀ s₀ fp L m g μ s) (hL : s.heap.get? L = some oL) (hn : h'.Ns C m') (hk : ∀ a o, s.heap.get? a = some o → h'.get? a = some o) (hC : s.heap.objs.size ≤ C) :
    At b g₀ s₀ fp C m' g (upd μ L oL) { s with heap := h', toks := tk } where
  base := A'.base
  le := A'.le
  inn := fun a o e => hk a o (A'.inn a o e)
  keep := fun a o hf e => hk a o (A'.keep a o hf e)
  old := A'.old
  gens := A'.gens
  os := A'.os
  ns := hn
  offL := A'.freshG hC
  newL := Nat.le_trans A'.size hC
  mine := fun a o e => by
    by_cases ha : a = L
    · subst ha; rw [upd_self] at e; cases e
      exact ⟨hk _ _ hL, A'.offL, Nat.ne_of_lt (Nat.lt_of_lt_of_le A'.ltL hC), .inr A'.newL⟩
    · rw [upd_ne oL ha] at e
      obtain ⟨h1, h2, _, h4⟩ := A'.mine a o e
      exact ⟨hk _ _ h1, h2, Nat.ne_of_lt (Nat.lt_of_lt_of_le (Heap.lt_size h1) hC), h4⟩

theorem At.outer {C : Addr} {mC : Str → Option Value} {oL : Obj} (A' : At b g₀ s₀ fp C mC g μ s) (hL : μ L = some oL) {h₁ : Heap} (hn : h₁.Ns L m) (hL₁ : h₁.get? L = some oL) (hnew : s₀.heap.objs.size ≤ L) :
    At b g₀ s₀ fp L m g (wipe μ L) s where
  base := A'.base
  le := A'.le
  inn := A'.inn
  keep := A'.keep
  old := A'.old
  gens := A'.gens
  os := A'.os
  ns := hn.at' fun o e => by rw [hL₁] at e; cases e; exact (A'.mine L oL hL).1
  offL := (A'.mine L oL hL).2.1
  newL := hnew
  mine := fun a o e => by
    by_cases ha : a = L
    · subst ha; rw [wipe_self] at e; cases e
    · rw [wipe_ne ha] at e
      obtain ⟨h1, h2, _, h4⟩ := A'.mine a o e
      exact ⟨h1, h2, ha, h4⟩
theorem At.inNs (A' : At b g₀ s₀ fp L m g μ s) : ∃ o, s.heap.get? L = some o := let ⟨o, _, _, h, _⟩ := A'.ns; ⟨o, h⟩

theorem codeAny_comp_any {R : Result → Shared → Prop} {elt target iter : Expr} {ifs : List Expr} {scope : Scope} {pos : Pos} {it acc : Value} {env : Env} (I : Nat → Shared → Prop)
    (turn : ∀ n s, I n s → wpAny (model prog w) A (pyNext it) (fun r s₁ => match r with
      | none => R (.ok .next) s₁
      | some v => wpAny (model prog w) A (letOwnedTupleGo target it v) (fun _ s₁' => wpAny (model prog w) A (assign target env v) (fun _ s₂ =>
          wpAny (model prog w) A (forIn ifs true fun c r => if r = true then do let ok ← isTrue c env (eval c env); pure (ForInStep.yield ok) else pure (ForInStep.yield r)) (fun ok s₃ =>
            if ok = true then wpAny (model prog w) A (eval elt env) (fun x s₄ =>
              wpAny (model prog w) A (call (.builtin "list.append") [acc, x]) (fun _ s₅ => ∃ m, m < n ∧ I m s₅) (notedBy (model prog w) A env fun e s' => R (.error e) s') s₄) (notedBy (model prog w) A env fun e s' => R (.error e) s') s₃
            else ∃ m, m < n ∧ I m s₃) (notedBy (model prog w) A env fun e s' => R (.error e) s') s₂) (notedBy (model prog w) A env fun e s' => R (.error e) s') s₁') (notedBy (model prog w) A env fun e s' => R (.error e) s') s₁) (notedBy (model prog w) A env fun e s' => R (.error e) s') s)
    (n : Nat) (h : I n s) : codeAny (model prog w) A (.compLoop (.ListComp elt [⟨target, iter, ifs, 0⟩] scope pos) 0 it acc env) R s := by
  refine codeAny_loop rfl I (fun n s hI => ?_) n h
  show wpAny _ A ((compTurn (.ListComp elt [⟨target, iter, ifs, 0⟩] scope pos) 0 it acc env).onRaise (fun x => do noteFrame x env; theTreesLotGoes x)) _ _ s
  refine wpAny_noted ?_
  rw [compTurn_list]
  refine wpAny_bind (wpAny_standAt (wpAny_bind (wpAny_mono (turn n s hI) (fun r s₁ h₁ => ?_) fun _ _ h' => h')))
  cases r with
  | none => exact wpAny_pure h₁
  | some v =>
    refine wpAny_bind (wpAny_mono h₁ (fun _ s₁' h₁' => ?_) fun _ _ h' => h')
    refine wpAny_bind (wpAny_mono h₁' (fun _ s₂ h₂ => wpAny_bind (wpAny_mono h₂ (fun ok s₃ h₃ => ?_) fun _ _ h' => h')) fun _ _ h' => h')
    cases ok with
    | false => exact wpAny_pure ⟨rfl, h₃⟩
    | true =>
      exact wpAny_bind (wpAny_bind (wpAny_mono h₃ (fun x s₄ h₄ => wpAny_bind (wpAny_mono h₄ (fun _ s₅ h₅ => wpAny_pure (wpAny_pure ⟨rfl, h₅⟩)) fun _ _ h' => h')) fun _ _ h' => h'))

/-- a turn of a comprehension, in its own frame -/
noncomputable def CompTurn (prog : Program) (w : World) (A : Around) (b : Shared) (g₀ : Kn) (s₀ : Shared) (fp : Addr → Prop) (cenv : Env) (elt target : Expr) (ifs : List Expr) {α : Type} (f : α → Option PyData) (a : α) (v : Value) (mc : Str → Option Value) (g μ : Kn) (s : Shared) : Prop :=
  wpAny (model prog w) A (assign target cenv v) (fun _ s₂ => wpAny (model prog w) A (forIn ifs true fun c r => if r = true then do let ok ← isTrue c cenv (eval c cenv); pure (ForInStep.yield ok) else pure (ForInStep.yield r)) (fun ok s₃ =>
    if ok = true then wpAny (model prog w) A (eval elt cenv) (fun x s₄ => ∃ mc' g' e, g.le g' ∧ At b g₀ s₀ fp cenv.locals mc' g' μ s₄ ∧ f a = some e ∧ Rd g' x e) (fun _ _ => False) s₃
    else f a = none ∧ ∃ mc' g', g.le g' ∧ At b g₀ s₀ fp cenv.locals mc' g' μ s₃) (fun _ _ => False) s₂) (fun _ _ => False) s

theorem comp_core {α : Type} {items : List α} {enc : α → PyData} {f : α → Option PyData} {elt target iter : Expr} {ifs : List Expr} {scope : Scope} {cl : List (Str × Addr)} {pos : Pos} {I : Addr} {o : Obj} {St : Nat → Obj → Prop} {RR : Value → Addr → Result → Shared → Prop}
    (It : Iter prog w A I g (items.map enc) St) (h : At b g₀ s₀ fp env.locals m g (upd μ I o) s) (hI : μ I = none) (hs : St 0 o) (hn : items.length ≤ 1000)
    (hcell : ∀ y ∈ scope.names, y.2 ≠ .cell) (hkind : scope.kind = .function)
    (turn : ∀ C a v mc g' μ' s', a ∈ items → Rd g' v (enc a) → g.le g' → (∀ x o, μ x = some o → μ' x = some o) → At b g₀ s₀ fp C mc g' μ' s' → CompTurn prog w A b g₀ s₀ fp (compEnvC scope cl C env) elt target ifs f a v mc g' μ' s')
    (fin : ∀ C mc g' μ' s' oL r, g.le g' → At b g₀ s₀ fp C mc g' μ' s' → Ls g' r (items.filterMap f) → s.heap.get? env.locals = some oL → μ' env.locals = some oL → (∀ x o, μ x = some o → μ' x = some o) → RR r C (.ok .next) s') :
    wpAny (model prog w) A (newList []) (fun acc s₃ => wpAny (model prog w) A (newFunctionEnv scope env.globals cl [] env.qual none .none (some env)) (fun cenv s₄ =>
      codeAny (model prog w) A (.compStart (.ListComp elt [⟨target, iter, ifs, 0⟩] scope pos) 0 (.ref I) acc { cenv with scope := relabel scope env }) (RR acc cenv.locals) s₄) E s₃) E s := by
  obtain ⟨oL, hoL⟩ := h.inNs
  have hA1 := h.newMut (tk := s.toks) (lstObj [] 0)
  refine wpAny_newObj_type (wpAny_newFunctionEnv hcell (by intro y hy; simp at hy) (fun h₁ hns₁ hsb₁ => ?_) hkind)
  dsimp only at hns₁ hsb₁ ⊢
  have hA1' : At b g₀ s₀ fp env.locals m g (upd (upd μ I o) s.heap.objs.size (lstObj [] 0)) { s with heap := s.heap.push (lstObj [] 0), toks := s.toks } := hA1
  have hDL : s.heap.objs.size ≠ env.locals := Nat.ne_of_gt h.ltL
  have hID : I ≠ s.heap.objs.size := Nat.ne_of_lt (Heap.lt_size (h.mine I o (upd_self _ _ _)).1)
  have hIL : I ≠ env.locals := (h.mine I o (upd_self _ _ _)).2.2.1
  generalize hD : s.heap.objs.size = D at *
  have hsz : (s.heap.push (lstObj [] 0)).objs.size = D + 1 := by rw [Heap.size_push, hD]
  have hsb₁' : Heap.SameBut (s.heap.push (lstObj [] 0)).objs.size ((s.heap.push (lstObj [] 0)).push { cls := .type "dict", data := .dict #[] }) h₁ := hsb₁
  have hns₁' : h₁.Ns (s.heap.push (lstObj [] 0)).objs.size (fun x => ([] : List (Str × Value)).reverse.lookup x) := hns₁
  have hkeep : ∀ a x, (s.heap.push (lstObj [] 0)).get? a = some x → h₁.get? a = some x := fun a x e => hsb₁'.extBut a x (Nat.ne_of_lt (Heap.lt_size e)) (Heap.get?_push_of_some _ e)
  have hA2 := hA1'.inner (C := (s.heap.push (lstObj [] 0)).objs.size) (tk := s.toks + 0) (oL := oL) (h' := h₁) (Heap.get?_push_of_some _ hoL) hns₁' hkeep (Nat.le_refl _)
  generalize hCC : (s.heap.push (lstObj [] 0)).objs.size = C at *
  have hCC' : (s.heap.push { cls := .type "list", data := .seq ([] : List Value).toArray }).objs.size = C := hCC
  simp only [newEnv]
  rw [hCC']
  have loop : ∀ s₃ : Shared, At b g₀ s₀ fp C (fun x => ([] : List (Str × Value)).reverse.lookup x) g (upd (upd (upd μ I o) D (lstObj [] 0)) env.locals oL) s₃ →
      codeAny (model prog w) A (.compLoop (.ListComp elt [⟨target, iter, ifs, 0⟩] scope pos) 0 (.ref I) (.ref D) (compEnvC scope cl C env)) (RR (.ref D) C) s₃ := by
    intro s₃ hA3
    refine codeAny_comp_any (fun k s' => ∃ i mc g' μ' o' ys n, i ≤ items.length ∧ k = items.length + 1 - i ∧ g.le g' ∧ At b g₀ s₀ fp C mc g' μ' s' ∧ μ' I = some o' ∧ St i o' ∧ μ' D = some (lstObj ys n) ∧ RdAll g' ys ((items.take i).filterMap f) ∧
      μ' env.locals = some oL ∧ (∀ x o, μ x = some o → μ' x = some o)) ?_ (items.length + 1)
      ⟨0, _, g, _, o, [], 0, Nat.zero_le _, rfl, Kn.le.refl _, hA3, ?_, hs, ?_, .nil, upd_self _ _ _, ?_⟩
    · rintro k s' ⟨i, mc, g', μ', o', ys, n, hi, rfl, hle, hA', hI', hs', hD', hys, hL', hμ⟩
      have kn : ∀ a x, g a = some x → s'.heap.get? a = some x := fun a x e => hA'.inn a x (hle a x e)
      by_cases hlt : i < items.length
      · refine It.item i (enc items[i]) s' o' _ _ (by simp [hlt]) kn (hA'.mine I o' hI').1 hs' fun v h' tk o'' rv hsb ho'' hs'' => ?_
        have hA4 := hA'.set (tk := tk) hI' hsb ho''
        refine letGo_plain (s := { s' with heap := h', toks := tk }) ho'' (It.cls _ _ hs'') ?_
        have hμ4 : ∀ x o, μ x = some o → upd μ' I o'' x = some o := fun x y e => by
          rw [upd_ne]; exact hμ x y e
          rintro rfl; rw [hI] at e; cases e
        have T := turn C items[i] v mc g' (upd μ' I o'') _ (List.getElem_mem hlt) (rv.mono hle) hle hμ4 hA4
        unfold CompTurn at T
        have htake : (items.take (i + 1)).filterMap f = (items.take i).filterMap f ++ (f items[i]).toList := by
          rw [List.take_add_one, List.filterMap_append, List.getElem?_eq_getElem hlt]
          cases hf : f items[i] <;> simp [hf]
        refine wpAny_mono T (fun _ s₂ h₂ => wpAny_mono h₂ (fun ok s₃ h₃ => ?_) fun _ _ e => e.elim) fun _ _ e => e.elim
        cases ok with
        | false =>
          simp only [Bool.false_eq_true, if_false] at h₃ ⊢
          obtain ⟨hf, mc', g'', hle', hA5⟩ := h₃
          refine ⟨items.length + 1 - (i + 1), by omega, i + 1, mc', g'', _, o'', ys, n, hlt, rfl, hle.trans hle', hA5, upd_self _ _ _, hs'', ?_, ?_, ?_, hμ4⟩
          · rw [upd_ne _ (Ne.symm hID)]; exact hD'
          · rw [htake, hf]; simpa using hys.mono hle'
          · rw [upd_ne _ (Ne.symm hIL)]; exact hL'
        | true =>
          simp only [if_true] at h₃ ⊢
          refine wpAny_mono h₃ (fun x s₄ h₄ => ?_) fun _ _ e => e.elim
          obtain ⟨mc', g'', e, hle', hA5, hf, hx⟩ := h₄
          have hD5 : upd μ' I o'' D = some (lstObj ys n) := by rw [upd_ne _ (Ne.symm hID)]; exact hD'
          have hlen := hys.length
          have hle2 : ((items.take i).filterMap f).length ≤ 1000 := Nat.le_trans (List.length_filterMap_le _ _) (by rw [List.length_take]; omega)
          refine wpAny_list_append_plain (items := ys.toArray) ⟨n, (hA5.mine D _ hD5).1⟩ (fun h6 hl6 hs6 => ?_) (by rw [List.size_toArray, sizeLine_eq]; omega)
          obtain ⟨n6, hl6⟩ := hl6
          have hl6' : h6.get? D = some (lstObj (ys ++ [x]) n6) := by rw [hl6]; simp [lstObj]
          have hA6 := hA5.set (tk := s₄.toks) hD5 hs6 hl6'
          refine ⟨items.length + 1 - (i + 1), by omega, i + 1, mc', g'', _, o'', ys ++ [x], n6, hlt, rfl, hle.trans hle', hA6, ?_, hs'', upd_self _ _ _, ?_, ?_, ?_⟩
          · rw [upd_ne _ hID]; exact upd_self _ _ _
          · rw [htake, hf]; exact (hys.mono hle').append (.cons hx .nil)
          · rw [upd_ne _ (Ne.symm hDL), upd_ne _ (Ne.symm hIL)]; exact hL'
          · intro y oy ey
            have hyD : y ≠ D := by
              rintro rfl
              have e6 : upd μ I o y = some oy := by
                rw [upd_ne]; exact ey
                exact fun e => hID e.symm
              exact absurd (Heap.lt_size (h.mine y oy e6).1) (by rw [hD]; exact Nat.lt_irrefl _)
            rw [upd_ne _ hyD]
            exact hμ4 y oy ey
      · have hin : i = items.length := by omega
        subst hin
        refine It.done s' o' _ _ kn (hA'.mine I o' hI').1 (by simpa using hs') fun h' tk he => ?_
        obtain ⟨q1, q2, q3, q4⟩ := hA'.mine I o' hI'
        have hA7 : At b g₀ s₀ fp C mc g' (wipe μ' I) { s' with heap := h', toks := tk } := {
          base := hA'.base
          le := hA'.le
          inn := fun a x e => he a x (by rintro rfl; rw [q2] at e; cases e) (hA'.inn a x e)
          keep := fun a x hx e => by
            refine he a x ?_ (hA'.keep a x hx e)
            rintro rfl
            rcases q4 with q4 | q4
            · exact hx q4
            · exact absurd (Heap.lt_size e) (Nat.not_lt.mpr q4)
          old := hA'.old
          gens := hA'.gens
          os := hA'.os
          ns := hA'.ns.extBut he (Ne.symm q3)
          offL := hA'.offL
          newL := hA'.newL
          mine := fun a x e => by
            by_cases ha : a = I
            · subst ha; rw [wipe_self] at e; cases e
            · rw [wipe_ne ha] at e
              obtain ⟨r1, r2, r3, r4⟩ := hA'.mine a x e
              exact ⟨he a x ha r1, r2, r3, r4⟩ }
        have hD7 : wipe μ' I D = some (lstObj ys n) := by rw [wipe_ne (Ne.symm hID)]; exact hD'
        have hnD : s₀.heap.objs.size ≤ D := by rw [← hD]; exact h.size
        have hA8 := hA7.rest hD7 hnD
        rw [List.take_length] at hys
        have hle8 : g'.le (upd g' D (lstObj ys n)) := le_upd (hA7.mine D _ hD7).2.1
        refine fin C mc _ _ _ oL _ (hle.trans hle8) hA8 ⟨_, _, _, rfl, upd_self _ _ _, hys.mono hle8⟩ hoL ?_ ?_
        · show (if env.locals = D then none else wipe μ' I env.locals) = some oL
          rw [if_neg (Ne.symm hDL), wipe_ne (Ne.symm hIL)]
          exact hL'
        · intro y oy ey
          have hyI : y ≠ I := by rintro rfl; rw [hI] at ey; cases ey
          have hyD : y ≠ D := by
            rintro rfl
            have e6 : upd μ I o y = some oy := by rw [upd_ne _ hyI]; exact ey
            exact absurd (Heap.lt_size (h.mine y oy e6).1) (by rw [hD]; exact Nat.lt_irrefl _)
          show (if y = D then none else wipe μ' I y) = some oy
          rw [if_neg hyD, wipe_ne hyI]
          exact hμ y oy ey
    · rw [upd_ne _ hIL, upd_ne _ hID]; exact upd_self _ _ _
    · rw [upd_ne _ hDL]; exact upd_self _ _ _
    · intro y oy ey
      have hyI : y ≠ I := by rintro rfl; rw [hI] at ey; cases ey
      have e6 : upd μ I o y = some oy := by rw [upd_ne _ hyI]; exact ey
      have hy := h.mine y oy e6
      have hyD : y ≠ D := by rintro rfl; exact absurd (Heap.lt_size hy.1) (by rw [hD]; exact Nat.lt_irrefl _)
      rw [upd_ne _ hy.2.2.1, upd_ne _ hyD, upd_ne _ hyI]
      exact ey
  have hoI : ∀ x o', upd (upd (upd μ I o) D (lstObj [] 0)) env.locals oL x = some o' → h₁.get? x = some o' := fun x o' e => (hA2.mine x o' e).1
  have hI2 : upd (upd (upd μ I o) D (lstObj [] 0)) env.locals oL I = some o := by rw [upd_ne _ hIL, upd_ne _ hID]; exact upd_self _ _ _
  exact codeAny_compStart_list (loop _ hA2) (It.self 0 _ o _ _ (hoI I o hI2) hs (loop _ hA2))
end
end Mine

namespace Mine
section
variable {prog : Program} {w : World} {A : Around} {E : Value → Shared → Prop} {b s s₀ : Shared} {g₀ g μ : Kn} {fp : Addr → Prop} {L : Addr} {m : Str → Option Value} {env : Env} {mg mb : Str → Option Value}

/-- a comprehension as a value -/
theorem comp_ {α : Type} {elt target iter : Expr} {ifs : List Expr} {scope : Scope} {cl : List (Str × Addr)} {pos : Pos} {Q : Value → Shared → Prop}
    (hclos : closureFor scope env = pure cl) (hcell : ∀ y ∈ scope.names, y.2 ≠ .cell) (hkind : scope.kind = .function) (hnames : ∀ y ∈ scope.names, y.2 = .local → scope.names.lookup y.1 = some .local)
    (hs : ∀ x, foldedSetIterable iter env x = pure x)
    (h : wpAny (model prog w) A (eval iter env) (fun xv s₁ => wpAny (model prog w) A (pyIter xv) (fun it s₂ => ∃ (items : List α) (enc : α → PyData) (f : α → Option PyData) (b : Shared) (s₀ : Shared) (g₀ : Kn) (fp : Addr → Prop) (m : Str → Option Value) (g μ : Kn) (I : Addr) (o : Obj) (St : Nat → Obj → Prop),
      it = .ref I ∧ Iter prog w A I g (items.map enc) St ∧ At b g₀ s₀ fp env.locals m g (upd μ I o) s₂ ∧ μ I = none ∧ St 0 o ∧ items.length ≤ 1000 ∧
      (∀ C a v mc g' μ' s', a ∈ items → Rd g' v (enc a) → g.le g' → (∀ x o, μ x = some o → μ' x = some o) → At b g₀ s₀ fp C mc g' μ' s' → CompTurn prog w A b g₀ s₀ fp (compEnvC scope cl C env) elt target ifs f a v mc g' μ' s') ∧
      (∀ s' g' r, g.le g' → At b g₀ s₀ fp env.locals m g' μ s' → Ls g' r (items.filterMap f) → Q r s')) E s₁) E s) :
    wpAny (model prog w) A (eval (.ListComp elt [⟨target, iter, ifs, 0⟩] scope pos) env) Q E s := by
  rw [eval_ListComp]
  refine wpAny_comprehension_free (use := none) rfl hs hclos hkind hnames (wpAny_mono h (fun xv s₁ h₁ => wpAny_mono h₁ (fun it s₂ h₂ => ?_) fun _ _ e => e) fun _ _ e => e)
  obtain ⟨items, enc, f, b, s₀, g₀, fp, m, g, μ, I, o, St, rfl, It, hA, hI, hst, hn, turn, hQ⟩ := h₂
  refine comp_core (RR := fun acc C => compPost (model prog w) A E none Q acc C) It hA hI hst hn hcell hkind turn ?_
  intro C mc g' μ' s' oL r hle hA' hr hoL hL' hμ
  refine ⟨mc, hA'.ns, fun h' hs' => ?_⟩
  have hA2 := hA'.outer hL' hA.ns hoL hA.newL
  have hCL : C ≠ env.locals := fun e => (hA'.mine _ _ hL').2.2.1 e.symm
  -- the block's own frame goes
  have hA3 : At b g₀ s₀ fp env.locals m g' μ { s' with heap := h' } := by
    have hAC := hA'.newL
    refine {
      base := hA2.base
      le := hA2.le
      inn := fun a x e => (hs'.2 a (by rintro rfl; rw [hA'.offL] at e; cases e)).trans (hA2.inn a x e)
      keep := fun a x hx e => (hs'.2 a (by rintro rfl; exact absurd (Heap.lt_size e) (Nat.not_lt.mpr hAC))).trans (hA2.keep a x hx e)
      old := hA2.old
      gens := hA2.gens
      os := hA2.os
      ns := hA2.ns.sameBut hs' (Ne.symm hCL)
      offL := hA2.offL
      newL := hA2.newL
      mine := fun a x e => ?_ }
    have haL : a ≠ env.locals := by
      rintro rfl
      have haI : env.locals ≠ I := fun e' => (hA.mine I o (upd_self _ _ _)).2.2.1 e'.symm
      have := (hA.mine _ x (by rw [upd_ne _ haI]; exact e)).2.2.1
      exact this rfl
    obtain ⟨h1, h2, h3, h4⟩ := hA'.mine a x (hμ a x e)
    exact ⟨(hs'.2 a h3).trans h1, h2, haL, h4⟩
  exact hQ _ g' r hle hA3 hr

/-- y = [..] -/
theorem compAssign_ {α : Type} {elt target iter : Expr} {ifs : List Expr} {scope : Scope} {cl : List (Str × Addr)} {pos spos py : Pos} {y : Str} {Q : Flow → Shared → Prop}
    (hsw : swapsWith (.ListComp elt [⟨target, iter, ifs, 0⟩] scope pos) (some (.Name y py)) spos.line env = pure true)
    (hclos : closureFor scope env = pure cl) (hcell : ∀ y ∈ scope.names, y.2 ≠ .cell) (hkind : scope.kind = .function) (hnames : ∀ y ∈ scope.names, y.2 = .local → scope.names.lookup y.1 = some .local)
    (hy : env.kindOf y = some .local) (hk : env.scope.kind = .function)
    (hs : ∀ x, foldedSetIterable iter env x = pure x)
    (h : wpAny (model prog w) A (eval iter env) (fun xv s₁ => wpAny (model prog w) A (pyIter xv) (fun it s₂ => ∃ (items : List α) (enc : α → PyData) (f : α → Option PyData) (b : Shared) (s₀ : Shared) (g₀ : Kn) (fp : Addr → Prop) (m : Str → Option Value) (g μ : Kn) (I : Addr) (o : Obj) (St : Nat → Obj → Prop),
      it = .ref I ∧ Iter prog w A I g (items.map enc) St ∧ At b g₀ s₀ fp env.locals m g (upd μ I o) s₂ ∧ μ I = none ∧ St 0 o ∧ items.length ≤ 1000 ∧
      (∀ C a v mc g' μ' s', a ∈ items → Rd g' v (enc a) → g.le g' → (∀ x o, μ x = some o → μ' x = some o) → At b g₀ s₀ fp C mc g' μ' s' → CompTurn prog w A b g₀ s₀ fp (compEnvC scope cl C env) elt target ifs f a v mc g' μ' s') ∧
      (∀ s' g' r, g.le g' → At b g₀ s₀ fp env.locals (bnd m y r) g' μ s' → Ls g' r (items.filterMap f) → Q .next s')) E s₁) E s) :
    wpAny (model prog w) A (exec (.Assign [.Name y py] (.ListComp elt [⟨target, iter, ifs, 0⟩] scope pos) spos) env) Q E s := by
  rw [exec_Assign_Name_used _ _ _ _ hsw]
  refine wpAny_bind (wpAny_standAt (wpAny_bind ?_))
  show wpAny _ A (do let _ ← comprehension (.ListComp elt [⟨target, iter, ifs, 0⟩] scope pos) scope env _ (newList []) false (eval iter env) (some (assign (.Name y py) env))) _ _ s
  refine wpAny_bind (wpAny_mono (wpAny_comprehension_free (use := some (assign (.Name y py) env)) (Q := fun _ s' => Q .next s') rfl hs hclos hkind hnames
    (wpAny_mono h (fun xv s₁ h₁ => wpAny_mono h₁ (fun it s₂ h₂ => ?_) fun _ _ e => e) fun _ _ e => e)) (fun _ s' hq => wpAny_pure (wpAny_pure hq)) fun _ _ e => e)
  obtain ⟨items, enc, f, b, s₀, g₀, fp, m, g, μ, I, o, St, rfl, It, hA, hI, hst, hn, turn, hQ⟩ := h₂
  refine comp_core (RR := fun acc C => compPost (model prog w) A E (some (assign (.Name y py) env)) (fun _ s' => Q .next s') acc C) It hA hI hst hn hcell hkind turn ?_
  intro C mc g' μ' s' oL r hle hA' hr hoL hL' hμ
  have hA2 := hA'.outer hL' hA.ns hoL hA.newL
  have hCL : C ≠ env.locals := fun e => (hA'.mine _ _ hL').2.2.1 e.symm
  obtain ⟨oC, hoC⟩ := hA'.inNs
  have hAC := hA'.newL
  have hCs : s.heap.get? C = none ∨ True := .inr trivial
  -- the block's frame as an object of our own
  have hA2' : At b g₀ s₀ fp env.locals m g' (upd (wipe μ' env.locals) C oC) s' := hA2.own hoC hCL hA'.offL (.inr hAC)
  show wpAny _ A (assign (.Name y py) env r) _ _ _
  refine assignN_ hA2' hy hk rfl fun s3 hA3 => ?_
  have hC3 := hA3.mine C oC (upd_self _ _ _)
  refine ⟨mc, hA'.ns.at' (fun x e => by rw [hoC] at e; cases e; exact hC3.1), fun h' hs' => ?_⟩
  have hA4 : At b g₀ s₀ fp env.locals (bnd m y r) g' μ { s3 with heap := h' } := by
    refine {
      base := hA3.base
      le := hA3.le
      inn := fun a x e => (hs'.2 a (by rintro rfl; rw [hA'.offL] at e; cases e)).trans (hA3.inn a x e)
      keep := fun a x hx e => (hs'.2 a (by rintro rfl; exact absurd (Heap.lt_size e) (Nat.not_lt.mpr hAC))).trans (hA3.keep a x hx e)
      old := hA3.old
      gens := hA3.gens
      os := hA3.os
      ns := hA3.ns.sameBut hs' (Ne.symm hCL)
      offL := hA3.offL
      newL := hA3.newL
      mine := fun a x e => ?_ }
    have haL : a ≠ env.locals := by
      rintro rfl
      have haI : env.locals ≠ I := fun e' => (hA.mine I o (upd_self _ _ _)).2.2.1 e'.symm
      have := (hA.mine _ x (by rw [upd_ne _ haI]; exact e)).2.2.1
      exact this rfl
    obtain ⟨h1, h2, h3, h4⟩ := hA'.mine a x (hμ a x e)
    have ha3 := hA3.mine a x (by rw [upd_ne _ h3, wipe_ne haL]; exact hμ a x e)
    exact ⟨(hs'.2 a h3).trans ha3.1, h2, haL, h4⟩
  exact hQ _ g' r hle hA4 hr

/-! cells -/
theorem enterC {a : Addr} {fd : FuncData} {pos : List Value} {binds : List (Str × Value)} {Q : Value → Shared → Prop} {d u : Nat} {o : Obj}
    (R : Room A (d + 1) (u + 3)) (C : Cx w b.heap mg mb) (k : Know b g s) (ho : (hd.heap_39 w.params).lookup a = some o) (hdt : o.data = .func fd)
    (hcd : codeIn (hd.heap_39 w.params) fd.code fd.qualname = true) (hbody : fd.body = .stmts (stmtsOf fd)) (hclo : fd.closure = [])
    (hbind : bindArgs fd ⟨pos, []⟩ = pure binds) (hkind : ∀ x ∈ binds, fd.scope.names.lookup x.1 = some .local ∨ (fd.scope.names.lookup x.1 = some .cell ∧ ((cellsFrom (s.heap.objs.size + 1) fd.scope.names []).lookup x.1).isSome = true))
    (hμ : ∀ a o, μ a = some o → s.heap.get? a = some o ∧ g a = none ∧ fp a)
    (h : ∀ s₁ μ', At b g s fp s.heap.objs.size (bindL (callEnvC fd s.heap.objs.size a).kindOf binds fun _ => none) g μ' s₁ → (∀ n c, (cellsFrom (s.heap.objs.size + 1) fd.scope.names []).lookup n = some c → ∃ o, μ' c = some o ∧ o.data = .cell (bindC (callEnvC fd s.heap.objs.size a).kindOf binds (fun _ => none) n)) →
      (∀ x o, μ x = some o → μ' x = some o) → Room (A.deeper (callEnvC fd s.heap.objs.size a)) d u →
      wpAny (model prog w) (A.deeper (callEnvC fd s.heap.objs.size a)) (execs (stmtsOf fd) (callEnvC fd s.heap.objs.size a)) (fun f s' => Q (match f with | .ret v => v | _ => .none) s') (fun _ _ => False) s₁)
    (hco : fd.scope.isCoroutine = false := by rfl) (hgen : fd.scope.isGenerator = false := by rfl) (hk : fd.scope.kind = .function := by rfl) :
    wpAny (model prog w) A (call (.ref a) pos []) Q E s := by
  have Ks : Frag.In (hd.heap_39 w.params) s.heap := fun x y e => k.keeps x y (C.K x y e)
  refine wpAny_call (codeAny_call_cells (fd := fd) (body := stmtsOf fd) (binds := binds) (by have := R.depth; omega) (Ks _ _ ho) hdt (C.nolimit.keeps k.keeps) (codeRec_of Ks hcd) hbody hbind hclo hkind
    (fun s₁ x => ?_) hco hgen hk)
  obtain ⟨h', tk, rfl, hk'⟩ := x.done
  classical
  have hA := k.enter (tk := tk) (h₁ := h') (μ := μ) (fp := fp) x.toInCall.ns hk' hμ
  let μ' : Kn := fun y => if ∃ n, (n, y) ∈ cellsFrom (s.heap.objs.size + 1) fd.scope.names [] then h'.get? y else μ y
  have hab : ∀ n c, (n, c) ∈ cellsFrom (s.heap.objs.size + 1) fd.scope.names [] → s.heap.objs.size < c := fun n c hm => x.above n c hm
  have hA' : At b g s fp s.heap.objs.size (bindL (callEnvC fd s.heap.objs.size a).kindOf binds fun _ => none) g μ' { s with heap := h', toks := tk } := by
    refine ⟨hA.base, hA.le, hA.inn, hA.keep, hA.old, hA.gens, hA.os, hA.ns, hA.offL, hA.newL, fun y oy ey => ?_⟩
    by_cases hc : ∃ n, (n, y) ∈ cellsFrom (s.heap.objs.size + 1) fd.scope.names []
    · have e1 : h'.get? y = some oy := by
        have : μ' y = h'.get? y := if_pos hc
        rw [← this]; exact ey
      obtain ⟨n, hm⟩ := hc
      have hlt := hab n y hm
      refine ⟨e1, ?_, Nat.ne_of_gt hlt, .inr (Nat.le_of_lt hlt)⟩
      cases e : g y with
      | none => rfl
      | some z => exact absurd (Heap.lt_size (k.inn y z e)) (Nat.not_lt.mpr (Nat.le_of_lt hlt))
    · exact hA.mine y oy (by
        have : μ' y = μ y := if_neg hc
        rw [← this]; exact ey)
  refine wpAny_mono (h _ μ' hA' (fun n c hc => ?_) (fun y oy ey => ?_) (R.deeper _)) (fun _ _ q => q) (fun _ _ q => q.elim)
  · obtain ⟨oc, hoc, hdc⟩ := x.cell n c hc
    exact ⟨oc, by show (if _ then _ else _) = _; rw [if_pos ⟨n, mem_of_lookup hc⟩]; exact hoc, hdc⟩
  · show (if _ then _ else _) = _
    have hy := (hμ y oy ey).1
    rw [if_neg]
    · exact ey
    · rintro ⟨n, hm⟩
      exact absurd (Heap.lt_size hy) (Nat.not_lt.mpr (Nat.le_of_lt (hab n y hm)))

theorem nameC_ (h : At b g₀ s₀ fp L m g μ s) {x : Str} {pos : Pos} {v : Value} {c : Addr} {o : Obj} {Q : Value → Shared → Prop} (hl : env.kindOf x = some .cell) (hk : env.scope.kind = .function) (hc : env.cells.lookup x = some c)
    (ho : μ c = some o) (hd : o.data = .cell (some v)) (q : Q v s) (hb : (x == ("__debug__" : Str)) = false := by decide) : wpAny (model prog w) A (eval (.Name x pos) env) Q E s :=
  wpAny_Name (wpAny_loadName_cell hk hl hc ⟨o, (h.mine c o ho).1, hd⟩ q) hb
theorem storeC_ (h : At b g₀ s₀ fp L m g μ s) {x : Str} {v : Value} {c : Addr} {o : Obj} {v₀ : Option Value} {Q : Unit → Shared → Prop} (hl : env.kindOf x = some .cell) (hk : env.scope.kind = .function) (hc : env.cells.lookup x = some c)
    (ho : μ c = some o) (hd : o.data = .cell v₀) (q : ∀ s' o', o'.data = .cell (some v) → At b g₀ s₀ fp L m g (upd μ c o') s' → Q () s') : wpAny (model prog w) A (storeName env x v) Q E s :=
  wpAny_storeName_cell hk hl hc ⟨o, (h.mine c o ho).1, hd⟩ fun h' hv hs => let ⟨o', ho', hd'⟩ := hv; q _ o' hd' (h.set (tk := s.toks) ho hs ho')
end
end Mine

namespace Mine
noncomputable def behind (marks waits : List Cl) (c : Cl) : List Cl × List Cl :=
  if c.1 < 2 then (marks ++ [c], waits) else if c.1 == 2 then (marks, waits ++ [(0, c.2.1, c.2.2)]) else if c.1 == 3 then (marks ++ waits, [])
  else (marks.filter fun mk => !(mk.2.1.take c.2.1.length == c.2.1), waits)

theorem filter_map_aux (r : List Cl) (c : Cl) : (r.filter fun mk => !(mk.2.1.take c.2.1.length == c.2.1)).map encC = r.filterMap (fun mk => if mk.2.1.take c.2.1.length == c.2.1 then none else some (encC mk)) := by
  induction r with
  | nil => rfl
  | cons x r ih =>
    rw [List.filter_cons, List.filterMap_cons]
    cases ex : x.2.1.take c.2.1.length == c.2.1 with
    | true => simpa using ih
    | false => simpa using ih
section
variable {w : World} {b s s₀ : Shared} {mg mb : Str → Option Value} {prog : Program} {A : Around} {E : Value → Shared → Prop} {g₀ g μ : Kn} {fp : Addr → Prop} {L : Addr} {m : Str → Option Value} {env : Env}

theorem newTupleV_ (h : At b g₀ s₀ fp L m g μ s) {vs : List Value} {Q : Value → Shared → Prop} (q : ∀ s' g' a, g.le g' → g' a = some (tupObj vs 0) → At b g₀ s₀ fp L m g' μ s' → Q (.ref a) s')
    (hsz : vs.length ≤ 1000) : wpAny (model prog w) A (newTuple vs) Q E s :=
  wpAny_newObj_type (q _ _ _ (le_upd (h.freshG (Nat.le_refl _))) (upd_self _ _ _) (h.new (tupObj vs 0))) (by show vs.toArray.size ≤ sizeLine; rw [List.size_toArray, sizeLine_eq]; omega)

theorem ifs0_ {f : Expr → Bool → Sem (ForInStep Bool)} {Q : Bool → Shared → Prop} (h : Q true s) : wpAny (model prog w) A (forIn ([] : List Expr) true f) Q E s := by
  rw [List.forIn_nil]; exact wpAny_pure h
theorem ifs1_ {c : Expr} {Q : Bool → Shared → Prop} (h : wpAny (model prog w) A (isTrue c env (eval c env)) Q E s) :
    wpAny (model prog w) A (forIn [c] true fun c r => if r = true then do let ok ← isTrue c env (eval c env); pure (ForInStep.yield ok) else pure (ForInStep.yield r)) Q E s := by
  rw [List.forIn_cons, if_pos rfl]
  refine wpAny_bind (wpAny_bind (wpAny_mono h (fun v s' h' => wpAny_pure ?_) fun _ _ e => e))
  dsimp only
  rw [List.forIn_nil]
  exact wpAny_pure h'

noncomputable def PlaceK (k : Nat) (Q : Value → Shared → Prop) (v : Value) (s₁ : Shared) : Prop := ∃ b s₀ g₀ fp L m g μ ds d, At b g₀ s₀ fp L m g μ s₁ ∧ Rd g v (.tuple ds) ∧ ds.length ≤ 1000 ∧ ds[k]? = some d ∧ ∀ s' x, Rd g x d → At b g₀ s₀ fp L m g μ s' → Q x s'
theorem place_in {k : Nat} {Q : Value → Shared → Prop} {v : Value} {ds : List PyData} {d : PyData} (h : At b g₀ s₀ fp L m g μ s) (hr : Rd g v (.tuple ds)) (hsz : ds.length ≤ 1000) (hd : ds[k]? = some d) (q : ∀ s' x, Rd g x d → At b g₀ s₀ fp L m g μ s' → Q x s') : PlaceK k Q v s :=
  ⟨_, _, _, _, _, _, _, _, _, _, h, hr, hsz, hd, q⟩
/-- item k of a tuple under a name | a cell, a written place -/
theorem place_ {value : Expr} {k : Nat} {kd : Nat} {p pos : Pos} {Q : Value → Shared → Prop}
    (h : wpAny (model prog w) A (eval value env) (PlaceK k Q) E s) :
    wpAny (model prog w) A (eval (.Subscript value (.Constant (.int k) kd p) pos) env) Q E s := by
  refine Subscript_ (wpAny_mono h (fun v s₁ h₁ => ?_) fun _ _ e => e)
  obtain ⟨b, s₀, g₀, fp, L, m, g, μ, ds, d, hA, hr, hsz, hd, q⟩ := h₁
  refine int_ hA fun s2 t hA2 => ?_
  have hk : k < ds.length := by
    rcases Nat.lt_or_ge k ds.length with h | h
    · exact h
    · rw [List.getElem?_eq_none h] at hd; cases hd
  refine item_ hA2 hr (by omega) (by omega) (j := k) ?_ hd (fun x hx => q _ x hx hA2) (by intro _; rfl)
  unfold seqIndex?
  simp
  omega

set_option maxHeartbeats 1000000 in
theorem behind_ {v1 v2 v3 : Value} {marks waits : List Cl} {c : Cl} {Q : Value → Shared → Prop} (R : Room A 2 90) (C : Cx w b.heap mg mb) (k : Know b g s)
    (h1 : Ls g v1 (marks.map encC)) (h2 : Ls g v2 (waits.map encC)) (h3 : Rd g v3 (encC c)) (ok : OkW c.2.1) (oks : ∀ c ∈ marks, OkW c.2.1) (hl1 : marks.length ≤ 300) (hl2 : waits.length ≤ 300)
    (q : ∀ s' g' a u1 u2 n, Grown b g s (fun _ => False) g' s' → g' a = some (tupObj [u1, u2] n) → Ls g' u1 ((behind marks waits c).1.map encC) → Ls g' u2 ((behind marks waits c).2.map encC) → Q (.ref a) s') :
    wpAny (model prog w) A (call (.ref 94) [v1, v2, v3]) Q E s := by
  refine enterC (fd := fdAt w.params 94) (binds := [("marks", v1), ("waits", v2), ("call", v3)]) (fp := fun _ => False) (μ := fun _ => none) (d := 1) (u := 87) R C k rfl rfl (by kernel_rfl) rfl (by kernel_rfl) (by kernel_rfl)
    ?_ (fun _ _ e => nomatch e) fun s₁ μ₁ A₁ hcells _ R₁ => ?_
  · intro x hx
    rcases List.mem_cons.mp hx with rfl | hx
    · exact .inl (by kernel_rfl)
    rcases List.mem_cons.mp hx with rfl | hx
    · exact .inl (by kernel_rfl)
    rcases List.mem_cons.mp hx with rfl | hx
    · exact .inr ⟨by kernel_rfl, by kernel_rfl⟩
    cases hx
  obtain ⟨oc, hoc, hdc⟩ := hcells "call" (s.heap.objs.size + 1) (by kernel_rfl)
  have hdc : oc.data = .cell (some v3) := hdc.trans (by kernel_rfl)
  have hU : (A.deeper (callEnvC (fdAt w.params 94) s.heap.objs.size 94)).units + 64 < cLine := by have := R₁.units; omega
  -- call[0]
  have c0 : ∀ (g' μ' : Kn) (s' : Shared) (p : Pos) (p2 p3 : Pos) (Q : Value → Shared → Prop), g.le g' → At b g s (fun _ => False) s.heap.objs.size (bindL (callEnvC (fdAt w.params 94) s.heap.objs.size 94).kindOf [("marks", v1), ("waits", v2), ("call", v3)] fun _ => none) g' μ' s' →
      μ' (s.heap.objs.size + 1) = some oc → ∀ (j : Nat) (d : PyData), ([.int c.1, encW c.2.1, .int c.2.2] : List PyData)[j]? = some d →
      (∀ s'' x, Rd g' x d → At b g s (fun _ => False) s.heap.objs.size (bindL (callEnvC (fdAt w.params 94) s.heap.objs.size 94).kindOf [("marks", v1), ("waits", v2), ("call", v3)] fun _ => none) g' μ' s'' → Q x s'') →
      wpAny (model prog w) (A.deeper (callEnvC (fdAt w.params 94) s.heap.objs.size 94)) (eval (.Subscript (.Name "call" p) (.Constant (.int j) 0 p2) p3) (callEnvC (fdAt w.params 94) s.heap.objs.size 94)) Q (fun _ _ => False) s' := by
    intro g' μ' s' p p2 p3 Q hle A' ho' j d hd q
    refine place_ (k := j) ?_
    refine nameC_ A' (by kernel_rfl) (by kernel_rfl) (by kernel_rfl) ho' hdc ?_
    refine place_in A' (h3.mono hle) (by simp) hd fun s'' x hx A'' => q s'' x hx A''
  refine exCons_ (wpAny_If (cmpT_ ?_))
  refine c0 g μ₁ _ _ _ _ _ (Kn.le.refl _) A₁ hoc 0 _ rfl fun s2 x hx A₂ => ?_
  obtain ⟨t0, rfl⟩ := hx.intE
  refine int_ A₂ fun s3 t3 A₃ => ?_
  refine lt_int (wpAny_truthy_bool ?_)
  by_cases e1 : c.1 < 2
  · rw [decide_eq_true e1]
    simp only [if_true]
    refine exCons_ (retE_ ?_)
    refine tupE_ (argCons_ (binE_ ?_))
    refine name_ A₃ (by rfl) (by rfl) (by rfl) (by rfl) ?_
    refine List_ (argCons_ ?_)
    refine nameC_ A₃ (by kernel_rfl) (by kernel_rfl) (by kernel_rfl) hoc hdc ?_
    refine args_nil (newList_ A₃ (.cons h3 .nil) (fun s4 g4 v4 hle4 r4 A₄ => ?_) (by simp))
    refine addLst_ A₄ (h1.mono hle4) r4 (by simp; omega) fun s5 g5 v5 hle5 A₅ r5 => ?_
    refine argCons_ (name_ A₅ (by rfl) (by rfl) (by rfl) (by rfl) ?_)
    refine args_nil (newTupleV_ A₅ (fun s6 g6 a6 hle6 r6 A₆ => ?_) (by simp))
    have eb : behind marks waits c = (marks ++ [c], waits) := by unfold behind; rw [if_pos e1]
    rw [eb] at q
    exact q _ _ _ _ _ _ A₆.done r6 (by simpa using r5.mono hle6) (h2.mono (hle4.trans (hle5.trans hle6)))
  rw [decide_eq_false e1]
  simp only [Bool.false_eq_true, if_false]
  refine wpAny_execs_nil ?_
  refine exCons_ (wpAny_If (cmpT_ ?_))
  refine c0 g μ₁ _ _ _ _ _ (Kn.le.refl _) A₃ hoc 0 _ rfl fun s2 x hx A₂ => ?_
  obtain ⟨t1, rfl⟩ := hx.intE
  refine int_ A₂ fun s4 t4 A₄ => ?_
  refine eq_int (wpAny_truthy_bool ?_)
  cases e2 : c.1 == 2 with
  | true =>
    simp only [if_true]
    refine exCons_ (retE_ ?_)
    refine tupE_ (argCons_ ?_)
    refine name_ A₄ (by rfl) (by rfl) (by rfl) (by rfl) ?_
    refine argCons_ (binE_ ?_)
    refine name_ A₄ (by rfl) (by rfl) (by rfl) (by rfl) ?_
    refine List_ (argCons_ (tupE_ (argCons_ ?_)))
    refine int_ A₄ fun s5 t5 A₅ => ?_
    refine argCons_ (c0 g μ₁ _ _ _ _ _ (Kn.le.refl _) A₅ hoc 1 _ rfl fun s6 x6 hx6 A₆ => ?_)
    refine argCons_ (c0 g μ₁ _ _ _ _ _ (Kn.le.refl _) A₆ hoc 2 _ rfl fun s7 x7 hx7 A₇ => ?_)
    refine args_nil (newTuple_ A₇ (.cons (.int _ _) (.cons hx6 (.cons hx7 .nil))) (fun s8 g8 v8 hle8 r8 A₈ => ?_) (by simp))
    refine args_nil (newList_ A₈ (.cons r8 .nil) (fun s9 g9 v9 hle9 r9 A₉ => ?_) (by simp))
    refine addLst_ A₉ ((h2.mono hle8).mono hle9) r9 (by simp; omega) fun s10 g10 v10 hle10 B₁ r10 => ?_
    refine args_nil (newTupleV_ B₁ (fun s11 g11 a11 hle11 r11 B₂ => ?_) (by simp))
    have eb : behind marks waits c = (marks, waits ++ [(0, c.2.1, c.2.2)]) := by unfold behind; rw [if_neg e1, if_pos e2]
    rw [eb] at q
    exact q _ _ _ _ _ _ B₂.done r11 (h1.mono (hle8.trans (hle9.trans (hle10.trans hle11)))) (by simpa [encC] using r10.mono hle11)
  | false =>
    simp only [Bool.false_eq_true, if_false]
    refine wpAny_execs_nil ?_
    refine exCons_ (wpAny_If (cmpT_ ?_))
    refine c0 g μ₁ _ _ _ _ _ (Kn.le.refl _) A₄ hoc 0 _ rfl fun s5 x5 hx5 A₅ => ?_
    obtain ⟨t5, rfl⟩ := hx5.intE
    refine int_ A₅ fun s6 t6 A₆ => ?_
    refine eq_int (wpAny_truthy_bool ?_)
    cases e3 : c.1 == 3 with
    | true =>
      simp only [if_true]
      refine exCons_ (retE_ ?_)
      refine tupE_ (argCons_ (binE_ ?_))
      refine name_ A₆ (by rfl) (by rfl) (by rfl) (by rfl) ?_
      refine name_ A₆ (by rfl) (by rfl) (by rfl) (by rfl) ?_
      refine addLst_ A₆ h1 h2 (by simp; omega) fun s7 g7 v7 hle7 A₇ r7 => ?_
      refine argCons_ (List_ (args_nil (newList_ A₇ .nil (fun s8 g8 v8 hle8 r8 A₈ => ?_) (by simp))))
      refine args_nil (newTupleV_ A₈ (fun s9 g9 a9 hle9 r9 A₉ => ?_) (by simp))
      have eb : behind marks waits c = (marks ++ waits, []) := by unfold behind; rw [if_neg e1, if_neg (by rw [e2]; simp), if_pos e3]
      rw [eb] at q
      exact q _ _ _ _ _ _ A₉.done r9 (by simpa using (r7.mono hle8).mono hle9) (r8.mono hle9)
    | false =>
      simp only [Bool.false_eq_true, if_false]
      refine wpAny_execs_nil ?_
      refine exCons_ (retE_ ?_)
      refine tupE_ (argCons_ ?_)
      refine comp_ (α := Cl) (by rfl) (by decide) (by rfl) (by decide) (by intro _; rfl) ?_
      refine name_ A₆ (by rfl) (by rfl) (by rfl) (by rfl) ?_
      refine iterL_ R₁.hd A₆ h1 fun s7 I o St hI A₇ It hst => ?_
      refine ⟨marks, encC, fun mk => if mk.2.1.take c.2.1.length == c.2.1 then none else some (encC mk), _, _, _, _, _, _, μ₁, I, o, St, rfl, It, A₇, ?_, hst, by omega, ?_, ?_⟩
      · exact A₆.freshM (by omega)
      · intro C' mk v mc g' μ' s' hmem hr hle hμ B₁
        have okm := oks mk hmem
        have hoc' : μ' (s.heap.objs.size + 1) = some oc := hμ _ _ hoc
        unfold CompTurn
        refine assignN_ B₁ (by rfl) (by rfl) (by rfl) fun s8 B₂ => ?_
        refine wpAny_mono (E := fun _ _ => False) (Q := fun ok s' => ok = !(mk.2.1.take c.2.1.length == c.2.1) ∧ ∃ g'', g'.le g'' ∧ At b g s (fun _ => False) C' (bnd mc "mark" v) g'' μ' s') (ifs1_ ?_) (fun ok s9 h9 => ?_) (fun _ _ e => e.elim)
        · refine cmpT_ ?_
          refine slice_upto_ ?_
          refine place_ (k := 1) ?_
          refine name_ B₂ (by rfl) (by rfl) (by rfl) (by rfl) ?_
          refine place_in B₂ hr (by simp) rfl fun s10 x10 r10 B₃ => ?_
          refine len_tup_ C B₃.keeps (by rfl) (by rfl) (by rfl) (by rfl) (by rfl) ?_
          refine place_ (k := 1) ?_
          refine nameC_ B₃ (by kernel_rfl) (by kernel_rfl) (by kernel_rfl) hoc' hdc ?_
          refine place_in B₃ (h3.mono hle) (by simp) rfl fun s11 x11 r11 B₄ => ?_
          refine len_in B₄ r11 ?_ fun s12 t12 B₅ => ?_
          · have := ok.len; simp; omega
          refine upto_in B₅ r10 ?_ fun s13 g13 r13 hle13 B₆ hr13 => ?_
          · have := okm.len; simp; omega
          have et : (mk.2.1.map PyData.str).take (clipAt (mk.2.1.map PyData.str).length (c.2.1.map PyData.str).length) = (mk.2.1.take c.2.1.length).map PyData.str := by
            rw [clipAt_nat, List.map_take, List.length_map, List.length_map]
            rcases Nat.le_total c.2.1.length mk.2.1.length with h | h
            · rw [Nat.min_eq_left h]
            · rw [Nat.min_eq_right h, List.take_of_length_le (by simp), List.take_of_length_le (by simpa using h)]
          rw [et] at hr13
          refine place_ (k := 1) ?_
          refine nameC_ B₆ (by kernel_rfl) (by kernel_rfl) (by kernel_rfl) hoc' hdc ?_
          refine place_in B₆ (h3.mono (hle.trans hle13)) (by simp) rfl fun s14 x14 r14 B₇ => ?_
          have okt : OkW (mk.2.1.take c.2.1.length) := ⟨fun x hx => okm.names x (List.mem_of_mem_take hx), by have := okm.len; rw [List.length_take]; omega⟩
          refine ne_ B₇ hr13 r14 (shaped_W okt) (shaped_W ok) hU ?_
          have ee : PyData.eqv (PyData.tuple ((mk.2.1.take c.2.1.length).map PyData.str)) (encW c.2.1) = (mk.2.1.take c.2.1.length == c.2.1) := eqv_W _ _
          rw [ee]
          exact wpAny_truthy_bool ⟨rfl, g13, hle13, B₇⟩
        · obtain ⟨rfl, g'', hle', B₃⟩ := h9
          cases ec : mk.2.1.take c.2.1.length == c.2.1 with
          | true => exact ⟨by dsimp only; rw [if_pos ec], _, _, hle', B₃⟩
          | false =>
            refine name_ B₃ (by rfl) (by rfl) (by rfl) (by rfl) ?_
            exact ⟨_, _, _, hle', B₃, by dsimp only; rw [if_neg (by rw [ec]; simp)], hr.mono hle'⟩
      · intro s8 g8 r8 hle8 A₈ hr8
        refine argCons_ (name_ A₈ (by rfl) (by rfl) (by rfl) (by rfl) ?_)
        refine args_nil (newTupleV_ A₈ (fun s9 g9 a9 hle9 r9 A₉ => ?_) (by simp))
        have eb : behind marks waits c = (marks.filter fun mk => !(mk.2.1.take c.2.1.length == c.2.1), waits) := by unfold behind; rw [if_neg e1, if_neg (by rw [e2]; simp), if_neg (by rw [e3]; simp)]
        rw [eb] at q
        refine q _ _ _ _ _ _ A₉.done r9 ?_ (h2.mono (hle8.trans hle9))
        rw [filter_map_aux]
        exact hr8.mono hle9
end
end Mine

namespace Mine
noncomputable def differ (low high : Cl) (marks waits : List Cl) (way : Way) (flag : Int) : Bool :=
  if low.1 == 2 && high.1 == 3 then (way == low.2.1 && flag == low.2.2) && !(tells (marks ++ waits) way flag)
  else if high.1 == 4 && (low.1 == 0 || low.1 == 1 || low.1 == 3) then
    tells ((if low.1 == 3 then waits else [low]).filter fun mk => mk.2.1.take high.2.1.length == high.2.1) way flag && !(tells (marks.filter fun mk => decide (mk.2.1.length < high.2.1.length)) way flag)
  else false

theorem shaped_Q {w : Way} (h : OkW w) {flag : Int} : SeqAt.shaped (.tuple [encW w, .int flag]) = true := by
  have h0 := shaped_W h
  unfold SeqAt.shaped at h0 ⊢
  simp only [Bool.and_eq_true, decide_eq_true_eq] at h0 ⊢
  have h2 := depthAll_map w
  have hd : (encW w).depth ≤ 2 := by unfold encW; rw [PyData.depth]; omega
  refine ⟨?_, ?_⟩
  · rw [PyData.canLay0]; simp only [PyData.canLayAll0, h0.1, PyData.canLay0, Bool.and_self]
  · rw [PyData.depth]; simp only [PyData.depthAll, PyData.depth]; omega
theorem eqv_Q (w u : Way) (i j : Int) : PyData.eqv (.tuple [encW w, .int i]) (.tuple [encW u, .int j]) = (w == u && i == j) := by
  simp only [PyData.eqv, PyData.eqvAll, eqv_W, Bool.and_true]
theorem filter_enc (p : Cl → Bool) (r : List Cl) : (r.filter p).map encC = r.filterMap (fun mk => if p mk then some (encC mk) else none) := by
  induction r with
  | nil => rfl
  | cons x r ih =>
    rw [List.filter_cons, List.filterMap_cons]
    cases ex : p x with
    | true => simpa using ih
    | false => simpa using ih

section
variable {w : World} {b s s₀ : Shared} {mg mb : Str → Option Value} {prog : Program} {A : Around} {E : Value → Shared → Prop} {g₀ g μ : Kn} {fp : Addr → Prop} {L : Addr} {m : Str → Option Value} {env : Env}

/-- a def of the text called by its name -/
theorem callG_ {x : Str} {f : Addr} {p pos : Pos} {e : Expr} {args : List Expr} {o : Obj} {fd : FuncData} {Q : Value → Shared → Prop} (C : Cx w b.heap mg mb) (h : At b g₀ s₀ fp L m g μ s)
    (hl : env.kindOf x = some .globalImplicit) (hk : env.scope.kind = .function) (hG : env.globals = mainGlobals) (hv : nsIn (hd.heap_39 w.params) mainGlobals x = some (some (.ref f))) (hd' : (x == ("__debug__" : Str)) = false)
    (ho : (hd.heap_39 w.params).lookup f = some o) (hdat : o.data = .func fd) (he : starEach (e :: args) env = (false, eval e env) :: starEach args env)
    (q : wpAny (model prog w) A (spliced (backTo pos (starEach (e :: args) env))) (fun vs s₁ => (∀ a o, b.heap.get? a = some o → s₁.heap.get? a = some o) ∧ wpAny (model prog w) A (call (.ref f) vs) Q E s₁) E s) :
    wpAny (model prog w) A (eval (.Call (.Name x p) (e :: args) [] pos) env) Q E s := by
  refine Call_Name rfl (global_ C h hl hk hG hv ?_ hd')
  exact callWith_meth (h₀ := b.heap) hdat (C.K _ _ ho) q he

theorem and_ {e₁ e₂ : Expr} {pos : Pos} {Q : Value → Shared → Prop} {c : Bool}
    (h : wpAny (model prog w) A (eval e₁ env) (fun v s₁ => v = .bool c ∧ (c = false → Q (.bool false) s₁) ∧ (c = true → wpAny (model prog w) A (eval e₂ env) Q E s₁)) E s) :
    wpAny (model prog w) A (eval (.BoolOp .And [e₁, e₂] pos) env) Q E s := by
  refine BoolOp_and (wpAny_mono h (fun v s₁ h₁ => ?_) fun _ _ e => e)
  obtain ⟨rfl, h1, h2⟩ := h₁
  refine wpAny_truthy_bool ?_
  cases c with
  | false => exact h1 rfl
  | true => exact BoolOp_one (h2 rfl)
theorem not_ {e : Expr} {pos : Pos} {Q : Value → Shared → Prop} (h : wpAny (model prog w) A (eval e env) (fun v s₁ => ∃ c, v = .bool c ∧ Q (.bool (!c)) s₁) E s) : wpAny (model prog w) A (eval (.UnaryOp .Not e pos) env) Q E s := by
  refine wpAny_UnaryOp (wpAny_mono h (fun v s₁ h₁ => ?_) fun _ _ e => e)
  obtain ⟨c, rfl, h1⟩ := h₁
  exact not_of (wpAny_truthy_bool h1)

theorem bothIn {x : Int} {t : Tok} {ns : List Int} {v : Value} {Q : Value → Shared → Prop} (h : At b g₀ s₀ fp L m g μ s) (hv : Rd g v (.tuple (ns.map .int))) (q : Q (.bool (ns.any (· == x))) s) : wpAny (model prog w) A (compareOp .In (.int x t) v) Q E s := by
  obtain ⟨a, vs, n, rfl, hg, hr⟩ := hv.tupE
  have hi : IntsAre vs ns := by
    clear hg q hv
    induction ns generalizing vs with
    | nil => cases hr; exact .nil
    | cons i r ih =>
      cases hr with
      | cons r1 r2 =>
        obtain ⟨t, rfl⟩ := r1.intE
        exact .cons _ _ (ih _ r2)
  exact in_tuple_ints (h.isTup hg) (by simpa using hi) q

set_option maxHeartbeats 2000000 in
theorem differ_ {v1 v2 v3 v4 v5 v6 : Value} {low high : Cl} {marks waits : List Cl} {way : Way} {flag : Int} {Q : Value → Shared → Prop} (R : Room A 4 100) (C : Cx w b.heap mg mb) (k : Know b g s)
    (h1 : Rd g v1 (encC low)) (h2 : Rd g v2 (encC high)) (h3 : Ls g v3 (marks.map encC)) (h4 : Ls g v4 (waits.map encC)) (h5 : Rd g v5 (encW way)) (h6 : Rd g v6 (.int flag))
    (ok1 : OkW low.2.1) (ok2 : OkW high.2.1) (oks : ∀ c ∈ marks, OkW c.2.1) (oks' : ∀ c ∈ waits, OkW c.2.1) (okw : OkW way) (hl1 : marks.length ≤ 300) (hl2 : waits.length ≤ 300)
    (q : ∀ s', Kept b s s' → Q (.bool (differ low high marks waits way flag)) s') :
    wpAny (model prog w) A (call (.ref 99) [v1, v2, v3, v4, v5, v6]) Q E s := by
  refine enterC (fd := fdAt w.params 99) (binds := [("low", v1), ("high", v2), ("marks", v3), ("waits", v4), ("way", v5), ("flag", v6)]) (fp := fun _ => False) (μ := fun _ => none) (d := 3) (u := 97) R C k rfl rfl (by kernel_rfl) rfl (by kernel_rfl) (by kernel_rfl)
    ?_ (fun _ _ e => nomatch e) fun s₁ μ₁ A₁ hcells _ R₁ => ?_
  · have all : ([("low", v1), ("high", v2), ("marks", v3), ("waits", v4), ("way", v5), ("flag", v6)] : List (Str × Value)).all (fun x => (fdAt w.params 99).scope.names.lookup x.1 == some .local) = true := by kernel_rfl
    intro x hx
    exact .inl (by simpa using List.all_eq_true.mp all x hx)
  obtain ⟨oc, hoc, hdc⟩ := hcells "top" (s.heap.objs.size + 1) (by kernel_rfl)
  have hdc : oc.data = .cell none := hdc.trans (by kernel_rfl)
  have hU : (A.deeper (callEnvC (fdAt w.params 99) s.heap.objs.size 99)).units + 64 < cLine := by have := R₁.units; omega
  have m1 : bindL (callEnvC (fdAt w.params 99) s.heap.objs.size 99).kindOf [("low", v1), ("high", v2), ("marks", v3), ("waits", v4), ("way", v5), ("flag", v6)] (fun _ => none) "low" = some v1 := by kernel_rfl
  have m2 : bindL (callEnvC (fdAt w.params 99) s.heap.objs.size 99).kindOf [("low", v1), ("high", v2), ("marks", v3), ("waits", v4), ("way", v5), ("flag", v6)] (fun _ => none) "high" = some v2 := by kernel_rfl
  have m3 : bindL (callEnvC (fdAt w.params 99) s.heap.objs.size 99).kindOf [("low", v1), ("high", v2), ("marks", v3), ("waits", v4), ("way", v5), ("flag", v6)] (fun _ => none) "marks" = some v3 := by kernel_rfl
  have m4 : bindL (callEnvC (fdAt w.params 99) s.heap.objs.size 99).kindOf [("low", v1), ("high", v2), ("marks", v3), ("waits", v4), ("way", v5), ("flag", v6)] (fun _ => none) "waits" = some v4 := by kernel_rfl
  have m5 : bindL (callEnvC (fdAt w.params 99) s.heap.objs.size 99).kindOf [("low", v1), ("high", v2), ("marks", v3), ("waits", v4), ("way", v5), ("flag", v6)] (fun _ => none) "way" = some v5 := by kernel_rfl
  have m6 : bindL (callEnvC (fdAt w.params 99) s.heap.objs.size 99).kindOf [("low", v1), ("high", v2), ("marks", v3), ("waits", v4), ("way", v5), ("flag", v6)] (fun _ => none) "flag" = some v6 := by kernel_rfl
  generalize bindL (callEnvC (fdAt w.params 99) s.heap.objs.size 99).kindOf [("low", v1), ("high", v2), ("marks", v3), ("waits", v4), ("way", v5), ("flag", v6)] (fun _ => none) = m at A₁ m1 m2 m3 m4 m5 m6
  refine exCons_ (wpAny_If ?_)
  -- the first test
  refine wpAny_mono (E := fun _ _ => False) (Q := fun v s' => v = (low.1 == 2 && high.1 == 3) ∧ At b g s (fun _ => False) s.heap.objs.size m g μ₁ s') ?_ (fun v s2 hv2 => ?_) (fun _ _ e => e.elim)
  · refine isTrue_and (cmpT_ (place_ (k := 0) ?_))
    refine name_ A₁ (by rfl) (by rfl) (by rfl) m1 ?_
    refine place_in A₁ h1 (by simp) rfl fun s2 x2 r2 A₂ => ?_
    obtain ⟨t2, rfl⟩ := r2.intE
    refine int_ A₂ fun s3 t3 A₃ => eq_int (wpAny_truthy_bool ?_)
    cases e1 : low.1 == 2 with
    | false => exact ⟨by rw [Bool.false_and], A₃⟩
    | true =>
      simp only [if_true, Bool.true_and]
      refine isTrue_and (cmpT_ (place_ (k := 0) ?_))
      refine name_ A₃ (by rfl) (by rfl) (by rfl) m2 ?_
      refine place_in A₃ h2 (by simp) rfl fun s4 x4 r4 A₄ => ?_
      obtain ⟨t4, rfl⟩ := r4.intE
      refine int_ A₄ fun s5 t5 A₅ => eq_int (wpAny_truthy_bool ?_)
      cases e2 : high.1 == 3 with
      | false => exact ⟨rfl, A₅⟩
      | true => exact isTrue_and_nil ⟨rfl, A₅⟩
  obtain ⟨rfl, A₂⟩ := hv2
  cases e12 : low.1 == 2 && high.1 == 3 with
  | true =>
    simp only [if_true]
    have eD : differ low high marks waits way flag = ((way == low.2.1 && flag == low.2.2) && !(tells (marks ++ waits) way flag)) := by unfold differ; rw [if_pos e12]
    rw [eD] at q
    refine exCons_ (retE_ ?_)
    refine and_ (c := (way == low.2.1 && flag == low.2.2)) (cmpE_ ?_)
    refine tupE_ (argCons_ (name_ A₂ (by rfl) (by rfl) (by rfl) m5 ?_))
    refine argCons_ (name_ A₂ (by rfl) (by rfl) (by rfl) m6 ?_)
    refine args_nil (newTuple_ A₂ (.cons h5 (.cons h6 .nil)) (fun s3 g3 w3 hle3 r3 A₃ => ?_) (by simp))
    refine tupE_ (argCons_ (place_ (k := 1) ?_))
    refine name_ A₃ (by rfl) (by rfl) (by rfl) m1 ?_
    refine place_in A₃ (h1.mono hle3) (by simp) rfl fun s4 x4 r4 A₄ => ?_
    refine argCons_ (place_ (k := 2) ?_)
    refine name_ A₄ (by rfl) (by rfl) (by rfl) m1 ?_
    refine place_in A₄ (h1.mono hle3) (by simp) rfl fun s5 x5 r5 A₅ => ?_
    refine args_nil (newTuple_ A₅ (.cons r4 (.cons r5 .nil)) (fun s6 g6 w6 hle6 r6 A₆ => ?_) (by simp))
    have sh1 := shaped_Q okw (flag := flag)
    have sh2 := shaped_Q ok1 (flag := low.2.2)
    refine eq_ A₆ (r3.mono hle6) r6 sh1 sh2 hU ?_
    have ee : PyData.eqv (.tuple [encW way, .int flag]) (.tuple [encW low.2.1, .int low.2.2]) = (way == low.2.1 && flag == low.2.2) := eqv_Q _ _ _ _
    rw [ee]
    refine ⟨rfl, fun ef => ?_, fun et => ?_⟩
    · have := q s6 (Kept.of_grown k A₆.done)
      rw [ef, Bool.false_and] at this
      exact this
    rw [et, Bool.true_and] at q
    have hle : g.le g6 := hle3.trans hle6
    refine not_ ?_
    refine callG_ C A₆ (by rfl) (by rfl) (by rfl) (by rfl) (by decide) (by rfl) (by rfl) (by rfl) ?_
    refine argCons_ (binE_ ?_)
    refine name_ A₆ (by rfl) (by rfl) (by rfl) m3 ?_
    refine name_ A₆ (by rfl) (by rfl) (by rfl) m4 ?_
    refine addLst_ A₆ (h3.mono hle) (h4.mono hle) (by simp; omega) fun s7 g7 w7 hle7 A₇ r7 => ?_
    refine argCons_ (name_ A₇ (by rfl) (by rfl) (by rfl) m5 ?_)
    refine argCons_ (name_ A₇ (by rfl) (by rfl) (by rfl) m6 (args_nil ⟨A₇.keeps, ?_⟩))
    refine tells_ (marks := marks ++ waits) (R₁.less (by omega) (by omega)) C A₇.know (by simpa using r7) (h5.mono (hle.trans hle7)) (h6.mono (hle.trans hle7)) okw (fun c hc => (List.mem_append.mp hc).elim (oks c) (oks' c)) fun s8 K8 => ?_
    exact ⟨_, rfl, q s8 (Kept.of_grown k (A₇.kept K8).done)⟩
  | false =>
    simp only [Bool.false_eq_true, if_false]
    refine wpAny_execs_nil ?_
    refine exCons_ (wpAny_If ?_)
    refine wpAny_mono (E := fun _ _ => False) (Q := fun v s' => v = (high.1 == 4 && (low.1 == 0 || low.1 == 1 || low.1 == 3)) ∧ ∃ g', g.le g' ∧ At b g s (fun _ => False) s.heap.objs.size m g' μ₁ s') ?_ (fun v s2 hv2 => ?_) (fun _ _ e => e.elim)
    · refine isTrue_and (cmpT_ (place_ (k := 0) ?_))
      refine name_ A₂ (by rfl) (by rfl) (by rfl) m2 ?_
      refine place_in A₂ h2 (by simp) rfl fun s2 x2 r2 A₃ => ?_
      obtain ⟨t2, rfl⟩ := r2.intE
      refine int_ A₃ fun s3 t3 A₄ => eq_int (wpAny_truthy_bool ?_)
      cases e1 : high.1 == 4 with
      | false => exact ⟨by rw [Bool.false_and], g, Kn.le.refl _, A₄⟩
      | true =>
        simp only [if_true, Bool.true_and]
        refine isTrue_and (cmpT_ (place_ (k := 0) ?_))
        refine name_ A₄ (by rfl) (by rfl) (by rfl) m1 ?_
        refine place_in A₄ h1 (by simp) rfl fun s4 x4 r4 A₅ => ?_
        obtain ⟨t4, rfl⟩ := r4.intE
        refine tupE_ (argCons_ (int_ A₅ fun s5 t5 A₆ => ?_))
        refine argCons_ (int_ A₆ fun s6 t6 A₇ => ?_)
        refine argCons_ (int_ A₇ fun s7 t7 A₈ => ?_)
        refine args_nil (newTuple_ A₈ (.cons (.int _ _) (.cons (.int _ _) (.cons (.int _ _) .nil))) (fun s8 g8 w8 hle8 r8 A₉ => ?_) (by simp))
        refine bothIn (ns := [0, 1, 3]) A₉ r8 (wpAny_truthy_bool ?_)
        have ei : (([0, 1, 3] : List Int).any fun x => x == low.1) = (low.1 == 0 || low.1 == 1 || low.1 == 3) := by
          simp only [List.any_cons, List.any_nil, Bool.or_false, ← Bool.or_assoc]
          rw [Bool.beq_comm (a := (0 : Int)), Bool.beq_comm (a := (1 : Int)), Bool.beq_comm (a := (3 : Int))]
        rw [ei]
        cases e2 : (low.1 == 0 || low.1 == 1 || low.1 == 3) with
        | false => exact ⟨rfl, g8, hle8, A₉⟩
        | true => exact isTrue_and_nil ⟨rfl, g8, hle8, A₉⟩
    obtain ⟨rfl, g3, hle3, A₃⟩ := hv2
    cases e34 : high.1 == 4 && (low.1 == 0 || low.1 == 1 || low.1 == 3) with
    | false =>
      simp only [Bool.false_eq_true, if_false]
      have eD : differ low high marks waits way flag = false := by unfold differ; rw [if_neg (by rw [e12]; simp), if_neg (by rw [e34]; simp)]
      rw [eD] at q
      refine wpAny_execs_nil ?_
      exact exCons_ (retE_ (bool_ (q _ (Kept.of_grown k A₃.done))))
    | true =>
      simp only [if_true]
      have eD : differ low high marks waits way flag = (tells ((if low.1 == 3 then waits else [low]).filter fun mk => mk.2.1.take high.2.1.length == high.2.1) way flag && !(tells (marks.filter fun mk => decide (mk.2.1.length < high.2.1.length)) way flag)) := by
        unfold differ; rw [if_neg (by rw [e12]; simp), if_pos e34]
      rw [eD] at q
      refine exCons_ (asgName_ ?_)
      refine place_ (k := 1) ?_
      refine name_ A₃ (by rfl) (by rfl) (by rfl) m2 ?_
      refine place_in A₃ (h2.mono hle3) (by simp) rfl fun s4 xt rt A₄ => ?_
      refine storeC_ A₄ (by kernel_rfl) (by kernel_rfl) (by kernel_rfl) hoc hdc fun s5 ot hdt A₅ => ?_
      refine exCons_ ?_
      refine compAssign_ (α := Cl) (by kernel_rfl) (by rfl) (by decide) (by rfl) (by decide) (by rfl) (by rfl) (by intro _; rfl) ?_
      generalize hsrc : (if low.1 == 3 then waits else [low]) = src at q
      have oksrc : ∀ c ∈ src, OkW c.2.1 := by
        rw [← hsrc]
        split
        · exact oks'
        · intro c hc; rw [List.mem_singleton.mp hc]; exact ok1
      have hlsrc : src.length ≤ 300 := by
        rw [← hsrc]
        split
        · exact hl2
        · simp
      have hot : ∀ o, (upd μ₁ (s.heap.objs.size + 1) ot) (s.heap.objs.size + 1) = some o → o = ot := fun o e => by rw [upd_self] at e; cases e; rfl
      refine wpAny_mono (E := fun _ _ => False) (Q := fun xv s' => ∃ g', g3.le g' ∧ At b g s (fun _ => False) s.heap.objs.size m g' (upd μ₁ (s.heap.objs.size + 1) ot) s' ∧ Ls g' xv (src.map encC)) (wpAny_IfExp ?_) (fun xv s6 h6' => ?_) (fun _ _ e => e.elim)
      · refine cmpT_ (place_ (k := 0) ?_)
        refine name_ A₅ (by rfl) (by rfl) (by rfl) m1 ?_
        refine place_in A₅ (h1.mono hle3) (by simp) rfl fun s6 x6 r6 A₆ => ?_
        obtain ⟨t6, rfl⟩ := r6.intE
        refine int_ A₆ fun s7 t7 A₇ => eq_int (wpAny_truthy_bool ?_)
        cases e3 : low.1 == 3 with
        | true =>
          simp only [if_true]
          refine name_ A₇ (by rfl) (by rfl) (by rfl) m4 ?_
          exact ⟨g3, Kn.le.refl _, A₇, by rw [← hsrc, if_pos e3]; exact h4.mono hle3⟩
        | false =>
          simp only [Bool.false_eq_true, if_false]
          refine List_ (argCons_ (name_ A₇ (by rfl) (by rfl) (by rfl) m1 (args_nil ?_)))
          refine newList_ A₇ (.cons (h1.mono hle3) .nil) (fun s8 g8 w8 hle8 r8 A₈ => ?_) (by simp)
          exact ⟨g8, hle8, A₈, by rw [← hsrc, if_neg (by rw [e3]; simp)]; exact r8⟩
      obtain ⟨g6, hle6, A₆, hxv⟩ := h6'
      refine iterL_ R₁.hd A₆ hxv fun s7 I o St hI A₇ It hst => ?_
      have hle36 := hle3.trans hle6
      refine ⟨src, encC, fun mk => if mk.2.1.take high.2.1.length == high.2.1 then some (encC mk) else none, _, _, _, _, _, _, _, I, o, St, rfl, It, A₇, A₆.freshM (by omega), hst, by omega, ?_, ?_⟩
      · intro C' mk v mc g' μ' s' hmem hr hle hμ B₁
        have okm := oksrc mk hmem
        have hoc' : μ' (s.heap.objs.size + 1) = some ot := hμ _ _ (upd_self _ _ _)
        have rt' : Rd g' xt (encW high.2.1) := rt.mono (hle6.trans hle)
        unfold CompTurn
        refine assignN_ B₁ (by rfl) (by rfl) (by rfl) fun s8 B₂ => ?_
        refine wpAny_mono (E := fun _ _ => False) (Q := fun ok s' => ok = (mk.2.1.take high.2.1.length == high.2.1) ∧ ∃ g'', g'.le g'' ∧ At b g s (fun _ => False) C' (bnd mc "mark" v) g'' μ' s') (ifs1_ ?_) (fun ok s9 h9 => ?_) (fun _ _ e => e.elim)
        · refine cmpT_ ?_
          refine slice_upto_ ?_
          refine place_ (k := 1) ?_
          refine name_ B₂ (by rfl) (by rfl) (by rfl) (by rfl) ?_
          refine place_in B₂ hr (by simp) rfl fun s10 x10 r10 B₃ => ?_
          refine len_tup_ C B₃.keeps (by rfl) (by rfl) (by rfl) (by rfl) (by rfl) ?_
          refine nameC_ B₃ (by kernel_rfl) (by kernel_rfl) (by kernel_rfl) hoc' hdt ?_
          refine len_in B₃ rt' ?_ fun s12 t12 B₅ => ?_
          · have := ok2.len; simp; omega
          refine upto_in B₅ r10 ?_ fun s13 g13 r13 hle13 B₆ hr13 => ?_
          · have := okm.len; simp; omega
          have et : (mk.2.1.map PyData.str).take (clipAt (mk.2.1.map PyData.str).length (high.2.1.map PyData.str).length) = (mk.2.1.take high.2.1.length).map PyData.str := by
            rw [clipAt_nat, List.map_take, List.length_map, List.length_map]
            rcases Nat.le_total high.2.1.length mk.2.1.length with h | h
            · rw [Nat.min_eq_left h]
            · rw [Nat.min_eq_right h, List.take_of_length_le (by simp), List.take_of_length_le (by simpa using h)]
          rw [et] at hr13
          refine nameC_ B₆ (by kernel_rfl) (by kernel_rfl) (by kernel_rfl) hoc' hdt ?_
          have okt : OkW (mk.2.1.take high.2.1.length) := ⟨fun x hx => okm.names x (List.mem_of_mem_take hx), by have := okm.len; rw [List.length_take]; omega⟩
          refine eq_ B₆ hr13 (rt'.mono hle13) (shaped_W okt) (shaped_W ok2) hU ?_
          have ee : PyData.eqv (PyData.tuple ((mk.2.1.take high.2.1.length).map PyData.str)) (encW high.2.1) = (mk.2.1.take high.2.1.length == high.2.1) := eqv_W _ _
          rw [ee]
          exact wpAny_truthy_bool ⟨rfl, g13, hle13, B₆⟩
        · obtain ⟨rfl, g'', hle', B₃⟩ := h9
          cases ec : mk.2.1.take high.2.1.length == high.2.1 with
          | false => exact ⟨by dsimp only; rw [if_neg (by rw [ec]; simp)], _, _, hle', B₃⟩
          | true =>
            refine name_ B₃ (by rfl) (by rfl) (by rfl) (by rfl) ?_
            exact ⟨_, _, _, hle', B₃, by dsimp only; rw [if_pos ec], hr.mono hle'⟩
      · intro s8 g8 r8 hle8 A₈ hr8
        rw [← filter_enc] at hr8
        generalize hlaid : src.filter (fun mk => mk.2.1.take high.2.1.length == high.2.1) = laid at hr8 q
        have oklaid : ∀ c ∈ laid, OkW c.2.1 := fun c hc => oksrc c (by rw [← hlaid] at hc; exact (List.mem_filter.mp hc).1)
        have hle48 : g3.le g8 := hle6.trans hle8
        refine exCons_ ?_
        refine compAssign_ (α := Cl) (by kernel_rfl) (by rfl) (by decide) (by rfl) (by decide) (by rfl) (by rfl) (by intro _; rfl) ?_
        refine name_ A₈ (by rfl) (by rfl) (by rfl) (by exact m3) ?_
        refine iterL_ R₁.hd A₈ (h3.mono (hle3.trans hle48)) fun s9 I2 o2 St2 hI2 A₉ It2 hst2 => ?_
        refine ⟨marks, encC, fun mk => if decide (mk.2.1.length < high.2.1.length) then some (encC mk) else none, _, _, _, _, _, _, _, I2, o2, St2, rfl, It2, A₉, A₈.freshM (by omega), hst2, by omega, ?_, ?_⟩
        · intro C' mk v mc g' μ' s' hmem hr hle hμ B₁
          have okm := oks mk hmem
          have hoc' : μ' (s.heap.objs.size + 1) = some ot := hμ _ _ (upd_self _ _ _)
          have rt' : Rd g' xt (encW high.2.1) := rt.mono (hle48.trans hle)
          unfold CompTurn
          refine assignN_ B₁ (by rfl) (by rfl) (by rfl) fun s10 B₂ => ?_
          refine wpAny_mono (E := fun _ _ => False) (Q := fun ok s' => ok = decide (mk.2.1.length < high.2.1.length) ∧ At b g s (fun _ => False) C' (bnd mc "mark" v) g' μ' s') (ifs1_ ?_) (fun ok s9 h9 => ?_) (fun _ _ e => e.elim)
          · refine cmpT_ ?_
            refine len_tup_ C B₂.keeps (by rfl) (by rfl) (by rfl) (by rfl) (by rfl) ?_
            refine place_ (k := 1) ?_
            refine name_ B₂ (by rfl) (by rfl) (by rfl) (by rfl) ?_
            refine place_in B₂ hr (by simp) rfl fun s10 x10 r10 B₃ => ?_
            refine len_in B₃ r10 ?_ fun s12 t12 B₅ => ?_
            · have := okm.len; simp; omega
            refine len_tup_ C B₅.keeps (by rfl) (by rfl) (by rfl) (by rfl) (by rfl) ?_
            refine nameC_ B₅ (by kernel_rfl) (by kernel_rfl) (by kernel_rfl) hoc' hdt ?_
            refine len_in B₅ rt' ?_ fun s13 t13 B₆ => ?_
            · have := ok2.len; simp; omega
            refine lt_int (wpAny_truthy_bool ⟨?_, B₆⟩)
            simp
          · obtain ⟨rfl, B₃⟩ := h9
            cases ec : decide (mk.2.1.length < high.2.1.length) with
            | false => exact ⟨by dsimp only; rw [if_neg (by rw [ec]; simp)], _, _, Kn.le.refl _, B₃⟩
            | true =>
              refine name_ B₃ (by rfl) (by rfl) (by rfl) (by rfl) ?_
              exact ⟨_, _, _, Kn.le.refl _, B₃, by dsimp only; rw [if_pos ec], hr⟩
        · intro s10 g10 r10 hle10 B₁ hr10
          rw [← filter_enc] at hr10
          generalize habove : marks.filter (fun mk => decide (mk.2.1.length < high.2.1.length)) = above at hr10 q
          have okabove : ∀ c ∈ above, OkW c.2.1 := fun c hc => oks c (by rw [← habove] at hc; exact (List.mem_filter.mp hc).1)
          have hle0 : g.le g10 := hle3.trans (hle48.trans hle10)
          refine exCons_ (retE_ ?_)
          refine and_ (c := tells laid way flag) ?_
          refine callG_ C B₁ (by rfl) (by rfl) (by rfl) (by rfl) (by decide) (by rfl) (by rfl) (by rfl) ?_
          refine argCons_ (name_ B₁ (by rfl) (by rfl) (by rfl) (by rfl) ?_)
          refine argCons_ (name_ B₁ (by rfl) (by rfl) (by rfl) (by exact m5) ?_)
          refine argCons_ (name_ B₁ (by rfl) (by rfl) (by rfl) (by exact m6) (args_nil ⟨B₁.keeps, ?_⟩))
          refine tells_ (marks := laid) (R₁.less (by omega) (by omega)) C B₁.know (hr8.mono hle10) (h5.mono hle0) (h6.mono hle0) okw oklaid fun s11 K11 => ?_
          have B₂ := B₁.kept K11
          refine ⟨rfl, fun ef => ?_, fun et => ?_⟩
          · have := q s11 (Kept.of_grown k B₂.done)
            rw [ef, Bool.false_and] at this
            exact this
          rw [et, Bool.true_and] at q
          refine not_ ?_
          refine callG_ C B₂ (by rfl) (by rfl) (by rfl) (by rfl) (by decide) (by rfl) (by rfl) (by rfl) ?_
          refine argCons_ (name_ B₂ (by rfl) (by rfl) (by rfl) (by rfl) ?_)
          refine argCons_ (name_ B₂ (by rfl) (by rfl) (by rfl) (by exact m5) ?_)
          refine argCons_ (name_ B₂ (by rfl) (by rfl) (by rfl) (by exact m6) (args_nil ⟨B₂.keeps, ?_⟩))
          refine tells_ (marks := above) (R₁.less (by omega) (by omega)) C B₂.know hr10 (h5.mono hle0) (h6.mono hle0) okw okabove fun s12 K12 => ?_
          exact ⟨_, rfl, q s12 (Kept.of_grown k (B₂.kept K12).done)⟩
end
end Mine

namespace Mine

structure TRec where
  nd : Addr
  fl : Addr
  rc : Addr
  ne : Addr
noncomputable abbrev Tree := Way → Option TRec
noncomputable def lvl (T : Tree) (root : Addr) (p : Way) : Option Addr := if p = [] then some root else (T p).map (·.ne)
inductive Own
  | lev (p : Way)
  | fl (p : Way)
  | rc (p : Way)
  | pend

noncomputable def SetIs (prog : Program) (w : World) (o : Obj) (S : Int → Bool) (n : Nat) : Prop :=
  ∃ es ep t, o.ExactSet ∧ o.data = .set es ep t ∧ ElemsOf (intKind prog w) es.toList ∧ (∀ k, S k = true ↔ ∃ e, e ∈ es.toList ∧ (intKind prog w).is k e.2 = true) ∧ es.size < scanBound ∧ t.fits es.size = true ∧ es.size = n
theorem SetIs.at {prog : Program} {w : World} {o : Obj} {S : Int → Bool} {n : Nat} (h : SetIs prog w o S n) {hp : Heap} {a : Addr} (ho : hp.get? a = some o) : hp.SetOf (intKind prog w) a S n :=
  let ⟨es, ep, t, r⟩ := h; ⟨o, es, ep, t, ho, r⟩
theorem SetIs.of {prog : Program} {w : World} {S : Int → Bool} {n : Nat} {hp : Heap} {a : Addr} (h : hp.SetOf (intKind prog w) a S n) : ∃ o, hp.get? a = some o ∧ SetIs prog w o S n :=
  let ⟨o, es, ep, t, ho, r⟩ := h; ⟨o, ho, es, ep, t, r⟩
noncomputable def cnt (S : Int → Bool) : Nat := (if S 0 then 1 else 0) + (if S 1 then 1 else 0)
theorem cnt_le (S : Int → Bool) : cnt S ≤ 2 := by unfold cnt; split <;> split <;> omega
theorem cnt_add (S : Int → Bool) (i : Int) (hi : i = 0 ∨ i = 1) : cnt (fun k => S k || decide (k = i)) = if S i = true then cnt S else cnt S + 1 := by
  unfold cnt
  rcases hi with rfl | rfl <;> cases h0 : S 0 <;> cases h1 : S 1 <;> simp [h0, h1]

noncomputable abbrev StrMap (prog : Program) (w : World) (o : Obj) (kvs : List (Str × Value)) : Prop := o.IsDictOf (strKind prog w) kvs

structure PTab (w : World) (t : SetTable) (n : Nat) : Prop where
  size : t.place.size = n
  dum : t.dummies = #[]
  mask : t.mask = 7 ∨ t.mask = 31 ∨ t.mask = 127
  room : 5 * n < 3 * t.mask
  led : t.led = !(w.params.followText "set-order")
  plain : n ≠ 0 → t.plain = false
noncomputable def PendIs (w : World) (g : Kn) (o : Obj) (pl : List (Way × Int)) : Prop :=
  ∃ es ep t, o = { cls := .type "set", data := .set es ep t } ∧ (∀ e ∈ es.toList, ∃ q ∈ pl, Rd g e.2 (encQ q)) ∧ (∀ q ∈ pl, ∃ e ∈ es.toList, Rd g e.2 (encQ q)) ∧ PTab w t es.size ∧ es.size ≤ pl.length

structure Rep (prog : Program) (w : World) (g μ : Kn) (f root pend : Addr) (T : Tree) (own : Addr → Option Own) (M : Bool → Way → Int → Bool) (pl : List (Way × Int)) : Prop where
  inst : ∃ d es n, g f = some (instObj 66 d) ∧ g d = some (dictOf es n) ∧ lookIn "_flags" (dictOf es n) = some (some (.ref root)) ∧ lookIn "_pending_flags" (dictOf es n) = some (some (.ref pend)) ∧
    ∀ x : Str, x ∈ (["set", "add_pending", "finalize_pending", "unset_all", "is_"] : List Str) → lookIn x (dictOf es n) = some none
  lev : ∀ p a, lvl T root p = some a → own a = some (.lev p) ∧ ∃ o kvs, μ a = some o ∧ StrMap prog w o kvs ∧ ∀ k, valueAt kvs k = (T (p ++ [k])).map fun r => .ref r.nd
  node : ∀ p r, T p = some r → ∃ o kvs, g r.nd = some o ∧ StrMap prog w o kvs ∧ valueAt kvs "flags" = some (.ref r.fl) ∧ valueAt kvs "recursive_flags" = some (.ref r.rc) ∧ valueAt kvs "nested" = some (.ref r.ne)
  fl : ∀ p r, T p = some r → own r.fl = some (.fl p) ∧ ∃ o, μ r.fl = some o ∧ SetIs prog w o (M false p) (cnt (M false p))
  rc : ∀ p r, T p = some r → own r.rc = some (.rc p) ∧ ∃ o, μ r.rc = some o ∧ SetIs prog w o (M true p) (cnt (M true p))
  names : ∀ p r, T p = some r → p ≠ [] ∧ ∀ x ∈ p, x = "a" ∨ x = "nested"
  closed : ∀ p k r, T (p ++ [k]) = some r → lvl T root p ≠ none
  mark : ∀ b p i, M b p i = true → T p ≠ none
  pend_ : own pend = some .pend ∧ ∃ o, μ pend = some o ∧ PendIs w g o pl
  ownM : ∀ a, own a ≠ none → μ a ≠ none ∧ a ≠ sysModules

noncomputable def told (M : Bool → Way → Int → Bool) (way : Way) (flag : Int) : Bool := way != [] && (M false way flag || (List.range way.length).any fun j => M true (way.take (j + 1)) flag)

theorem lvl_cons {T : Tree} {root : Addr} {p : Way} {k : Str} : lvl T root (p ++ [k]) = (T (p ++ [k])).map (·.ne) := by
  unfold lvl; rw [if_neg (by simp)]

section
variable {prog : Program} {w : World} {A : Around} {E : Value → Shared → Prop} {b s s' s₀ : Shared} {g₀ g g' μ μ' : Kn} {fp : Addr → Prop} {L : Addr} {m : Str → Option Value} {env : Env} {mg mb : Str → Option Value}
  {f root pend : Addr} {T : Tree} {own : Addr → Option Own} {M : Bool → Way → Int → Bool} {pl : List (Way × Int)}

/-- below a missing way nothing is marked -/
theorem Rep.gone (r : Rep prog w g μ f root pend T own M pl) {p q : Way} (h : T p = none) (hp : p ≠ []) : T (p ++ q) = none := by
  induction q generalizing p with
  | nil => rw [List.append_nil]; exact h
  | cons k q ih =>
    have e : p ++ k :: q = (p ++ [k]) ++ q := by simp
    rw [e]
    refine ih ?_ (by simp)
    cases e2 : T (p ++ [k]) with
    | none => rfl
    | some x =>
      have := r.closed p k x e2
      unfold lvl at this
      rw [if_neg hp, h] at this
      exact absurd rfl this

theorem At.after (A' : At b g₀ s₀ fp L m g μ s) (G : Grown b g s (fun a => μ a ≠ none) g' s') (hμ : ∀ a o, μ' a = some o → s'.heap.get? a = some o ∧ g' a = none ∧ (μ a ≠ none ∨ s.heap.objs.size ≤ a)) :
    At b g₀ s₀ fp L m g' μ' s' where
  base := A'.base
  le := A'.le.trans G.le
  inn := G.inn
  keep := fun a o hf e => by
    have e1 := A'.keep a o hf e
    refine G.keep a o (fun hm => ?_) e1
    obtain ⟨x, hx⟩ := Option.ne_none_iff_exists'.mp hm
    rcases (A'.mine a x hx).2.2.2 with h4 | h4
    · exact hf h4
    · exact absurd (Heap.lt_size e) (Nat.not_lt.mpr h4)
  old := fun a h => (G.old a (Nat.lt_of_lt_of_le h A'.size)).trans (A'.old a h)
  gens := G.gens
  os := G.os
  ns := by
    refine A'.ns.at' fun o e => G.keep L o (fun hm => ?_) e
    obtain ⟨x, hx⟩ := Option.ne_none_iff_exists'.mp hm
    exact (A'.mine L x hx).2.2.1 rfl
  offL := (G.old L A'.ltL).trans A'.offL
  newL := A'.newL
  mine := fun a o e => by
    obtain ⟨h1, h2, h3⟩ := hμ a o e
    refine ⟨h1, h2, ?_, ?_⟩
    · rintro rfl
      rcases h3 with h3 | h3
      · obtain ⟨x, hx⟩ := Option.ne_none_iff_exists'.mp h3
        exact (A'.mine a x hx).2.2.1 rfl
      · exact absurd A'.ltL (Nat.not_lt.mpr h3)
    · rcases h3 with h3 | h3
      · obtain ⟨x, hx⟩ := Option.ne_none_iff_exists'.mp h3
        exact (A'.mine a x hx).2.2.2
      · exact .inr (Nat.le_trans A'.size h3)

/-! names that the object bears -/
theorem instAt_ (h : At b g₀ s₀ fp L m g μ s) {d : Addr} {es : List DictEntry} {n : Nat} (hi : g f = some (instObj 66 d)) (hdd : g d = some (dictOf es n)) : W.InstAt s.heap f (instObj 66 d) 66 (some (dictOf es n)) :=
  ⟨h.inn _ _ hi, rfl, rfl, h.inn _ _ hdd⟩
theorem attr_ (C : Cx w b.heap mg mb) (h : At b g₀ s₀ fp L m g μ s) {d : Addr} {es : List DictEntry} {n : Nat} {name : Str} {v : Value} {expr : Bool} {Q : Value → Shared → Prop} (hi : g f = some (instObj 66 d)) (hdd : g d = some (dictOf es n))
    (hp : findIn (hd.heap_39 w.params) (.ref 66) "__getattribute__" = some (some (.builtin "object.__getattribute__"))) (hh : hasDictIn (hd.heap_39 w.params) 66 = true) (ha : findIn (hd.heap_39 w.params) (.ref 66) name = some none)
    (hl : lookIn name (dictOf es n) = some (some v)) (hv : handedIn v = true) (q : ∀ s', At b g₀ s₀ fp L m g μ s' → Q v s') : wpAny (model prog w) A (getAttr (.ref f) name expr) Q E s :=
  get_value (fun x y e => h.keeps x y (C.K x y e)) (instAt_ h hi hdd) hp (findObj_own hh ha rfl hl) hv (q _ h.toks)
theorem meth_ (C : Cx w b.heap mg mb) (h : At b g₀ s₀ fp L m g μ s) {d : Addr} {es : List DictEntry} {n : Nat} {name : Str} {fn : Addr} {plc : Sem Bool} {Q : Value × List Value → Shared → Prop} (hi : g f = some (instObj 66 d)) (hdd : g d = some (dictOf es n))
    (hp : findIn (hd.heap_39 w.params) (.ref 66) "__getattribute__" = some (some (.builtin "object.__getattribute__"))) (hg : findIn (hd.heap_39 w.params) (.ref 66) "__getattr__" = some none) (ha : findIn (hd.heap_39 w.params) (.ref 66) name = some (some (.ref fn)))
    (ht : typeIn (hd.heap_39 w.params) (.ref fn) = some (.type "function")) (hl : lookIn name (dictOf es n) = some none) (q : Q (.ref fn, [.ref f]) s) : wpAny (model prog w) A (getMethod (.ref f) name plc) Q E s :=
  method_fn (fun x y e => h.keeps x y (C.K x y e)) (instAt_ h hi hdd) hp hg ha ht (by show (lookIn name (dictOf es n)).map _ = _; rw [hl]; rfl) q
end
end Mine

namespace Mine
section
variable {prog : Program} {w : World} {A : Around} {E : Value → Shared → Prop} {b s s' s₀ : Shared} {g₀ g g' μ μ' : Kn} {fp : Addr → Prop} {L : Addr} {m : Str → Option Value} {env : Env} {mg mb : Str → Option Value}
  {f root pend : Addr} {T : Tree} {own : Addr → Option Own} {M : Bool → Way → Int → Bool} {pl : List (Way × Int)}

theorem for_tup_ {v : Value} {ds : List PyData} {target : Expr} {body : List Stmt} {Q : Flow → Shared → Prop} (J : Addr → Nat → (Str → Option Value) → Kn → Kn → Prop) (hh : A.handled = none)
    (h : At b g₀ s₀ fp L m g μ s) (hv : Rd g v (.tuple ds)) (j0 : ∀ I μ', s.heap.objs.size = I → (∀ a, a ≠ I → μ' a = μ a) → J I 0 m g μ')
    (hJ : ∀ I i m g μ₁ μ₂, s.heap.objs.size = I → (∀ a, a ≠ I → μ₂ a = μ₁ a) → J I i m g μ₁ → J I i m g μ₂)
    (turn : ∀ I i d v m' g' μ' s', s.heap.objs.size = I → ds[i]? = some d → Rd g' v d → g.le g' → J I i m' g' μ' → At b g₀ s₀ fp L m' g' μ' s' → (∃ o, μ' I = some o) →
      wpAny (model prog w) A (assign target env v) (fun _ s₂ => wpAny (model prog w) A (execs body env) (Turn b g₀ s₀ fp L I (J I (i + 1)) g' μ' Q) (fun _ _ => False) s₂) (fun _ _ => False) s')
    (done : ∀ I m' g' μ' s', s.heap.objs.size = I → g.le g' → J I ds.length m' g' μ' → At b g₀ s₀ fp L m' g' μ' s' → Q .next s') :
    wpAny (model prog w) A (pyIter v) (fun it s₂ => codeAny (model prog w) A (.forLoop target it body [] env) (fun r s' => match r with | .ok f => Q f s' | .error e => cameBackBy (model prog w) A env E e s') s₂) E s := by
  obtain ⟨a, vs, n, rfl, hg, hr⟩ := hv.tupE
  refine iter_tuple (h.isTup hg) ?_
  have hA := h.newMut (tk := s.toks) ({ cls := .type "tuple_iterator", data := .fields #[.ref a, .int (0 : Nat) 0] } : Obj)
  refine loop_ (J s.heap.objs.size) (Iter.tuple hh hg hr) hA (upd_self _ _ _) ⟨rfl, rfl⟩ (j0 _ _ rfl fun x hx => upd_ne _ hx) (fun i m g μ₁ μ₂ => hJ _ i m g μ₁ μ₂ rfl) (fun i d v m' g' μ' s' => turn _ i d v m' g' μ' s' rfl) fun m' g' μ' s' => done _ m' g' μ' s' rfl

theorem or_ {e₁ e₂ : Expr} {pos : Pos} {Q : Value → Shared → Prop} {c : Bool}
    (h : wpAny (model prog w) A (eval e₁ env) (fun v s₁ => v = .bool c ∧ (c = true → Q (.bool true) s₁) ∧ (c = false → wpAny (model prog w) A (eval e₂ env) Q E s₁)) E s) :
    wpAny (model prog w) A (eval (.BoolOp .Or [e₁, e₂] pos) env) Q E s := by
  refine BoolOp_or (wpAny_mono h (fun v s₁ h₁ => ?_) fun _ _ e => e)
  obtain ⟨rfl, h1, h2⟩ := h₁
  refine wpAny_truthy_bool ?_
  cases c with
  | true => exact h1 rfl
  | false => exact BoolOp_one (h2 rfl)
noncomputable def ParentK (Q : Value → Shared → Prop) (o : Value) (s₁ : Shared) : Prop := ∃ b s₀ g₀ fp L m g μ ds, At b g₀ s₀ fp L m g μ s₁ ∧ Rd g o (.tuple ds) ∧ ds.length ≤ 1000 ∧
      ∀ s' g' r, g.le g' → At b g₀ s₀ fp L m g' μ s' → Rd g' r (.tuple ds.dropLast) → Q r s'
theorem parent_in {b s s₀ : Shared} {g₀ g μ : Kn} {fp : Addr → Prop} {L : Addr} {m : Str → Option Value} {Q : Value → Shared → Prop} {o : Value} {ds : List PyData} (h : At b g₀ s₀ fp L m g μ s) (hr : Rd g o (.tuple ds)) (hsz : ds.length ≤ 1000)
    (q : ∀ s' g' r, g.le g' → At b g₀ s₀ fp L m g' μ s' → Rd g' r (.tuple ds.dropLast) → Q r s') : ParentK Q o s :=
  ⟨_, _, _, _, _, _, _, _, _, h, hr, hsz, q⟩
/-- key[:-1] -/
theorem parent_ {value : Expr} {kd : Nat} {p1 p2 p pos : Pos} {Q : Value → Shared → Prop}
    (h : wpAny (model prog w) A (eval value env) (ParentK Q) E s) :
    wpAny (model prog w) A (eval (.Subscript value (.Slice none (some (.UnaryOp .USub (.Constant (.int 1) kd p1) p2)) none p) pos) env) Q E s := by
  refine slice_upto_ (wpAny_mono h (fun o s₁ h₁ => ?_) fun _ _ e => e)
  obtain ⟨b, s₀, g₀, fp, L, m, g, μ, ds, hA, hr, hsz, q⟩ := h₁
  refine wpAny_UnaryOp (int_ hA fun s2 t2 hA2 => PyProof.Rows.neg_int ?_)
  refine upto_in hA2.toks hr hsz fun s' g' r hle hA' hr' => q s' g' r hle hA' ?_
  rw [show (-1 : Int) = -((1 : Nat) : Int) from rfl, clipAt_neg _ 1 (Nat.le_refl _), ← List.dropLast_eq_take] at hr'
  exact hr'

noncomputable def LastK (Q : Value → Shared → Prop) (o : Value) (s₁ : Shared) : Prop := ∃ b s₀ g₀ fp L m g μ ds d, At b g₀ s₀ fp L m g μ s₁ ∧ Rd g o (.tuple ds) ∧ ds.getLast? = some d ∧
      ∀ s' x, At b g₀ s₀ fp L m g μ s' → Rd g x d → Q x s'
theorem last_in {b s s₀ : Shared} {g₀ g μ : Kn} {fp : Addr → Prop} {L : Addr} {m : Str → Option Value} {Q : Value → Shared → Prop} {o : Value} {ds : List PyData} (d : PyData) (h : At b g₀ s₀ fp L m g μ s) (hr : Rd g o (.tuple ds)) (hd : ds.getLast? = some d)
    (q : ∀ s' x, At b g₀ s₀ fp L m g μ s' → Rd g x d → Q x s') : LastK Q o s :=
  ⟨_, _, _, _, _, _, _, _, _, d, h, hr, hd, q⟩
/-- key[-1] -/
theorem last_ {value : Expr} {kd : Nat} {p1 p2 pos : Pos} {Q : Value → Shared → Prop}
    (h : wpAny (model prog w) A (eval value env) (LastK Q) E s) :
    wpAny (model prog w) A (eval (.Subscript value (.UnaryOp .USub (.Constant (.int 1) kd p1) p2) pos) env) Q E s := by
  refine Subscript_ (wpAny_mono h (fun o s₁ h₁ => ?_) fun _ _ e => e)
  obtain ⟨b, s₀, g₀, fp, L, m, g, μ, ds, d, hA, hr, hd, q⟩ := h₁
  refine wpAny_UnaryOp (int_ hA fun s2 t2 hA2 => PyProof.Rows.neg_int ?_)
  have hne : ds ≠ [] := by rintro rfl; simp at hd
  have hlen : 0 < ds.length := List.length_pos_iff.mpr hne
  refine item_ (hA2.toks (tk := s2.toks + 1)) hr (by decide) (by decide) (j := ds.length - 1) ?_ ?_ (fun x hx => q _ x (hA2.toks) hx) (by intro _; rfl)
  · unfold seqIndex?
    simp
    omega
  · rw [List.getLast?_eq_getElem?] at hd; exact hd

theorem StrMap.at {o : Obj} {kvs : List (Str × Value)} {hp : Heap} {a : Addr} (hm : StrMap prog w o kvs) (ho : hp.get? a = some o) : hp.DictOf (strKind prog w) a kvs := Heap.dictOf_iff.mpr ⟨o, ho, hm⟩
theorem dget_ {value slice : Expr} {d : Addr} {o : Obj} {kvs : List (Str × Value)} {k : Str} {t : Tok} {v : Value} {Q : Value → Shared → Prop} (h : At b g₀ s₀ fp L m g μ s) (ho : s.heap.get? d = some o) (hm : StrMap prog w o kvs)
    (hv : valueAt kvs k = some v) (q : ∀ s', At b g₀ s₀ fp L m g μ s' → Q v s')
    (hs : ∀ d, subscripted slice false (.ref d) (.str k t) = operate [.ref d, .str k t] (getItem (.ref d) (.str k t)) := by intro _; rfl) : wpAny (model prog w) A (subscriptTail value slice (.ref d) (.str k t)) Q E s :=
  have hM := (StrMap.at hm ho).mapOf
  tail_any hM.typeIs slot_dict_getitem.lookup (wpAny_getItem_of (strKind_is prog w k t) hM hv (q _ h.toks)) (hs d)
theorem din_ {d : Addr} {o : Obj} {kvs : List (Str × Value)} {k : Str} {t : Tok} {Q : Value → Shared → Prop} (h : At b g₀ s₀ fp L m g μ s) (ho : s.heap.get? d = some o) (hm : StrMap prog w o kvs) (hd : (d == sysModules) = false)
    (q : ∀ s', At b g₀ s₀ fp L m g μ s' → Q (.bool (valueAt kvs k).isSome) s') : wpAny (model prog w) A (compareOp .In (.str k t) (.ref d)) Q E s :=
  wpAny_in_of (strKind_is prog w k t) hd (StrMap.at hm ho).mapOf (q _ h.toks)
theorem dnin_ {d : Addr} {o : Obj} {kvs : List (Str × Value)} {k : Str} {t : Tok} {Q : Value → Shared → Prop} (h : At b g₀ s₀ fp L m g μ s) (ho : s.heap.get? d = some o) (hm : StrMap prog w o kvs) (hd : (d == sysModules) = false)
    (q : ∀ s', At b g₀ s₀ fp L m g μ s' → Q (.bool (!(valueAt kvs k).isSome)) s') : wpAny (model prog w) A (compareOp .NotIn (.str k t) (.ref d)) Q E s :=
  wpAny_notIn_of (strKind_is prog w k t) hd (StrMap.at hm ho).mapOf (q _ h.toks)
theorem sin_ {d : Addr} {o : Obj} {S : Int → Bool} {n : Nat} {i : Int} {t : Tok} {Q : Value → Shared → Prop} (h : At b g₀ s₀ fp L m g μ s) (ho : s.heap.get? d = some o) (hm : SetIs prog w o S n)
    (q : ∀ s', At b g₀ s₀ fp L m g μ s' → Q (.bool (S i)) s') : wpAny (model prog w) A (compareOp .In (.int i t) (.ref d)) Q E s :=
  wpAny_inSet_of (intKind_is prog w i t) rfl (hm.at ho) (q _ h.toks)
theorem truthyT_ {v : Value} {ds : List PyData} {Q : Bool → Shared → Prop} (h : At b g₀ s₀ fp L m g μ s) (hv : Rd g v (.tuple ds)) (hsz : ds.length ≤ 1000) (q : ∀ s', At b g₀ s₀ fp L m g μ s' → Q (!ds.isEmpty) s') : wpAny (model prog w) A (truthy v) Q E s := by
  obtain ⟨a, vs, n, rfl, hg, hr⟩ := hv.tupE
  have hl := hr.length
  have e : vs.toArray.isEmpty = ds.isEmpty := by cases hr <;> rfl
  refine truthy_tuple (h.isTup hg) (by simp; omega) ?_
  rw [e]
  exact q _ h.toks
theorem At.far (C : Cx w b.heap mg mb) (h : At b g₀ s₀ fp L m g μ s) : sysModules < s.heap.objs.size := by
  have e : ∃ o, (hd.heap_39 w.params).lookup 104 = some o := ⟨_, rfl⟩
  obtain ⟨o, e⟩ := e
  have := Heap.lt_size (h.keeps _ _ (C.K _ _ e))
  exact Nat.lt_trans (by decide) this
noncomputable def NthK (prog : Program) (w : World) (x : Str) (Q : Value → Shared → Prop) (o : Value) (s₁ : Shared) : Prop := ∃ b s₀ g₀ fp L m g μ d ob kvs v, At b g₀ s₀ fp L m g μ s₁ ∧ o = .ref d ∧ s₁.heap.get? d = some ob ∧ StrMap prog w ob kvs ∧ valueAt kvs x = some v ∧
      ∀ s', At b g₀ s₀ fp L m g μ s' → Q v s'
theorem nth_in {prog : Program} {w : World} {b s s₀ : Shared} {g₀ g μ : Kn} {fp : Addr → Prop} {L : Addr} {m : Str → Option Value} {x : Str} {Q : Value → Shared → Prop} {v : Value} {d : Addr} (ob : Obj) (kvs : List (Str × Value)) (h : At b g₀ s₀ fp L m g μ s) (ho : s.heap.get? d = some ob)
    (hm : StrMap prog w ob kvs) (hv : valueAt kvs x = some v) (q : ∀ s', At b g₀ s₀ fp L m g μ s' → Q v s') : NthK prog w x Q (.ref d) s :=
  ⟨_, _, _, _, _, _, _, _, _, ob, kvs, _, h, rfl, ho, hm, hv, q⟩
/-- d[k] -/
theorem nth_ {value : Expr} {x : Str} {n : Nat} {p pos : Pos} {Q : Value → Shared → Prop}
    (h : wpAny (model prog w) A (eval value env) (NthK prog w x Q) E s) :
    wpAny (model prog w) A (eval (.Subscript value (.Constant (.str x) n p) pos) env) Q E s := by
  refine Subscript_ (wpAny_mono h (fun v s₁ h₁ => ?_) fun _ _ e => e)
  obtain ⟨b, s₀, g₀, fp, L, m, g, μ, d, ob, kvs, v', hA, rfl, ho, hm, hv, q⟩ := h₁
  refine Constant_str ?_
  exact dget_ (hA.toks (tk := s₁.toks + 1)) ho hm hv q
end
end Mine

namespace Mine
section
variable {prog : Program} {w : World} {A : Around} {E : Value → Shared → Prop} {b s s' s₀ : Shared} {g₀ g g' μ μ' : Kn} {fp : Addr → Prop} {L : Addr} {m : Str → Option Value} {env : Env} {mg mb : Str → Option Value}
  {f root pend : Addr} {T : Tree} {own : Addr → Option Own} {M : Bool → Way → Int → Bool} {pl : List (Way × Int)}

theorem Rep.lev_ (r : Rep prog w g μ f root pend T own M pl) {p : Way} {a : Addr} (h : lvl T root p = some a) : a ≠ sysModules ∧ ∃ o kvs, μ a = some o ∧ StrMap prog w o kvs ∧ ∀ k, valueAt kvs k = (T (p ++ [k])).map fun r => .ref r.nd :=
  ⟨(r.ownM a (by rw [(r.lev p a h).1]; simp)).2, (r.lev p a h).2⟩
theorem Rep.noMark (r : Rep prog w g μ f root pend T own M pl) {p : Way} (h : T p = none) (b : Bool) (i : Int) : M b p i = false := by
  cases e : M b p i with
  | false => rfl
  | true => exact absurd h (r.mark b p i e)

theorem last_of {way : Way} (hne : way ≠ []) : ∃ c, way.getLast? = some c ∧ way.take (way.length - 1) ++ [c] = way := by
  refine ⟨way.getLast hne, ?_, ?_⟩
  · rw [List.getLast?_eq_getElem?, List.getLast_eq_getElem]
    simp
  · rw [← List.dropLast_eq_take]; exact List.dropLast_concat_getLast hne
theorem told_false (r : Rep prog w g μ f root pend T own M pl) {way : Way} {flag : Int} {i : Nat} (hi : i < way.length) (h0 : ∀ j < i, M true (way.take (j + 1)) flag = false) (hT : T (way.take (i + 1)) = none) : told M way flag = false := by
  have hg : ∀ j, i ≤ j → T (way.take (j + 1)) = none := by
    intro j hj
    have e : way.take (j + 1) = way.take (i + 1) ++ (way.take (j + 1)).drop (i + 1) := by
      conv => lhs; rw [← List.take_append_drop (i + 1) (way.take (j + 1))]
      rw [List.take_take, Nat.min_eq_left (by omega)]
    rw [e]
    exact r.gone hT (by simp; exact List.ne_nil_of_length_pos (by omega))
  unfold told
  have hw : T way = none := by
    have := hg (way.length - 1) (by omega)
    rwa [List.take_of_length_le (by omega)] at this
  rw [r.noMark hw, Bool.false_or, Bool.and_eq_false_iff]
  refine .inr (List.any_eq_false.mpr fun j hj => ?_)
  rcases Nat.lt_or_ge j i with h | h
  · rw [h0 j h]; simp
  · rw [r.noMark (hg j h)]; simp
theorem told_true {way : Way} {flag : Int} {i : Nat} (hi : i < way.length) (h : M true (way.take (i + 1)) flag = true) : told M way flag = true := by
  unfold told
  have hne : way ≠ [] := List.ne_nil_of_length_pos (by omega)
  rw [Bool.and_eq_true, Bool.or_eq_true]
  exact ⟨by simpa using hne, .inr (List.any_eq_true.mpr ⟨i, List.mem_range.mpr hi, h⟩)⟩
theorem told_last {way : Way} {flag : Int} (hne : way ≠ []) (h0 : ∀ j < way.length - 1, M true (way.take (j + 1)) flag = false) : told M way flag = (M false way flag || M true way flag) := by
  unfold told
  have hlen : 0 < way.length := List.length_pos_iff.mpr hne
  have e : (way != []) = true := by simpa using hne
  rw [e, Bool.true_and]
  congr 1
  rw [show way.length = (way.length - 1) + 1 by omega, List.range_succ, List.any_append]
  have : ((List.range (way.length - 1)).any fun j => M true (way.take (j + 1)) flag) = false := List.any_eq_false.mpr fun j hj => by rw [h0 j (List.mem_range.mp hj)]; simp
  rw [this, Bool.false_or]
  simp only [List.any_cons, List.any_nil, Bool.or_false]
  rw [List.take_of_length_le (by omega)]

set_option maxHeartbeats 1000000 in
theorem is__ {v1 v2 : Value} {way : Way} {flag : Int} {Q : Value → Shared → Prop} (R : Room A 2 90) (C : Cx w b.heap mg mb) (k : Know b g s) (r : Rep prog w g μ f root pend T own M pl)
    (hμ : ∀ a o, μ a = some o → s.heap.get? a = some o ∧ g a = none) (h1 : Rd g v1 (encW way)) (h2 : Rd g v2 (.int flag)) (ok : OkW way)
    (q : ∀ s', Kept b s s' → Q (.bool (told M way flag)) s') : wpAny (model prog w) A (call (.ref 63) [.ref f, v1, v2]) Q E s := by
  refine enter (fd := fdAt w.params 63) (binds := [("self", .ref f), ("key", v1), ("flag", v2)]) (fp := fun a => μ a ≠ none) (μ := μ) (d := 1) (u := 87) R C k rfl rfl (by kernel_rfl) rfl (by kernel_rfl) (noCells (by kernel_rfl)) (locs (by kernel_rfl))
    (fun a o e => ⟨(hμ a o e).1, (hμ a o e).2, by rw [e]; simp⟩) fun s₁ A₁ R₁ => ?_
  have hlen := ok.len
  obtain ⟨t2, rfl⟩ := h2.intE
  -- the end
  have fin : ∀ {g' μ' : Kn} {m' : Str → Option Value} {s' : Shared} (v : Bool), At b g s (fun a => μ a ≠ none) s.heap.objs.size m' g' μ' s' → (∀ a, μ a ≠ none → μ' a = μ a) → v = told M way flag → Q (.bool v) s' := by
    intro g' μ' m' s' v A' hk hv
    rw [hv]
    refine q _ ⟨fun a o e => ?_, A'.gens.trans k.gens.symm, A'.os.trans k.os.symm⟩
    by_cases ha : μ a = none
    · exact A'.keep a o (by simpa using ha) e
    · obtain ⟨x, hx⟩ := Option.ne_none_iff_exists'.mp ha
      have := (hμ a x hx).1.symm.trans e
      cases this
      exact (A'.mine a o ((hk a ha).trans hx)).1
  refine exCons_ (wpAny_If (isTrue_not (isTrue_plain ?_ (by rfl))))
  refine name_ A₁ rfl rfl rfl rfl ?_
  refine truthyT_ A₁ h1 (by simp; omega) fun s2 A₂ => ?_
  cases ew : way with
  | nil =>
    simp only [List.map_nil, List.isEmpty_nil, Bool.not_true, Bool.not_false, if_true]
    refine exCons_ (retE_ (bool_ ?_))
    refine fin _ A₂ (fun _ _ => rfl) ?_
    rw [ew]; rfl
  | cons y ys =>
  rw [← ew]
  have hne : way ≠ [] := by rw [ew]; simp
  have hpos : 0 < way.length := List.length_pos_iff.mpr hne
  have e0 : ((way.map PyData.str).isEmpty) = false := by rw [ew]; rfl
  simp only [e0, Bool.not_false, Bool.not_true, Bool.false_eq_true, if_false]
  clear ew e0
  refine wpAny_execs_nil ?_
  obtain ⟨d, es, n, hi, hdd, hl1, hl2, hl3⟩ := r.inst
  refine exCons_ (asgName_ (Attribute_name ?_))
  refine name_ A₂ (by rfl) (by rfl) (by rfl) (by rfl) ?_
  refine attr_ C A₂ hi hdd (by kernel_rfl) (by kernel_rfl) (by kernel_rfl) hl1 rfl fun s3 A₃ => ?_
  refine store_ A₃ (by rfl) (by rfl) (by rfl) fun s4 A₄ => ?_
  refine exCons_ (wpAny_For ?_)
  refine parent_ (name_ A₄ (by rfl) (by rfl) (by rfl) (by rfl) ?_)
  refine parent_in A₄ h1 (by simp; omega) fun s5 g5 v5 hle5 A₅ r5 => ?_
  have ed : (way.map PyData.str).dropLast = way.dropLast.map PyData.str := by rw [List.map_dropLast]
  rw [ed] at r5
  have hI : ∀ a, μ a ≠ none → a ≠ s5.heap.objs.size := by
    intro a ha
    obtain ⟨x, hx⟩ := Option.ne_none_iff_exists'.mp ha
    exact Nat.ne_of_lt (Heap.lt_size (A₅.mine a x hx).1)
  refine for_tup_ (fun _ i m g' μ' => (∀ a, μ a ≠ none → μ' a = μ a) ∧ m "key" = some v1 ∧ m "flag" = some (.int flag t2) ∧ (∃ a, lvl T root (way.take i) = some a ∧ m "cont" = some (.ref a)) ∧ ∀ j < i, M true (way.take (j + 1)) flag = false) R₁.hd A₅ r5 ?_ ?_ ?_ ?_
  · intro I μ' eI hμ'
    exact ⟨fun a ha => hμ' a (eI ▸ hI a ha), by rfl, by rfl, ⟨root, rfl, by rfl⟩, fun j hj => absurd hj (Nat.not_lt_zero j)⟩
  · rintro I i m g μ₁ μ₂ eI hμ' ⟨j1, j2⟩
    exact ⟨fun a ha => (hμ' a (eI ▸ hI a ha)).trans (j1 a ha), j2⟩
  · rintro I i dd v m' g' μ' s' eI hd hr hle ⟨j1, j2, j3, ⟨a, j4, j5⟩, j6⟩ D₁ _
    rw [List.getElem?_map] at hd
    obtain ⟨c, hc, rfl⟩ := Option.map_eq_some_iff.mp hd
    obtain ⟨tc, rfl⟩ := hr.strE
    have hil : i < way.length - 1 := by
      rcases Nat.lt_or_ge i (way.length - 1) with h | h
      · exact h
      · rw [List.getElem?_eq_none (by simpa using h)] at hc; cases hc
    have hci : way[i]? = some c := by
      rw [List.getElem?_dropLast] at hc
      rw [if_pos hil] at hc
      exact hc
    have htake : way.take i ++ [c] = way.take (i + 1) := by rw [List.take_add_one, hci]; rfl
    obtain ⟨hfar, ob, kvs, hob, hmap, hval⟩ := r.lev_ j4
    have hheap : ∀ {m'' : Str → Option Value} {g'' : Kn} {s'' : Shared}, At b g s (fun a => μ a ≠ none) s.heap.objs.size m'' g'' μ' s'' → s''.heap.get? a = some ob := fun D => (D.mine a ob ((j1 a (by rw [hob]; simp)).trans hob)).1
    refine assignN_ D₁ (by rfl) (by rfl) (by rfl) fun s6 D₂ => ?_
    refine exCons_ (wpAny_If (cmpT_ ?_))
    refine name_ D₂ (by rfl) (by rfl) (by rfl) (by rfl) ?_
    refine name_ D₂ (by rfl) (by rfl) (by rfl) (by exact j5) ?_
    refine dnin_ D₂ (hheap D₂) hmap (by simpa using hfar) fun s7 D₃ => wpAny_truthy_bool ?_
    rw [hval, htake]
    cases eT : T (way.take (i + 1)) with
    | none =>
      simp only [Option.map_none, Option.isSome_none, Bool.not_false, if_true]
      refine exCons_ (retE_ (bool_ ?_))
      exact fin _ D₃ j1 (told_false r (by omega) j6 eT).symm
    | some x =>
      simp only [Option.map_some, Option.isSome_some, Bool.not_true, Bool.false_eq_true, if_false]
      refine wpAny_execs_nil ?_
      obtain ⟨on, kn, hn, hnm, hn1, hn2, hn3⟩ := r.node _ _ eT
      have hkx : valueAt kvs c = some (.ref x.nd) := by rw [hval, htake, eT]; rfl
      have hnd : ∀ {m'' : Str → Option Value} {g'' : Kn} {s'' : Shared}, At b g s (fun a => μ a ≠ none) s.heap.objs.size m'' g'' μ' s'' → g'.le g'' → s''.heap.get? x.nd = some on := fun D l => D.inn _ _ (l _ _ (hle _ _ (hle5 _ _ hn)))
      refine exCons_ (asgName_ (Subscript_ ?_))
      refine name_ D₃ (by rfl) (by rfl) (by rfl) (by exact j5) ?_
      refine name_ D₃ (by rfl) (by rfl) (by rfl) (by rfl) ?_
      refine dget_ D₃ (hheap D₃) hmap hkx fun s8 D₄ => ?_
      refine store_ D₄ (by rfl) (by rfl) (by rfl) fun s9 D₅ => ?_
      refine exCons_ (wpAny_If (cmpT_ ?_))
      refine name_ D₅ (by rfl) (by rfl) (by rfl) (by exact j3) ?_
      refine nth_ (name_ D₅ (by rfl) (by rfl) (by rfl) (by rfl) ?_)
      refine nth_in on kn D₅ (hnd D₅ (Kn.le.refl _)) hnm hn2 fun s10 D₆ => ?_
      obtain ⟨_, or, hor, hset⟩ := r.rc _ _ eT
      refine sin_ D₆ (D₆.mine _ or ((j1 _ (by rw [hor]; simp)).trans hor)).1 hset fun s11 D₇ => wpAny_truthy_bool ?_
      cases eM : M true (way.take (i + 1)) flag with
      | true =>
        simp only [if_true]
        refine exCons_ (retE_ (bool_ ?_))
        exact fin _ D₇ j1 (told_true (by omega) eM).symm
      | false =>
        simp only [Bool.false_eq_true, if_false]
        refine wpAny_execs_nil ?_
        refine exCons_ (asgName_ ?_)
        refine nth_ (name_ D₇ (by rfl) (by rfl) (by rfl) (by rfl) ?_)
        refine nth_in on kn D₇ (hnd D₇ (Kn.le.refl _)) hnm hn3 fun s12 D₈ => ?_
        refine store_ D₈ (by rfl) (by rfl) (by rfl) fun s13 D₉ => ?_
        refine wpAny_execs_nil ?_
        refine ⟨_, _, _, ?_, D₉, rfl, Kn.le.refl _⟩
        refine ⟨j1, j2, j3, ⟨x.ne, ?_, by rfl⟩, fun j hj => ?_⟩
        · rw [← htake, lvl_cons, htake, eT]; rfl
        · rcases Nat.lt_succ_iff_lt_or_eq.mp hj with h | rfl
          · exact j6 j h
          · exact eM
  · rintro I m' g' μ' s' eI hle ⟨j1, j2, j3, ⟨a, j4, j5⟩, j6⟩ D₁
    have ht : (way.dropLast.map PyData.str).length = way.length - 1 := by simp
    rw [ht] at j4 j6
    obtain ⟨c, hc, htake⟩ := last_of hne
    obtain ⟨hfar, ob, kvs, hob, hmap, hval⟩ := r.lev_ j4
    have hheap : ∀ {m'' : Str → Option Value} {g'' : Kn} {s'' : Shared}, At b g s (fun a => μ a ≠ none) s.heap.objs.size m'' g'' μ' s'' → s''.heap.get? a = some ob := fun D => (D.mine a ob ((j1 a (by rw [hob]; simp)).trans hob)).1
    refine exCons_ (asgName_ ?_)
    refine last_ (name_ D₁ (by rfl) (by rfl) (by rfl) (by exact j2) ?_)
    refine last_in (.str c) D₁ (h1.mono (hle5.trans hle)) (by rw [List.getLast?_map, hc]; rfl) fun s6 x6 D₂ r6 => ?_
    obtain ⟨tc, rfl⟩ := r6.strE
    refine store_ D₂ (by rfl) (by rfl) (by rfl) fun s7 D₃ => ?_
    refine exCons_ (wpAny_If (cmpT_ ?_))
    refine name_ D₃ (by rfl) (by rfl) (by rfl) (by rfl) ?_
    refine name_ D₃ (by rfl) (by rfl) (by rfl) (by exact j5) ?_
    refine din_ D₃ (hheap D₃) hmap (by simpa using hfar) fun s8 D₄ => wpAny_truthy_bool ?_
    rw [hval, htake]
    cases eT : T way with
    | none =>
      simp only [Option.map_none, Option.isSome_none, Bool.false_eq_true, if_false]
      refine wpAny_execs_nil ?_
      refine exCons_ (retE_ (bool_ ?_))
      refine fin _ D₄ j1 ?_
      rw [told_last hne j6, r.noMark eT, r.noMark eT]; rfl
    | some x =>
      simp only [Option.map_some, Option.isSome_some, if_true]
      obtain ⟨on, kn, hn, hnm, hn1, hn2, hn3⟩ := r.node _ _ eT
      have hkx : valueAt kvs c = some (.ref x.nd) := by rw [hval, htake, eT]; rfl
      have hnd : ∀ {m'' : Str → Option Value} {s'' : Shared}, At b g s (fun a => μ a ≠ none) s.heap.objs.size m'' g' μ' s'' → s''.heap.get? x.nd = some on := fun D => D.inn _ _ (hle _ _ (hle5 _ _ hn))
      refine exCons_ (asgName_ (Subscript_ ?_))
      refine name_ D₄ (by rfl) (by rfl) (by rfl) (by exact j5) ?_
      refine name_ D₄ (by rfl) (by rfl) (by rfl) (by rfl) ?_
      refine dget_ D₄ (hheap D₄) hmap hkx fun s9 D₅ => ?_
      refine store_ D₅ (by rfl) (by rfl) (by rfl) fun s10 D₆ => ?_
      refine exCons_ (retE_ (or_ (c := M false way flag) (cmpE_ ?_)))
      refine name_ D₆ (by rfl) (by rfl) (by rfl) (by exact j3) ?_
      refine nth_ (name_ D₆ (by rfl) (by rfl) (by rfl) (by rfl) ?_)
      refine nth_in on kn D₆ (hnd D₆) hnm hn1 fun s11 D₇ => ?_
      obtain ⟨_, of, hof, hsetf⟩ := r.fl _ _ eT
      refine sin_ D₇ (D₇.mine _ of ((j1 _ (by rw [hof]; simp)).trans hof)).1 hsetf fun s12 D₈ => ?_
      refine ⟨rfl, fun et => ?_, fun ef => ?_⟩
      · refine fin _ D₈ j1 ?_
        rw [told_last hne j6, et]; rfl
      refine cmpE_ ?_
      refine name_ D₈ (by rfl) (by rfl) (by rfl) (by exact j3) ?_
      refine nth_ (name_ D₈ (by rfl) (by rfl) (by rfl) (by rfl) ?_)
      refine nth_in on kn D₈ (hnd D₈) hnm hn2 fun s13 D₉ => ?_
      obtain ⟨_, or, hor, hset⟩ := r.rc _ _ eT
      refine sin_ D₉ (D₉.mine _ or ((j1 _ (by rw [hor]; simp)).trans hor)).1 hset fun s14 E₁ => ?_
      refine fin _ E₁ j1 ?_
      rw [told_last hne j6, ef, Bool.false_or]
end
end Mine

namespace Mine
noncomputable def freshSet (led : Bool) : Obj := { cls := .type "set", dict := none, data := .set #[] 0 (.fresh 0 0 led) }
section
variable {prog : Program} {w : World} {A : Around} {E : Value → Shared → Prop} {b s s' s₀ : Shared} {g₀ g g' μ μ' : Kn} {fp : Addr → Prop} {L : Addr} {m : Str → Option Value} {env : Env} {mg mb : Str → Option Value}
  {f root pend : Addr} {T : Tree} {own : Addr → Option Own} {M : Bool → Way → Int → Bool} {pl : List (Way × Int)}

theorem PendIs.mono {o : Obj} (h : g.le g') : PendIs w g o pl → PendIs w g' o pl := fun ⟨es, ep, t, e, r1, r2, p⟩ => ⟨es, ep, t, e, fun x hx => let ⟨q, hq, hr⟩ := r1 x hx; ⟨q, hq, hr.mono h⟩, fun q hq => let ⟨x, hx, hr⟩ := r2 q hq; ⟨x, hx, hr.mono h⟩, p⟩
theorem Rep.congr (r : Rep prog w g μ f root pend T own M pl) (h : ∀ a, own a ≠ none → μ' a = μ a) : Rep prog w g μ' f root pend T own M pl where
  inst := r.inst
  lev := fun p a e => by
    obtain ⟨h1, o, kvs, h2, h3⟩ := r.lev p a e
    exact ⟨h1, o, kvs, (h a (by rw [h1]; simp)).trans h2, h3⟩
  node := r.node
  fl := fun p x e => by
    obtain ⟨h1, o, h2, h3⟩ := r.fl p x e
    exact ⟨h1, o, (h _ (by rw [h1]; simp)).trans h2, h3⟩
  rc := fun p x e => by
    obtain ⟨h1, o, h2, h3⟩ := r.rc p x e
    exact ⟨h1, o, (h _ (by rw [h1]; simp)).trans h2, h3⟩
  names := r.names
  closed := r.closed
  mark := r.mark
  pend_ := by
    obtain ⟨h1, o, h2, h3⟩ := r.pend_
    exact ⟨h1, o, (h _ (by rw [h1]; simp)).trans h2, h3⟩
  ownM := fun a e => ⟨by rw [h a e]; exact (r.ownM a e).1, (r.ownM a e).2⟩
theorem Rep.up (r : Rep prog w g μ f root pend T own M pl) (h : g.le g') : Rep prog w g' μ f root pend T own M pl where
  inst := let ⟨d, es, n, h1, h2, h3⟩ := r.inst; ⟨d, es, n, h _ _ h1, h _ _ h2, h3⟩
  lev := r.lev
  node := fun p x e => let ⟨o, kvs, h1, h2⟩ := r.node p x e; ⟨o, kvs, h _ _ h1, h2⟩
  fl := r.fl
  rc := r.rc
  names := r.names
  closed := r.closed
  mark := r.mark
  pend_ := let ⟨h1, o, h2, h3⟩ := r.pend_; ⟨h1, o, h2, h3.mono h⟩
  ownM := r.ownM
noncomputable def only (own : Addr → Option Own) (μ : Kn) : Kn := fun a => if (own a).isSome then μ a else none
theorem only_le : (only own μ).le μ := fun a o e => by
  unfold only at e
  split at e
  · exact e
  · cases e
theorem Rep.only (r : Rep prog w g μ f root pend T own M pl) : Rep prog w g (only own μ) f root pend T own M pl :=
  r.congr fun a h => by unfold Mine.only; rw [if_pos (Option.isSome_iff_ne_none.mpr h)]

theorem setIs_fresh (led : Bool) : SetIs prog w (freshSet led) (fun _ => false) 0 := by
  obtain ⟨o, ho, h⟩ := SetIs.of (prog := prog) (w := w) (S := fun _ => false) (n := 0) (a := 0) (hp := Heap.push { objs := #[] } (freshSet led)) (SetOf_congr ((setObjOf_fresh (knd := intKind prog w) led).setOf (by rfl) (by unfold scanBound; omega)) (fun _ => rfl) rfl)
  have e : (Heap.push { objs := #[] } (freshSet led)).get? 0 = some (freshSet led) := by rfl
  rw [e] at ho
  cases ho
  exact h

theorem lvl_grow {T : Tree} {root : Addr} {q : Way} {x : TRec} (hq : q ≠ []) (p : Way) : lvl (fun r => if r = q then some x else T r) root p = if p = q then some x.ne else lvl T root p := by
  unfold lvl
  by_cases h : p = q
  · subst h; simp [hq]
  · simp [h]

theorem Rep.small (r : Rep prog w g μ f root pend T own M pl) {p : Way} {o : Obj} {kvs : List (Str × Value)} (hk : ∀ k, valueAt kvs k = (T (p ++ [k])).map fun r => .ref r.nd) (hs : StrMap prog w o kvs) : kvs.length ≤ 2 := by
  obtain ⟨es, ep, _, _, _, _, hn⟩ := hs
  have hsub : ∀ k, k ∈ kvs.map (·.1) → k = ("a" : Str) ∨ k = ("nested" : Str) := by
    intro k hkm
    have : valueAt kvs k ≠ none := by
      obtain ⟨⟨k', v⟩, hm, rfl⟩ := List.mem_map.mp hkm
      unfold valueAt
      intro e
      rw [Option.map_eq_none_iff, List.find?_eq_none] at e
      exact e _ hm (by simp)
    rw [hk] at this
    cases eT : T (p ++ [k]) with
    | none => rw [eT] at this; exact absurd rfl this
    | some x => exact (r.names _ _ eT).2 k (by simp)
  generalize hl : kvs.map (·.1) = l at hn hsub
  have e : kvs.length = l.length := by rw [← hl, List.length_map]
  rw [e]
  match l, hn, hsub with
  | [], _, _ => simp
  | [_], _, _ => simp
  | [_, _], _, _ => simp
  | x :: y :: z :: r, hn, hsub =>
    exfalso
    simp only [List.nodup_cons, List.mem_cons, not_or] at hn
    have hx := hsub x (by simp)
    have hy := hsub y (by simp)
    have hz := hsub z (by simp)
    rcases hx with rfl | rfl <;> rcases hy with rfl | rfl <;> rcases hz with rfl | rfl <;> simp_all

theorem Rep.grow (r : Rep prog w g μ f root pend T own M pl) {p : Way} {c : Str} {a0 : Addr} {x : TRec} {oF oR oN oD o0 : Obj} {kd k0 : List (Str × Value)}
    (ha : lvl T root p = some a0) (hT : T (p ++ [c]) = none) (hc : c = "a" ∨ c = "nested") (hgn : g x.nd = none) (hof : own x.fl = none) (hor : own x.rc = none) (hon : own x.ne = none)
    (d1 : x.fl ≠ x.rc) (d2 : x.fl ≠ x.ne) (d3 : x.rc ≠ x.ne) (sF : SetIs prog w oF (fun _ => false) 0) (sR : SetIs prog w oR (fun _ => false) 0) (sN : StrMap prog w oN []) (sD : StrMap prog w oD kd)
    (v1 : valueAt kd "flags" = some (.ref x.fl)) (v2 : valueAt kd "recursive_flags" = some (.ref x.rc)) (v3 : valueAt kd "nested" = some (.ref x.ne))
    (s0 : StrMap prog w o0 k0) (hk : ∀ k, valueAt k0 k = if k = c then some (.ref x.nd) else (T (p ++ [k])).map fun r => .ref r.nd)
    (far : x.fl ≠ sysModules ∧ x.rc ≠ sysModules ∧ x.ne ≠ sysModules)
    (mF : μ' x.fl = some oF) (mR : μ' x.rc = some oR) (mN : μ' x.ne = some oN) (m0 : μ' a0 = some o0) (mO : ∀ y, y ≠ x.fl → y ≠ x.rc → y ≠ x.ne → y ≠ a0 → μ' y = μ y) :
    Rep prog w (upd g x.nd oD) μ' f root pend (fun q => if q = p ++ [c] then some x else T q) (fun y => if y = x.fl then some (.fl (p ++ [c])) else if y = x.rc then some (.rc (p ++ [c])) else if y = x.ne then some (.lev (p ++ [c])) else own y) M pl := by
  have hq : p ++ [c] ≠ [] := by simp
  have oldOwn : ∀ y o, own y = some o → (if y = x.fl then some (Own.fl (p ++ [c])) else if y = x.rc then some (.rc (p ++ [c])) else if y = x.ne then some (.lev (p ++ [c])) else own y) = some o ∧ y ≠ x.fl ∧ y ≠ x.rc ∧ y ≠ x.ne := by
    intro y o e
    have e1 : y ≠ x.fl := by rintro rfl; rw [hof] at e; cases e
    have e2 : y ≠ x.rc := by rintro rfl; rw [hor] at e; cases e
    have e3 : y ≠ x.ne := by rintro rfl; rw [hon] at e; cases e
    rw [if_neg e1, if_neg e2, if_neg e3]
    exact ⟨e, e1, e2, e3⟩
  have hle : g.le (upd g x.nd oD) := le_upd hgn
  have noM : ∀ b i, M b (p ++ [c]) i = false := fun b i => r.noMark hT b i
  have cnt0 : cnt (fun _ : Int => false) = 0 := rfl
  refine ⟨?_, ?_, ?_, ?_, ?_, ?_, ?_, ?_, ?_, ?_⟩
  · exact (r.up hle).inst
  · intro p' a e
    rw [lvl_grow hq] at e
    by_cases hp : p' = p ++ [c]
    · subst hp
      rw [if_pos rfl] at e
      cases e
      refine ⟨by rw [if_neg (Ne.symm d2), if_neg (Ne.symm d3), if_pos rfl], oN, [], mN, sN, fun k => ?_⟩
      have : p ++ [c] ++ [k] ≠ p ++ [c] := by intro h; have := congrArg List.length h; simp at this
      simp only [if_neg this]
      rw [r.gone hT hq]; rfl
    · rw [if_neg hp] at e
      obtain ⟨h1, o, kvs, h2, h3, h4⟩ := r.lev p' a e
      obtain ⟨q1, q2, q3, q4⟩ := oldOwn _ _ h1
      refine ⟨q1, ?_⟩
      by_cases haa : a = a0
      · subst haa
        have e1 := (r.lev p a ha).1
        rw [h1] at e1
        cases e1
        refine ⟨o0, k0, m0, s0, fun k => ?_⟩
        rw [hk]
        by_cases hkc : k = c
        · subst hkc; simp
        · rw [if_neg hkc, if_neg (by simpa using hkc)]
      · refine ⟨o, kvs, (mO a q2 q3 q4 haa).trans h2, h3, fun k => ?_⟩
        have hne : p' ++ [k] ≠ p ++ [c] := by
          intro he
          have := List.append_inj' he rfl
          rw [this.1, ha] at e
          cases e
          exact haa rfl
        simp only [if_neg hne]
        exact h4 k
  · intro p' y e
    by_cases hp : p' = p ++ [c]
    · simp only [if_pos hp] at e
      cases e
      exact ⟨oD, kd, upd_self _ _ _, sD, v1, v2, v3⟩
    · simp only [if_neg hp] at e
      obtain ⟨o, kvs, h1, h2⟩ := r.node p' y e
      exact ⟨o, kvs, hle _ _ h1, h2⟩
  · intro p' y e
    by_cases hp : p' = p ++ [c]
    · simp only [if_pos hp] at e
      cases e
      subst hp
      refine ⟨by rw [if_pos rfl], oF, mF, ?_⟩
      have : M false (p ++ [c]) = fun _ => false := funext fun i => noM _ i
      rw [this, cnt0]; exact sF
    · simp only [if_neg hp] at e
      obtain ⟨h1, o, h2, h3⟩ := r.fl p' y e
      obtain ⟨q1, q2, q3, q4⟩ := oldOwn _ _ h1
      have hna : y.fl ≠ a0 := by intro h; rw [h, (r.lev p a0 ha).1] at h1; cases h1
      exact ⟨q1, o, (mO _ q2 q3 q4 hna).trans h2, h3⟩
  · intro p' y e
    by_cases hp : p' = p ++ [c]
    · simp only [if_pos hp] at e
      cases e
      subst hp
      refine ⟨by rw [if_neg (Ne.symm d1), if_pos rfl], oR, mR, ?_⟩
      have : M true (p ++ [c]) = fun _ => false := funext fun i => noM _ i
      rw [this, cnt0]; exact sR
    · simp only [if_neg hp] at e
      obtain ⟨h1, o, h2, h3⟩ := r.rc p' y e
      obtain ⟨q1, q2, q3, q4⟩ := oldOwn _ _ h1
      have hna : y.rc ≠ a0 := by intro h; rw [h, (r.lev p a0 ha).1] at h1; cases h1
      exact ⟨q1, o, (mO _ q2 q3 q4 hna).trans h2, h3⟩
  · intro p' y e
    by_cases hp : p' = p ++ [c]
    · subst hp
      refine ⟨hq, fun z hz => ?_⟩
      rcases List.mem_append.mp hz with hz | hz
      · by_cases hp0 : p = []
        · subst hp0; cases hz
        · unfold lvl at ha
          rw [if_neg hp0] at ha
          obtain ⟨y', hy', _⟩ := Option.map_eq_some_iff.mp ha
          exact (r.names p y' hy').2 z hz
      · rw [List.mem_singleton.mp hz]; exact hc
    · simp only [if_neg hp] at e
      exact r.names p' y e
  · intro p' k y e
    rw [lvl_grow hq]
    by_cases hp : p' = p ++ [c]
    · rw [if_pos hp]; simp
    · rw [if_neg hp]
      by_cases hp2 : p' ++ [k] = p ++ [c]
      · have := List.append_inj' hp2 rfl
        rw [this.1, ha]; simp
      · simp only [if_neg hp2] at e
        exact r.closed p' k y e
  · intro b p' i e
    by_cases hp : p' = p ++ [c]
    · simp only [if_pos hp]; simp
    · simp only [if_neg hp]; exact r.mark b p' i e
  · obtain ⟨h1, o, h2, h3⟩ := r.pend_
    obtain ⟨q1, q2, q3, q4⟩ := oldOwn _ _ h1
    have hna : pend ≠ a0 := by intro h; rw [h, (r.lev p a0 ha).1] at h1; cases h1
    exact ⟨q1, o, (mO _ q2 q3 q4 hna).trans h2, h3.mono hle⟩
  · intro a e
    by_cases e1 : a = x.fl
    · subst e1; exact ⟨by rw [mF]; simp, far.1⟩
    by_cases e2 : a = x.rc
    · subst e2; exact ⟨by rw [mR]; simp, far.2.1⟩
    by_cases e3 : a = x.ne
    · subst e3; exact ⟨by rw [mN]; simp, far.2.2⟩
    rw [if_neg e1, if_neg e2, if_neg e3] at e
    refine ⟨?_, (r.ownM a e).2⟩
    by_cases e4 : a = a0
    · subst e4; rw [m0]; simp
    · rw [mO a e1 e2 e3 e4]; exact (r.ownM a e).1

theorem Rep.markAt (r : Rep prog w g μ f root pend T own M pl) {p : Way} {x : TRec} {rec : Bool} {i : Int} {o' : Obj} (hT : T p = some x)
    (hs : SetIs prog w o' (fun k => M rec p k || decide (k = i)) (cnt fun k => M rec p k || decide (k = i))) (hm : μ' (if rec then x.rc else x.fl) = some o') (mO : ∀ y, y ≠ (if rec then x.rc else x.fl) → μ' y = μ y) :
    Rep prog w g μ' f root pend T own (fun b q k => M b q k || (b == rec && q == p && k == i)) pl := by
  have ownT : own (if rec then x.rc else x.fl) = some (if rec then .rc p else .fl p) := by
    cases rec with
    | true => exact (r.rc p x hT).1
    | false => exact (r.fl p x hT).1
  have same : ∀ b q, ¬ (b = rec ∧ q = p) → (fun k => M b q k || (b == rec && q == p && k == i)) = M b q := by
    intro b q h
    funext k
    have : (b == rec && q == p) = false := by
      rw [Bool.and_eq_false_iff]
      by_cases h1 : b = rec
      · exact .inr (by simpa using fun h2 => h ⟨h1, h2⟩)
      · exact .inl (by simpa using h1)
    rw [this, Bool.false_and, Bool.or_false]
  have here : (fun k => M rec p k || (rec == rec && p == p && k == i)) = fun k => M rec p k || decide (k = i) := by
    funext k
    simp only [beq_self_eq_true, Bool.and_self, Bool.true_and]
    congr 1
  refine ⟨r.inst, ?_, r.node, ?_, ?_, r.names, r.closed, ?_, ?_, ?_⟩
  · intro q a e
    obtain ⟨h1, o, kvs, h2, h3⟩ := r.lev q a e
    refine ⟨h1, o, kvs, (mO a ?_).trans h2, h3⟩
    rintro rfl
    rw [ownT] at h1
    cases rec <;> cases h1
  · intro q y e
    obtain ⟨h1, o, h2, h3⟩ := r.fl q y e
    refine ⟨h1, ?_⟩
    by_cases hh : false = rec ∧ q = p
    · obtain ⟨rfl, rfl⟩ := hh
      rw [hT] at e; cases e
      refine ⟨o', hm, ?_⟩
      rw [here]; exact hs
    · rw [same _ _ hh]
      refine ⟨o, (mO _ ?_).trans h2, h3⟩
      intro he
      rw [he, ownT] at h1
      cases rec
      · cases h1; exact hh ⟨rfl, rfl⟩
      · cases h1
  · intro q y e
    obtain ⟨h1, o, h2, h3⟩ := r.rc q y e
    refine ⟨h1, ?_⟩
    by_cases hh : true = rec ∧ q = p
    · obtain ⟨rfl, rfl⟩ := hh
      rw [hT] at e; cases e
      refine ⟨o', hm, ?_⟩
      rw [here]; exact hs
    · rw [same _ _ hh]
      refine ⟨o, (mO _ ?_).trans h2, h3⟩
      intro he
      rw [he, ownT] at h1
      cases rec
      · cases h1
      · cases h1; exact hh ⟨rfl, rfl⟩
  · intro b q k e
    rw [Bool.or_eq_true] at e
    rcases e with e | e
    · exact r.mark b q k e
    · simp only [Bool.and_eq_true, beq_iff_eq] at e
      rw [e.1.2, hT]; simp
  · obtain ⟨h1, o, h2, h3⟩ := r.pend_
    refine ⟨h1, o, (mO _ ?_).trans h2, h3⟩
    rintro e
    rw [e, ownT] at h1
    cases rec <;> cases h1
  · intro a e
    refine ⟨?_, (r.ownM a e).2⟩
    by_cases h : a = if rec then x.rc else x.fl
    · rw [h, hm]; simp
    · rw [mO a h]; exact (r.ownM a e).1
end
end Mine

namespace Mine
section
variable {prog : Program} {w : World} {A : Around} {E : Value → Shared → Prop} {b s s' s₀ : Shared} {g₀ g g' μ μ' : Kn} {fp : Addr → Prop} {L : Addr} {m : Str → Option Value} {env : Env} {mg mb : Str → Option Value}
  {f root pend : Addr} {T : Tree} {own : Addr → Option Own} {M : Bool → Way → Int → Bool} {pl : List (Way × Int)}

theorem setCall_ (C : Cx w b.heap mg mb) (h : At b g₀ s₀ fp L m g μ s) {np pos : Pos} {Q : Value → Shared → Prop} (hl : env.kindOf "set" = some .globalImplicit) (hk : env.scope.kind = .function) (hG : env.globals = mainGlobals) (hB : env.builtins = builtinsNs)
    (q : ∀ (led : Bool) (s' : Shared), s'.heap.objs.size = s.heap.objs.size + 1 → At b g₀ s₀ fp L m g (upd μ s.heap.objs.size (freshSet led)) s' → Q (.ref s.heap.objs.size) s') : wpAny (model prog w) A (eval (.Call (.Name "set" np) [] [] pos) env) Q E s := by
  refine Call_Name0 (builtin_ C h hl hk hG hB (by rfl) PyProof.Rows.boot_set (by decide) ?_)
  refine PyProof.Rows.callWith_type rfl (evalArgs_nil3 ?_)
  refine call_set_0 fun led => q led _ ?_ (h.newMut (tk := s.toks) (freshSet led))
  show (s.heap.push _).objs.size = _
  simp [Heap.push]

structure NodeAt (prog : Program) (w : World) (s : Shared) (x : TRec) (oF oR oN oD : Obj) (kd : List (Str × Value)) : Prop where
  nd : s.heap.objs.size ≤ x.nd
  fl : s.heap.objs.size ≤ x.fl
  rc : s.heap.objs.size ≤ x.rc
  ne : s.heap.objs.size ≤ x.ne
  d1 : x.fl ≠ x.rc
  d2 : x.fl ≠ x.ne
  d3 : x.rc ≠ x.ne
  sF : SetIs prog w oF (fun _ => false) 0
  sR : SetIs prog w oR (fun _ => false) 0
  sN : StrMap prog w oN []
  sD : StrMap prog w oD kd
  v1 : valueAt kd "flags" = some (.ref x.fl)
  v2 : valueAt kd "recursive_flags" = some (.ref x.rc)
  v3 : valueAt kd "nested" = some (.ref x.ne)

theorem node_ (C : Cx w b.heap mg mb) (h : At b g₀ s₀ fp L m g μ s) {n1 n2 n3 : Nat} {p1 p2 p3 q1 q2 q3 q4 q5 pos : Pos} {Q : Value → Shared → Prop}
    (hl : env.kindOf "set" = some .globalImplicit) (hk : env.scope.kind = .function) (hG : env.globals = mainGlobals) (hB : env.builtins = builtinsNs)
    (q : ∀ s' x oF oR oN oD kd, NodeAt prog w s x oF oR oN oD kd → At b g₀ s₀ fp L m (upd g x.nd oD) (upd (upd (upd μ x.fl oF) x.rc oR) x.ne oN) s' → Q (.ref x.nd) s') :
    wpAny (model prog w) A (eval (.Dict [some (.Constant (.str "flags") n1 p1), some (.Constant (.str "recursive_flags") n2 p2), some (.Constant (.str "nested") n3 p3)]
      [.Call (.Name "set" q1) [] [] q2, .Call (.Name "set" q3) [] [] q4, .Dict [] [] q5] pos) env) Q E s := by
  refine wpAny_Dict_pairs (knd := strKind prog w) (pairs := [(eval (.Constant (.str "flags") n1 p1) env, (do let x ← eval (.Call (.Name "set" q1) [] [] q2) env; standAt pos; pure x)),
    (eval (.Constant (.str "recursive_flags") n2 p2) env, (do let x ← eval (.Call (.Name "set" q3) [] [] q4) env; standAt pos; pure x)), (eval (.Constant (.str "nested") n3 p3) env, (do let x ← eval (.Dict [] [] q5) env; standAt pos; pure x))])
    (by rfl) (by simp) (by simp) ?_
  have A₁ := h.newMut (tk := s.toks) ({ cls := .type "dict", data := .dict #[] } : Obj)
  have M₁ : (upd μ s.heap.objs.size ({ cls := .type "dict", data := .dict #[] } : Obj)) s.heap.objs.size = some ({ cls := .type "dict", data := .dict #[] } : Obj) := upd_self _ _ _
  generalize hμ1 : upd μ s.heap.objs.size ({ cls := .type "dict", data := .dict #[] } : Obj) = μ1 at A₁ M₁
  generalize hs1 : ({ s with heap := s.heap.push { cls := .type "dict", data := .dict #[] } } : Shared) = s1 at A₁ ⊢
  have hnd : s.heap.objs.size < s1.heap.objs.size := Heap.lt_size (A₁.mine _ _ M₁).1
  generalize hN : s.heap.objs.size = N at *
  refine evalPairs_cons (str_ A₁ fun s2 t2 A₂ => wpAny_bind (setCall_ C A₂ hl hk hG hB fun led1 s3 _ A₃ => wpAny_bind (wpAny_standAt (wpAny_pure ?_))))
  have z2 : N < s2.heap.objs.size := Heap.lt_size (A₂.mine _ _ M₁).1
  generalize hF : s2.heap.objs.size = F at *
  have M₃ : (upd μ1 F (freshSet led1)) N = some _ := (upd_ne _ (Nat.ne_of_lt z2)).trans M₁
  have F₃ : (upd μ1 F (freshSet led1)) F = some _ := upd_self _ _ _
  refine evalPairs_cons (str_ A₃ fun s4 t4 A₄ => wpAny_bind (setCall_ C A₄ hl hk hG hB fun led2 s5 _ A₅ => wpAny_bind (wpAny_standAt (wpAny_pure ?_))))
  have z4 : F < s4.heap.objs.size := Heap.lt_size (A₄.mine _ _ F₃).1
  generalize hR : s4.heap.objs.size = R at *
  have M₅ := (upd_ne (g := upd μ1 F (freshSet led1)) (freshSet led2) (show N ≠ R by omega)).trans M₃
  have F₅ := (upd_ne (g := upd μ1 F (freshSet led1)) (freshSet led2) (show F ≠ R by omega)).trans F₃
  have R₅ : (upd (upd μ1 F (freshSet led1)) R (freshSet led2)) R = some _ := upd_self _ _ _
  refine evalPairs_cons (str_ A₅ fun s6 t6 A₆ => wpAny_bind (wpAny_Dict_empty (wpAny_bind (wpAny_standAt (wpAny_pure (evalPairs_nil ?_))))))
  have z6 : R < s6.heap.objs.size := Heap.lt_size (A₆.mine _ _ R₅).1
  have A₇ := A₆.newMut (tk := s6.toks) ({ cls := .type "dict", data := .dict #[] } : Obj)
  generalize hE : s6.heap.objs.size = e at *
  have M₇ := (upd_ne (g := upd (upd μ1 F (freshSet led1)) R (freshSet led2)) ({ cls := .type "dict", data := .dict #[] } : Obj) (show N ≠ e by omega)).trans M₅
  have hemp : StrMap prog w ({ cls := .type "dict", data := .dict #[] } : Obj) [] := by
    obtain ⟨o, ho, hm⟩ := Heap.dictOf_iff.mp (Heap.DictOf.new (knd := strKind prog w) ({ objs := #[] } : Heap))
    have e : (Heap.push ({ objs := #[] } : Heap) ({ cls := .type "dict", data := .dict #[] } : Obj)).get? 0 = some _ := Heap.get?_push_size _ rfl
    have e2 := e.symm.trans ho
    cases e2
    exact hm
  refine ⟨[("flags", .ref F), ("recursive_flags", .ref R), ("nested", .ref e)], ⟨strKind_is prog w _ _, rfl, strKind_is prog w _ _, rfl, strKind_is prog w _ _, rfl, trivial⟩, StrMap.at hemp (A₇.mine _ _ M₇).1, fun h' hd' hs' => ?_⟩
  obtain ⟨oD, hoD, hD⟩ := Heap.dictOf_iff.mp hd'
  have A₈ := A₇.set (tk := s6.toks + 3) M₇ hs' hoD
  have A₉ := A₈.rest (a := N) (upd_self _ _ _) (by have := h.size; omega)
  refine q _ ⟨N, F, R, e⟩ (freshSet led1) (freshSet led2) ({ cls := .type "dict", data := .dict #[] } : Obj) oD (merged [] [("flags", .ref F), ("recursive_flags", .ref R), ("nested", .ref e)]) ?_ (A₉.drop fun a o ha => ?_)
  · exact ⟨Nat.le_of_eq hN, by show s.heap.objs.size ≤ F; omega, by show s.heap.objs.size ≤ R; omega, by show s.heap.objs.size ≤ e; omega, by show F ≠ R; omega, by show F ≠ e; omega, by show R ≠ e; omega,
      setIs_fresh _, setIs_fresh _, hemp, hD, by rfl, by rfl, by rfl⟩
  · have haN : a ≠ N := by
      rintro rfl
      have := h.freshM (a := a) (by omega)
      have e1 : a ≠ e := Nat.ne_of_lt (by omega)
      have e2 : a ≠ R := Nat.ne_of_lt (by omega)
      have e3 : a ≠ F := Nat.ne_of_lt (by omega)
      have ha : (upd (upd (upd μ F (freshSet led1)) R (freshSet led2)) e ({ cls := .type "dict", data := .dict #[] } : Obj)) a = some o := ha
      rw [upd_ne _ e1, upd_ne _ e2, upd_ne _ e3, this] at ha
      cases ha
    show (if a = N then none else _) = some o
    rw [if_neg haN, upd_ne _ haN]
    by_cases x1 : a = e
    · subst x1; rw [upd_self] at ha ⊢; exact ha
    rw [upd_ne _ x1] at ha ⊢
    by_cases x2 : a = R
    · subst x2; rw [upd_self] at ha ⊢; exact ha
    rw [upd_ne _ x2] at ha ⊢
    by_cases x3 : a = F
    · subst x3; rw [upd_self] at ha ⊢; exact ha
    rw [upd_ne _ x3] at ha ⊢
    rw [← hμ1, upd_ne _ haN]
    exact ha

theorem ensure_ (C : Cx w b.heap mg mb) (h : At b g₀ s₀ fp L m g μ s) (r : Rep prog w g μ f root pend T own M pl) {p : Way} {c x : Str} {t : Tok} {a0 : Addr} {value : Expr} {p1 p2 p3 p4 p5 p6 p7 p8 : Pos} {Q : Flow → Shared → Prop}
    (ha : lvl T root p = some a0) (hc : c = "a" ∨ c = "nested") (m1 : m x = some (.str c t)) (m2 : m "cont" = some (.ref a0)) (k1 : env.kindOf x = some .local) (k2 : env.kindOf "cont" = some .local) (hk : env.scope.kind = .function) (hL : env.locals = L)
    (hd1 : (x == ("__debug__" : Str)) = false)
    (hv : ∀ (s' : Shared) (Q' : Value → Shared → Prop), At b g₀ s₀ fp L m g μ s' → (∀ s'' x oF oR oN oD kd, NodeAt prog w s' x oF oR oN oD kd → At b g₀ s₀ fp L m (upd g x.nd oD) (upd (upd (upd μ x.fl oF) x.rc oR) x.ne oN) s'' → Q' (.ref x.nd) s'') →
      wpAny (model prog w) A (eval value env) Q' E s')
    (hsw : swapsWith value (some (.Subscript (.Name "cont" p4) (.Name x p5) p6)) p7.line env = pure false)
    (q : ∀ s' g' μ' T' own', g.le g' → At b g₀ s₀ fp L m g' μ' s' → Rep prog w g' μ' f root pend T' own' M pl → lvl T' root p = some a0 → T' (p ++ [c]) ≠ none →
      (∀ a o, own a = none → μ a = some o → own' a = none ∧ μ' a = some o) → μ' pend = μ pend → Q .next s') :
    wpAny (model prog w) A (exec (.If (.Compare (.Name x p1) [.NotIn] [.Name "cont" p2] p3) [.Assign [.Subscript (.Name "cont" p4) (.Name x p5) p6] value p7] [] p8) env) Q E s := by
  obtain ⟨hfar, ob, kvs, hob, hmap, hval⟩ := r.lev_ ha
  refine wpAny_If (cmpT_ ?_)
  refine name_ h k1 hk hL m1 ?_ hd1
  refine name_ h k2 hk hL m2 ?_
  refine dnin_ h (h.mine _ _ hob).1 hmap (by simpa using hfar) fun s1 h1 => wpAny_truthy_bool ?_
  rw [hval]
  cases eT : T (p ++ [c]) with
  | some y =>
    simp only [Option.map_some, Option.isSome_some, Bool.not_true, Bool.false_eq_true, if_false]
    refine wpAny_execs_nil ?_
    exact q _ g μ T own (Kn.le.refl _) h1 r ha (by rw [eT]; simp) (fun a o e1 e2 => ⟨e1, e2⟩) rfl
  | none =>
    simp only [Option.map_none, Option.isSome_none, Bool.not_false, if_true]
    refine exCons_ (wpAny_Assign_Subscript ?_ hsw)
    refine hv _ _ h1 fun s2 y oF oR oN oD kd N h2 => ?_
    refine name_ h2 k2 hk hL m2 ?_
    refine name_ h2 k1 hk hL m1 ?_ hd1
    have fresh : ∀ a o, μ a = some o → a ≠ y.fl ∧ a ≠ y.rc ∧ a ≠ y.ne := fun a o e => by
      have l := Heap.lt_size (h1.mine a o e).1
      refine ⟨?_, ?_, ?_⟩ <;> rintro rfl
      · exact absurd l (Nat.not_lt.mpr N.fl)
      · exact absurd l (Nat.not_lt.mpr N.rc)
      · exact absurd l (Nat.not_lt.mpr N.ne)
    have ownNo : ∀ a, s1.heap.objs.size ≤ a → own a = none := fun a hsz => by
      cases e : own a with
      | none => rfl
      | some o =>
        obtain ⟨x, hx⟩ := Option.ne_none_iff_exists'.mp (r.ownM a (by rw [e]; simp)).1
        exact absurd (Heap.lt_size (h1.mine a x hx).1) (Nat.not_lt.mpr hsz)
    obtain ⟨f1, f2, f3⟩ := fresh a0 ob hob
    have hob2 : (upd (upd (upd μ y.fl oF) y.rc oR) y.ne oN) a0 = some ob := by rw [upd_ne _ f3, upd_ne _ f2, upd_ne _ f1]; exact hob
    refine wpAny_setItem_pairs (strKind_is prog w c t) (StrMap.at hmap (h2.mine _ _ hob2).1) (fun h' hd' hs' => ?_) (by have := r.small hval hmap; rw [sizeLine_eq]; omega)
    obtain ⟨o0, ho0, hm0⟩ := Heap.dictOf_iff.mp hd'
    have h3 := h2.set (tk := s2.toks + 1) hob2 hs' ho0
    have gfar := h1.far C
    have gN := h1.freshG N.nd
    refine wpAny_execs_nil ?_
    refine q _ _ _ _ _ (le_upd gN) h3 (r.grow (x := y) (oF := oF) (oR := oR) (oN := oN) (oD := oD) (o0 := o0) (kd := kd) ha eT hc gN (ownNo _ N.fl) (ownNo _ N.rc) (ownNo _ N.ne) N.d1 N.d2 N.d3 N.sF N.sR N.sN N.sD N.v1 N.v2 N.v3 hm0 ?_ ?_ ?_ ?_ ?_ ?_ ?_) ?_ ?_ ?_ ?_
    · intro k
      rw [stored_absent (by rw [hval, eT]; rfl), ← hval]
      unfold valueAt
      rw [List.find?_append]
      by_cases hkc : k = c
      · subst hkc
        have : valueAt kvs k = none := by rw [hval, eT]; rfl
        unfold valueAt at this
        rw [Option.map_eq_none_iff] at this
        rw [this]
        simp
      · rw [if_neg hkc]
        cases hf : kvs.find? fun kv => decide (kv.1 = k) with
        | some z => rfl
        | none => simp [Ne.symm hkc]
    · exact ⟨Nat.ne_of_gt (Nat.lt_of_lt_of_le gfar N.fl), Nat.ne_of_gt (Nat.lt_of_lt_of_le gfar N.rc), Nat.ne_of_gt (Nat.lt_of_lt_of_le gfar N.ne)⟩
    · rw [upd_ne _ (Ne.symm f1), upd_ne _ N.d2, upd_ne _ N.d1, upd_self]
    · rw [upd_ne _ (Ne.symm f2), upd_ne _ N.d3, upd_self]
    · rw [upd_ne _ (Ne.symm f3), upd_self]
    · rw [upd_self]
    · intro z z1 z2 z3 z4
      rw [upd_ne _ z4, upd_ne _ z3, upd_ne _ z2, upd_ne _ z1]
    · rw [lvl_grow (by simp), if_neg ?_]
      · exact ha
      · intro he; have := congrArg List.length he; simp at this
    · simp
    · intro a o e1 e2
      obtain ⟨z1, z2, z3⟩ := fresh a o e2
      have hne : a ≠ a0 := by rintro rfl; rw [(r.lev p a ha).1] at e1; cases e1
      refine ⟨?_, ?_⟩
      · rw [if_neg z1, if_neg z2, if_neg z3]; exact e1
      · rw [upd_ne _ hne, upd_ne _ z3, upd_ne _ z2, upd_ne _ z1]; exact e2
    · obtain ⟨po, opd, hpd, _⟩ := r.pend_
      obtain ⟨z1, z2, z3⟩ := fresh pend opd hpd
      have hne : pend ≠ a0 := by intro he; rw [he, (r.lev p a0 ha).1] at po; cases po
      rw [upd_ne _ hne, upd_ne _ z3, upd_ne _ z2, upd_ne _ z1]
end
end Mine

namespace Mine
section
variable {prog : Program} {w : World} {A : Around} {E : Value → Shared → Prop} {b s s' s₀ : Shared} {g₀ g g' μ μ' : Kn} {fp : Addr → Prop} {L : Addr} {m : Str → Option Value} {env : Env} {mg mb : Str → Option Value}
  {f root pend : Addr} {T : Tree} {own : Addr → Option Own} {M : Bool → Way → Int → Bool} {pl : List (Way × Int)}
/-- what a changing method leaves -/
structure Left (prog : Program) (w : World) (b : Shared) (g μ : Kn) (s : Shared) (f root pend : Addr) (M : Bool → Way → Int → Bool) (pl : List (Way × Int)) (g' μ' : Kn) (s' : Shared) : Prop where
  grown : Grown b g s (fun a => μ a ≠ none) g' s'
  rep : ∃ T own, Rep prog w g' μ' f root pend T own M pl
  own : ∀ a o, μ' a = some o → s'.heap.get? a = some o ∧ g' a = none ∧ (μ a ≠ none ∨ s.heap.objs.size ≤ a)

theorem Left.of (A : At b g s (fun a => μ a ≠ none) L m g' μ' s') (r : Rep prog w g' μ' f root pend T own M pl) : Left prog w b g μ s f root pend M pl g' (only own μ') s' where
  grown := A.done
  rep := ⟨T, own, r.only⟩
  own := fun a o e => by
    obtain ⟨h1, h2, h3, h4⟩ := A.mine a o (only_le _ _ e)
    exact ⟨h1, h2, h4⟩

noncomputable def setM (M : Bool → Way → Int → Bool) (rec : Bool) (way : Way) (flag : Int) : Bool → Way → Int → Bool := fun b q k => M b q k || (b == rec && q == way && k == flag)

set_option maxHeartbeats 1000000 in
theorem set_ {v1 v2 : Value} {way : Way} {flag : Int} {rec : Bool} {Q : Value → Shared → Prop} (R : Room A 2 90) (C : Cx w b.heap mg mb) (k : Know b g s) (r : Rep prog w g μ f root pend T own M pl)
    (hμ : ∀ a o, μ a = some o → s.heap.get? a = some o ∧ g a = none) (h1 : Rd g v1 (encW way)) (h2 : Rd g v2 (.int flag)) (ok : OkW way) (hne : way ≠ []) (ok2 : ∀ x ∈ way, x = "a" ∨ x = "nested") (hfl : flag = 0 ∨ flag = 1)
    (q : ∀ s' g' μ', Left prog w b g μ s f root pend (setM M rec way flag) pl g' μ' s' → μ' pend = μ pend → Q .none s') : wpAny (model prog w) A (call (.ref 56) [.ref f, v1, v2] [("recursive", .bool rec)]) Q E s := by
  refine enter (fd := fdAt w.params 56) (binds := [("self", .ref f), ("key", v1), ("flag", v2), ("recursive", .bool rec)]) (fp := fun a => μ a ≠ none) (μ := μ) (d := 1) (u := 87) R C k rfl rfl (by kernel_rfl) rfl (by kernel_rfl) (noCells (by kernel_rfl)) (locs (by kernel_rfl))
    (fun a o e => ⟨(hμ a o e).1, (hμ a o e).2, by rw [e]; simp⟩) fun s₁ A₁ R₁ => ?_
  have hlen := ok.len
  obtain ⟨t2, rfl⟩ := h2.intE
  obtain ⟨d, es, n, hi, hdd, hl1, hl2, hl3⟩ := r.inst
  obtain ⟨c, hc, htake⟩ := last_of hne
  have hcn : c = "a" ∨ c = "nested" := ok2 c (by rw [← htake]; simp)
  refine exCons_ (asgName_ (Attribute_name ?_))
  refine name_ A₁ (by rfl) (by rfl) (by rfl) (by rfl) ?_
  refine attr_ C A₁ hi hdd (by kernel_rfl) (by kernel_rfl) (by kernel_rfl) hl1 rfl fun s3 A₃ => ?_
  refine store_ A₃ (by rfl) (by rfl) (by rfl) fun s4 A₄ => ?_
  refine exCons_ ?_
  refine pairSwap_ R₁.hd (by rfl) (by rfl) (by rfl) (by rfl) (by rfl) ?_
  refine tupE_ (argCons_ ?_)
  refine parent_ (name_ A₄ (by rfl) (by rfl) (by rfl) (by rfl) ?_)
  refine parent_in A₄ h1 (by simp; omega) fun s5 g5 v5 hle5 A₅ r5 => ?_
  have ed : (way.map PyData.str).dropLast = way.dropLast.map PyData.str := by rw [List.map_dropLast]
  rw [ed] at r5
  refine argCons_ (last_ (name_ A₅ (by rfl) (by rfl) (by rfl) (by rfl) ?_))
  refine last_in (.str c) A₅ (h1.mono hle5) (by rw [List.getLast?_map, hc]; rfl) fun s6 x6 A₆ r6 => ?_
  refine args_nil (newTuple_ A₆ (.cons r5 (.cons r6 .nil)) (fun s7 g7 v7 hle7 r7 A₇ => ?_) (by simp))
  refine swap_in A₇ r7 fun s8 v8 w8 r8 q8 A₈ => ?_
  obtain ⟨tc, rfl⟩ := q8.strE
  refine exCons_ (wpAny_For ?_)
  refine name_ A₈ (by rfl) (by rfl) (by rfl) (by rfl) ?_
  have hle07 := hle5.trans hle7
  have r₈ := r.up hle07
  have hI : ∀ a, own a ≠ none → a ≠ s8.heap.objs.size := by
    intro a ha
    obtain ⟨x, hx⟩ := Option.ne_none_iff_exists'.mp (r.ownM a ha).1
    exact Nat.ne_of_lt (Heap.lt_size (A₈.mine a x hx).1)
  refine for_tup_ (fun I i m g' μ' => (∃ T' own', Rep prog w g' μ' f root pend T' own' M pl ∧ own' I = none ∧ ∃ a, lvl T' root (way.take i) = some a ∧ m "cont" = some (.ref a)) ∧
      m "flag" = some (.int flag t2) ∧ m "recursive" = some (.bool rec) ∧ m "key_stem" = some (.str c tc) ∧ μ' pend = μ pend) R₁.hd A₈ r8 ?_ ?_ ?_ ?_
  · intro I μ' eI hμ'
    refine ⟨⟨T, own, r₈.congr fun a ha => hμ' a (eI ▸ hI a ha), ?_, root, rfl, by rfl⟩, by rfl, by rfl, by rfl, hμ' pend (eI ▸ hI pend (by rw [r.pend_.1]; simp))⟩
    cases e : own I with
    | none => rfl
    | some o => exact absurd eI.symm (hI I (by rw [e]; simp))
  · rintro I i m g μ₁ μ₂ eI hμ' ⟨⟨T', own', j1, j2, j3⟩, j4, j5, j6, j7⟩
    refine ⟨⟨T', own', j1.congr fun a ha => hμ' a ?_, j2, j3⟩, j4, j5, j6, (hμ' pend ?_).trans j7⟩
    · rintro rfl
      exact ha j2
    · rintro rfl
      rw [j1.pend_.1] at j2
      cases j2
  · rintro I i dd v m' g' μ' s' eI hd hr hle ⟨⟨T', own', j1, j2, a, j3, j3c⟩, j4, j5, j6, j7⟩ D₁ hIμ
    rw [List.getElem?_map] at hd
    obtain ⟨k, hk, rfl⟩ := Option.map_eq_some_iff.mp hd
    obtain ⟨tk, rfl⟩ := hr.strE
    have hil : i < way.length - 1 := by
      rcases Nat.lt_or_ge i (way.length - 1) with h | h
      · exact h
      · rw [List.getElem?_eq_none (by simpa using h)] at hk; cases hk
    have hki : way[i]? = some k := by
      rw [List.getElem?_dropLast] at hk
      rw [if_pos hil] at hk
      exact hk
    have htk : way.take i ++ [k] = way.take (i + 1) := by rw [List.take_add_one, hki]; rfl
    refine assignN_ D₁ (by rfl) (by rfl) (by rfl) fun s6 D₂ => ?_
    obtain ⟨oI, hoI⟩ := hIμ
    refine exCons_ ?_
    refine ensure_ C D₂ j1 (p := way.take i) (c := k) (t := tk) j3 (ok2 k (List.mem_of_getElem? hki)) (by rfl) (by exact j3c) (by rfl) (by rfl) (by rfl) (by rfl) (by rfl) (fun s' Q' hA hq => node_ C hA (by rfl) (by rfl) (by rfl) (by rfl) hq) (by rfl)
      fun s7 g7 μ7 T7 own7 hle7' D₃ r₃ l₃ n₃ o₃ p₃ => ?_
    obtain ⟨z1, z2⟩ := o₃ I oI j2 hoI
    obtain ⟨x, hx⟩ := Option.ne_none_iff_exists'.mp n₃
    obtain ⟨hfar, ob, kvs, hob, hmap, hval⟩ := r₃.lev_ l₃
    obtain ⟨on, kn, hn, hnm, hn1, hn2, hn3⟩ := r₃.node _ _ hx
    have hkx : valueAt kvs k = some (.ref x.nd) := by rw [hval, hx]; rfl
    refine exCons_ (asgName_ ?_)
    refine nth_ (Subscript_ ?_)
    refine name_ D₃ (by rfl) (by rfl) (by rfl) (by exact j3c) ?_
    refine name_ D₃ (by rfl) (by rfl) (by rfl) (by rfl) ?_
    refine dget_ D₃ (D₃.mine _ _ hob).1 hmap hkx fun s8 D₄ => ?_
    refine nth_in on kn D₄ (D₄.inn _ _ hn) hnm hn3 fun s10 D₆ => ?_
    refine store_ D₆ (by rfl) (by rfl) (by rfl) fun s9 D₇ => ?_
    refine wpAny_execs_nil ?_
    refine ⟨_, _, _, ?_, D₇, z2.trans hoI.symm, hle7'⟩
    refine ⟨⟨T7, own7, r₃, z1, x.ne, ?_, by rfl⟩, j4, j5, j6, p₃.trans j7⟩
    rw [← htk, lvl_cons, hx]; rfl
  · rintro I m' g' μ' s' eI hle ⟨⟨T', own', j1, j2, a, j3, j3c⟩, j4, j5, j6, j7⟩ D₁
    have ht : (way.dropLast.map PyData.str).length = way.length - 1 := by simp
    rw [ht] at j3
    refine exCons_ ?_
    refine ensure_ C D₁ j1 (p := way.take (way.length - 1)) (c := c) (t := tc) j3 hcn (by exact j6) (by exact j3c) (by rfl) (by rfl) (by rfl) (by rfl) (by rfl) (fun s' Q' hA hq => node_ C hA (by rfl) (by rfl) (by rfl) (by rfl) hq) (by rfl)
      fun s7 g7 μ7 T7 own7 hle7' D₃ r₃ l₃ n₃ o₃ p₃ => ?_
    obtain ⟨x, hx⟩ := Option.ne_none_iff_exists'.mp n₃
    obtain ⟨hfar, ob, kvs, hob, hmap, hval⟩ := r₃.lev_ l₃
    obtain ⟨on, kn, hn, hnm, hn1, hn2, hn3⟩ := r₃.node _ _ hx
    have hkx : valueAt kvs c = some (.ref x.nd) := by rw [hval, hx]; rfl
    rw [htake] at hx
    obtain ⟨_, of, hof, hsf⟩ := r₃.fl _ _ hx
    obtain ⟨_, or, hor, hsr⟩ := r₃.rc _ _ hx
    refine exCons_ (wpAny_Expr (MethodCall_ ?_))
    refine Subscript_ (Subscript_ ?_)
    refine name_ D₃ (by rfl) (by rfl) (by rfl) (by exact j3c) ?_
    refine name_ D₃ (by rfl) (by rfl) (by rfl) (by exact j6) ?_
    refine dget_ D₃ (D₃.mine _ _ hob).1 hmap hkx fun s8 D₄ => ?_
    have hsel : ∃ os, μ7 (if rec then x.rc else x.fl) = some os ∧ SetIs prog w os (M rec way) (cnt (M rec way)) := by
      cases rec with
      | true => exact ⟨or, hor, hsr⟩
      | false => exact ⟨of, hof, hsf⟩
    obtain ⟨os, hos, hss⟩ := hsel
    refine wpAny_mono (E := fun _ _ => False) (Q := fun i s' => ∃ t, i = .str (if rec then "recursive_flags" else "flags") t ∧ At b g s (fun a => μ a ≠ none) s.heap.objs.size m' g7 μ7 s') (wpAny_IfExp (isTrue_plain ?_ (by rfl))) (fun i s9 hi9 => ?_) (fun _ _ e => e.elim)
    · refine name_ D₄ (by rfl) (by rfl) (by rfl) (by exact j5) (wpAny_truthy_bool ?_)
      cases rec with
      | true =>
        simp only [if_true]
        exact str_ D₄ fun s' t D => ⟨t, rfl, D⟩
      | false =>
        simp only [Bool.false_eq_true, if_false]
        exact str_ D₄ fun s' t D => ⟨t, rfl, D⟩
    obtain ⟨ti, rfl, D₅⟩ := hi9
    have hvs : valueAt kn (if rec then "recursive_flags" else "flags") = some (.ref (if rec then x.rc else x.fl)) := by
      cases rec with
      | true => exact hn2
      | false => exact hn1
    refine dget_ D₅ (D₅.inn _ _ hn) hnm hvs fun s10 D₆ => ?_
    refine getMethod_set_add (hss.at (D₆.mine _ _ hos).1) ?_
    refine callWith_method1 ?_ (by rfl) (by rfl)
    refine argCons_ (name_ D₆ (by rfl) (by rfl) (by rfl) (by exact j4) (args_nil ?_))
    have hcle := cnt_le (M rec way)
    refine call_set_add (intKind_is prog w flag t2) rfl (hss.at (D₆.mine _ _ hos).1) (by unfold scanBound; omega) fun h' hs' hS' => ?_
    obtain ⟨o', ho', hm'⟩ := SetIs.of hS'
    have D₇ := D₆.set (tk := s10.toks + 1) hos hs' ho'
    rw [← cnt_add _ _ hfl] at hm'
    have r₄ := r₃.markAt (rec := rec) (i := flag) (μ' := upd μ7 (if rec then x.rc else x.fl) o') hx hm' (upd_self _ _ _) (fun y hy => upd_ne _ hy)
    refine wpAny_execs_nil ?_
    refine q _ _ _ (Left.of D₇ r₄) ?_
    have hown := r₄.pend_.1
    unfold only
    rw [if_pos (by rw [hown]; rfl), upd_ne _ ?_]
    · exact p₃.trans j7
    · intro he
      rw [he] at hown
      cases rec with
      | true => rw [if_pos rfl, (r₃.rc _ _ hx).1] at hown; cases hown
      | false => rw [if_neg (by simp), (r₃.fl _ _ hx).1] at hown; cases hown
end
end Mine

namespace Mine
noncomputable def Own.way : Own → Option Way
  | .lev p => some p
  | .fl p => some p
  | .rc p => some p
  | .pend => none
noncomputable def unsetM (M : Bool → Way → Int → Bool) (way : Way) : Bool → Way → Int → Bool := fun b q k => M b q k && !(q.take way.length == way)
noncomputable def cutT (T : Tree) (way : Way) : Tree := fun q => if q.take way.length == way then none else T q
noncomputable def cutO (own : Addr → Option Own) (way : Way) : Addr → Option Own := fun a => match own a with
  | some o => match o.way with
    | some q => if q.take way.length == way then none else some o
    | none => some o
  | none => none
section
variable {prog : Program} {w : World} {A : Around} {E : Value → Shared → Prop} {b s s' s₀ : Shared} {g₀ g g' μ μ' : Kn} {fp : Addr → Prop} {L : Addr} {m : Str → Option Value} {env : Env} {mg mb : Str → Option Value}
  {f root pend : Addr} {T : Tree} {own : Addr → Option Own} {M : Bool → Way → Int → Bool} {pl : List (Way × Int)}

theorem cutO_keep {way q : Way} {a : Addr} {o : Own} (h : own a = some o) (hw : o.way = some q) (hq : (q.take way.length == way) = false) : cutO own way a = some o := by
  unfold cutO; rw [h]; simp only [hw]; rw [hq]; rfl
theorem cutO_sub {way : Way} {a : Addr} (h : cutO own way a ≠ none) : own a ≠ none := by
  unfold cutO at h
  intro e
  rw [e] at h
  exact h rfl
theorem cutT_some {way q : Way} {x : TRec} (h : cutT T way q = some x) : (q.take way.length == way) = false ∧ T q = some x := by
  unfold cutT at h
  cases e : q.take way.length == way with
  | true => rw [e] at h; cases h
  | false => rw [e] at h; exact ⟨rfl, h⟩
theorem cutT_keep {way q : Way} (h : (q.take way.length == way) = false) : cutT T way q = T q := by unfold cutT; rw [h]; rfl

theorem Rep.cut (r : Rep prog w g μ f root pend T own M pl) {p : Way} {c : Str} {a0 : Addr} {o0 : Obj} {k0 : List (Str × Value)} (ha : lvl T root p = some a0)
    (s0 : StrMap prog w o0 k0) (hk : ∀ k, valueAt k0 k = if k = c then none else (T (p ++ [k])).map fun r => .ref r.nd)
    (m0 : μ' a0 = some o0) (mO : ∀ y, y ≠ a0 → μ' y = μ y) :
    Rep prog w g μ' f root pend (cutT T (p ++ [c])) (cutO own (p ++ [c])) (unsetM M (p ++ [c])) pl := by
  have own0 := (r.lev p a0 ha).1
  have hpne : ∀ q : Way, q.length ≤ p.length → (q.take (p ++ [c]).length == p ++ [c]) = false := by
    intro q hq
    rw [beq_eq_false_iff_ne]
    intro e
    have := congrArg List.length e
    simp at this
    omega
  have Mkeep : ∀ (b : Bool) (q : Way), (q.take (p ++ [c]).length == p ++ [c]) = false → unsetM M (p ++ [c]) b q = M b q := fun b q hq => by
    funext k; unfold unsetM; rw [hq]; simp
  refine ⟨r.inst, ?_, ?_, ?_, ?_, ?_, ?_, ?_, ?_, ?_⟩
  · intro q a e
    have hq : (q.take (p ++ [c]).length == p ++ [c]) = false := by
      by_cases h0 : q = []
      · subst h0; exact hpne [] (Nat.zero_le _)
      · unfold lvl at e
        rw [if_neg h0] at e
        obtain ⟨y, hy, _⟩ := Option.map_eq_some_iff.mp e
        exact (cutT_some hy).1
    have e' : lvl T root q = some a := by
      unfold lvl at e ⊢
      rw [cutT_keep hq] at e
      exact e
    obtain ⟨h1, o, kvs, h2, h3, h4⟩ := r.lev q a e'
    refine ⟨cutO_keep h1 rfl hq, ?_⟩
    by_cases haa : a = a0
    · subst haa
      rw [own0] at h1
      cases h1
      refine ⟨o0, k0, m0, s0, fun k => ?_⟩
      rw [hk]
      by_cases hkc : k = c
      · subst hkc
        rw [if_pos rfl]
        unfold cutT
        rw [if_pos (by rw [List.take_length]; exact beq_self_eq_true _)]
        rfl
      · rw [if_neg hkc, cutT_keep]
        rw [beq_eq_false_iff_ne]
        intro e
        rw [List.take_of_length_le (by simp)] at e
        have := List.append_inj' e rfl
        simp at this
        exact hkc this
    · refine ⟨o, kvs, (mO _ haa).trans h2, h3, fun k => ?_⟩
      rw [h4, cutT_keep]
      rw [beq_eq_false_iff_ne]
      intro e
      by_cases hl : q.length < (p ++ [c]).length
      · rw [List.take_of_length_le (by simp at hl ⊢; omega)] at e
        have := List.append_inj' e rfl
        rw [this.1, ha] at e'
        cases e'
        exact haa rfl
      · rw [List.take_append_of_le_length (by omega)] at e
        rw [e] at hq
        simp at hq
  · intro q x e
    obtain ⟨_, e'⟩ := cutT_some e
    exact r.node q x e'
  · intro q x e
    obtain ⟨hq, e'⟩ := cutT_some e
    obtain ⟨h1, o, h2, h3⟩ := r.fl q x e'
    refine ⟨cutO_keep h1 rfl hq, o, (mO _ ?_).trans h2, ?_⟩
    · intro he; rw [he, own0] at h1; cases h1
    · rw [Mkeep _ _ hq]; exact h3
  · intro q x e
    obtain ⟨hq, e'⟩ := cutT_some e
    obtain ⟨h1, o, h2, h3⟩ := r.rc q x e'
    refine ⟨cutO_keep h1 rfl hq, o, (mO _ ?_).trans h2, ?_⟩
    · intro he; rw [he, own0] at h1; cases h1
    · rw [Mkeep _ _ hq]; exact h3
  · intro q x e
    exact r.names q x (cutT_some e).2
  · intro q k x e
    obtain ⟨hq, e'⟩ := cutT_some e
    have hq' : (q.take (p ++ [c]).length == p ++ [c]) = false := by
      rw [beq_eq_false_iff_ne] at hq ⊢
      intro he
      apply hq
      have hl : (p ++ [c]).length ≤ q.length := by
        have := congrArg List.length he
        rw [List.length_take] at this
        omega
      rw [List.take_append_of_le_length hl]
      exact he
    have := r.closed q k x e'
    unfold lvl at this ⊢
    rw [cutT_keep hq']
    exact this
  · intro b q i e
    unfold unsetM at e
    rw [Bool.and_eq_true, Bool.not_eq_true'] at e
    rw [cutT_keep e.2]
    exact r.mark b q i e.1
  · obtain ⟨h1, o, h2, h3⟩ := r.pend_
    refine ⟨by unfold cutO; rw [h1]; rfl, o, (mO _ ?_).trans h2, h3⟩
    intro he; rw [he, own0] at h1; cases h1
  · intro a e
    have e' := cutO_sub e
    refine ⟨?_, (r.ownM a e').2⟩
    by_cases haa : a = a0
    · subst haa; rw [m0]; simp
    · rw [mO _ haa]; exact (r.ownM a e').1

theorem Rep.unsetGone (r : Rep prog w g μ f root pend T own M pl) {way : Way} {i : Nat} (hi : i < way.length) (hT : T (way.take (i + 1)) = none) : unsetM M way = M := by
  funext b q k
  unfold unsetM
  cases e : q.take way.length == way with
  | false => simp
  | true =>
    have e2 : q = way.take (i + 1) ++ q.drop (i + 1) := by
      have h1 : q.take (i + 1) = way.take (i + 1) := by
        rw [← beq_iff_eq.mp e, List.take_take, Nat.min_eq_left (by omega)]
      rw [← h1, List.take_append_drop]
    have : T q = none := by
      rw [e2]
      exact r.gone hT (by simp; exact List.ne_nil_of_length_pos (by omega))
    rw [r.noMark this]; rfl

theorem getMethod_pop {s : Shared} {o : Obj} {kvs : List (Str × Value)} {a : Addr} {plc : Sem Bool} {Q : Value × List Value → Shared → Prop} (hm : StrMap prog w o kvs) (ho : s.heap.get? a = some o) (q : Q (.builtin "dict.pop", [.ref a]) s) :
    wpAny (model prog w) A (getMethod (.ref a) "pop" plc) Q E s :=
  have hd := StrMap.at hm ho
  getMethod_builtin hd.typeIs PySem.F.plainAttrs_dict PySem.F.slot_dict_pop PySem.F.type_dict_pop hd.mapOf.noDict q

theorem call_pop {a : Addr} {o : Obj} {kvs : List (Str × Value)} {c : Str} {t : Tok} {Q : Value → Shared → Prop} (h : At b g₀ s₀ fp L m g μ s) (hob : μ a = some o) (hm : StrMap prog w o kvs) (hfar : (a == sysModules) = false) (hsz : kvs.length ≤ 2)
    (q : ∀ v s' o', At b g₀ s₀ fp L m g (upd μ a o') s' → StrMap prog w o' (without kvs c) → Q v s') :
    wpAny (model prog w) A (call (.builtin "dict.pop") [.ref a, .str c t, .none]) Q E s := by
  have hd := StrMap.at hm (h.mine _ _ hob).1
  cases hv : valueAt kvs c with
  | some v =>
    refine call_meetsIn PySem.F.slot_dict_pop hd.typeIs PySem.F.entry_dict_pop (PySem.F.args_dict_pop_3 _ _ _) (meets_dict_pop_there (strKind prog w) a (strKind_is prog w c t) [.none] (.inr ⟨_, rfl⟩) rfl) ⟨kvs, v, hd, by rw [sizeLine_eq]; omega, hv, fun h' hd' hs' => ?_⟩
    obtain ⟨o', ho', hm'⟩ := Heap.dictOf_iff.mp hd'
    exact q _ _ _ (h.set (tk := s.toks + 1) hob hs' ho') hm'
  | none =>
    refine call_meetsIn PySem.F.slot_dict_pop hd.typeIs PySem.F.entry_dict_pop (PySem.F.args_dict_pop_3 _ _ _) (meets_dict_pop_default (strKind prog w) a (strKind_is prog w c t) hfar rfl .none) ⟨kvs, hd, hv, ?_⟩
    have e : without kvs c = kvs := by
      unfold without
      rw [List.filter_eq_self]
      intro kv hkv
      rw [decide_eq_true_iff]
      rintro rfl
      unfold valueAt at hv
      rw [Option.map_eq_none_iff, List.find?_eq_none] at hv
      exact hv kv hkv (by simp)
    have hu : upd μ a o = μ := by
      funext x
      by_cases hx : x = a
      · subst hx; rw [upd_self, hob]
      · rw [upd_ne _ hx]
    refine q _ _ o ?_ (by rw [e]; exact hm)
    rw [hu]
    exact h.toks

theorem valueAt_without (kvs : List (Str × Value)) (c k : Str) : valueAt (without kvs c) k = if k = c then none else valueAt kvs k := by
  unfold valueAt without
  rw [List.find?_filter]
  by_cases h : k = c
  · subst h
    rw [if_pos rfl, Option.map_eq_none_iff, List.find?_eq_none]
    intro x _
    by_cases hx : x.1 = k <;> simp [hx]
  · rw [if_neg h]
    congr 1
    congr 1
    funext x
    by_cases hx : x.1 = k
    · simp [hx, h]
    · simp [hx]

set_option maxHeartbeats 1000000 in
theorem unset_all_ {v1 : Value} {way : Way} {Q : Value → Shared → Prop} (R : Room A 2 90) (C : Cx w b.heap mg mb) (k : Know b g s) (r : Rep prog w g μ f root pend T own M pl)
    (hμ : ∀ a o, μ a = some o → s.heap.get? a = some o ∧ g a = none) (h1 : Rd g v1 (encW way)) (ok : OkW way) (hne : way ≠ [])
    (q : ∀ s' g' μ', Left prog w b g μ s f root pend (unsetM M way) pl g' μ' s' → Q .none s') : wpAny (model prog w) A (call (.ref 49) [.ref f, v1]) Q E s := by
  refine enter (fd := fdAt w.params 49) (binds := [("self", .ref f), ("key", v1)]) (fp := fun a => μ a ≠ none) (μ := μ) (d := 1) (u := 87) R C k rfl rfl (by kernel_rfl) rfl (by kernel_rfl) (noCells (by kernel_rfl)) (locs (by kernel_rfl))
    (fun a o e => ⟨(hμ a o e).1, (hμ a o e).2, by rw [e]; simp⟩) fun s₁ A₁ R₁ => ?_
  have hlen := ok.len
  obtain ⟨d, es, n, hi, hdd, hl1, hl2, hl3⟩ := r.inst
  obtain ⟨c, hc, htake⟩ := last_of hne
  refine exCons_ (asgName_ (Attribute_name ?_))
  refine name_ A₁ (by rfl) (by rfl) (by rfl) (by rfl) ?_
  refine attr_ C A₁ hi hdd (by kernel_rfl) (by kernel_rfl) (by kernel_rfl) hl1 rfl fun s3 A₃ => ?_
  refine store_ A₃ (by rfl) (by rfl) (by rfl) fun s4 A₄ => ?_
  refine exCons_ (wpAny_For ?_)
  refine parent_ (name_ A₄ (by rfl) (by rfl) (by rfl) (by rfl) ?_)
  refine parent_in A₄ h1 (by simp; omega) fun s5 g5 v5 hle5 A₅ r5 => ?_
  have ed : (way.map PyData.str).dropLast = way.dropLast.map PyData.str := by rw [List.map_dropLast]
  rw [ed] at r5
  have r₅ := r.up hle5
  have hI : ∀ a, own a ≠ none → a ≠ s5.heap.objs.size := by
    intro a ha
    obtain ⟨x, hx⟩ := Option.ne_none_iff_exists'.mp (r.ownM a ha).1
    exact Nat.ne_of_lt (Heap.lt_size (A₅.mine a x hx).1)
  refine for_tup_ (fun I i m g' μ' => Rep prog w g' μ' f root pend T own M pl ∧ own I = none ∧ (∃ a, lvl T root (way.take i) = some a ∧ m "cont" = some (.ref a)) ∧ m "key" = some v1) R₁.hd A₅ r5 ?_ ?_ ?_ ?_
  · intro I μ' eI hμ'
    refine ⟨r₅.congr fun a ha => hμ' a (eI ▸ hI a ha), ?_, ⟨root, rfl, by rfl⟩, by rfl⟩
    cases e : own I with
    | none => rfl
    | some o => exact absurd eI.symm (hI I (by rw [e]; simp))
  · rintro I i m g μ₁ μ₂ eI hμ' ⟨j1, j2, j3⟩
    refine ⟨j1.congr fun a ha => hμ' a ?_, j2, j3⟩
    rintro rfl
    exact ha j2
  · rintro I i dd v m' g' μ' s' eI hd hr hle ⟨j1, j2, ⟨a, j3, j3c⟩, j4⟩ D₁ _
    rw [List.getElem?_map] at hd
    obtain ⟨k, hk, rfl⟩ := Option.map_eq_some_iff.mp hd
    obtain ⟨tk, rfl⟩ := hr.strE
    have hil : i < way.length - 1 := by
      rcases Nat.lt_or_ge i (way.length - 1) with h | h
      · exact h
      · rw [List.getElem?_eq_none (by simpa using h)] at hk; cases hk
    have hki : way[i]? = some k := by
      rw [List.getElem?_dropLast] at hk
      rw [if_pos hil] at hk
      exact hk
    have htk : way.take i ++ [k] = way.take (i + 1) := by rw [List.take_add_one, hki]; rfl
    refine assignN_ D₁ (by rfl) (by rfl) (by rfl) fun s6 D₂ => ?_
    obtain ⟨hfar, ob, kvs, hob, hmap, hval⟩ := j1.lev_ j3
    refine exCons_ (wpAny_If (cmpT_ ?_))
    refine name_ D₂ (by rfl) (by rfl) (by rfl) (by rfl) ?_
    refine name_ D₂ (by rfl) (by rfl) (by rfl) (by exact j3c) ?_
    refine dnin_ D₂ (D₂.mine _ _ hob).1 hmap (by simpa using hfar) fun s7 D₃ => wpAny_truthy_bool ?_
    rw [hval, htk]
    cases eT : T (way.take (i + 1)) with
    | none =>
      simp only [Option.map_none, Option.isSome_none, Bool.not_false, if_true]
      refine exCons_ (wpAny_Return_none ?_)
      have := q _ _ _ (Left.of D₃ (by rw [j1.unsetGone (by omega) eT]; exact j1))
      exact this
    | some x =>
      simp only [Option.map_some, Option.isSome_some, Bool.not_true, Bool.false_eq_true, if_false]
      refine wpAny_execs_nil ?_
      obtain ⟨on, kn, hn, hnm, hn1, hn2, hn3⟩ := j1.node _ _ eT
      have hkx : valueAt kvs k = some (.ref x.nd) := by rw [hval, htk, eT]; rfl
      refine exCons_ (asgName_ ?_)
      refine nth_ (Subscript_ ?_)
      refine name_ D₃ (by rfl) (by rfl) (by rfl) (by exact j3c) ?_
      refine name_ D₃ (by rfl) (by rfl) (by rfl) (by rfl) ?_
      refine dget_ D₃ (D₃.mine _ _ hob).1 hmap hkx fun s8 D₄ => ?_
      refine nth_in on kn D₄ (D₄.inn _ _ hn) hnm hn3 fun s10 D₆ => ?_
      refine store_ D₆ (by rfl) (by rfl) (by rfl) fun s9 D₇ => ?_
      refine wpAny_execs_nil ?_
      refine ⟨_, _, _, ?_, D₇, rfl, Kn.le.refl _⟩
      refine ⟨j1, j2, ⟨x.ne, ?_, by rfl⟩, j4⟩
      rw [← htk, lvl_cons, htk, eT]; rfl
  · rintro I m' g' μ' s' eI hle ⟨j1, j2, ⟨a, j3, j3c⟩, j4⟩ D₁
    have ht : (way.dropLast.map PyData.str).length = way.length - 1 := by simp
    rw [ht] at j3
    obtain ⟨hfar, ob, kvs, hob, hmap, hval⟩ := j1.lev_ j3
    refine exCons_ (wpAny_Expr_any (MethodCall_ ?_))
    refine name_ D₁ (by rfl) (by rfl) (by rfl) (by exact j3c) ?_
    refine getMethod_pop hmap (D₁.mine _ _ hob).1 ?_
    refine callWith_method1 ?_ (by rfl) (by rfl)
    refine argCons_ (last_ (name_ D₁ (by rfl) (by rfl) (by rfl) (by exact j4) ?_))
    refine last_in (.str c) D₁ (h1.mono (hle5.trans hle)) (by rw [List.getLast?_map, hc]; rfl) fun s6 x6 D₂ r6 => ?_
    obtain ⟨tc, rfl⟩ := r6.strE
    refine argCons_ (none_ (args_nil ?_))
    refine call_pop D₂ hob hmap (by simpa using hfar) (j1.small hval hmap) fun v s7 o' D₃ hm' => ?_
    have r' := j1.cut (c := c) (μ' := upd μ' a o') j3 hm' (fun k => by rw [valueAt_without, hval]) (upd_self _ _ _) (fun y hy => upd_ne _ hy)
    rw [htake] at r'
    refine wpAny_execs_nil ?_
    exact q _ _ _ (Left.of D₃ r')
end
end Mine

namespace Mine
open SetTable

theorem length_le_of_nodup {α : Type} [DecidableEq α] : ∀ {l k : List α}, l.Nodup → (∀ x ∈ l, x ∈ k) → l.length ≤ k.length
  | [], _, _, _ => Nat.zero_le _
  | x :: l, k, hn, hs => by
    have hx := hs x (.head _)
    rw [List.nodup_cons] at hn
    have h := length_le_of_nodup (l := l) (k := k.erase x) hn.2 fun y hy => by
      refine (List.mem_erase_of_ne ?_).mpr (hs y (.tail _ hy))
      rintro rfl
      exact hn.1 hy
    rw [List.length_erase_of_mem hx] at h
    have := List.length_pos_of_mem hx
    rw [List.length_cons]
    omega

noncomputable def it (f : Nat → Nat) : Nat → Nat → Nat
  | 0, x => x
  | n + 1, x => it f n (f x)
theorem it_add (f : Nat → Nat) : ∀ (a b x : Nat), it f (a + b) x = it f b (it f a x)
  | 0, b, x => by rw [Nat.zero_add]; rfl
  | a + 1, b, x => by rw [Nat.add_right_comm]; exact it_add f a b (f x)
noncomputable def step (m i : Nat) : Nat := (i * 5 + 1) % m
noncomputable def never (m y : Nat) : Nat → Nat → Bool
  | 0, _ => true
  | n + 1, z => step m z != y && never m y n (step m z)
noncomputable def full (m : Nat) : Bool := (List.range m).all fun y => never m y (m - 1) y
theorem full8 : full 8 = true := by decide +kernel
theorem full32 : full 32 = true := by decide +kernel
theorem full128 : full 128 = true := by decide +kernel
theorem never_ne {m y : Nat} : ∀ {n z : Nat}, never m y n z = true → ∀ d, d < n → it (step m) (d + 1) z ≠ y
  | 0, _, _, d, hd => absurd hd (Nat.not_lt_zero d)
  | n + 1, z, h, 0, _ => by
    unfold never at h
    rw [Bool.and_eq_true, bne_iff_ne] at h
    exact h.1
  | n + 1, z, h, d + 1, hd => by
    unfold never at h
    rw [Bool.and_eq_true] at h
    have := never_ne h.2 d (by omega)
    exact this
theorem step_lt {m : Nat} (hm : 0 < m) (i : Nat) : step m i < m := Nat.mod_lt _ hm
theorem it_lt {m : Nat} (hm : 0 < m) : ∀ (n : Nat) {i : Nat}, i < m → it (step m) n i < m
  | 0, _, h => h
  | n + 1, _, _ => it_lt hm n (step_lt hm _)
noncomputable def orbit (m s : Nat) : List Nat := (List.range m).map fun k => it (step m) k s
theorem orbit_nodup {m s : Nat} (hf : full m = true) (hm : 0 < m) (hs : s < m) : (orbit m s).Nodup := by
  unfold orbit
  rw [List.Nodup, List.pairwise_map]
  refine List.Pairwise.imp_of_mem ?_ (List.pairwise_lt_range (n := m))
  intro a b _ hb hlt he
  have hb' := List.mem_range.mp hb
  have h1 := List.all_eq_true.mp hf (it (step m) a s) (List.mem_range.mpr (it_lt hm a hs))
  refine never_ne h1 (b - a - 1) (by omega) ?_
  rw [show b - a - 1 + 1 = b - a by omega, ← it_add, show a + (b - a) = b by omega]
  exact he.symm
theorem orbit_length (m s : Nat) : (orbit m s).length = m := by simp [orbit]

/-- some slot of the orbit is outside a short list -/
theorem orbit_free {m s : Nat} (hf : full m = true) (hm : 0 < m) (hs : s < m) {occ : List Nat} (ho : occ.length < m) : ∃ k, k < m ∧ it (step m) k s ∉ occ := by
  apply Classical.byContradiction
  intro h
  have hall : ∀ x ∈ orbit m s, x ∈ occ := by
    intro x hx
    obtain ⟨k, hk, rfl⟩ := List.mem_map.mp hx
    apply Classical.byContradiction
    intro hn
    exact h ⟨k, List.mem_range.mp hk, hn⟩
  have := length_le_of_nodup (orbit_nodup hf hm hs) hall
  rw [orbit_length] at this
  omega

noncomputable def leaps (mask : Nat) : Nat → Nat × Nat → Nat × Nat
  | 0, x => x
  | n + 1, x => leaps mask n (leap mask x.1 x.2)
theorem leaps_add (mask : Nat) : ∀ (a b : Nat) (x : Nat × Nat), leaps mask (a + b) x = leaps mask b (leaps mask a x)
  | 0, b, x => by rw [Nat.zero_add]; rfl
  | a + 1, b, x => by rw [Nat.add_right_comm]; exact leaps_add mask a b _
theorem leaps_snd (mask : Nat) : ∀ (n : Nat) (x : Nat × Nat), (leaps mask n x).2 = x.2 / 32 ^ n
  | 0, x => by simp [leaps]
  | n + 1, x => by
    show (leaps mask n (leap mask x.1 x.2)).2 = _
    rw [leaps_snd mask n]
    show x.2 / 32 / 32 ^ n = _
    rw [Nat.div_div_eq_div_mul, Nat.pow_succ, Nat.mul_comm]
theorem leaps_lt (mask : Nat) : ∀ (n : Nat) (x : Nat × Nat), x.1 < mask + 1 → (leaps mask n x).1 < mask + 1
  | 0, x, h => h
  | n + 1, x, _ => leaps_lt mask n _ (Nat.mod_lt _ (Nat.succ_pos _))
theorem leaps_zero (mask : Nat) : ∀ (n i : Nat), leaps mask n (i, 0) = (it (step (mask + 1)) n i, 0)
  | 0, i => rfl
  | n + 1, i => by
    show leaps mask n (leap mask i 0) = _
    have : leap mask i 0 = (step (mask + 1) i, 0) := by unfold leap step; simp
    rw [this, leaps_zero mask n]
    rfl
theorem bits_lt (h : Int) : bits h < 2 ^ 64 := by
  unfold bits
  have h1 := Int.emod_nonneg h (show (2 ^ 64 : Int) ≠ 0 by decide)
  have h2 := Int.emod_lt_of_pos h (show (0 : Int) < 2 ^ 64 by decide)
  omega
theorem full_of {mask : Nat} (h : mask = 7 ∨ mask = 31 ∨ mask = 127) : full (mask + 1) = true := by
  rcases h with rfl | rfl | rfl
  · exact full8
  · exact full32
  · exact full128
/-- the search comes to a free place -/
theorem leaps_free {mask : Nat} (hm : mask = 7 ∨ mask = 31 ∨ mask = 127) (h : Int) {occ : List Nat} (ho : occ.length ≤ mask) : ∃ r, r < mask + 14 ∧ (leaps mask r (bits h % (mask + 1), bits h)).1 ∉ occ := by
  have h13 : (leaps mask 13 (bits h % (mask + 1), bits h)).2 = 0 := by
    rw [leaps_snd]
    refine Nat.div_eq_of_lt (Nat.lt_of_lt_of_le (bits_lt h) (by decide))
  have hlt := leaps_lt mask 13 (bits h % (mask + 1), bits h) (Nat.mod_lt _ (Nat.succ_pos _))
  obtain ⟨k, hk, hn⟩ := orbit_free (full_of hm) (Nat.succ_pos mask) hlt (occ := occ) (by omega)
  refine ⟨13 + k, by omega, ?_⟩
  rw [leaps_add]
  have e : leaps mask 13 (bits h % (mask + 1), bits h) = ((leaps mask 13 (bits h % (mask + 1), bits h)).1, 0) := by rw [← h13]
  rw [e, leaps_zero]
  exact hn

/-! the probe -/
theorem slot_cases {t : SetTable} (hd : t.dummies = #[]) (j : Nat) : t.slot j = .empty ∨ ∃ i, t.slot j = .live i ∧ i < t.place.size ∧ j ∈ t.place.toList := by
  unfold SetTable.slot
  dsimp only
  by_cases h : (t.place[below t.place j]? == some j) = true
  · rw [if_pos h]
    have h' := beq_iff_eq.mp h
    obtain ⟨hlt, he⟩ := Array.getElem?_eq_some_iff.mp h'
    exact .inr ⟨_, rfl, hlt, by rw [← he]; exact Array.getElem_mem_toList hlt⟩
  · rw [if_neg h]
    have : has t.dummies j = false := by rw [hd]; unfold has; simp
    rw [this]
    exact .inl rfl
theorem slot_empty {t : SetTable} (hd : t.dummies = #[]) {j : Nat} (h : j ∉ t.place.toList) : t.slot j = .empty := by
  rcases slot_cases hd j with h1 | ⟨i, _, _, h2⟩
  · exact h1
  · exact absurd h2 h

noncomputable def Reach (t : SetTable) : Nat → Probe → Prop
  | 0, p => t.slot p.j = .empty
  | n + 1, p => t.slot p.j = .empty ∨ Reach t n (t.advance p)
theorem Reach.now {t : SetTable} {p : Probe} (h : t.slot p.j = .empty) : ∀ n, Reach t n p
  | 0 => h
  | _ + 1 => .inl h
theorem Reach.mono {t : SetTable} : ∀ {n m : Nat} {p : Probe}, Reach t n p → n ≤ m → Reach t m p
  | 0, m, p, h, _ => Reach.now h m
  | n + 1, 0, _, _, hl => absurd hl (Nat.not_succ_le_zero n)
  | n + 1, m + 1, p, h, hl => h.elim .inl fun h => .inr (h.mono (by omega))
noncomputable def stAt (mask : Nat) (x : Nat × Nat) : Probe := { j := x.1, more := runEnd mask x.1 - x.1, i := x.1, perturb := x.2, dummy := none }
theorem reach_round {t : SetTable} : ∀ (k : Nat) {n : Nat} {p : Probe}, p.more = k → p.dummy = none → Reach t n (stAt t.mask (leap t.mask p.i p.perturb)) → Reach t (n + k + 1) p
  | 0, n, p, hm, hd, h => by
    refine .inr ?_
    have : t.advance p = stAt t.mask (leap t.mask p.i p.perturb) := by
      unfold SetTable.advance stAt
      rw [if_neg (by omega), ← hd]
    rw [this]
    exact h
  | k + 1, n, p, hm, hd, h => by
    refine .inr ?_
    have e : t.advance p = { p with j := p.j + 1, more := p.more - 1 } := by
      unfold SetTable.advance
      rw [if_pos (by omega)]
    rw [e]
    exact reach_round k (p := { p with j := p.j + 1, more := p.more - 1 }) (by show p.more - 1 = k; omega) hd h
theorem reach_rounds {t : SetTable} : ∀ (r : Nat) (x : Nat × Nat), t.slot (leaps t.mask r x).1 = .empty → Reach t (10 * r) (stAt t.mask x)
  | 0, x, h => Reach.now h _
  | r + 1, x, h => by
    have ih := reach_rounds r (leap t.mask x.1 x.2) h
    refine Reach.mono (reach_round _ (p := stAt t.mask x) rfl rfl ih) ?_
    have : (stAt t.mask x).more ≤ 9 := by
      show runEnd t.mask x.1 - x.1 ≤ 9
      unfold runEnd
      split <;> omega
    omega

theorem reach_start {t : SetTable} (hd : t.dummies = #[]) (hm : t.mask = 7 ∨ t.mask = 31 ∨ t.mask = 127) (hs : t.place.size ≤ t.mask) (h : Int) : Reach t (10 * (t.mask + 13)) (t.probeStart h) := by
  obtain ⟨r, hr, hn⟩ := leaps_free hm h (occ := t.place.toList) (by simpa using hs)
  have := reach_rounds r (bits h % (t.mask + 1), bits h) (slot_empty hd hn)
  exact Reach.mono this (by omega)

theorem probe_go {t : SetTable} (hd : t.dummies = #[]) (hashAt : Nat → Int) (h : Int) : ∀ (n fuel : Nat) (p : Probe), Reach t n p → p.dummy = none → n < fuel →
    (∃ j, probe.go t hashAt h fuel p = some (.empty j none)) ∨
    ∃ j i next m, probe.go t hashAt h fuel p = some (.candidate j i next) ∧ i < t.place.size ∧ t.slot j = .live i ∧ m < n ∧ Reach t m next ∧ next.dummy = none
  | n, 0, p, _, _, hf => absurd hf (Nat.not_lt_zero n)
  | n, fuel + 1, p, hr, hn, hf => by
    unfold probe.go
    rcases slot_cases hd p.j with e | ⟨i, e, hi, _⟩
    · rw [e]
      exact .inl ⟨p.j, by rw [hn]⟩
    · rw [e]
      dsimp only
      have adv : ∃ k, n = k + 1 ∧ Reach t k (t.advance p) := by
        cases n with
        | zero => unfold Reach at hr; rw [e] at hr; cases hr
        | succ k =>
          rcases hr with hr | hr
          · rw [e] at hr; cases hr
          · exact ⟨k, rfl, hr⟩
      obtain ⟨k, rfl, hk⟩ := adv
      have hdn : (t.advance p).dummy = none := by
        unfold SetTable.advance
        split
        · exact hn
        · exact hn
      by_cases hq : (hashAt i == h) = true
      · rw [if_pos hq]
        exact .inr ⟨p.j, i, t.advance p, k, rfl, hi, e, Nat.lt_succ_self k, hk, hdn⟩
      · rw [if_neg hq]
        rcases probe_go hd hashAt h k fuel (t.advance p) hk hdn (by omega) with h1 | ⟨j, i', next, m, h1, h2, h3, h4, h5, h6⟩
        · exact .inl h1
        · exact .inr ⟨j, i', next, m, h1, h2, h3, by omega, h5, h6⟩

/-! laying anew -/
theorem free_some (mask : Nat) (owner : Array (Option Nat)) : ∀ (r fuel : Nat) (x : Nat × Nat), r < fuel → (owner.getD (leaps mask r x).1 (some 0)).isNone = true → ∃ j, layClean.free mask owner fuel x.1 x.2 = some j ∧ (owner.getD j (some 0)).isNone = true
  | r, 0, _, h, _ => absurd h (Nat.not_lt_zero r)
  | r, fuel + 1, x, h, hx => by
    unfold layClean.free
    cases hf : (List.range (runEnd mask x.1 + 1 - x.1)).find? fun k => (owner.getD (x.1 + k) (some 0)).isNone with
    | some k => exact ⟨_, rfl, by simpa using List.find?_some hf⟩
    | none =>
      cases r with
      | zero =>
        exfalso
        rw [List.find?_eq_none] at hf
        have hr : 0 < runEnd mask x.1 + 1 - x.1 := by unfold runEnd; split <;> omega
        exact hf 0 (List.mem_range.mpr hr) hx
      | succ r => exact free_some mask owner r fuel (leap mask x.1 x.2) (by omega) hx
theorem fm_set : ∀ (l : List (Option Nat)) (j k : Nat), l[j]? = some none → ((l.set j (some k)).filterMap id).Perm (k :: l.filterMap id)
  | [], j, k, h => by simp at h
  | x :: l, 0, k, h => by
    simp at h
    subst h
    simp
  | x :: l, j + 1, k, h => by
    have ih := fm_set l j k (by simpa using h)
    rw [List.set_cons_succ]
    cases x with
    | none => simpa using ih
    | some y =>
      simp only [List.filterMap_cons, id_eq]
      exact (List.Perm.cons y ih).trans (List.Perm.swap k y _)
structure LayInv (mask k : Nat) (owner : Array (Option Nat)) : Prop where
  size : owner.size = mask + 1
  occ : ∃ occ : List Nat, occ.length = k ∧ ∀ p, p < mask + 1 → (owner.getD p (some 0)).isNone = false → p ∈ occ
  perm : (owner.toList.filterMap id).Perm (List.range k)
theorem lay_step {mask k : Nat} (hm : mask = 7 ∨ mask = 31 ∨ mask = 127) (hk : k ≤ mask) {owner : Array (Option Nat)} (I : LayInv mask k owner) (h : Int) :
    ∃ j, layClean.free mask owner (turns mask) (bits h % (mask + 1)) (bits h) = some j ∧ LayInv mask (k + 1) (owner.setIfInBounds j (some k)) := by
  obtain ⟨occ, ho1, ho2⟩ := I.occ
  obtain ⟨r, hr, hn⟩ := leaps_free hm h (occ := occ) (by omega)
  have hlt := leaps_lt mask r (bits h % (mask + 1), bits h) (Nat.mod_lt _ (Nat.succ_pos _))
  have hnone : (owner.getD (leaps mask r (bits h % (mask + 1), bits h)).1 (some 0)).isNone = true := by
    cases e : (owner.getD (leaps mask r (bits h % (mask + 1), bits h)).1 (some 0)).isNone with
    | true => rfl
    | false => exact absurd (ho2 _ hlt e) hn
  obtain ⟨j, hj, hjn⟩ := free_some mask owner r (turns mask) (bits h % (mask + 1), bits h) (by unfold turns; omega) hnone
  refine ⟨j, hj, ?_, ⟨j :: occ, by rw [List.length_cons, ho1], fun p hp hpn => ?_⟩, ?_⟩
  · rw [Array.size_setIfInBounds]; exact I.size
  · by_cases hpj : p = j
    · subst hpj; exact .head _
    · refine .tail _ (ho2 p hp ?_)
      rw [← hpn]
      congr 1
      rw [Array.getD_eq_getD_getElem?, Array.getD_eq_getD_getElem?, Array.getElem?_setIfInBounds_ne (Ne.symm hpj)]
  · have hget : owner.toList[j]? = some none := by
      rw [Array.getD_eq_getD_getElem?] at hjn
      rw [Array.getElem?_toList]
      cases e : owner[j]? with
      | none => rw [e] at hjn; simp at hjn
      | some x =>
        rw [e] at hjn
        simp at hjn
        rw [hjn]
    rw [Array.toList_setIfInBounds]
    refine (fm_set _ _ _ hget).trans ?_
    refine (List.Perm.cons k I.perm).trans ?_
    rw [List.range_succ]
    exact (List.perm_append_singleton k (List.range k)).symm
theorem layClean_some {mask : Nat} (hm : mask = 7 ∨ mask = 31 ∨ mask = 127) (hashes : Array Int) (hs : hashes.size ≤ mask) : ∃ owner, layClean mask hashes = some owner ∧ owner.size = mask + 1 ∧ (owner.toList.filterMap id).Perm (List.range hashes.size) := by
  unfold layClean
  rw [← Array.foldl_toList]
  have key : ∀ (l : List Int) (k : Nat) (owner : Array (Option Nat)), LayInv mask k owner → k + l.length ≤ mask → ∃ owner', (l.foldl (fun acc h => do
      let (owner, k) ← acc
      let j ← layClean.free owner (turns mask) (bits h % (mask + 1)) (bits h) (mask := mask)
      pure (owner.setIfInBounds j (some k), k + 1)) (some (owner, k)) : Option (Array (Option Nat) × Nat)) = some (owner', k + l.length) ∧ LayInv mask (k + l.length) owner' := by
    intro l
    induction l with
    | nil => intro k owner I _; exact ⟨owner, rfl, I⟩
    | cons h l ih =>
      intro k owner I hl
      rw [List.length_cons] at hl
      obtain ⟨j, hj, I'⟩ := lay_step hm (by omega) I h
      obtain ⟨owner', h1, h2⟩ := ih (k + 1) _ I' (by omega)
      refine ⟨owner', ?_, ?_⟩
      · rw [List.foldl_cons]
        have e : ((do
            let (owner, k) ← some (owner, k)
            let j ← layClean.free owner (turns mask) (bits h % (mask + 1)) (bits h) (mask := mask)
            pure (owner.setIfInBounds j (some k), k + 1) : Option (Array (Option Nat) × Nat))) = some (owner.setIfInBounds j (some k), k + 1) := by
          show (layClean.free mask owner (turns mask) (bits h % (mask + 1)) (bits h) >>= fun j => pure (owner.setIfInBounds j (some k), k + 1)) = _
          rw [hj]
          rfl
        rw [e, h1]
        simp [Nat.add_comm, Nat.add_left_comm]
      · rw [List.length_cons, show k + (l.length + 1) = k + 1 + l.length by omega]; exact h2
  have I0 : LayInv mask 0 (Array.replicate (mask + 1) none) := by
    refine ⟨by simp, ⟨[], rfl, fun p hp hpn => ?_⟩, ?_⟩
    · rw [Array.getD_eq_getD_getElem?, Array.getElem?_replicate, if_pos hp] at hpn
      simp at hpn
    · rw [Array.toList_replicate]
      have : (List.replicate (mask + 1) (none : Option Nat)).filterMap id = [] := by
        rw [List.filterMap_eq_nil_iff]
        intro x hx
        rw [List.eq_of_mem_replicate hx]; rfl
      rw [this]
      exact List.Perm.refl _
  obtain ⟨owner', h1, h2⟩ := key hashes.toList 0 _ I0 (by simpa using hs)
  refine ⟨owner', ?_, h2.size, ?_⟩
  · rw [h1]; rfl
  · simpa using h2.perm
theorem live_snd (owner : Array (Option Nat)) {m : Nat} (h : owner.size = m) : ((List.range m).filterMap fun j => (owner.getD j none).map (j, ·)).map (·.2) = owner.toList.filterMap id := by
  rw [List.map_filterMap]
  have e : owner.toList = (List.range m).map fun j => owner.getD j none := by
    apply List.ext_getElem?
    intro i
    rw [List.getElem?_map, Array.getElem?_toList]
    by_cases hi : i < m
    · rw [List.getElem?_range hi]
      simp only [Option.map_some]
      rw [Array.getD_eq_getD_getElem?]
      rw [Array.getElem?_eq_getElem (by omega)]
      rfl
    · rw [Array.getElem?_eq_none (by omega), List.getElem?_eq_none (by simpa using Nat.le_of_not_lt hi)]
      rfl
  rw [e, List.filterMap_map]
  congr 1
  funext j
  show _ = owner.getD j none
  cases owner.getD j none <;> rfl
theorem relaid_some (t : SetTable) (hashes : Array Int) {wanted : Nat} (hm : sizeAbove wanted - 1 = 7 ∨ sizeAbove wanted - 1 = 31 ∨ sizeAbove wanted - 1 = 127) (hs : hashes.size ≤ sizeAbove wanted - 1) :
    ∃ t' order, t.relaid hashes wanted = some (t', order) ∧ t'.mask = sizeAbove wanted - 1 ∧ t'.place.size = hashes.size ∧ t'.dummies = #[] ∧ t'.led = t.led ∧ t'.plain = t.plain ∧ order.toList.Perm (List.range hashes.size) := by
  obtain ⟨owner, h1, h2, h3⟩ := layClean_some hm hashes hs
  unfold SetTable.relaid laid
  rw [h1]
  have hl := live_snd owner h2
  refine ⟨_, _, rfl, rfl, ?_, rfl, rfl, rfl, ?_⟩
  · have := congrArg List.length hl
    rw [h3.length_eq] at this
    simpa using this
  · show (List.toArray _).toList.Perm _
    rw [List.toList_toArray, hl]
    exact h3
theorem insertAt_toList {α : Type} (xs : Array α) (p : Nat) (x : α) : (insertAt xs p x).toList = xs.toList.take p ++ x :: xs.toList.drop p := by
  unfold insertAt
  simp only [Array.toList_append, Array.toList_extract, List.extract, Array.toList_push]
  simp
  rw [List.take_of_length_le (by simp)]
theorem insertAt_size {α : Type} (xs : Array α) (p : Nat) (x : α) : (insertAt xs p x).size = xs.size + 1 := by
  have := congrArg List.length (insertAt_toList xs p x)
  simp at this
  omega
theorem insertAt_mem {α : Type} {xs : Array α} {p : Nat} {x y : α} : y ∈ (insertAt xs p x).toList ↔ y = x ∨ y ∈ xs.toList := by
  rw [insertAt_toList, List.mem_append, List.mem_cons]
  constructor
  · rintro (h | h | h)
    · exact .inr (List.mem_of_mem_take h)
    · exact .inl h
    · exact .inr (List.mem_of_mem_drop h)
  · rintro (h | h)
    · exact .inr (.inl h)
    · rw [← List.take_append_drop p xs.toList] at h
      rcases List.mem_append.mp h with h | h
      · exact .inl h
      · exact .inr (.inr h)
end Mine

namespace Mine
open SetTable
section
variable {prog : Program} {w : World} {A : Around} {E : Value → Shared → Prop} {b s s' s₀ : Shared} {g₀ g g' μ μ' : Kn} {fp : Addr → Prop} {L : Addr} {m : Str → Option Value} {env : Env} {mg mb : Str → Option Value}

theorem hashTup_ {a : Addr} {vs : List Value} {n : Nat} {Q : Int → Shared → Prop} (hg : s.heap.get? a = some (tupObj vs n)) (hu : A.units < cLine)
    (items : ∀ v ∈ vs, ∀ (tk : Nat) (Q : Int → Shared → Prop), (∀ h tk', Q h { s with toks := tk' }) → wpAny (model prog w) A.in1 (pyHash v) Q E { s with toks := tk })
    (q : ∀ h tk, Q h { s with toks := tk }) : wpAny (model prog w) A (pyHash (.ref a)) Q E s := by
  refine pyHash_slot (T := "tuple") ⟨_, hg, rfl⟩ F.slot_tuple_hash F.entry_tuple_hash (F.args_tuple_hash_1 _) (beq_builtin_none _) (.inr hu) ?_
  show wpAny _ _ (Builtin.Tuple.tupleItemsOf (.ref a) >>= _) _ _ s
  refine wpAny_bind (wpAny_tupleItemsOf hg rfl ?_)
  refine wpAny_bind ?_
  rw [← Array.forIn_toList]
  refine wpAny_forIn_list _ (fun rest (b : Array Int) s' => (∀ v ∈ rest, v ∈ vs) ∧ ∃ tk, s' = { s with toks := tk }) _ ?_ ?_ _ _ ⟨by simp, s.toks, rfl⟩
  · rintro v rest b s' ⟨hv, tk, rfl⟩
    refine wpAny_bind (items v (hv v (.head _)) tk _ fun h tk' => ?_)
    have hr : ∀ u ∈ rest, u ∈ vs := fun u hu' => hv u (.tail _ hu')
    first
      | exact wpAny_pure ⟨hr, tk', rfl⟩
      | exact wpAny_bind (wpAny_pure (wpAny_pure ⟨hr, tk', rfl⟩))
  · rintro b s' ⟨_, tk, rfl⟩
    show wpAny _ _ (retInt (Builtin.Tuple.tupleHashOf b.toList)) _ _ _
    exact wpAny_bind (wpAny_mkInt (wpAny_pure ⟨_, _, rfl, q _ _⟩))

theorem hashW_ {v : Value} {way : Way} {Q : Int → Shared → Prop} (hin : ∀ a o, g a = some o → s.heap.get? a = some o) (hv : Rd g v (encW way)) (hu : A.units < cLine) (q : ∀ h tk, Q h { s with toks := tk }) : wpAny (model prog w) A (pyHash v) Q E s := by
  obtain ⟨a, vs, n, rfl, hg, hr⟩ := hv.tupE
  refine hashTup_ (hin _ _ hg) hu (fun v hv tk Q q => ?_) q
  obtain ⟨i, hi⟩ := List.getElem?_of_mem hv
  have hlt : i < (way.map PyData.str).length := by
    rw [← hr.length]
    rcases Nat.lt_or_ge i vs.length with h | h
    · exact h
    · rw [List.getElem?_eq_none h] at hi; cases hi
  obtain ⟨v', hv', rv⟩ := hr.get (List.getElem?_eq_getElem hlt)
  rw [hi] at hv'
  cases hv'
  rw [List.getElem_map] at rv
  obtain ⟨t, rfl⟩ := rv.strE
  exact wpAny_pyHash_str (q _ _)
theorem hashQ_ {v : Value} {x : Way × Int} {Q : Int → Shared → Prop} (hin : ∀ a o, g a = some o → s.heap.get? a = some o) (hv : Rd g v (encQ x)) (hu : A.units + 1 < cLine) (q : ∀ h tk, Q h { s with toks := tk }) : wpAny (model prog w) A (pyHash v) Q E s := by
  obtain ⟨a, vs, n, rfl, hg, hr⟩ := hv.tupE
  cases hr with
  | cons h1 hr =>
    cases hr with
    | cons h2 hr =>
      cases hr
      obtain ⟨t, rfl⟩ := h2.intE
      refine hashTup_ (hin _ _ hg) (by omega) (fun v hv tk Q q => ?_) q
      rcases List.mem_cons.mp hv with rfl | hv
      · exact hashW_ (s := { s with toks := tk }) hin h1 (by show A.units + 1 < cLine; omega) q
      · rw [List.mem_singleton.mp hv]
        exact wpAny_pyHash_int (q _ _)

/-! quiet tuples -/
theorem quietTup_ {a : Addr} {vs : List Value} {n k : Nat} {Q : Bool → Shared → Prop} (hg : s.heap.get? a = some (tupObj vs n))
    (items : ∀ v ∈ vs, ∀ (Q : Bool → Shared → Prop), Q true s → wpAny (model prog w) A (eqIsQuiet k v) Q E s) (q : Q true s) : wpAny (model prog w) A (eqIsQuiet (k + 1) (.ref a)) Q E s := by
  have hT : s.TypeIs (.ref a) "tuple" := ⟨_, hg, rfl⟩
  unfold eqIsQuiet
  refine wpAny_bind (wpAny_specialOf hT F.slot_tuple_eq.lookup ?_)
  show wpAny _ _ (isInstance (.ref a) (.type "tuple") >>= _) _ _ s
  refine wpAny_bind (wpAny_isInstance hT isSubtype_tuple_tuple ?_)
  simp only [Bool.not_true, Bool.false_eq_true, if_false]
  refine wpAny_bind (wpAny_seqItems hg rfl ?_)
  refine wpAny_bind ?_
  show wpAny _ _ (forIn vs.toArray _ _) _ _ s
  rw [← Array.forIn_toList]
  refine wpAny_forIn_list _ (fun rest r s' => r.1 = none ∧ s' = s ∧ ∀ v ∈ rest, v ∈ vs) _ ?_ ?_ _ _ ⟨rfl, rfl, by simp⟩
  · rintro v rest r s' ⟨hr, rfl, hall⟩
    refine wpAny_bind (items v (hall v (.head _)) _ ?_)
    simp only [Bool.not_true, Bool.false_eq_true, if_false]
    exact wpAny_pure ⟨rfl, rfl, fun u hu' => hall u (List.mem_cons_of_mem _ hu')⟩
  · rintro ⟨r1, r2⟩ s' ⟨hr, rfl, _⟩
    simp only at hr
    subst hr
    exact wpAny_pure q
theorem quietW_ {v : Value} {way : Way} {k : Nat} {Q : Bool → Shared → Prop} (hin : ∀ a o, g a = some o → s.heap.get? a = some o) (hv : Rd g v (encW way)) (q : Q true s) : wpAny (model prog w) A (eqIsQuiet (k + 1) v) Q E s := by
  obtain ⟨a, vs, n, rfl, hg, hr⟩ := hv.tupE
  refine quietTup_ (hin _ _ hg) (fun v hv Q q => ?_) q
  obtain ⟨i, hi⟩ := List.getElem?_of_mem hv
  have hlt : i < (way.map PyData.str).length := by
    rw [← hr.length]
    rcases Nat.lt_or_ge i vs.length with h | h
    · exact h
    · rw [List.getElem?_eq_none h] at hi; cases hi
  obtain ⟨v', hv', rv⟩ := hr.get (List.getElem?_eq_getElem hlt)
  rw [hi] at hv'
  cases hv'
  rw [List.getElem_map] at rv
  obtain ⟨t, rfl⟩ := rv.strE
  rw [eqIsQuiet_byValue _ rfl]
  exact wpAny_pure q
theorem quietQ_ {v : Value} {x : Way × Int} {k : Nat} {Q : Bool → Shared → Prop} (hin : ∀ a o, g a = some o → s.heap.get? a = some o) (hv : Rd g v (encQ x)) (q : Q true s) : wpAny (model prog w) A (eqIsQuiet (k + 2) v) Q E s := by
  obtain ⟨a, vs, n, rfl, hg, hr⟩ := hv.tupE
  cases hr with
  | cons h1 hr =>
    cases hr with
    | cons h2 hr =>
      cases hr
      obtain ⟨t, rfl⟩ := h2.intE
      refine quietTup_ (hin _ _ hg) (fun v hv Q q => ?_) q
      rcases List.mem_cons.mp hv with rfl | hv
      · exact quietW_ hin h1 q
      · rw [List.mem_singleton.mp hv, eqIsQuiet_byValue _ rfl]
        exact wpAny_pure q

/-! no class statement -/
theorem classTup_ {a : Addr} {vs : List Value} {n k : Nat} {Q : Bool → Shared → Prop} (hg : s.heap.get? a = some (tupObj vs n))
    (items : ∀ v ∈ vs, ∀ (Q : Bool → Shared → Prop), Q false s → wpAny (model prog w) A (ofAClassStatement k v) Q E s) (q : Q false s) : wpAny (model prog w) A (ofAClassStatement (k + 1) (.ref a)) Q E s := by
  have hT : s.TypeIs (.ref a) "tuple" := ⟨_, hg, rfl⟩
  unfold ofAClassStatement
  refine wpAny_bind (wpAny_typeOf hT ?_)
  show wpAny _ _ ((if (("tuple" : String) == "tuple") = true then pure true else isSubtype (.type "tuple") (.type "tuple")) >>= _) _ _ s
  rw [if_pos (by decide)]
  refine wpAny_bind (wpAny_pure ?_)
  simp only [Bool.not_true, Bool.false_eq_true, if_false]
  refine wpAny_bind (wpAny_seqItems hg rfl ?_)
  refine wpAny_bind ?_
  show wpAny _ _ (forIn vs.toArray _ _) _ _ s
  rw [← Array.forIn_toList]
  refine wpAny_forIn_list _ (fun rest r s' => r.1 = none ∧ s' = s ∧ ∀ v ∈ rest, v ∈ vs) _ ?_ ?_ _ _ ⟨rfl, rfl, by simp⟩
  · rintro v rest r s' ⟨hr, rfl, hall⟩
    refine wpAny_bind (items v (hall v (.head _)) _ ?_)
    simp only [Bool.false_eq_true, if_false]
    exact wpAny_pure ⟨rfl, rfl, fun u hu' => hall u (List.mem_cons_of_mem _ hu')⟩
  · rintro ⟨r1, r2⟩ s' ⟨hr, rfl, _⟩
    simp only at hr
    subst hr
    exact wpAny_pure q
theorem classW_ {v : Value} {way : Way} {k : Nat} {Q : Bool → Shared → Prop} (hin : ∀ a o, g a = some o → s.heap.get? a = some o) (hv : Rd g v (encW way)) (q : Q false s) : wpAny (model prog w) A (ofAClassStatement (k + 1) v) Q E s := by
  obtain ⟨a, vs, n, rfl, hg, hr⟩ := hv.tupE
  refine classTup_ (hin _ _ hg) (fun v hv Q q => ?_) q
  obtain ⟨i, hi⟩ := List.getElem?_of_mem hv
  have hlt : i < (way.map PyData.str).length := by
    rw [← hr.length]
    rcases Nat.lt_or_ge i vs.length with h | h
    · exact h
    · rw [List.getElem?_eq_none h] at hi; cases hi
  obtain ⟨v', hv', rv⟩ := hr.get (List.getElem?_eq_getElem hlt)
  rw [hi] at hv'
  cases hv'
  rw [List.getElem_map] at rv
  obtain ⟨t, rfl⟩ := rv.strE
  unfold ofAClassStatement
  exact wpAny_pure q
theorem classQ_ {v : Value} {x : Way × Int} {k : Nat} {Q : Bool → Shared → Prop} (hin : ∀ a o, g a = some o → s.heap.get? a = some o) (hv : Rd g v (encQ x)) (q : Q false s) : wpAny (model prog w) A (ofAClassStatement (k + 2) v) Q E s := by
  obtain ⟨a, vs, n, rfl, hg, hr⟩ := hv.tupE
  cases hr with
  | cons h1 hr =>
    cases hr with
    | cons h2 hr =>
      cases hr
      obtain ⟨t, rfl⟩ := h2.intE
      refine classTup_ (hin _ _ hg) (fun v hv Q q => ?_) q
      rcases List.mem_cons.mp hv with rfl | hv
      · exact classW_ hin h1 q
      · rw [List.mem_singleton.mp hv]
        unfold ofAClassStatement
        exact wpAny_pure q

/-! a way of at least one name hashes not by value -/
theorem valueTup_ {a : Addr} {v : Value} {vs : List Value} {n k : Nat} {Q : Bool → Shared → Prop} (hg : s.heap.get? a = some (tupObj (v :: vs) n))
    (item : ∀ (Q : Bool → Shared → Prop), Q false s → wpAny (model prog w) A (hashByValue k v) Q E s) (q : Q false s) : wpAny (model prog w) A (hashByValue (k + 1) (.ref a)) Q E s := by
  have hT : s.TypeIs (.ref a) "tuple" := ⟨_, hg, rfl⟩
  unfold hashByValue
  refine wpAny_bind (wpAny_specialOf hT F.slot_tuple_hash.lookup ?_)
  show wpAny _ _ (seqItems? (.ref a) >>= _) _ _ s
  refine wpAny_bind (wpAny_seqItems hg rfl ?_)
  refine wpAny_bind ?_
  show wpAny _ _ (forIn (v :: vs).toArray _ _) _ _ s
  rw [← Array.forIn_toList]
  show wpAny _ _ (forIn (v :: vs) _ _) _ _ s
  rw [List.forIn_cons]
  refine wpAny_bind (wpAny_bind (item _ ?_))
  simp only [Bool.not_false, if_true]
  exact wpAny_pure (wpAny_pure (wpAny_pure q))
theorem valueQ_ {v : Value} {x : Way × Int} {k : Nat} {Q : Bool → Shared → Prop} (hin : ∀ a o, g a = some o → s.heap.get? a = some o) (hv : Rd g v (encQ x)) (hne : x.1 ≠ []) (q : Q false s) : wpAny (model prog w) A (hashByValue (k + 3) v) Q E s := by
  obtain ⟨a, vs, n, rfl, hg, hr⟩ := hv.tupE
  cases hr with
  | cons h1 hr =>
    refine valueTup_ (hin _ _ hg) (fun Q q => ?_) q
    obtain ⟨a', vs', n', rfl, hg', hr'⟩ := h1.tupE
    obtain ⟨way, i⟩ := x
    cases way with
    | nil => exact absurd rfl hne
    | cons y ys =>
      cases hr' with
      | cons r1 r2 =>
        obtain ⟨t, rfl⟩ := r1.strE
        refine valueTup_ (hin _ _ hg') (fun Q q => ?_) q
        unfold hashByValue
        exact wpAny_pure q

theorem eqQ_ {u v : Value} {x y : Way × Int} {Q : Bool → Shared → Prop} (hin : ∀ a o, g a = some o → s.heap.get? a = some o) (hu : Rd g u (encQ x)) (hv : Rd g v (encQ y)) (okx : OkW x.1) (oky : OkW y.1) (hU : A.units + 64 < cLine)
    (q : Q (x == y) s) : wpAny (model prog w) A (eqBool u v) Q E s := by
  obtain ⟨_, p1⟩ := hu.reads hin
  obtain ⟨_, p2⟩ := hv.reads hin
  have s1 := shaped_Q okx (flag := x.2)
  have s2 := shaped_Q oky (flag := y.2)
  refine SeqAt.eqBoolOverData prog w A E s u v (encQ x) (encQ y) _ _ Q p1 p2 (SeqAt.canLay_of_shaped s1) (SeqAt.canLay_of_shaped s2) (SeqAt.room_of_shaped s1 hU) ?_
  have e : PyData.eqv (encQ x) (encQ y) = (x.1 == y.1 && x.2 == y.2) := eqv_Q x.1 y.1 x.2 y.2
  rw [e]
  exact q
end
end Mine

namespace Mine
open SetTable
section
variable {prog : Program} {w : World} {A : Around} {E : Value → Shared → Prop} {b s s' s₀ : Shared} {g₀ g g' μ μ' : Kn} {fp : Addr → Prop} {L : Addr} {m : Str → Option Value} {env : Env} {mg mb : Str → Option Value}

theorem PTab.fits {t : SetTable} {n : Nat} (p : PTab w t n) : t.fits n = true := by
  unfold SetTable.fits SetTable.fill
  have := p.room
  rw [p.size, p.dum]
  simp
  omega
theorem PTab.gave {t : SetTable} {n : Nat} (p : PTab w t n) : t.gaveWay = false := by
  unfold SetTable.gaveWay
  rcases p.mask with e | e | e <;> rw [e] <;> rfl

theorem notSeen_ {x : Value} {q0 : Way × Int} {l : List Value} {Q : Bool → Shared → Prop} (hin : ∀ a o, g a = some o → s.heap.get? a = some o) (hx : Rd g x (encQ q0)) (hl : ∀ y ∈ l, ∃ q, Rd g y (encQ q)) (q : Q false s) :
    wpAny (model prog w) A (searchCouldBeSeen x l) Q E s := by
  unfold searchCouldBeSeen
  refine wpAny_bind ?_
  refine wpAny_forIn_list _ (fun rest r s' => r.1 = none ∧ s' = s ∧ ∀ v ∈ rest, v ∈ l) _ ?_ ?_ _ _ ⟨rfl, rfl, fun _ h => h⟩
  · rintro y rest r s' ⟨hr, rfl, hall⟩
    have hrest : ∀ u ∈ rest, u ∈ l := fun u hu' => hall u (List.mem_cons_of_mem _ hu')
    obtain ⟨qy, hy⟩ := hl y (hall y (.head _))
    obtain ⟨ax, vx, nx, ex, _, _⟩ := hx.tupE
    obtain ⟨ay, vy, ny, ey, _, _⟩ := hy.tupE
    subst ex ey
    dsimp only
    by_cases hxy : (ax == ay || carriedByValue (.ref ax) && carriedByValue (.ref ay)) = true
    · rw [if_pos hxy]
      exact wpAny_pure ⟨rfl, rfl, hrest⟩
    · rw [if_neg hxy]
      refine wpAny_bind (quietQ_ (k := 6) hin hx ?_)
      simp only [Bool.not_true, Bool.false_eq_true, if_false]
      refine wpAny_bind (quietQ_ (k := 6) hin hy ?_)
      simp only [Bool.not_true, Bool.false_eq_true, if_false]
      refine wpAny_bind (classQ_ (k := 6) hin hx ?_)
      simp only [Bool.false_eq_true, if_false]
      refine wpAny_bind (classQ_ (k := 6) hin hy ?_)
      simp only [Bool.false_eq_true, if_false]
      exact wpAny_pure ⟨rfl, rfl, hrest⟩
  · rintro ⟨r1, r2⟩ s' ⟨hr, rfl, _⟩
    simp only at hr
    subst hr
    exact wpAny_pure q

theorem searchFrom_ {a : Addr} {o : Obj} {es : Array (Int × Value)} {ep : Nat} {t : SetTable} {x : Value} {q0 : Way × Int} {Q : SetFound → Shared → Prop} (ho : s.heap.get? a = some o) (hd : o.data = .set es ep t) (hp : PTab w t es.size)
    (hin : ∀ a o, g a = some o → s.heap.get? a = some o) (hx : Rd g x (encQ q0)) (okx : OkW q0.1) (hes : ∀ e ∈ es.toList, ∃ q, OkW q.1 ∧ Rd g e.2 (encQ q)) (hU : A.units + 64 < cLine) (h : Int)
    (qThere : ∀ e, e ∈ es.toList → Rd g e.2 (encQ q0) → Q (.there none) s) (qFree : ∀ j, Q (.free j false) s) :
    ∀ (fuel n : Nat) (stand : Option Probe), Reach t n (stand.getD (t.probeStart h)) → (stand.getD (t.probeStart h)).dummy = none → n < fuel → n < 10 * turns t.mask → wpAny (model prog w) A (setSearchFrom a x h true fuel stand) Q E s
  | 0, n, _, _, _, hf, _ => absurd hf (Nat.not_lt_zero n)
  | fuel + 1, n, stand, hr, hdn, hf, ht => by
    unfold setSearchFrom
    refine wpAny_bind (wpAny_setState_of ho hd hp.fits ?_)
    dsimp only
    rw [hp.gave]
    simp only [Bool.false_eq_true, if_false]
    have hgo := probe_go hp.dum (fun i => (es[i]?.map (·.1)).getD 0) h n (10 * turns t.mask) _ hr hdn ht
    rcases hgo with ⟨j, e⟩ | ⟨j, i, next, m, e, hi, hsl, hm, hrn, hnd⟩
    · have e' : t.probe (fun i => (es[i]?.map (·.1)).getD 0) h (stand.getD (t.probeStart h)) = some (.empty j none) := e
      show wpAny _ _ (match t.probe (fun i => (es[i]?.map (·.1)).getD 0) h (stand.getD (t.probeStart h)) with | some met => _ | _ => _) _ _ s
      rw [e']
      exact wpAny_pure (qFree j)
    · have e' : t.probe (fun i => (es[i]?.map (·.1)).getD 0) h (stand.getD (t.probeStart h)) = some (.candidate j i next) := e
      show wpAny _ _ (match t.probe (fun i => (es[i]?.map (·.1)).getD 0) h (stand.getD (t.probeStart h)) with | some met => _ | _ => _) _ _ s
      rw [e']
      dsimp only
      have hie : i < es.size := by rw [← hp.size]; exact hi
      have hmem : es[i] ∈ es.toList := Array.getElem_mem_toList hie
      obtain ⟨qy, oky, hy⟩ := hes _ hmem
      have rest : wpAny (model prog w) A (do
          let some (_, y) := es[i]? | unsupported "internal:set-entry"
          let equal ← holding [y] (eqBool y x)
          let (es', _, t') ← setState a
          if (true && equal) = true then return .there none
          let some same := t'.sameMemory t.moves t.mask | unsupported "set.changed-during-lookup:is-the-new-block-at-the-old-address"
          let still ← match (if same then t'.slot j else .empty) with
            | .live i' => match es'[i']? with
              | some (_, y') => do pure (if ← isSame y' y then some i' else none)
              | none => pure none
            | _ => pure none
          match still with
          | none => rule "set.search.anew"; setSearchFrom a x h true fuel none
          | some i' => if equal then return .there (some i') else setSearchFrom a x h true fuel (some next)) Q E s := by
        rw [Array.getElem?_eq_getElem hie]
        dsimp only
        refine wpAny_bind (wpAny_holding (eqQ_ hin hy hx oky okx hU ?_))
        refine wpAny_bind (wpAny_setState_of ho hd hp.fits ?_)
        dsimp only
        by_cases hq : (qy == q0) = true
        · rw [hq]
          simp only [Bool.and_self, if_true]
          have := beq_iff_eq.mp hq
          subst this
          exact wpAny_pure (qThere _ hmem hy)
        · rw [Bool.not_eq_true] at hq
          rw [hq]
          simp only [Bool.and_false, Bool.false_eq_true, if_false]
          have hsm : t.sameMemory t.moves t.mask = some true := by unfold SetTable.sameMemory; rw [if_pos (beq_self_eq_true _)]
          rw [hsm]
          dsimp only
          rw [if_pos rfl, hsl]
          dsimp only
          rw [Array.getElem?_eq_getElem hie]
          dsimp only
          obtain ⟨ay, vy, ny, ey, _, _⟩ := hy.tupE
          rw [ey]
          refine wpAny_bind (wpAny_isSame_ref_self (wpAny_bind (wpAny_pure ?_)))
          simp only [if_true]
          exact searchFrom_ ho hd hp hin hx okx hes hU h qThere qFree fuel m (some next) hrn hnd (by omega) (by omega)
      split
      · refine wpAny_bind (notSeen_ hin hx (fun y hy => ?_) ?_)
        · obtain ⟨e1, he1, rfl⟩ := List.mem_map.mp hy
          obtain ⟨q1, _, hq1⟩ := hes e1 (by
            rw [Array.toList_filter] at he1
            exact (List.mem_filter.mp he1).1)
          exact ⟨q1, hq1⟩
        · simp only [Bool.false_eq_true, if_false]
          exact rest
      · exact rest

theorem put_facts {t : SetTable} (hd : t.dummies = #[]) (j : Nat) : (t.put j).1.place.size = t.place.size + 1 ∧ (t.put j).1.dummies = #[] ∧ (t.put j).1.mask = t.mask ∧ (t.put j).1.led = t.led ∧ (t.put j).1.plain = t.plain := by
  have hh : has t.dummies j = false := by rw [hd]; unfold has; simp
  refine ⟨insertAt_size _ _ _, ?_, rfl, rfl, rfl⟩
  show (if has t.dummies j then _ else t.dummies) = #[]
  rw [hh]
  exact hd
theorem sizeAbove_of {mask n : Nat} (hm : mask = 7 ∨ mask = 31 ∨ mask = 127) (h1 : 5 * n < 3 * mask) (h2 : (n + 1) * 5 ≥ mask * 3) (hn : n ≤ 74) :
    (sizeAbove (grown (n + 1)) - 1 = 31 ∧ n + 1 ≤ 18) ∨ (sizeAbove (grown (n + 1)) - 1 = 127 ∧ n + 1 ≤ 75) := by
  rcases hm with rfl | rfl | rfl
  · have : n = 4 := by omega
    subst this
    exact .inl ⟨by decide +kernel, by omega⟩
  · have : n = 18 := by omega
    subst this
    exact .inr ⟨by decide +kernel, by omega⟩
  · omega
theorem fm_range {α : Type} (l : List α) : ∀ (k : List α), (List.range' k.length l.length).filterMap ((k ++ l)[·]?) = l := by
  induction l with
  | nil => intro k; rfl
  | cons x l ih =>
    intro k
    rw [List.length_cons, List.range'_succ, List.filterMap_cons]
    have e : (k ++ x :: l)[k.length]? = some x := by simp
    rw [e]
    have := ih (k ++ [x])
    simp only [List.length_append, List.length_singleton, List.append_assoc, List.singleton_append] at this
    rw [this]
theorem fm_range0 {α : Type} (es : Array α) : (List.range es.size).filterMap (es[·]?) = es.toList := by
  have := fm_range es.toList []
  simp only [List.length_nil, List.nil_append] at this
  rw [List.range_eq_range']
  rw [show es.size = es.toList.length by simp]
  refine Eq.trans ?_ this
  congr 1
  funext i
  simp
theorem filterMap_perm {es : Array (Int × Value)} {order : Array Nat} (h : order.toList.Perm (List.range es.size)) : (order.filterMap (es[·]?)).toList.Perm es.toList := by
  rw [Array.toList_filterMap]
  refine (h.filterMap _).trans ?_
  rw [fm_range0]

/-- the table is laid anew -/
theorem relay_ {a : Addr} {o : Obj} {es : Array (Int × Value)} {ep : Nat} {t : SetTable} {wanted : Nat} {Q : Unit → Shared → Prop} (h : At b g₀ s₀ fp L m g μ s) (hob : μ a = some o) (ho : o = { cls := .type "set", data := .set es ep t }) (hf : t.fits es.size = true)
    (hm : sizeAbove wanted - 1 = 31 ∨ sizeAbove wanted - 1 = 127) (hs : es.size ≤ 100) (hs2 : es.size ≤ sizeAbove wanted - 1)
    (q : ∀ s' es' t', At b g₀ s₀ fp L m g (upd μ a { cls := .type "set", data := .set es' (ep + 1) t' }) s' → es'.toList.Perm es.toList → t'.mask = sizeAbove wanted - 1 → t'.place.size = es.size → t'.dummies = #[] → t'.led = t.led → t'.plain = t.plain → Q () s') :
    wpAny (model prog w) A (setRelay a wanted) Q E s := by
  have hget := (h.mine _ _ hob).1
  unfold setRelay
  refine wpAny_bind (wpAny_setState_of hget (by rw [ho]) hf ?_)
  dsimp only
  rw [if_neg (by rw [sizeLine_eq]; omega)]
  obtain ⟨t', order, e1, e2, e3, e4, e5, e6, e7⟩ := relaid_some t (es.map (·.1)) (wanted := wanted) (.inr hm) (by simpa using hs2)
  have hsz : (es.map (·.1)).size = es.size := by simp
  rw [hsz] at e3 e7
  have hperm := filterMap_perm e7
  have hsz' : (order.filterMap (es[·]?)).size = es.size := by have := hperm.length_eq; rwa [Array.length_toList, Array.length_toList] at this
  rw [e1]
  have body : ∀ (Q' : Array (Int × Value) × SetTable → Shared → Prop), Q' (order.filterMap (es[·]?), t') s → wpAny (model prog w) A (do
      let some (t, order) := (some (t', order) : Option (SetTable × Array Nat)) | unsupported "internal:set-table-without-room"
      let es' := order.filterMap (es[·]?)
      if es'.size != es.size then unsupported "internal:set-table-lost-an-element"
      pure (es', t)) Q' E s := by
    intro Q' hq
    dsimp only
    rw [if_neg (by simp [hsz'])]
    exact wpAny_pure hq
  refine wpAny_bind (body _ ?_)
  dsimp only
  refine wpAny_storeSet_of hget (by rw [ho]) ?_ (by rw [hsz', sizeLine_eq]; omega)
  have hg : (s.heap.update a (Obj.putSet (order.filterMap (es[·]?)) t')).get? a = some { cls := .type "set", data := .set (order.filterMap (es[·]?)) (ep + 1) t' } := by
    have hd : o.data = .set es ep t := by rw [ho]
    have := Heap.get?_update_self (Obj.putSet (order.filterMap (es[·]?)) t') hget (by rw [putSet_of _ _ hd]; rfl)
    rw [putSet_of _ _ hd, ho] at this
    exact this
  exact q _ _ _ (h.set (tk := s.toks) hob (Heap.SameBut.update ..) hg) hperm e2 e3 e4 e5 e6

theorem addQ_ {a : Addr} {o : Obj} {pl : List (Way × Int)} {x : Value} {q0 : Way × Int} {Q : Value → Shared → Prop} (h : At b g₀ s₀ fp L m g μ s) (hob : μ a = some o) (hp : PendIs w g o pl) (okpl : ∀ q ∈ pl, OkW q.1)
    (hx : Rd g x (encQ q0)) (okx : OkW q0.1) (hne : q0.1 ≠ []) (hl : pl.length ≤ 74) (hU : A.units + 70 < cLine)
    (q : ∀ s' o', At b g₀ s₀ fp L m g (upd μ a o') s' → PendIs w g o' (pl ++ [q0]) → Q .none s') : wpAny (model prog w) A (call (.builtin "set.add") [.ref a, x]) Q E s := by
  obtain ⟨es, ep, t, eo, hm1, hm2, T, hsz⟩ := hp
  have hget := (h.mine _ _ hob).1
  have hd : o.data = .set es ep t := by rw [eo]
  have hT : s.TypeIs (.ref a) "set" := ⟨_, hget, by rw [eo]⟩
  refine wpAny_call_entry F.slot_set_add hT F.entry_set_add ?_ (F.args_set_add_2 _ _)
  unfold Builtin.«set.add» Builtin.Frozenset.oneOther
  simp only [List.isEmpty_nil, bind_assoc]
  unfold Builtin.Frozenset.addrOf setAdd
  refine wpAny_bind (wpAny_pure ?_)
  try dsimp only
  refine wpAny_bind (wpAny_pure ?_)
  try dsimp only
  refine wpAny_bind ?_
  refine wpAny_holding ?_
  refine wpAny_bind (hashQ_ h.inn hx (by show A.units + 1 + 1 < cLine; omega) fun hsh tk => ?_)
  unfold setAddHashed
  refine wpAny_holding ?_
  have h' : At b g₀ s₀ fp L m g μ { s with toks := tk } := h.toks
  have hget' : ({ s with toks := tk } : Shared).heap.get? a = some o := hget
  generalize ({ s with toks := tk } : Shared) = s1 at h' hget'
  unfold setAddHashedIn
  refine wpAny_bind (wpAny_setState_of hget' hd T.fits ?_)
  dsimp only
  have hscan : byScan x es = false := by
    obtain ⟨ax, vx, nx, ex, _, _⟩ := hx.tupE
    subst ex
    rfl
  rw [hscan]
  simp only [Bool.false_eq_true, if_false]
  have hbound : t.place.size ≤ t.mask := by have := T.room; rw [T.size]; omega
  refine wpAny_bind (searchFrom_ (Q := _) hget' hd T h'.inn hx okx (fun e he => by obtain ⟨qe, hq1, hq2⟩ := hm1 e he; exact ⟨qe, okpl _ hq1, hq2⟩) (by show A.units + 1 + 64 < cLine; omega) hsh (fun e he hr => ?_) (fun j => ?_)
    100000 _ none (reach_start T.dum T.mask hbound hsh) rfl (by rcases T.mask with e | e | e <;> rw [e] <;> omega) (by unfold turns; omega))
  · -- it waits already
    dsimp only
    refine wpAny_pure ?_
    show wpAny _ _ (ret Value.none) _ _ _
    refine wpAny_pure ⟨_, rfl, q _ o ?_ ⟨es, ep, t, eo, fun e' he' => ?_, fun y hy => ?_, T, by rw [List.length_append]; omega⟩⟩
    · have hu : upd μ a o = μ := by
        funext z
        by_cases hz : z = a
        · subst hz; rw [upd_self, hob]
        · rw [upd_ne _ hz]
      rw [hu]
      exact h'
    · obtain ⟨y, hy, hr'⟩ := hm1 e' he'
      exact ⟨y, List.mem_append_left _ hy, hr'⟩
    · rcases List.mem_append.mp hy with hy | hy
      · exact hm2 y hy
      · rw [List.mem_singleton.mp hy]
        exact ⟨e, he, hr⟩
  · dsimp only
    refine wpAny_bind (wpAny_setState_of hget' hd T.fits ?_)
    dsimp only
    obtain ⟨f1, f2, f3, f4, f5⟩ := put_facts T.dum j
    have step : ∀ (t1 : SetTable), t1.place.size = t.place.size + 1 → t1.dummies = #[] → t1.mask = t.mask → t1.led = t.led → t1.plain = false →
        wpAny (model prog w) A.in1 (do
          storeSet a (insertAt es (t.put j).2 (hsh, x)) t1
          if (!false && t1.tooFull) = true then setRelay a (grown (es.size + 1))
          return true) (fun r s' => ∃ o', At b g₀ s₀ fp L m g (upd μ a o') s' ∧ PendIs w g o' (pl ++ [q0])) E s1 := by
      intro t1 g1 g2 g3 g4 g5
      have hsz1 : (insertAt es (t.put j).2 (hsh, x)).size = es.size + 1 := insertAt_size _ _ _
      have mem1 : ∀ e, e ∈ (insertAt es (t.put j).2 (hsh, x)).toList ↔ e = (hsh, x) ∨ e ∈ es.toList := fun e => insertAt_mem
      generalize insertAt es (t.put j).2 (hsh, x) = es1 at hsz1 mem1
      refine wpAny_bind (wpAny_storeSet_of hget' hd ?_ (by rw [hsz1, sizeLine_eq]; omega))
      have hg : (s1.heap.update a (Obj.putSet es1 t1)).get? a = some { cls := .type "set", data := .set es1 (ep + 1) t1 } := by
        have := Heap.get?_update_self (Obj.putSet es1 t1) hget' (by rw [putSet_of _ _ hd]; rfl)
        rw [putSet_of _ _ hd, eo] at this
        exact this
      have A₁ := h'.set (tk := s1.toks) hob (Heap.SameBut.update ..) hg
      have mm1 : ∀ e ∈ es1.toList, ∃ y ∈ pl ++ [q0], Rd g e.2 (encQ y) := by
        intro e he
        rcases (mem1 e).mp he with rfl | he
        · exact ⟨q0, List.mem_append_right _ (.head _), hx⟩
        · obtain ⟨y, hy, hr⟩ := hm1 e he
          exact ⟨y, List.mem_append_left _ hy, hr⟩
      have mm2 : ∀ y ∈ pl ++ [q0], ∃ e ∈ es1.toList, Rd g e.2 (encQ y) := by
        intro y hy
        rcases List.mem_append.mp hy with hy | hy
        · obtain ⟨e, he, hr⟩ := hm2 y hy
          exact ⟨e, (mem1 e).mpr (.inr he), hr⟩
        · rw [List.mem_singleton.mp hy]
          exact ⟨_, (mem1 _).mpr (.inl rfl), hx⟩
      have hfill : t1.fill = es.size + 1 := by unfold SetTable.fill; rw [g1, g2, T.size]; rfl
      have hfits : t1.fits es1.size = true := by
        unfold SetTable.fits
        rw [hfill, g1, T.size, hsz1, g3]
        have := T.room
        rcases T.mask with e | e | e <;> rw [e] at this ⊢ <;> simp <;> omega
      by_cases hfull : t1.tooFull = true
      · rw [hfull]
        simp only [Bool.not_false, Bool.and_self, if_true]
        have hlim : (es.size + 1) * 5 ≥ t.mask * 3 := by
          unfold SetTable.tooFull at hfull
          rw [hfill, g3] at hfull
          exact of_decide_eq_true hfull
        have hcase := sizeAbove_of T.mask T.room hlim (by omega)
        refine wpAny_bind (relay_ (wanted := grown (es.size + 1)) A₁ (upd_self _ _ _) rfl hfits (by omega) (by omega) (by omega) fun s' es' t' A₂ hperm k1 k2 k3 k4 k5 => ?_)
        refine wpAny_pure ⟨{ cls := .type "set", data := .set es' (ep + 1 + 1) t' }, ?_, es', ep + 1 + 1, t', rfl, fun e he => mm1 e (hperm.mem_iff.mp he), fun y hy => ?_, ?_, ?_⟩
        · have hu : upd (upd μ a ({ cls := .type "set", data := .set es1 (ep + 1) t1 } : Obj)) a ({ cls := .type "set", data := .set es' (ep + 1 + 1) t' } : Obj) = upd μ a ({ cls := .type "set", data := .set es' (ep + 1 + 1) t' } : Obj) := by
            funext z
            by_cases hz : z = a
            · subst hz; rw [upd_self, upd_self]
            · rw [upd_ne _ hz, upd_ne _ hz, upd_ne _ hz]
          rw [hu] at A₂
          exact A₂
        · obtain ⟨e, he, hr⟩ := mm2 y hy
          exact ⟨e, hperm.mem_iff.mpr he, hr⟩
        · have hsz' : es'.size = es1.size := by simpa using hperm.length_eq
          refine ⟨by rw [k2, hsz'], k3, by rw [k1]; omega, by rw [k1, hsz', hsz1]; omega, by rw [k4, g4]; exact T.led, fun _ => by rw [k5, g5]⟩
        · have hsz' : es'.size = es1.size := by simpa using hperm.length_eq
          rw [hsz', hsz1, List.length_append]
          show _ ≤ pl.length + 1
          omega
      · rw [Bool.not_eq_true] at hfull
        rw [hfull]
        simp only [Bool.and_false, Bool.false_eq_true, if_false]
        have hlim : ¬ ((es.size + 1) * 5 ≥ t.mask * 3) := by
          unfold SetTable.tooFull at hfull
          rw [hfill, g3] at hfull
          exact of_decide_eq_false hfull
        refine wpAny_pure ⟨_, A₁, es1, ep + 1, t1, rfl, mm1, mm2, ⟨by rw [g1, T.size, hsz1], g2, by rw [g3]; exact T.mask, by rw [g3, hsz1]; omega, by rw [g4]; exact T.led, fun _ => g5⟩, ?_⟩
        rw [hsz1, List.length_append]
        show _ ≤ pl.length + 1
        omega
    have fin : ∀ r s', (∃ o', At b g₀ s₀ fp L m g (upd μ a o') s' ∧ PendIs w g o' (pl ++ [q0])) → wpAny (model prog w) A.in1 (ret Value.none) (fun fin s' => ∃ r, fin = .done (.ret r) ∧ Q r s') E s' := fun (r : Bool) s' ⟨o', a1, a2⟩ => wpAny_pure ⟨_, rfl, q _ o' a1 a2⟩
    by_cases hpn : (t.put j).1.plain = true
    · rw [if_pos hpn]
      refine wpAny_bind (valueQ_ (k := 5) h'.inn hx hne ?_)
      simp only [Bool.false_eq_true, if_false]
      exact wpAny_mono (step { (t.put j).1 with plain := false } f1 f2 f3 f4 rfl) fin (fun _ _ e => e)
    · rw [if_neg hpn]
      refine wpAny_bind (wpAny_pure ?_)
      simp only [if_true]
      exact wpAny_mono (step (t.put j).1 f1 f2 f3 f4 (by simpa using hpn)) fin (fun _ _ e => e)
end
end Mine

namespace Mine
namespace FS
theorem owner_set_iterator : Manifest.owners.lookup (String.ofList ['r', 'o', 't', 'a', 'r', 'e', 't', 'i', '_', 't', 'e', 's'].reverse) = some Manifest.sig_set_iterator := by kernel_rfl
theorem slot_next : Slot "set_iterator" "__next__" "set_iterator.__next__" :=
  .of (owner := "set_iterator") (n := "__next__") (by rw [typeLookup_type, builtinLookup_eq_fast]; kernel_rfl) (by decide +kernel) (by decide +kernel) (by decide +kernel)
    (by first | exact .inl (by decide +kernel) | exact .inr (by decide +kernel)) (by rw [isSubtype_type]; kernel_rfl)
theorem entry_next : entryFor table "set_iterator.__next__" = some Builtin.«set_iterator.__next__» := entryFor_of_tree (by kernel_rfl)
theorem args_next (a : Value) : argsOk "set_iterator.__next__" ⟨[a], []⟩ := by
  unfold argsOk; rw [signature?_of (id := "set_iterator.__next__") (n := ['_', '_', 't', 'x', 'e', 'n', '_', '_']) (o := ['r', 'o', 't', 'a', 'r', 'e', 't', 'i', '_', 't', 'e', 's']) (by kernel_rfl) owner_set_iterator]; kernel_rfl
theorem entry_iter : entryFor table "set.__iter__" = some Builtin.«frozenset.__iter__» :=
  entryFor_alias (id' := "frozenset.__iter__") (by kernel_rfl) rfl (by decide +kernel) (by kernel_rfl)
end FS
section
variable {prog : Program} {w : World} {A : Around} {E : Value → Shared → Prop} {b s s' s₀ : Shared} {g₀ g g' μ μ' : Kn} {fp : Addr → Prop} {L : Addr} {m : Str → Option Value} {env : Env} {mg mb : Str → Option Value}
  {f root pend : Addr} {T : Tree} {own : Addr → Option Own} {M : Bool → Way → Int → Bool} {pl pl' : List (Way × Int)}

theorem Rep.pendAt (r : Rep prog w g μ f root pend T own M pl) {o' : Obj} (ho : μ' pend = some o') (hp : PendIs w g o' pl') (mO : ∀ y, y ≠ pend → μ' y = μ y) : Rep prog w g μ' f root pend T own M pl' := by
  have hown := r.pend_.1
  refine ⟨r.inst, ?_, r.node, ?_, ?_, r.names, r.closed, r.mark, ?_, ?_⟩
  · intro p a e
    obtain ⟨h1, o, kvs, h2, h3⟩ := r.lev p a e
    refine ⟨h1, o, kvs, (mO a ?_).trans h2, h3⟩
    rintro rfl; rw [hown] at h1; cases h1
  · intro p x e
    obtain ⟨h1, o, h2, h3⟩ := r.fl p x e
    refine ⟨h1, o, (mO _ ?_).trans h2, h3⟩
    intro he; rw [he, hown] at h1; cases h1
  · intro p x e
    obtain ⟨h1, o, h2, h3⟩ := r.rc p x e
    refine ⟨h1, o, (mO _ ?_).trans h2, h3⟩
    intro he; rw [he, hown] at h1; cases h1
  · exact ⟨hown, o', ho, hp⟩
  · intro a e
    refine ⟨?_, (r.ownM a e).2⟩
    by_cases ha : a = pend
    · subst ha; rw [ho]; simp
    · rw [mO a ha]; exact (r.ownM a e).1

theorem PendIs.cls {o : Obj} (h : PendIs w g o pl) : o.cls = .type "set" ∧ o.dict = none := by
  obtain ⟨es, ep, t, e, _⟩ := h
  rw [e]
  exact ⟨rfl, rfl⟩
theorem getMethod_pend {a : Addr} {o : Obj} {name : Str} {id : String} {plc : Sem Bool} {Q : Value × List Value → Shared → Prop} (hp : PendIs w g o pl) (ho : s.heap.get? a = some o) (slot : Slot "set" name id) (hty : typeOf (.builtin id) = pure (.type "method_descriptor"))
    (q : Q (.builtin id, [.ref a]) s) : wpAny (model prog w) A (getMethod (.ref a) name plc) Q E s :=
  getMethod_builtin ⟨_, ho, hp.cls.1⟩ F.plainAttrs_set slot hty (fun b e => by injection e with e; subst e; exact ⟨o, ho, hp.cls.2⟩) q

set_option maxHeartbeats 1000000 in
theorem add_pending_ {v1 v2 : Value} {way : Way} {flag : Int} {Q : Value → Shared → Prop} (R : Room A 2 90) (C : Cx w b.heap mg mb) (k : Know b g s) (r : Rep prog w g μ f root pend T own M pl)
    (hμ : ∀ a o, μ a = some o → s.heap.get? a = some o ∧ g a = none) (h1 : Rd g v1 (encW way)) (h2 : Rd g v2 (.int flag)) (ok : OkW way) (hne : way ≠ []) (okpl : ∀ q ∈ pl, OkW q.1) (hl : pl.length ≤ 74)
    (q : ∀ s' g' μ', Left prog w b g μ s f root pend M (pl ++ [(way, flag)]) g' μ' s' → Q .none s') : wpAny (model prog w) A (call (.ref 35) [.ref f, v1, v2]) Q E s := by
  refine enter (fd := fdAt w.params 35) (binds := [("self", .ref f), ("key", v1), ("flag", v2)]) (fp := fun a => μ a ≠ none) (μ := μ) (d := 1) (u := 87) R C k rfl rfl (by kernel_rfl) rfl (by kernel_rfl) (noCells (by kernel_rfl)) (locs (by kernel_rfl))
    (fun a o e => ⟨(hμ a o e).1, (hμ a o e).2, by rw [e]; simp⟩) fun s₁ A₁ R₁ => ?_
  have hlen := ok.len
  obtain ⟨d, es, n, hi, hdd, hl1, hl2, hl3⟩ := r.inst
  obtain ⟨hown, op, hop, hpend⟩ := r.pend_
  refine exCons_ (wpAny_Expr (MethodCall_ (Attribute_name ?_)))
  refine name_ A₁ (by rfl) (by rfl) (by rfl) (by rfl) ?_
  refine attr_ C A₁ hi hdd (by kernel_rfl) (by kernel_rfl) (by kernel_rfl) hl2 rfl fun s3 A₃ => ?_
  refine getMethod_pend hpend (A₃.mine _ _ hop).1 F.slot_set_add F.type_set_add ?_
  refine callWith_method1 ?_ (by rfl) (by rfl)
  refine argCons_ (tupE_ (argCons_ ?_))
  refine name_ A₃ (by rfl) (by rfl) (by rfl) (by rfl) ?_
  refine argCons_ (name_ A₃ (by rfl) (by rfl) (by rfl) (by rfl) ?_)
  refine args_nil (newTuple_ A₃ (.cons h1 (.cons h2 .nil)) (fun s7 g7 v7 hle7 r7 A₇ => ?_) (by simp))
  refine args_nil ?_
  have r₇ := r.up hle7
  refine addQ_ (q0 := (way, flag)) A₇ hop (hpend.mono hle7) okpl r7 ok hne hl (by have := R₁.units; omega) fun s8 o' A₈ hp' => ?_
  refine wpAny_execs_nil ?_
  exact q _ _ _ (Left.of A₈ (r₇.pendAt (upd_self _ _ _) hp' fun y hy => upd_ne _ hy))
end
end Mine

namespace Mine
/-! the order of a set -/
theorem erase_perm {α : Type} : ∀ (l : List α) (k : Nat) (h : k < l.length), (l[k] :: l.eraseIdx k).Perm l
  | [], k, h => absurd h (Nat.not_lt_zero k)
  | x :: l, 0, _ => by simp
  | x :: l, k + 1, h => by
    have ih := erase_perm l k (by simpa using h)
    simp only [List.getElem_cons_succ, List.eraseIdx_cons_succ]
    exact (List.Perm.swap _ _ _).trans (ih.cons x)
theorem pick_go {α : Type} (next : Nat → Nat) : ∀ (fuel k : Nat) (left : List α) (out : Array α), left.length ≤ fuel → (pickOrder.go next fuel k left out).toList.Perm (out.toList ++ left)
  | 0, k, left, out, h => by
    have : left = [] := List.length_eq_zero_iff.mp (Nat.le_zero.mp h)
    subst this
    unfold pickOrder.go
    simp
  | fuel + 1, k, left, out, h => by
    unfold pickOrder.go
    cases e : left[next k % left.length]? with
    | none =>
      dsimp only
      have : left = [] := by
        cases left with
        | nil => rfl
        | cons x l =>
          rw [List.getElem?_eq_none_iff] at e
          have := Nat.mod_lt (next k) (show 0 < (x :: l).length by simp)
          omega
      subst this
      simp
    | some x =>
      dsimp only
      obtain ⟨hlt, hx⟩ := List.getElem?_eq_some_iff.mp e
      have hlen : (left.eraseIdx (next k % left.length)).length ≤ fuel := by rw [List.length_eraseIdx_of_lt hlt]; omega
      refine (pick_go next fuel (k + 1) _ _ hlen).trans ?_
      rw [Array.toList_push, List.append_assoc, List.singleton_append]
      refine List.Perm.append_left _ ?_
      rw [← hx]
      exact erase_perm _ _ hlt
theorem pick_perm {α : Type} (next : Nat → Nat) (xs : Array α) : (pickOrder next xs).toList.Perm xs.toList := by
  unfold pickOrder
  have := pick_go next xs.size 0 xs.toList #[] (by simp)
  simpa using this

section
variable {prog : Program} {w : World} {A : Around} {E : Value → Shared → Prop} {b s s' s₀ : Shared} {g₀ g g' μ μ' : Kn} {fp : Addr → Prop} {L : Addr} {m : Str → Option Value} {env : Env} {mg mb : Str → Option Value}
  {f root pend : Addr} {T : Tree} {own : Addr → Option Own} {M : Bool → Way → Int → Bool} {pl pl' : List (Way × Int)}

theorem choose_ {src : Source} {n : Nat} {Q : Nat → Shared → Prop} (hn : 0 < n) (q : ∀ k d, k < n → Q k { s with drawn := d }) : wpAny (model prog w) A (choose src n) Q E s := fun Γ p _ => by
  show n ≠ 0 ∧ _
  exact ⟨by omega, q _ _ (Nat.mod_lt _ hn)⟩
theorem drawOrder_ {α : Type} : ∀ (n : Nat) (xs : List α) {s : Shared} {Q : List α → Shared → Prop}, xs.length = n → (∀ l d, l.Perm xs → Q l { s with drawn := d }) → wpAny (model prog w) A (drawOrder n xs) Q E s
  | 0, xs, s, Q, hl, q => by
    have : xs = [] := List.length_eq_zero_iff.mp hl
    subst this
    unfold drawOrder
    exact wpAny_pure (q [] s.drawn (List.Perm.refl _))
  | n + 1, [], s, Q, hl, q => by simp at hl
  | n + 1, y :: ys, s, Q, hl, q => by
    unfold drawOrder
    refine wpAny_bind (choose_ (by simp) fun k d hk => ?_)
    rw [List.getElem?_eq_getElem hk]
    dsimp only
    refine wpAny_bind (drawOrder_ n _ (by rw [List.length_eraseIdx_of_lt hk]; omega) fun l d' hp => wpAny_pure ?_)
    refine q _ d' ?_
    exact (List.Perm.cons _ hp).trans (erase_perm _ _ hk)
theorem At.drawn {d : _} (h : At b g₀ s₀ fp L m g μ s) : At b g₀ s₀ fp L m g μ { s with drawn := d } := h.kept ⟨fun _ _ e => e, rfl, rfl⟩

structure Iter2 (prog : Program) (w : World) (A : Around) (I : Addr) (vsq : List Value) (Kh : Heap → Prop) (St : Nat → Obj → Prop) : Prop where
  cls : ∀ i o, St i o → ∃ n, o.cls = .type n ∧ (["enumerate", "zip", "dict_itemiterator", "dict_reverseitemiterator", "odict_iterator", "itertools.zip_longest", "itertools.pairwise"] : List String).contains n = false
  item : ∀ (i : Nat) (v : Value) (s : Shared) (o : Obj) (Q : Option Value → Shared → Prop) (E : Value → Shared → Prop), vsq[i]? = some v → Kh s.heap → s.heap.get? I = some o → St i o →
    (∀ h' tk o', Heap.SameBut I s.heap h' → h'.get? I = some o' → St (i + 1) o' → Q (some v) { s with heap := h', toks := tk }) → wpAny (model prog w) A (pyNext (.ref I)) Q E s
  done : ∀ (s : Shared) (o : Obj) (Q : Option Value → Shared → Prop) (E : Value → Shared → Prop), Kh s.heap → s.heap.get? I = some o → St vsq.length o →
    (∀ h' tk, Heap.ExtBut I s.heap h' → Q none { s with heap := h', toks := tk }) → wpAny (model prog w) A (pyNext (.ref I)) Q E s

noncomputable def setIt (first : Value) (i : Nat) (a : Addr) (n ep : Nat) : Obj := { cls := .type "set_iterator", data := .fields #[first, rawInt i, .ref a, rawInt n, rawInt ep] }

theorem setIt_update {first x : Value} {i n ep : Nat} {a I : Addr} {h : Heap} (ho : h.get? I = some (setIt first i a n ep)) (j : Nat) (vs : Array Value) (hv : (#[first, rawInt i, .ref a, rawInt n, rawInt ep] : Array Value).setIfInBounds j x = vs) :
    (h.update I (Obj.mapFields (·.setIfInBounds j x))).get? I = some { cls := .type "set_iterator", data := .fields vs } := by
  have := Heap.get?_update_self (Obj.mapFields (·.setIfInBounds j x)) ho rfl
  rw [this, ← hv]
  rfl


theorem setNum_item {I a : Addr} {o : Obj} {es : Array (Int × Value)} {ep i slot nx : Nat} {t : SetTable} {v : Value} {Q : Option Value → Shared → Prop} (hk : s.heap.get? a = some o) (ho : o.data = .set es ep t) (T : PTab w t es.size)
    (hI : s.heap.get? I = some (setIt (rawInt slot) i a es.size ep)) (hn : ∀ (Q : Option (Value × Nat) → Shared → Prop) (E : Value → Shared → Prop), Q (some (v, nx)) s → wpAny (model prog w) A.in1 (setNext a slot i ep) Q E s)
    (q : ∀ h' tk o', Heap.SameBut I s.heap h' → h'.get? I = some o' → o' = setIt (rawInt nx) (i + 1) a es.size ep → Q (some v) { s with heap := h', toks := tk }) : wpAny (model prog w) A (pyNext (.ref I)) Q E s := by
  have hT : s.TypeIs (.ref I) "set_iterator" := ⟨_, hI, rfl⟩
  unfold pyNext
  refine wpAny_bind (wpAny_attempt (wpAny_callSpecial?_slot (name := Str.ofString "__next__") hT FS.slot_next (wpAny_call_entry FS.slot_next hT FS.entry_next ?_ (FS.args_next _))))
  show wpAny _ _ (fieldsOf (.ref I) >>= _) _ _ s
  refine wpAny_bind (wpAny_fieldsOf hI rfl ?_)
  show wpAny _ _ (setEntries a >>= _) _ _ s
  refine wpAny_bind (wpAny_setEntries_of hk ho T.fits ?_)
  rw [show ((es.size : Int) != (es.size : Int)) = false by simp]
  simp only [Bool.false_eq_true, if_false]
  show wpAny _ _ (setNext a ((slot : Int)).toNat ((i : Int)).toNat ((ep : Int)).toNat >>= _) _ _ s
  rw [Int.toNat_natCast, Int.toNat_natCast, Int.toNat_natCast]
  refine wpAny_bind (hn _ _ ?_)
  dsimp only
  refine wpAny_bind (wpAny_setField hI rfl (by simp) ?_)
  have g1 := setIt_update (x := rawInt nx) hI 0 _ rfl
  refine wpAny_bind (wpAny_setField g1 rfl (by simp) ?_)
  refine wpAny_pure ⟨v, rfl, wpAny_pure ?_⟩
  refine q _ s.toks _ ((Heap.SameBut.update ..).trans (Heap.SameBut.update ..)) (Heap.get?_update_self _ g1 rfl) ?_
  rfl
theorem setNum_done {I a : Addr} {o : Obj} {es : Array (Int × Value)} {ep i slot : Nat} {t : SetTable} {Q : Option Value → Shared → Prop} (hh : A.handled = none) (hk : s.heap.get? a = some o) (ho : o.data = .set es ep t) (T : PTab w t es.size)
    (hI : s.heap.get? I = some (setIt (rawInt slot) i a es.size ep)) (hn : ∀ (Q : Option (Value × Nat) → Shared → Prop) (E : Value → Shared → Prop), Q none s → wpAny (model prog w) A.in1 (setNext a slot i ep) Q E s)
    (q : ∀ h' tk, Heap.ExtBut I s.heap h' → Q none { s with heap := h', toks := tk }) : wpAny (model prog w) A (pyNext (.ref I)) Q E s := by
  have hT : s.TypeIs (.ref I) "set_iterator" := ⟨_, hI, rfl⟩
  unfold pyNext
  refine wpAny_bind (wpAny_attempt (wpAny_callSpecial?_slot (name := Str.ofString "__next__") hT FS.slot_next (wpAny_call_entry FS.slot_next hT FS.entry_next ?_ (FS.args_next _))))
  show wpAny _ _ (fieldsOf (.ref I) >>= _) _ _ s
  refine wpAny_bind (wpAny_fieldsOf hI rfl ?_)
  show wpAny _ _ (setEntries a >>= _) _ _ s
  refine wpAny_bind (wpAny_setEntries_of hk ho T.fits ?_)
  rw [show ((es.size : Int) != (es.size : Int)) = false by simp]
  simp only [Bool.false_eq_true, if_false]
  show wpAny _ _ (setNext a ((slot : Int)).toNat ((i : Int)).toNat ((ep : Int)).toNat >>= _) _ _ s
  rw [Int.toNat_natCast, Int.toNat_natCast, Int.toNat_natCast]
  refine wpAny_bind (hn _ _ ?_)
  dsimp only
  refine wpAny_bind (wpAny_setField hI rfl (by simp) ?_)
  show wpAny _ _ (newExc (.type "StopIteration") [] >>= _) _ _ _
  refine wpAny_bind ?_
  simp only [newExc, newTuple]
  refine wpAny_bind (wpAny_newObj_type ?_ (by size_fits))
  refine wpAny_bind (m := firstArgMember _ _) (wpAny_of_eq (a := Value.none) (by first | rfl | (simp only [firstArgMember]; rfl)) ?_)
  refine wpAny_newObj_type ?_ (by size_fits)
  simp only [raiseNew]
  refine wpAny_bind (wpAny_handled ?_)
  first | rw [show A.in1.handled = none from hh] | rw [hh]
  refine wpAny_bind (wpAny_pure (wpAny_throw ?_))
  refine wpAny_bind (wpAny_isInstance (T := "StopIteration") (b := true) ⟨_, Heap.get?_push_size _ rfl, rfl⟩ isSubtype_stop ?_)
  exact wpAny_pure (q _ s.toks (((Heap.SameBut.update ..).extBut.push _).push _))
theorem setTup_item {I a tp : Addr} {o : Obj} {es : Array (Int × Value)} {ep i place : Nat} {t : SetTable} {vs : List Value} {e : Int × Value} {Q : Option Value → Shared → Prop} (hk : s.heap.get? a = some o) (ho : o.data = .set es ep t) (T : PTab w t es.size)
    (hI : s.heap.get? I = some (setIt (.ref tp) i a es.size ep)) (ht : s.heap.get? tp = some (tupObj vs 0)) (hi : vs[i]? = some (rawInt place)) (he : es[place]? = some e)
    (q : ∀ h' tk o', Heap.SameBut I s.heap h' → h'.get? I = some o' → o' = setIt (.ref tp) (i + 1) a es.size ep → Q (some e.2) { s with heap := h', toks := tk }) : wpAny (model prog w) A (pyNext (.ref I)) Q E s := by
  have hT : s.TypeIs (.ref I) "set_iterator" := ⟨_, hI, rfl⟩
  unfold pyNext
  refine wpAny_bind (wpAny_attempt (wpAny_callSpecial?_slot (name := Str.ofString "__next__") hT FS.slot_next (wpAny_call_entry FS.slot_next hT FS.entry_next ?_ (FS.args_next _))))
  show wpAny _ _ (fieldsOf (.ref I) >>= _) _ _ s
  refine wpAny_bind (wpAny_fieldsOf hI rfl ?_)
  show wpAny _ _ (setEntries a >>= _) _ _ s
  refine wpAny_bind (wpAny_setEntries_of hk ho T.fits ?_)
  rw [show ((es.size : Int) != (es.size : Int)) = false by simp]
  simp only [Bool.false_eq_true, if_false]
  show wpAny _ _ (seqItems? (.ref tp) >>= _) _ _ s
  refine wpAny_bind (wpAny_seqItems ht rfl ?_)
  dsimp only
  rw [show vs.toArray[((i : Int)).toNat]? = some (rawInt place) by simpa using hi]
  show wpAny _ _ (setNextDrawn a ((place : Int)).toNat ((ep : Int)).toNat >>= _) _ _ s
  rw [Int.toNat_natCast, Int.toNat_natCast]
  refine wpAny_bind ?_
  unfold setNextDrawn
  refine wpAny_bind (wpAny_setState_of hk ho T.fits ?_)
  dsimp only
  rw [show (ep != ep) = false by simp]
  simp only [Bool.false_eq_true, if_false]
  rw [he]
  refine wpAny_pure ?_
  refine wpAny_bind (wpAny_setField hI rfl (by simp) ?_)
  refine wpAny_pure ⟨e.2, rfl, wpAny_pure ?_⟩
  refine q _ s.toks _ (Heap.SameBut.update ..) (Heap.get?_update_self _ hI rfl) ?_
  rfl
theorem setTup_done {I a tp : Addr} {o : Obj} {es : Array (Int × Value)} {ep i : Nat} {t : SetTable} {vs : List Value} {Q : Option Value → Shared → Prop} (hh : A.handled = none) (hk : s.heap.get? a = some o) (ho : o.data = .set es ep t) (T : PTab w t es.size)
    (hI : s.heap.get? I = some (setIt (.ref tp) i a es.size ep)) (ht : s.heap.get? tp = some (tupObj vs 0)) (hi : vs[i]? = none)
    (q : ∀ h' tk, Heap.ExtBut I s.heap h' → Q none { s with heap := h', toks := tk }) : wpAny (model prog w) A (pyNext (.ref I)) Q E s := by
  have hT : s.TypeIs (.ref I) "set_iterator" := ⟨_, hI, rfl⟩
  unfold pyNext
  refine wpAny_bind (wpAny_attempt (wpAny_callSpecial?_slot (name := Str.ofString "__next__") hT FS.slot_next (wpAny_call_entry FS.slot_next hT FS.entry_next ?_ (FS.args_next _))))
  show wpAny _ _ (fieldsOf (.ref I) >>= _) _ _ s
  refine wpAny_bind (wpAny_fieldsOf hI rfl ?_)
  show wpAny _ _ (setEntries a >>= _) _ _ s
  refine wpAny_bind (wpAny_setEntries_of hk ho T.fits ?_)
  rw [show ((es.size : Int) != (es.size : Int)) = false by simp]
  simp only [Bool.false_eq_true, if_false]
  show wpAny _ _ (seqItems? (.ref tp) >>= _) _ _ s
  refine wpAny_bind (wpAny_seqItems ht rfl ?_)
  dsimp only
  rw [show vs.toArray[((i : Int)).toNat]? = none by simpa using hi]
  dsimp only
  refine wpAny_bind (wpAny_setField hI rfl (by simp) ?_)
  have g1 := setIt_update (x := rawInt 0) hI 0 _ rfl
  refine wpAny_bind (wpAny_setField g1 rfl (by simp) ?_)
  show wpAny _ _ (newExc (.type "StopIteration") [] >>= _) _ _ _
  refine wpAny_bind ?_
  simp only [newExc, newTuple]
  refine wpAny_bind (wpAny_newObj_type ?_ (by size_fits))
  refine wpAny_bind (m := firstArgMember _ _) (wpAny_of_eq (a := Value.none) (by first | rfl | (simp only [firstArgMember]; rfl)) ?_)
  refine wpAny_newObj_type ?_ (by size_fits)
  simp only [raiseNew]
  refine wpAny_bind (wpAny_handled ?_)
  first | rw [show A.in1.handled = none from hh] | rw [hh]
  refine wpAny_bind (wpAny_pure (wpAny_throw ?_))
  refine wpAny_bind (wpAny_isInstance (T := "StopIteration") (b := true) ⟨_, Heap.get?_push_size _ rfl, rfl⟩ isSubtype_stop ?_)
  exact wpAny_pure (q _ s.toks ((((Heap.SameBut.update ..).trans (Heap.SameBut.update ..)).extBut.push _).push _))

theorem byText_ {Q : Bool → Shared → Prop} (q : Q (w.params.followText "set-order") s) : wpAny (model prog w) A setsByText Q E s := by
  unfold setsByText
  exact wpAny_bind (wpAny_askSetting (wpAny_pure q))

theorem iterText {I a : Addr} {o : Obj} {es : Array (Int × Value)} {ep : Nat} {t : SetTable} (hh : A.handled = none) (ho : o.data = .set es ep t) (T : PTab w t es.size) (hb : w.params.followText "set-order" = true) :
    Iter2 prog w A I ((pickOrder (w.params.setOrder a ep) es).toList.map (·.2)) (fun h => h.get? a = some o) (fun i ob => ob = setIt (rawInt (0 : Nat)) i a es.size ep) := by
  have nx : ∀ (s : Shared) (i : Nat) (Q : Option (Value × Nat) → Shared → Prop) (E : Value → Shared → Prop), s.heap.get? a = some o → Q (((pickOrder (w.params.setOrder a ep) es)[i]?).map fun e => (e.2, 0)) s → wpAny (model prog w) A.in1 (setNext a 0 i ep) Q E s := by
    intro s i Q E hk q
    unfold setNext
    refine wpAny_bind (wpAny_setState_of hk ho T.fits ?_)
    dsimp only
    refine wpAny_bind (byText_ ?_)
    rw [hb]
    simp only [if_true]
    rw [show (ep != ep) = false by simp]
    simp only [Bool.false_eq_true, if_false]
    refine wpAny_bind ?_
    unfold setWalk
    refine wpAny_bind (wpAny_setState_of hk ho T.fits ?_)
    dsimp only
    refine wpAny_bind (byText_ ?_)
    rw [hb]
    simp only [if_true]
    refine wpAny_bind (wpAny_askSetting (wpAny_pure ?_))
    exact wpAny_pure q
  generalize pickOrder (w.params.setOrder a ep) es = W at nx
  refine ⟨fun i ob h => ⟨"set_iterator", by rw [h]; rfl, by decide⟩, ?_, ?_⟩
  · intro i v s ob Q E hv hk hI hs q
    subst hs
    refine setNum_item (nx := 0) hk ho T hI (fun Q E q => nx s i Q E hk ?_) q
    rw [List.getElem?_map, Array.getElem?_toList] at hv
    obtain ⟨e, he, rfl⟩ := Option.map_eq_some_iff.mp hv
    rw [he]
    exact q
  · intro s ob Q E hk hI hs q
    subst hs
    refine setNum_done hh hk ho T hI (fun Q E q => nx s _ Q E hk ?_) q
    rw [Array.getElem?_eq_none (by simp)]
    exact q

theorem arr_one {xs : Array Nat} (h : xs.size = 1) : ∃ j, xs = #[j] := by
  cases xs with
  | mk l =>
    match l, h with
    | [j], _ => exact ⟨j, rfl⟩
theorem below_one (j k : Nat) : SetTable.below #[j] k = if j < k then 1 else 0 := by
  unfold SetTable.below
  show SetTable.below.go #[j] k 1 0 1 = _
  unfold SetTable.below.go
  simp only [show (0 : Nat) < 1 by omega, if_true, show (0 + 1) / 2 = 0 by omega]
  have e : (#[j] : Array Nat).getD 0 k = j := rfl
  rw [e]
  unfold SetTable.below.go
  split <;> rfl
theorem iterTable {I a : Addr} {o : Obj} {es : Array (Int × Value)} {ep : Nat} {t : SetTable} (hh : A.handled = none) (ho : o.data = .set es ep t) (T : PTab w t es.size) (hb : w.params.followText "set-order" = false) (hsz : es.size ≤ 1) :
    Iter2 prog w A I (es.toList.map (·.2)) (fun h => h.get? a = some o) (fun i ob => ob = setIt (rawInt ((if i = 0 then 0 else t.place.getD 0 0 + 1 : Nat))) i a es.size ep) := by
  have nx : ∀ (s : Shared) (i slot : Nat) (Q : Option (Value × Nat) → Shared → Prop) (E : Value → Shared → Prop), s.heap.get? a = some o → Q (match es[SetTable.below t.place slot]?, t.place[SetTable.below t.place slot]? with
    | some (_, x), some j => some (x, j + 1)
    | _, _ => none) s → wpAny (model prog w) A.in1 (setNext a slot i ep) Q E s := by
    intro s i slot Q E hk q
    unfold setNext
    refine wpAny_bind (wpAny_setState_of hk ho T.fits ?_)
    dsimp only
    refine wpAny_bind (byText_ ?_)
    rw [hb]
    simp only [Bool.false_eq_true, if_false]
    show wpAny _ _ (if (!t.plain && decide (es.size > 1)) = true then _ else _) _ _ s
    rw [if_neg (by simp; omega)]
    have hled : t.led = true := by rw [T.led, hb]; rfl
    refine wpAny_bind (m := (if (!t.led && !es.isEmpty) = true then unsupported "set:maker-not-led" else pure ())) ?_
    rw [hled]
    simp only [Bool.not_true, Bool.false_and, Bool.false_eq_true, if_false]
    exact wpAny_pure (wpAny_pure q)
  refine ⟨fun i ob h => ⟨"set_iterator", by rw [h]; rfl, by decide⟩, ?_, ?_⟩
  · intro i v s ob Q E hv hk hI hs q
    subst hs
    have hlt : i < es.size := by
      rcases Nat.lt_or_ge i es.size with h | h
      · exact h
      · rw [List.getElem?_eq_none (by simpa using h)] at hv; cases hv
    have hi0 : i = 0 := by omega
    subst hi0
    have h1 : t.place.size = 1 := by rw [T.size]; omega
    obtain ⟨j, hj⟩ : ∃ j, t.place = #[j] := arr_one h1
    refine setNum_item (nx := j + 1) (v := v) hk ho T hI (fun Q E q => nx s _ _ Q E hk ?_) ?_
    · rw [if_pos rfl, hj, below_one, if_neg (Nat.not_lt_zero j)]
      rw [List.getElem?_map, Array.getElem?_toList] at hv
      obtain ⟨e, he, rfl⟩ := Option.map_eq_some_iff.mp hv
      rw [he]
      exact q
    · intro h' tk o' a1 a2 a3
      refine q h' tk o' a1 a2 ?_
      rw [a3, if_neg (by omega), hj]
      rfl
  · intro s ob Q E hk hI hs q
    subst hs
    refine setNum_done hh hk ho T hI (fun Q E q => nx s _ _ Q E hk ?_) q
    have hn : es[SetTable.below t.place (if (es.toList.map (·.2)).length = 0 then 0 else t.place.getD 0 0 + 1)]? = none := by
      have hl : (es.toList.map (·.2)).length = es.size := by simp
      rw [hl]
      by_cases h0 : es.size = 0
      · rw [Array.getElem?_eq_none (by omega)]
      · rw [if_neg h0]
        have h1 : t.place.size = 1 := by rw [T.size]; omega
        obtain ⟨j, hj⟩ : ∃ j, t.place = #[j] := arr_one h1
        rw [hj, below_one]
        have e : (#[j] : Array Nat).getD 0 0 = j := rfl
        rw [e, if_pos (Nat.lt_succ_self j), Array.getElem?_eq_none (by omega)]
    rw [hn]
    exact q

theorem iterDrawn {I a tp : Addr} {o : Obj} {es : Array (Int × Value)} {ep : Nat} {t : SetTable} {l : List Nat} (hh : A.handled = none) (ho : o.data = .set es ep t) (T : PTab w t es.size) (hl : ∀ i ∈ l, i < es.size) :
    Iter2 prog w A I (l.map fun i => (es[i]?.map (·.2)).getD .none) (fun h => h.get? a = some o ∧ h.get? tp = some (tupObj (l.map fun (i : Nat) => rawInt i) 0)) (fun i ob => ob = setIt (.ref tp) i a es.size ep) := by
  refine ⟨fun i ob h => ⟨"set_iterator", by rw [h]; rfl, by decide⟩, ?_, ?_⟩
  · rintro i v s ob Q E hv ⟨hk, ht⟩ hI hs q
    subst hs
    rw [List.getElem?_map] at hv
    obtain ⟨j, hj, rfl⟩ := Option.map_eq_some_iff.mp hv
    have hlt := hl j (List.mem_of_getElem? hj)
    rw [Array.getElem?_eq_getElem hlt] at q
    exact setTup_item (place := j) (e := es[j]) hk ho T hI ht (by rw [List.getElem?_map, hj]; rfl) (Array.getElem?_eq_getElem hlt) q
  · rintro s ob Q E ⟨hk, ht⟩ hI hs q
    subst hs
    exact setTup_done hh hk ho T hI ht (by rw [List.getElem?_eq_none (by simp)]) q

theorem iterSet_ {a : Addr} {o : Obj} {Q : Value → Shared → Prop} (hh : A.handled = none) (h : At b g₀ s₀ fp L m g μ s) (hob : μ a = some o) (hp : PendIs w g o pl) (hsz : pl.length ≤ 100)
    (q : ∀ s' I g' vsq Kh St ob, (∀ x y, μ x = some y → x ≠ I) → g.le g' → At b g₀ s₀ fp L m g' (upd μ I ob) s' → Iter2 prog w A I vsq Kh St → St 0 ob → (∀ v ∈ vsq, ∃ q ∈ pl, Rd g v (encQ q)) → (∀ q ∈ pl, ∃ v ∈ vsq, Rd g v (encQ q)) →
      (∀ hp : Heap, hp.get? a = some o → (∀ x y, g' x = some y → hp.get? x = some y) → Kh hp) → Q (.ref I) s') : wpAny (model prog w) A (pyIter (.ref a)) Q E s := by
  obtain ⟨es, ep, t, eo, hm1, hm2, T, hle⟩ := hp
  have hget := (h.mine _ _ hob).1
  have hd : o.data = .set es ep t := by rw [eo]
  have hT : s.TypeIs (.ref a) "set" := ⟨_, hget, by rw [eo]⟩
  have mem : ∀ {vsq : List Value}, vsq.Perm (es.toList.map (·.2)) → (∀ v ∈ vsq, ∃ q ∈ pl, Rd g v (encQ q)) ∧ (∀ q ∈ pl, ∃ v ∈ vsq, Rd g v (encQ q)) := by
    intro vsq hpm
    refine ⟨fun v hv => ?_, fun y hy => ?_⟩
    · obtain ⟨e, he, rfl⟩ := List.mem_map.mp (hpm.mem_iff.mp hv)
      exact hm1 e he
    · obtain ⟨e, he, hr⟩ := hm2 y hy
      exact ⟨_, hpm.mem_iff.mpr (List.mem_map_of_mem he), hr⟩
  refine wpAny_pyIter_slot hT F.slot_set_iter (wpAny_call_entry F.slot_set_iter hT FS.entry_iter ?_ (F.args_set_iter_1 _))
  show wpAny _ _ (Builtin.Frozenset.sizeOf a >>= _) _ _ s
  unfold Builtin.Frozenset.sizeOf
  refine wpAny_bind (wpAny_bind (wpAny_setEntries_of hget hd T.fits (wpAny_pure ?_)))
  have drawnIs : ∀ (Q : Bool → Shared → Prop), Q (!w.params.followText "set-order" && (!t.plain && decide (es.size > 1))) s → wpAny (model prog w) A.in1 (setDrawn a) Q E s := by
    intro Q hq
    unfold setDrawn
    refine wpAny_bind (wpAny_setState_of hget hd T.fits ?_)
    dsimp only
    refine wpAny_bind (byText_ ?_)
    exact wpAny_pure hq
  refine wpAny_bind (drawnIs _ ?_)
  cases hb : w.params.followText "set-order" with
  | true =>
    simp only [Bool.not_true, Bool.false_and, Bool.false_eq_true, if_false]
    refine wpAny_bind (wpAny_pure ?_)
    unfold setEpoch
    refine wpAny_bind (wpAny_bind (wpAny_setState_of hget hd T.fits (wpAny_pure ?_)))
    refine wpAny_bind (wpAny_newObj_type (wpAny_pure ⟨_, rfl, "set_iterator", _, ⟨_, Heap.get?_push_size _ rfl, rfl⟩, FS.slot_next.lookup, ?_⟩))
    have hp := mem ((pick_perm (w.params.setOrder a ep) es).map (·.2))
    exact q _ _ g _ _ _ _ (fun x y e => Nat.ne_of_lt (Heap.lt_size (h.mine x y e).1)) (Kn.le.refl _) (h.newMut (tk := s.toks) (setIt (rawInt (0 : Nat)) 0 a es.size ep)) (iterText hh hd T hb) rfl hp.1 hp.2 fun hp h1 _ => h1
  | false =>
    by_cases hpl : (!t.plain && decide (es.size > 1)) = true
    · rw [hpl]
      simp only [Bool.not_false, Bool.and_self, if_true]
      refine wpAny_bind (drawOrder_ es.size (List.range es.size) (by simp) fun l d hperm => ?_)
      have A₁ := h.drawn (d := d)
      have hlen : l.length = es.size := by have := hperm.length_eq; simpa using this
      refine wpAny_bind (newTupleV_ A₁ (fun s1 g1 tp hle1 htp A₂ => ?_) (by rw [List.length_map, hlen]; omega))
      unfold setEpoch
      refine wpAny_bind (wpAny_bind (wpAny_setState_of (A₂.mine _ _ hob).1 hd T.fits (wpAny_pure ?_)))
      refine wpAny_bind (wpAny_newObj_type (wpAny_pure ⟨_, rfl, "set_iterator", _, ⟨_, Heap.get?_push_size _ rfl, rfl⟩, FS.slot_next.lookup, ?_⟩))
      have hall : ∀ i ∈ l, i < es.size := fun i hi => List.mem_range.mp (hperm.mem_iff.mp hi)
      have hpv : (l.map fun i => (es[i]?.map (·.2)).getD .none).Perm (es.toList.map (·.2)) := by
        refine (hperm.map _).trans ?_
        have : (List.range es.size).map (fun i => (es[i]?.map (·.2)).getD .none) = es.toList.map (·.2) := by
          apply List.ext_getElem?
          intro i
          have e2 : es.toList[i]? = es[i]? := Array.getElem?_toList
          rw [List.getElem?_map, List.getElem?_map, e2]
          by_cases hi : i < es.size
          · rw [List.getElem?_range hi, Array.getElem?_eq_getElem hi]
            simp [hi]
          · rw [List.getElem?_eq_none (by simpa using Nat.le_of_not_lt hi), Array.getElem?_eq_none (by omega)]
            rfl
        rw [this]
      have hp := mem hpv
      exact q _ _ g1 _ _ _ _ (fun x y e => Nat.ne_of_lt (Heap.lt_size (A₂.mine x y e).1)) hle1 (A₂.newMut (tk := s1.toks) (setIt (.ref tp) 0 a es.size ep)) (iterDrawn (tp := tp) hh hd T hall) rfl hp.1 hp.2 fun hp h1 h2 => ⟨h1, h2 _ _ htp⟩
    · rw [Bool.not_eq_true] at hpl
      rw [hpl]
      simp only [Bool.and_false, Bool.false_eq_true, if_false]
      have hsz1 : es.size ≤ 1 := by
        rw [Bool.and_eq_false_iff] at hpl
        rcases hpl with h1 | h1
        · by_cases h0 : es.size = 0
          · omega
          · rw [T.plain h0] at h1; cases h1
        · have := of_decide_eq_false h1; omega
      refine wpAny_bind (wpAny_pure ?_)
      unfold setEpoch
      refine wpAny_bind (wpAny_bind (wpAny_setState_of hget hd T.fits (wpAny_pure ?_)))
      refine wpAny_bind (wpAny_newObj_type (wpAny_pure ⟨_, rfl, "set_iterator", _, ⟨_, Heap.get?_push_size _ rfl, rfl⟩, FS.slot_next.lookup, ?_⟩))
      have hp := mem (List.Perm.refl (es.toList.map (·.2)))
      exact q _ _ g _ _ _ _ (fun x y e => Nat.ne_of_lt (Heap.lt_size (h.mine x y e).1)) (Kn.le.refl _) (h.newMut (tk := s.toks) (setIt (rawInt (0 : Nat)) 0 a es.size ep)) (iterTable hh hd T hb hsz1) rfl hp.1 hp.2 fun hp h1 _ => h1
end
end Mine

namespace Mine
mutual
theorem Rd.unique {g : Kn} : ∀ {v : Value} {d e : PyData}, Rd g v d → Rd g v e → d = e
  | _, _, _, .none, h => by cases h; rfl
  | _, _, _, .bool b, h => by cases h; rfl
  | _, _, _, .int i t, h => by cases h; rfl
  | _, _, _, .str x t, h => by cases h; rfl
  | _, _, _, .tup e r, h => by
    cases h with
    | tup e' r' =>
      rw [e] at e'
      have e2 := Option.some.inj e'
      unfold tupObj at e2
      injection e2 with _ _ e3 _
      injection e3 with e4 _
      have e5 := congrArg Array.toList e4
      subst e5
      rw [RdAll.unique r r']
theorem RdAll.unique {g : Kn} : ∀ {vs : List Value} {ds es : List PyData}, RdAll g vs ds → RdAll g vs es → ds = es
  | _, _, _, .nil, h => by cases h; rfl
  | _, _, _, .cons a r, h => by
    cases h with
    | cons a' r' => rw [Rd.unique a a', RdAll.unique r r']
end
theorem map_str_inj {a b : Way} (h : a.map PyData.str = b.map PyData.str) : a = b := by
  induction a generalizing b with
  | nil => cases b with
    | nil => rfl
    | cons _ _ => simp at h
  | cons x a ih => cases b with
    | nil => simp at h
    | cons y b =>
      rw [List.map_cons, List.map_cons] at h
      injection h with h1 h2
      injection h1 with h1
      rw [h1, ih h2]
theorem encQ_inj {x y : Way × Int} (h : encQ x = encQ y) : x = y := by
  unfold encQ encW at h
  injection h with h
  injection h with h1 h2
  injection h1 with h1
  injection h2 with h2 _
  injection h2 with h2
  exact Prod.ext (map_str_inj h1) h2

noncomputable def finM (M : Bool → Way → Int → Bool) (pl : List (Way × Int)) : Bool → Way → Int → Bool := fun b p k => M b p k || (b == false && pl.any fun q => p == q.1 && k == q.2)
theorem finM_step (M : Bool → Way → Int → Bool) (l : List (Way × Int)) (i : Nat) (q : Way × Int) (h : l[i]? = some q) : setM (finM M (l.take i)) false q.1 q.2 = finM M (l.take (i + 1)) := by
  funext b p k
  unfold setM finM
  rw [List.take_add_one, h, List.any_append]
  simp only [Option.toList_some, List.any_cons, List.any_nil, Bool.or_false]
  cases M b p k <;> cases b <;> simp
theorem finM_same (M : Bool → Way → Int → Bool) {l l' : List (Way × Int)} (h : ∀ q, q ∈ l ↔ q ∈ l') : finM M l = finM M l' := by
  funext b p k
  unfold finM
  congr 2
  rw [Bool.eq_iff_iff, List.any_eq_true, List.any_eq_true]
  exact ⟨fun ⟨q, a, c⟩ => ⟨q, (h q).mp a, c⟩, fun ⟨q, a, c⟩ => ⟨q, (h q).mpr a, c⟩⟩
theorem finM_nil (M : Bool → Way → Int → Bool) : finM M [] = M := by
  funext b p k
  unfold finM
  simp

section
variable {prog : Program} {w : World} {A : Around} {E : Value → Shared → Prop} {b s s' s₀ : Shared} {g₀ g g' μ μ' μ'' : Kn} {fp : Addr → Prop} {L : Addr} {m : Str → Option Value} {env : Env} {mg mb : Str → Option Value}
  {f root pend : Addr} {T : Tree} {own : Addr → Option Own} {M M' : Bool → Way → Int → Bool} {pl pl' : List (Way × Int)}

theorem loop2_ {I : Addr} {vsq : List Value} {Kh : Heap → Prop} {St : Nat → Obj → Prop} {o : Obj} {target : Expr} {body : List Stmt} {Q : Flow → Shared → Prop} (J : Nat → (Str → Option Value) → Kn → Kn → Prop)
    (It : Iter2 prog w A I vsq Kh St) (h : At b g₀ s₀ fp L m g μ s) (hI : μ I = some o) (hs : St 0 o) (j0 : J 0 m g μ)
    (hJ : ∀ i m g μ₁ μ₂, (∀ a, a ≠ I → μ₂ a = μ₁ a) → J i m g μ₁ → J i m g μ₂)
    (hK : ∀ i m' g' μ' s', g.le g' → J i m' g' μ' → At b g₀ s₀ fp L m' g' μ' s' → Kh s'.heap)
    (turn : ∀ i v m' g' μ' s', vsq[i]? = some v → g.le g' → J i m' g' μ' → At b g₀ s₀ fp L m' g' μ' s' → (∃ o, μ' I = some o) →
      wpAny (model prog w) A (assign target env v) (fun _ s₂ => wpAny (model prog w) A (execs body env) (Turn b g₀ s₀ fp L I (J (i + 1)) g' μ' Q) (fun _ _ => False) s₂) (fun _ _ => False) s')
    (done : ∀ m' g' μ' s', g.le g' → J vsq.length m' g' μ' → At b g₀ s₀ fp L m' g' μ' s' → Q .next s') :
    codeAny (model prog w) A (.forLoop target (.ref I) body [] env) (fun r s' => match r with | .ok f => Q f s' | .error e => cameBackBy (model prog w) A env E e s') s := by
  refine codeAny_forLoop_any (fun k s' => ∃ i m' g' μ' o', i ≤ vsq.length ∧ k = vsq.length + 1 - i ∧ g.le g' ∧ J i m' g' μ' ∧ At b g₀ s₀ fp L m' g' μ' s' ∧ μ' I = some o' ∧ St i o') ?_ (vsq.length + 1) ⟨0, m, g, μ, o, Nat.zero_le _, rfl, Kn.le.refl _, j0, h, hI, hs⟩
  rintro k s' ⟨i, m', g', μ', o', hi, rfl, hle, hj, hA, hI', hs'⟩
  have kn := hK i m' g' μ' s' hle hj hA
  by_cases hlt : i < vsq.length
  · refine It.item i vsq[i] s' o' _ _ (by simp [hlt]) kn (hA.mine I o' hI').1 hs' fun h' tk o'' hsb ho'' hs'' => ?_
    have hA' := hA.set (tk := tk) hI' hsb ho''
    refine letGo_plain (s := { s' with heap := h', toks := tk }) ho'' (It.cls _ _ hs'') ?_
    have hj' := hJ i m' g' μ' (upd μ' I o'') (fun a ha => upd_ne o'' ha) hj
    refine wpAny_mono (turn i vsq[i] m' g' (upd μ' I o'') _ (by simp [hlt]) hle hj' hA' ⟨_, upd_self _ _ _⟩) (fun _ s₂ h₂ => wpAny_mono h₂ (fun f s₃ h₃ => ?_) fun _ _ e => e.elim) fun _ _ e => e.elim
    unfold Turn at h₃
    cases f with
    | next =>
      obtain ⟨m₃, g₃, μ₃, j₃, A₃, e₃, l₃⟩ := h₃
      exact ⟨vsq.length + 1 - (i + 1), by omega, i + 1, m₃, g₃, μ₃, o'', hlt, rfl, hle.trans l₃, j₃, A₃, e₃.trans (upd_self _ _ _), hs''⟩
    | cont =>
      obtain ⟨m₃, g₃, μ₃, j₃, A₃, e₃, l₃⟩ := h₃
      exact ⟨vsq.length + 1 - (i + 1), by omega, i + 1, m₃, g₃, μ₃, o'', hlt, rfl, hle.trans l₃, j₃, A₃, e₃.trans (upd_self _ _ _), hs''⟩
    | brk => exact h₃
    | ret v => exact h₃
  · have hin : i = vsq.length := by omega
    subst hin
    refine It.done s' o' _ _ kn (hA.mine I o' hI').1 hs' fun h' tk he => ?_
    refine wpAny_execs_nil ?_
    obtain ⟨q1, q2, q3, q4⟩ := hA.mine I o' hI'
    have hA' : At b g₀ s₀ fp L m' g' (wipe μ' I) { s' with heap := h', toks := tk } := {
      base := hA.base
      le := hA.le
      inn := fun a x e => he a x (by rintro rfl; rw [q2] at e; cases e) (hA.inn a x e)
      keep := fun a x hx e => by
        refine he a x ?_ (hA.keep a x hx e)
        rintro rfl
        rcases q4 with q4 | q4
        · exact hx q4
        · exact absurd (Heap.lt_size e) (Nat.not_lt.mpr q4)
      old := hA.old
      gens := hA.gens
      os := hA.os
      ns := hA.ns.extBut he (Ne.symm q3)
      offL := hA.offL
      newL := hA.newL
      mine := fun a x e => by
        by_cases ha : a = I
        · subst ha; rw [wipe_self] at e; cases e
        · rw [wipe_ne ha] at e
          obtain ⟨r1, r2, r3, r4⟩ := hA.mine a x e
          exact ⟨he a x ha r1, r2, r3, r4⟩ }
    exact done m' g' (wipe μ' I) _ hle (hJ _ m' g' μ' _ (fun a ha => wipe_ne ha) hj) hA'

/-- behind a call of a changing method -/
theorem At.called (A' : At b g₀ s₀ fp L m g μ s) (r : Rep prog w g μ f root pend T own M pl) (Lf : Left prog w b g (only own μ) s f root pend M' pl' g' μ'' s') :
    ∃ μn T' own', At b g₀ s₀ fp L m g' μn s' ∧ Rep prog w g' μn f root pend T' own' M' pl' ∧ (∀ a o, own a = none → μ a = some o → own' a = none ∧ μn a = some o) ∧ μn pend = μ'' pend := by
  obtain ⟨T', own', r'⟩ := Lf.rep
  have G := Lf.grown
  have hsome : ∀ a o, μ'' a = some o → (if (μ'' a).isSome then μ'' a else if (only own μ a).isSome then none else μ a) = μ'' a := fun a o e => by rw [if_pos (by rw [e]; rfl)]
  have onlyNone : ∀ a, own a = none → only own μ a = none := fun a e => by unfold only; rw [e]; rfl
  refine ⟨fun a => if (μ'' a).isSome then μ'' a else if (only own μ a).isSome then none else μ a, T', own', ?_, ?_, ?_, ?_⟩
  · exact {
      base := A'.base
      le := A'.le.trans G.le
      inn := G.inn
      keep := fun a o hf e => by
        have e1 := A'.keep a o hf e
        refine G.keep a o (fun hm => ?_) e1
        obtain ⟨x, hx⟩ := Option.ne_none_iff_exists'.mp hm
        rcases (A'.mine a x (only_le _ _ hx)).2.2.2 with h4 | h4
        · exact hf h4
        · exact absurd (Heap.lt_size e) (Nat.not_lt.mpr h4)
      old := fun a h => (G.old a (Nat.lt_of_lt_of_le h A'.size)).trans (A'.old a h)
      gens := G.gens
      os := G.os
      ns := by
        refine A'.ns.at' fun o e => G.keep L o (fun hm => ?_) e
        obtain ⟨x, hx⟩ := Option.ne_none_iff_exists'.mp hm
        exact (A'.mine L x (only_le _ _ hx)).2.2.1 rfl
      offL := (G.old L A'.ltL).trans A'.offL
      newL := A'.newL
      mine := fun a o e => by
        by_cases h1 : (μ'' a).isSome
        · rw [if_pos h1] at e
          obtain ⟨k1, k2, k3⟩ := Lf.own a o e
          refine ⟨k1, k2, ?_, ?_⟩
          · rintro rfl
            rcases k3 with k3 | k3
            · obtain ⟨x, hx⟩ := Option.ne_none_iff_exists'.mp k3
              exact (A'.mine a x (only_le _ _ hx)).2.2.1 rfl
            · exact absurd A'.ltL (Nat.not_lt.mpr k3)
          · rcases k3 with k3 | k3
            · obtain ⟨x, hx⟩ := Option.ne_none_iff_exists'.mp k3
              exact (A'.mine a x (only_le _ _ hx)).2.2.2
            · exact .inr (Nat.le_trans A'.size k3)
        · rw [if_neg h1] at e
          by_cases h2 : (only own μ a).isSome
          · rw [if_pos h2] at e; cases e
          · rw [if_neg h2] at e
            obtain ⟨k1, k2, k3, k4⟩ := A'.mine a o e
            refine ⟨G.keep a o (fun hm => h2 (Option.isSome_iff_ne_none.mpr hm)) k1, (G.old a (Heap.lt_size k1)).trans k2, k3, k4⟩ }
  · refine r'.congr fun a ha => ?_
    obtain ⟨x, hx⟩ := Option.ne_none_iff_exists'.mp (r'.ownM a ha).1
    exact hsome a x hx
  · intro a o e1 e2
    have hn : μ'' a = none := by
      cases e : μ'' a with
      | none => rfl
      | some x =>
        rcases (Lf.own a x e).2.2 with k3 | k3
        · exact absurd (onlyNone a e1) k3
        · exact absurd (Heap.lt_size (A'.mine a o e2).1) (Nat.not_lt.mpr k3)
    refine ⟨?_, ?_⟩
    · cases e : own' a with
      | none => rfl
      | some x => exact absurd hn (r'.ownM a (by rw [e]; simp)).1
    · show (if (μ'' a).isSome then μ'' a else if (only own μ a).isSome then none else μ a) = some o
      rw [hn, onlyNone a e1]
      exact e2
  · obtain ⟨_, x, hx, _⟩ := r'.pend_
    exact hsome pend x hx

theorem MethodCallKw_ {M : Model} {o : Expr} {name : Str} {apos pos : Pos} {args : List Expr} {kws : List Keyword} {pl : Sem Bool} {Q : Value → Shared → Prop}
    (h : wpAny M A (eval o env) (fun ov s₁ => wpAny M A (getMethod ov name pl) (fun fx s₂ => wpAny M A (callWith pos fx.1 fx.2 (backTo pos (starEach args env)) (backToKw pos (keywordEach kws env))) Q E s₂) E s₁) E s)
    (he : eval (.Call (.Attribute o name apos) args kws pos) env = (do
      let ov ← eval o env
      standAt apos.atName
      let (f, first) ← holding [ov] (getMethod ov name pl)
      callWith pos f first (backTo pos (starEach args env)) (backToKw pos (keywordEach kws env))) := by rfl) :
    wpAny M A (eval (.Call (.Attribute o name apos) args kws pos) env) Q E s := by
  rw [he]
  refine wpAny_bind (wpAny_mono h (fun ov s₁ h₁ => wpAny_bind (wpAny_standAt (wpAny_bind (wpAny_holding (wpAny_mono h₁ (fun fx s₂ h₂ => ?_) fun _ _ x => x))))) fun _ _ x => x)
  exact h₂

/-- clear -/
theorem clear_ {a : Addr} {o : Obj} {Q : Value → Shared → Prop} (h : At b g₀ s₀ fp L m g μ s) (hob : μ a = some o) (hp : PendIs w g o pl)
    (q : ∀ s' o', At b g₀ s₀ fp L m g (upd μ a o') s' → PendIs w g o' [] → Q .none s') : wpAny (model prog w) A (call (.builtin "set.clear") [.ref a]) Q E s := by
  obtain ⟨es, ep, t, eo, hm1, hm2, T, hle⟩ := hp
  have hget := (h.mine _ _ hob).1
  have hd : o.data = .set es ep t := by rw [eo]
  have hT : s.TypeIs (.ref a) "set" := ⟨_, hget, by rw [eo]⟩
  refine wpAny_call_entry F.slot_set_clear hT F.entry_set_clear ?_ (F.args_set_clear_1 _)
  unfold Builtin.«set.clear»
  show wpAny _ _ (Builtin.Frozenset.clearAll a >>= _) _ _ s
  refine wpAny_bind ?_
  unfold Builtin.Frozenset.clearAll
  have fin : ∀ (old : Option (List Value)), wpAny (model prog w) A.in1 (storeSet a #[] (t.cleared (led := !w.params.followText "set-order" && (t.led || t.finger == 0))) >>= fun _ => pure old) (fun _ s' => ∃ o', At b g₀ s₀ fp L m g (upd μ a o') s' ∧ PendIs w g o' []) E s := by
    intro old
    refine wpAny_bind (wpAny_storeSet_of hget hd ?_ (by rw [sizeLine_eq]; simp))
    refine wpAny_pure ?_
    generalize ht' : t.cleared (led := !w.params.followText "set-order" && (t.led || t.finger == 0)) = t'
    have hg : (s.heap.update a (Obj.putSet #[] t')).get? a = some { cls := .type "set", data := .set #[] (ep + 1) t' } := by
      have := Heap.get?_update_self (Obj.putSet #[] t') hget (by rw [putSet_of _ _ hd]; rfl)
      rw [putSet_of _ _ hd, eo] at this
      exact this
    refine ⟨_, h.set (tk := s.toks) hob (Heap.SameBut.update ..) hg, #[], ep + 1, t', rfl, fun e he => by simp at he, fun q hq => (by cases hq), ?_, Nat.le_refl _⟩
    rw [← ht']
    refine ⟨rfl, rfl, .inl rfl, (show 5 * 0 < 3 * 7 by decide), ?_, fun hn => absurd rfl hn⟩
    show (!w.params.followText "set-order" && (t.led || t.finger == 0)) = !w.params.followText "set-order"
    cases hb : w.params.followText "set-order" with
    | true => rfl
    | false => rw [T.led, hb]; rfl
  have tail : ∀ (old : Option (List Value)), wpAny (model prog w) A.in1 (do
      let t := (← setState a).2.2
      storeSet a #[] (t.cleared (led := !(← setsByText) && (t.led || t.finger == 0)))
      return old) (fun _ s' => ∃ o', At b g₀ s₀ fp L m g (upd μ a o') s' ∧ PendIs w g o' []) E s := by
    intro old
    refine wpAny_bind (wpAny_setState_of hget hd T.fits ?_)
    dsimp only
    refine wpAny_bind (byText_ ?_)
    exact fin old
  have items : ∀ (Q : List Value → Shared → Prop), (w.params.followText "set-order" || (t.led && t.plain) || decide (es.size ≤ 1)) = true → (∀ l, Q l s) → wpAny (model prog w) A.in1 (setItems a) Q E s := by
    intro Q hc hq
    unfold setItems
    refine wpAny_bind ?_
    unfold setWalk
    refine wpAny_bind (wpAny_setState_of hget hd T.fits ?_)
    dsimp only
    refine wpAny_bind (byText_ ?_)
    cases hb : w.params.followText "set-order" with
    | true =>
      simp only [if_true]
      exact wpAny_bind (wpAny_askSetting (wpAny_pure (wpAny_pure (hq _))))
    | false =>
      simp only [Bool.false_eq_true, if_false]
      have hsz : es.size ≤ 1 := by
        by_cases h0 : es.size = 0
        · omega
        · rw [hb, T.plain h0] at hc
          simpa using hc
      show wpAny _ _ (if (!t.plain && decide (es.size > 1)) = true then _ else _) _ _ s
      rw [if_neg (by simp; omega)]
      refine wpAny_bind (m := (if (!t.led && decide (es.size > 1)) = true then unsupported "set:maker-not-led" else pure ())) ?_
      rw [if_neg (by simp; omega)]
      exact wpAny_pure (wpAny_pure (wpAny_pure (hq _)))
  have clr : wpAny (model prog w) A.in1 (setClear a) (fun _ s' => ∃ o', At b g₀ s₀ fp L m g (upd μ a o') s' ∧ PendIs w g o' []) E s := by
    unfold setClear
    refine wpAny_bind ?_
    unfold setDeathsKnown
    refine wpAny_bind (wpAny_setState_of hget hd T.fits ?_)
    dsimp only
    refine wpAny_bind (byText_ ?_)
    refine wpAny_pure ?_
    cases hc : (w.params.followText "set-order" || (t.led && t.plain) || decide (es.size ≤ 1)) with
    | true =>
      simp only [if_true]
      refine wpAny_bind (items _ hc fun l => ?_)
      refine wpAny_bind (wpAny_pure ?_)
      exact tail _
    | false =>
      simp only [Bool.false_eq_true, if_false]
      refine wpAny_bind (wpAny_pure ?_)
      exact tail _
  refine wpAny_bind (wpAny_mono clr (fun old s' h' => ?_) fun _ _ e => e)
  obtain ⟨o', a1, a2⟩ := h'
  have e1 : wpAny (model prog w) A.in1 (ret Value.none) (fun fin s' => ∃ v, fin = .done (.ret v) ∧ Q v s') E s' := wpAny_pure ⟨_, rfl, q _ _ a1 a2⟩
  cases old with
  | none => exact wpAny_point e1
  | some l => exact wpAny_letGo e1

structure OkQ (q : Way × Int) : Prop where
  ok : OkW q.1
  ne : q.1 ≠ []
  names : ∀ x ∈ q.1, x = "a" ∨ x = "nested"
  flag : q.2 = 0 ∨ q.2 = 1

theorem choose_list {vsq : List Value} (h : ∀ v ∈ vsq, ∃ q ∈ pl, Rd g v (encQ q)) : ∃ dsq : List (Way × Int), (∀ (i : Nat) (v : Value), vsq[i]? = some v → ∃ q, dsq[i]? = some q ∧ Rd g v (encQ q)) ∧ (∀ q ∈ dsq, q ∈ pl) ∧ dsq.length = vsq.length := by
  induction vsq with
  | nil => exact ⟨[], fun i v e => by simp at e, fun q hq => (by cases hq), rfl⟩
  | cons v vsq ih =>
    obtain ⟨q, hq, hr⟩ := h v (.head _)
    obtain ⟨dsq, h1, h2, h3⟩ := ih fun v hv => h v (.tail _ hv)
    refine ⟨q :: dsq, fun i u e => ?_, fun y hy => ?_, by simp [h3]⟩
    · cases i with
      | zero => simp at e; subst e; exact ⟨q, rfl, hr⟩
      | succ i => exact h1 i u (by simpa using e)
    · rcases List.mem_cons.mp hy with rfl | hy
      · exact hq
      · exact h2 y hy

set_option maxHeartbeats 1000000 in
theorem finalize_pending_ {Q : Value → Shared → Prop} (R : Room A 3 93) (C : Cx w b.heap mg mb) (k : Know b g s) (r : Rep prog w g μ f root pend T own M pl)
    (hμ : ∀ a o, μ a = some o → s.heap.get? a = some o ∧ g a = none) (okpl : ∀ q ∈ pl, OkQ q) (hl : pl.length ≤ 100)
    (q : ∀ s' g' μ', Left prog w b g μ s f root pend (finM M pl) [] g' μ' s' → Q .none s') : wpAny (model prog w) A (call (.ref 42) [.ref f]) Q E s := by
  refine enter (fd := fdAt w.params 42) (binds := [("self", .ref f)]) (fp := fun a => μ a ≠ none) (μ := μ) (d := 2) (u := 90) R C k rfl rfl (by kernel_rfl) rfl (by kernel_rfl) (noCells (by kernel_rfl)) (locs (by kernel_rfl))
    (fun a o e => ⟨(hμ a o e).1, (hμ a o e).2, by rw [e]; simp⟩) fun s₁ A₁ R₁ => ?_
  obtain ⟨d, es, n, hi, hdd, hl1, hl2, hl3⟩ := r.inst
  obtain ⟨hown, op, hop, hpend⟩ := r.pend_
  refine exCons_ (wpAny_For (Attribute_name ?_))
  refine name_ A₁ (by rfl) (by rfl) (by rfl) (by rfl) ?_
  refine attr_ C A₁ hi hdd (by kernel_rfl) (by kernel_rfl) (by kernel_rfl) hl2 rfl fun s3 A₃ => ?_
  refine iterSet_ R₁.hd A₃ hop hpend hl fun s4 I g4 vsq Kh St ob hnew hle4 A₄ It hst hv1 hv2 hK => ?_
  obtain ⟨dsq, hd1, hd2, hd3⟩ := choose_list hv1
  have hsame : ∀ y, y ∈ dsq ↔ y ∈ pl := by
    intro y
    refine ⟨hd2 y, fun hy => ?_⟩
    obtain ⟨v, hv, hr⟩ := hv2 y hy
    obtain ⟨i, hi⟩ := List.getElem?_of_mem hv
    obtain ⟨y', hy', hr'⟩ := hd1 i v hi
    rw [encQ_inj (hr.unique hr')]
    exact List.mem_of_getElem? hy'
  have hIown : own I = none := by
    cases e : own I with
    | none => rfl
    | some x =>
      obtain ⟨z, hz⟩ := Option.ne_none_iff_exists'.mp (r.ownM I (by rw [e]; simp)).1
      exact absurd rfl (hnew I z hz)
  have hIp : pend ≠ I := hnew pend op hop
  obtain ⟨o56, ho56, hd56⟩ : ∃ o, (hd.heap_39 w.params).lookup 56 = some o ∧ o.data = .func (fdAt w.params 56) := ⟨_, rfl, rfl⟩
  refine loop2_ (fun i m g' μ' => (∃ T' own', Rep prog w g' μ' f root pend T' own' (finM M (dsq.take i)) pl ∧ own' I = none) ∧ μ' pend = some op ∧ m "self" = some (.ref f)) It A₄ (upd_self _ _ _) hst ?_ ?_ ?_ ?_ ?_
  · refine ⟨⟨T, own, ?_, hIown⟩, (upd_ne _ hIp).trans hop, by rfl⟩
    rw [List.take_zero, finM_nil]
    refine (r.up hle4).congr fun a ha => upd_ne _ ?_
    rintro rfl
    exact ha hIown
  · rintro i m g μ₁ μ₂ hμ' ⟨⟨T', own', j1, j2⟩, j3, j4⟩
    refine ⟨⟨T', own', j1.congr fun a ha => hμ' a ?_, j2⟩, (hμ' pend hIp).trans j3, j4⟩
    rintro rfl
    exact ha j2
  · rintro i m' g' μ' s' hle ⟨_, j3, _⟩ D
    exact hK _ (D.mine _ _ j3).1 fun x y e => D.inn _ _ (hle _ _ e)
  · rintro i v m' g' μ' s' hv hle ⟨⟨T', own', j1, j2⟩, j3, j4⟩ D₁ ⟨oI, hoI⟩
    obtain ⟨y, hy, hr⟩ := hd1 i v hv
    have okq := okpl y ((hsame y).mp (List.mem_of_getElem? hy))
    have hr' : Rd g' v (.tuple [encW y.1, .int y.2]) := hr.mono (hle4.trans hle)
    refine assign2_ R₁.hd D₁ hr' (by rfl) (by rfl) (by rfl) (by rfl) fun s6 u1 u2 r1 r2 D₂ => ?_
    obtain ⟨d', es', n', hi', hdd', _, _, hl3'⟩ := j1.inst
    refine exCons_ (wpAny_Expr (MethodCallKw_ ?_))
    refine name_ D₂ (by rfl) (by rfl) (by rfl) (by exact j4) ?_
    refine meth_ C D₂ hi' hdd' (by kernel_rfl) (by kernel_rfl) (fn := 56) (by kernel_rfl) (by kernel_rfl) (hl3' "set" (by simp)) ?_
    refine callWith_function_kw (o := o56) (fd := fdAt w.params 56) (evalArgs_kw2 (by rfl) ?_ (by rfl))
    refine argCons_ (name_ D₂ (by rfl) (by rfl) (by rfl) (by rfl) ?_)
    refine argCons_ (name_ D₂ (by rfl) (by rfl) (by rfl) (by rfl) (args_nil ?_))
    refine kwAll_cons (bool_ (kwAll_nil ?_))
    refine ⟨⟨D₂.keeps _ _ (C.K _ _ ho56), hd56⟩, ?_⟩
    refine set_ (rec := false) (μ := only own' μ') (way := y.1) (flag := y.2) R₁ C D₂.know j1.only (fun a o e => let q := D₂.mine a o (only_le _ _ e); ⟨q.1, q.2.1⟩) r1 r2 okq.ok okq.ne okq.names okq.flag fun s7 g7 μ7 Lf hpd => ?_
    obtain ⟨μn, Tn, ownn, D₃, r₃, hkp, hpn⟩ := D₂.called j1 Lf
    obtain ⟨z1, z2⟩ := hkp I oI j2 hoI
    refine wpAny_execs_nil ?_
    refine ⟨_, _, _, ?_, D₃, z2.trans hoI.symm, Lf.grown.le⟩
    rw [finM_step M dsq i y hy] at r₃
    refine ⟨⟨Tn, ownn, r₃, z1⟩, ?_, by exact j4⟩
    rw [hpn, hpd]
    unfold only
    rw [if_pos (by rw [j1.pend_.1]; rfl)]
    exact j3
  · rintro m' g' μ' s' hle ⟨⟨T', own', j1, j2⟩, j3, j4⟩ D₁
    rw [← hd3, List.take_length, finM_same M hsame] at j1
    obtain ⟨d', es', n', hi', hdd', _, hl2', _⟩ := j1.inst
    refine exCons_ (wpAny_Expr (MethodCall_ (Attribute_name ?_)))
    refine name_ D₁ (by rfl) (by rfl) (by rfl) (by exact j4) ?_
    refine attr_ C D₁ hi' hdd' (by kernel_rfl) (by kernel_rfl) (by kernel_rfl) hl2' rfl fun s5 D₂ => ?_
    obtain ⟨_, op', hop', hpend'⟩ := j1.pend_
    refine getMethod_pend hpend' (D₂.mine _ _ hop').1 F.slot_set_clear F.type_set_clear ?_
    refine callWith_method0 ?_
    refine clear_ D₂ hop' hpend' fun s6 o' D₃ hp' => ?_
    refine wpAny_execs_nil ?_
    exact q _ _ _ (Left.of D₃ (j1.pendAt (upd_self _ _ _) hp' fun y hy => upd_ne _ hy))
end
end Mine

namespace Mine
section
variable {prog : Program} {w : World} {A : Around} {E : Value → Shared → Prop} {b s s' s₀ : Shared} {g₀ g g' μ μ' μ'' : Kn} {fp : Addr → Prop} {L : Addr} {m : Str → Option Value} {env : Env} {mg mb : Str → Option Value}

theorem setMade_ {Q₁ : Value → Shared → Prop} (h : Q₁ (.ref s.heap.objs.size) { s with heap := s.heap.push (freshSet (!w.params.followText "set-order")) }) :
    codeAny (model prog w) A (.call (.builtin "set.__new__") ⟨[.type "set"], []⟩) (wants Q₁ E) s := by
  refine codeAny_of_tree ?_
  show wpAny _ A.in1 (do checkBuiltinCall "set.__new__" ⟨[.type "set"], []⟩; again (.builtin "set.__new__" ⟨[.type "set"], []⟩)) _ _ s
  refine wpAny_bind (wpAny_of_eq F.newCall_set_0 (wpAny_pure ⟨plainId_quiet F.plain_set_new _, codeAny_builtin F.entry_set_new ?_⟩))
  rw [Around.under_plainId F.plain_set_new _]
  unfold Builtin.«set.__new__» Builtin.Frozenset.newClass
  have hsub := sub_set_self
  obtain ⟨hp, g, d, tk, os⟩ := s
  dsimp only
  wp_walk
  refine wpAny_askSetting (wpAny_pure ?_)
  dsimp only
  simp only [newObj]
  exact wpAny_bind (wpAny_alloc (wpAny_pure (wpAny_pure h)))

set_option maxHeartbeats 1000000 in
theorem setNew_ {Q : Value → Shared → Prop} (h : Q (.ref s.heap.objs.size) { s with heap := s.heap.push (freshSet (!w.params.followText "set-order")) }) : wpAny (model prog w) A (call (.type "set") []) Q E s := by
  obtain ⟨c, tl, hmro⟩ := F.called_set.mro
  have hmade := F.called_set.made
  have hsub := F.called_set.sub
  refine wpAny_call (codeAny_of_tree ?_)
  show wpAny _ _ (callAny (.type "set") _) _ _ _
  refine wpAny_pure ⟨Code.quiet_builtin _ (by decide +kernel), codeAny_builtin F.entry_type_call ?_⟩
  rw [Around.under_plain (PySem.weight_type_call_type "set" [] []) rfl]
  have h1 := F.called_set.notType
  have h2 := F.called_set.canCreate
  have hct := F.typeCall_set_0
  repeat (any_goals (first | assumption | wp_step))
  refine codeAny_mono (setMade_ (E := E) (Q₁ := fun obj s₁ => obj = .ref s.heap.objs.size ∧ s₁ = { s with heap := s.heap.push (freshSet (!w.params.followText "set-order")) }) ⟨rfl, rfl⟩) fun r s₁ hr => ?_
  generalize (!w.params.followText "set-order") = led at h hr
  cases r with
  | error e => exact hr
  | ok fl =>
    cases fl with
    | ret obj =>
      obtain ⟨rfl, rfl⟩ := hr
      have hS : (s.heap.push (freshSet led)).get? s.heap.objs.size = some (freshSet led) := Heap.get?_push_size _ rfl
      have hT : Shared.TypeIs { s with heap := s.heap.push (freshSet led) } (.ref s.heap.objs.size) "set" := ⟨_, hS, rfl⟩
      have hli := F.called_set.init.lookup
      have hbi := F.called_set.init.bind (.ref s.heap.objs.size)
      repeat (any_goals (first | assumption | wp_step))
      refine codeAny_mono (codeAny_call_builtin (R := wants (fun r s₂ => r = .none ∧ Q (.ref s.heap.objs.size) s₂) E) F.called_set.init.plain F.entry_set_init (check_set_init hT ?_)) fun r₂ s₂ hr₂ => ?_
      · unfold Builtin.«set.__init__» noKeywords
        wp_walk
        exact ⟨rfl, h⟩
      · cases r₂ with
        | error e => exact hr₂
        | ok fl₂ =>
          cases fl₂ with
          | ret r =>
            obtain ⟨rfl, hq⟩ := hr₂
            repeat (any_goals (first | assumption | wp_step))
          | _ => exact hr₂.elim
    | _ => exact hr.elim

theorem setAttr_ (C : Cx w b.heap mg mb) (h : At b g₀ s₀ fp L m g μ s) {x dx : Addr} {es : List DictEntry} {es' : Tok → List DictEntry} {n n' : Nat} {name : Str} {v : Value} {Q : Unit → Shared → Prop}
    (hx : μ x = some (instObj 66 dx)) (hdx : μ dx = some (dictOf es n)) (ht : takerIn (hd.heap_39 w.params) 66 name = some none) (hl : (lookIn name (dictOf es n)).isSome = true)
    (e : ∀ tk, Obj.putName name (PyData.keyHash w.params name) (.str name tk) v (dictOf es n) = dictOf (es' tk) n') (hz : ∀ tk, (es' tk).length ≤ 1000)
    (q : ∀ s' tk, At b g₀ s₀ fp L m g (upd μ dx (dictOf (es' tk) n')) s' → Q () s') : wpAny (model prog w) A (setAttr (.ref x) name v) Q E s := by
  have X : Frag.In (hd.heap_39 w.params) s.heap := fun x y e => h.keeps x y (C.K x y e)
  have hgx := (h.mine _ _ hx).1
  have D := (h.mine _ _ hdx).1
  have I : W.InstAt s.heap x (instObj 66 dx) 66 (some (dictOf es n)) := ⟨hgx, rfl, rfl, D⟩
  refine set_plain X I (by kernel_rfl) ?_
  refine osa_open (s := { s with toks := s.toks + 1 }) X I (by kernel_rfl) ht fun bb => ?_
  obtain ⟨cd, hc, hd'⟩ := any_some (show (clsIn (hd.heap_39 w.params) 66).any (·.hasDict) = true by kernel_rfl)
  refine wpAny_bind (wpAny_pure (wpAny_bind (wpAny_bind (wpAny_loadPart hgx (wpAny_bind ((looks_clsIn X hc).at ?_))))))
  rw [hd']
  refine wpAny_pure (a := some dx) (wpAny_bind (wpAny_pure (wpAny_bind ?_)))
  unfold nsSet
  refine wpAny_bind (wpAny_bind (wpAny_askSetting (wpAny_pure (wpAny_bind (wpAny_mkText (wpAny_bind (wpAny_loadPart D ?_)))))))
  have hl' := hl
  unfold lookIn at hl'
  dsimp only [dictOf] at hl'
  dsimp only [dictOf]
  have c : (!es.toArray.any (·.key.isStr name) && es.toArray.any (·.refKey)) = false := by
    rw [← Array.any_toList, ← Array.any_toList]
    split at hl'
    · rename_i en he
      rw [List.any_eq_true.mpr ⟨en, List.mem_of_find?_eq_some he, List.find?_some he⟩]; rfl
    · split at hl'
      · cases hl'
      · rename_i z; rw [Bool.not_eq_true] at z; rw [z, Bool.and_false]
  rw [aRefKeyMayBeTheName_at, c]
  refine wpAny_updatePart D ?_
  have hg : (s.heap.update dx (Obj.putName name (PyData.keyHash w.params name) (.str name (s.toks + 1)) v)).get? dx = some (dictOf (es' (s.toks + 1)) n') := by
    have e1 := e (s.toks + 1)
    have := Heap.get?_update_self (Obj.putName name (PyData.keyHash w.params name) (.str name (s.toks + 1)) v) D (by rw [e1]; rfl)
    rw [this, e1]
  refine wpAny_bind (wpAny_lookBehind hg (pastItsLine_dict (by rw [List.size_toArray, sizeLine_eq]; have := hz (s.toks + 1); omega)) ?_)
  exact wpAny_pure (q _ (s.toks + 1) (h.set (tk := s.toks + 1 + 1) hdx (Heap.SameBut.update ..) hg))

theorem emptyMap : StrMap prog w ({ cls := .type "dict", data := .dict #[] } : Obj) [] := by
  obtain ⟨o, ho, hm⟩ := Heap.dictOf_iff.mp (Heap.DictOf.new (knd := strKind prog w) ({ objs := #[] } : Heap))
  have e : (Heap.push ({ objs := #[] } : Heap) ({ cls := .type "dict", data := .dict #[] } : Obj)).get? 0 = some _ := Heap.get?_push_size _ rfl
  have e2 := e.symm.trans ho
  cases e2
  exact hm
theorem emptyPend (led : Bool) (hl : led = !w.params.followText "set-order") : PendIs w g (freshSet led) [] :=
  ⟨#[], 0, .fresh 0 0 led, rfl, fun e he => by simp at he, fun q hq => (by cases hq), ⟨rfl, rfl, .inl rfl, (show 5 * 0 < 3 * 7 by decide), hl, fun hn => absurd rfl hn⟩, Nat.le_refl _⟩

set_option maxHeartbeats 1000000 in
theorem flagsNew_ {Q : Value → Shared → Prop} (R : Room A 3 94) (C : Cx w b.heap mg mb) (k : Know b g s)
    (q : ∀ s' g' μ' f root pend T own, Grown b g s (fun _ => False) g' s' → Rep prog w g' μ' f root pend T own (fun _ _ _ => false) [] → (∀ a o, μ' a = some o → s'.heap.get? a = some o ∧ g' a = none ∧ s.heap.objs.size ≤ a) → Q (.ref f) s') :
    wpAny (model prog w) A (call (.ref 66) [] []) Q E s := by
  have X : Frag.In (hd.heap_39 w.params) s.heap := fun x y e => k.keeps x y (C.K x y e)
  obtain ⟨hh, gs, dr, tk, os⟩ := s
  refine wpAny_call (make_core (makes_of X (by kernel_rfl)) (looks_findIn X (by kernel_rfl)) (fun self => bind_fn X self (f := 28) (by kernel_rfl)) (.inl rfl) ?_)
  dsimp only at X
  have kk : ∀ a o, hh.get? a = some o → ((hh.push emptyDict).push (instObj 66 hh.objs.size)).get? a = some o := fun a o e => Heap.get?_push_of_some _ (Heap.get?_push_of_some _ e)
  have gd : ((hh.push emptyDict).push (instObj 66 hh.objs.size)).get? hh.objs.size = some emptyDict := Heap.get?_push_of_some _ (Heap.get?_push_size _ rfl)
  have gx : ((hh.push emptyDict).push (instObj 66 hh.objs.size)).get? (hh.objs.size + 1) = some (instObj 66 hh.objs.size) := by
    have := Heap.get?_push_size (o := instObj 66 hh.objs.size) (hh.push emptyDict) rfl
    rwa [Heap.size_push] at this
  have fresh : ∀ a, hh.objs.size ≤ a → g a = none := fun a ha => by
    cases e : g a with
    | none => rfl
    | some o => exact absurd (Heap.lt_size (k.inn a o e)) (Nat.not_lt.mpr ha)
  generalize hS : (⟨(hh.push emptyDict).push (instObj 66 hh.objs.size), gs, dr, tk, os⟩ : Shared) = s1
  have hs1h : s1.heap = (hh.push emptyDict).push (instObj 66 hh.objs.size) := by rw [← hS]
  rw [← hs1h] at kk gd gx
  have k1 : Know b g s1 := ⟨k.base, fun a o e => kk a o (k.inn a o e), by rw [← hS]; exact k.gens, by rw [← hS]; exact k.os⟩
  have hN : hh.objs.size + 1 < s1.heap.objs.size := Heap.lt_size gx
  generalize hd0 : hh.objs.size = dx at *
  have X1 : Frag.In (hd.heap_39 w.params) s1.heap := fun x y e => k1.keeps x y (C.K x y e)
  obtain ⟨o28, ho28, hd28⟩ : ∃ o, (hd.heap_39 w.params).lookup 28 = some o ∧ o.data = .func (fdAt w.params 28) := ⟨_, rfl, rfl⟩
  refine codeAny_call_def (fd := fdAt w.params 28) (body := stmtsOf (fdAt w.params 28)) (binds := [("self", .ref (dx + 1))]) (by have := R.depth; show A.depth + 1 < _; omega) (X1 _ _ ho28) hd28 (C.nolimit.keeps k1.keeps) (codeRec_of X1 (by kernel_rfl)) (by kernel_rfl) (BindsTo.of_eq (by kernel_rfl))
    (noCells (by kernel_rfl)) (locs (by kernel_rfl)) (fun h₁ hns hk₁ => ?_) rfl rfl rfl
  let μ1 : Kn := upd (upd (fun _ => none) dx emptyDict) (dx + 1) (instObj 66 dx)
  have m1x : μ1 (dx + 1) = some (instObj 66 dx) := upd_self _ _ _
  have m1d : μ1 dx = some (dictOf [] 0) := (upd_ne _ (Nat.ne_of_lt (Nat.lt_succ_self dx))).trans (upd_self _ _ _)
  have m1n : ∀ a, μ1 a ≠ none → a = dx ∨ a = dx + 1 := by
    intro a ha
    by_cases e1 : a = dx + 1
    · exact .inr e1
    by_cases e2 : a = dx
    · exact .inl e2
    exact absurd ((upd_ne _ e1).trans (upd_ne _ e2)) ha
  have A₁ := k1.enter (tk := s1.toks + 1) (fp := fun a => a = dx ∨ a = dx + 1) (μ := μ1) hns hk₁ (fun a o e => by
    rcases m1n a (by rw [e]; simp) with rfl | rfl
    · rw [m1d] at e; cases e; exact ⟨gd, fresh _ (Nat.le_refl _), .inl rfl⟩
    · rw [m1x] at e; cases e; exact ⟨gx, fresh _ (Nat.le_succ _), .inr rfl⟩)
  generalize hμ1 : μ1 = μ2 at A₁ m1x m1d m1n
  have hh0 : ((A.under (.builtin "type.__call__" ⟨[.ref 66], []⟩)).deeper (callEnv (fdAt w.params 28) s1.heap.objs.size 28)).handled = none := R.hd
  refine wpAny_mono (E := fun _ _ => False) (Q := fun fl s' => InitBack (dx + 1) _ (.ok (.ret (match fl with | .ret v => v | _ => .none))) s') ?_ (fun _ _ q => q) (fun _ _ q => q.elim)
  refine exCons_ (plainObj_wpAny_Assign_Attribute ?_)
  refine wpAny_Dict_empty ?_
  have A₂ := A₁.newMut (tk := s1.toks + 1) ({ cls := .type "dict", data := .dict #[] } : Obj)
  generalize hrtdef : h₁.objs.size = rt at A₂
  have hlt1 : ∀ a o, μ2 a = some o → a ≠ rt := fun a o e => by rw [← hrtdef]; exact Nat.ne_of_lt (Heap.lt_size (A₁.mine a o e).1)
  have far1 : sysModules < rt := by rw [← hrtdef]; exact A₁.far C
  have hrtd : dx ≠ rt := hlt1 _ _ m1d
  have hrtx : dx + 1 ≠ rt := hlt1 _ _ m1x
  have hrtge : dx + 1 < rt := by
    have := Heap.lt_size (A₁.mine _ _ m1x).1
    rw [← hrtdef]
    exact this
  refine name_ A₂ (by rfl) (by rfl) (by rfl) (by rfl) ?_
  refine setAttr_ C A₂ (x := dx + 1) (dx := dx) (es := []) (n := 0) (es' := fun tk => [⟨PyData.keyHash w.params "_flags", .str "_flags" tk, .ref rt⟩]) (n' := 1) ((upd_ne _ hrtx).trans m1x) ((upd_ne _ hrtd).trans m1d) (by kernel_rfl) (by rfl) (fun tk => by rfl) (fun _ => by simp) fun s3 tk1 A₃ => ?_
  refine exCons_ (plainObj_wpAny_Assign_Attribute ?_)
  refine Call_Name0 (builtin_ C A₃ (by rfl) (by rfl) (by rfl) (by rfl) (by rfl) PyProof.Rows.boot_set (by decide) ?_)
  refine PyProof.Rows.callWith_type rfl (evalArgs_nil3 (setNew_ ?_))
  generalize hled : (!w.params.followText "set-order") = led
  have A₄ := A₃.newMut (tk := s3.toks) (freshSet led)
  have r3 : (upd (upd μ2 rt ({ cls := .type "dict", data := .dict #[] } : Obj)) dx (dictOf [⟨PyData.keyHash w.params "_flags", .str "_flags" tk1, .ref rt⟩] 1)) rt = some ({ cls := .type "dict", data := .dict #[] } : Obj) := (upd_ne _ (Ne.symm hrtd)).trans (upd_self _ _ _)
  have x3 : (upd (upd μ2 rt ({ cls := .type "dict", data := .dict #[] } : Obj)) dx (dictOf [⟨PyData.keyHash w.params "_flags", .str "_flags" tk1, .ref rt⟩] 1)) (dx + 1) = some (instObj 66 dx) := (upd_ne _ (Nat.ne_of_gt (Nat.lt_succ_self dx))).trans ((upd_ne _ hrtx).trans m1x)
  have d3 : (upd (upd μ2 rt ({ cls := .type "dict", data := .dict #[] } : Obj)) dx (dictOf [⟨PyData.keyHash w.params "_flags", .str "_flags" tk1, .ref rt⟩] 1)) dx = some _ := upd_self _ _ _
  generalize upd (upd μ2 rt ({ cls := .type "dict", data := .dict #[] } : Obj)) dx (dictOf [⟨PyData.keyHash w.params "_flags", .str "_flags" tk1, .ref rt⟩] 1) = μ3 at A₃ A₄ r3 x3 d3
  have hrp := Heap.lt_size (A₃.mine _ _ r3).1
  have hxp := Heap.lt_size (A₃.mine _ _ x3).1
  have hdp := Heap.lt_size (A₃.mine _ _ d3).1
  have farp := A₃.far C
  generalize hpd : s3.heap.objs.size = pd at A₄ hrp hxp hdp farp
  refine name_ A₄ (by rfl) (by rfl) (by rfl) (by rfl) ?_
  refine setAttr_ C A₄ (x := dx + 1) (dx := dx) (es' := fun tk => [⟨PyData.keyHash w.params "_flags", .str "_flags" tk1, .ref rt⟩, ⟨PyData.keyHash w.params "_pending_flags", .str "_pending_flags" tk, .ref pd⟩]) (n' := 2)
    ((upd_ne _ (Nat.ne_of_lt hxp)).trans x3) ((upd_ne _ (Nat.ne_of_lt hdp)).trans d3) (by kernel_rfl) (by rfl) (fun tk => by rfl) (fun _ => by simp) fun s5 tk2 A₅ => ?_
  refine wpAny_execs_nil ?_
  refine ⟨rfl, ?_⟩
  generalize hes : ([⟨PyData.keyHash w.params "_flags", .str "_flags" tk1, .ref rt⟩, ⟨PyData.keyHash w.params "_pending_flags", .str "_pending_flags" tk2, .ref pd⟩] : List DictEntry) = es2 at A₅
  have hrp' : rt ≠ pd := Nat.ne_of_lt hrp
  have r5 : (upd (upd μ3 pd (freshSet led)) dx (dictOf es2 2)) rt = some ({ cls := .type "dict", data := .dict #[] } : Obj) := (upd_ne _ (Ne.symm hrtd)).trans ((upd_ne _ hrp').trans r3)
  have p5 : (upd (upd μ3 pd (freshSet led)) dx (dictOf es2 2)) pd = some (freshSet led) := (upd_ne _ (Nat.ne_of_gt hdp)).trans (upd_self _ _ _)
  have x5 : (upd (upd μ3 pd (freshSet led)) dx (dictOf es2 2)) (dx + 1) = some (instObj 66 dx) := (upd_ne _ (Nat.ne_of_gt (Nat.lt_succ_self dx))).trans ((upd_ne _ (Nat.ne_of_lt hxp)).trans x3)
  have d5 : (upd (upd μ3 pd (freshSet led)) dx (dictOf es2 2)) dx = some (dictOf es2 2) := upd_self _ _ _
  generalize upd (upd μ3 pd (freshSet led)) dx (dictOf es2 2) = μ5 at A₅ r5 p5 x5 d5
  have gle1 : g.le (upd g dx (dictOf es2 2)) := le_upd (fresh _ (Nat.le_refl _))
  have gdx1 : (upd g dx (dictOf es2 2)) (dx + 1) = none := (upd_ne _ (Nat.ne_of_gt (Nat.lt_succ_self dx))).trans (fresh _ (Nat.le_succ _))
  have gle2 : g.le (upd (upd g dx (dictOf es2 2)) (dx + 1) (instObj 66 dx)) := gle1.trans (le_upd gdx1)
  have ginst : (upd (upd g dx (dictOf es2 2)) (dx + 1) (instObj 66 dx)) (dx + 1) = some (instObj 66 dx) := upd_self _ _ _
  have gdict : (upd (upd g dx (dictOf es2 2)) (dx + 1) (instObj 66 dx)) dx = some (dictOf es2 2) := (upd_ne _ (Nat.ne_of_lt (Nat.lt_succ_self dx))).trans (upd_self _ _ _)
  have gother : ∀ a, a ≠ dx → a ≠ dx + 1 → (upd (upd g dx (dictOf es2 2)) (dx + 1) (instObj 66 dx)) a = g a := fun a h1 h2 => (upd_ne _ h2).trans (upd_ne _ h1)
  generalize upd (upd g dx (dictOf es2 2)) (dx + 1) (instObj 66 dx) = g2 at gle2 ginst gdict gother
  refine q s5 g2 (fun a => if a = rt then some ({ cls := .type "dict", data := .dict #[] } : Obj) else if a = pd then some (freshSet led) else none) (dx + 1) rt pd (fun _ => none) (fun a => if a = rt then some (.lev []) else if a = pd then some .pend else none) ?_ ?_ ?_
  · refine ⟨gle2, fun a o e => ?_, fun a o _ e => ?_, fun a ha => ?_, A₅.gens, A₅.os⟩
    · by_cases h1 : a = dx
      · subst h1; rw [gdict] at e; cases e; exact (A₅.mine _ _ d5).1
      by_cases h2 : a = dx + 1
      · subst h2; rw [ginst] at e; cases e; exact (A₅.mine _ _ x5).1
      rw [gother a h1 h2] at e
      exact A₅.inn a o e
    · have hlt : a < dx := by rw [← hd0]; exact Heap.lt_size e
      exact A₅.keep a o (fun hf => by
        rcases hf with h | h
        · rw [h] at hlt; exact Nat.lt_irrefl _ hlt
        · rw [h] at hlt; exact absurd hlt (Nat.not_lt.mpr (Nat.le_succ dx))) (kk a o e)
    · have ha' : a < dx := by rw [← hd0]; exact ha
      exact gother a (Nat.ne_of_lt ha') (Nat.ne_of_lt (Nat.lt_succ_of_lt ha'))
  · refine ⟨⟨dx, es2, 2, ginst, gdict, by rw [← hes]; rfl, by rw [← hes]; rfl, fun x hx => ?_⟩, ?_, fun p r e => (by cases e), fun p r e => (by cases e), fun p r e => (by cases e), fun p r e => (by cases e), fun p k r e => (by cases e), fun b p i e => (by cases e), ⟨?_, freshSet led, ?_, emptyPend led hled.symm⟩, fun a ha => ?_⟩
    · rw [← hes]
      simp only [List.mem_cons, List.not_mem_nil, or_false] at hx
      rcases hx with rfl | rfl | rfl | rfl | rfl <;> rfl
    · intro p a e
      unfold lvl at e
      by_cases hp : p = []
      · subst hp
        rw [if_pos rfl] at e
        cases e
        exact ⟨by rw [if_pos rfl], _, [], by rw [if_pos rfl], emptyMap, fun k => rfl⟩
      · rw [if_neg hp] at e; cases e
    · rw [if_neg (Ne.symm hrp'), if_pos rfl]
    · rw [if_neg (Ne.symm hrp'), if_pos rfl]
    · by_cases h1 : a = rt
      · subst h1; exact ⟨by rw [if_pos rfl]; simp, Nat.ne_of_gt far1⟩
      by_cases h2 : a = pd
      · subst h2; exact ⟨by rw [if_neg h1, if_pos rfl]; simp, Nat.ne_of_gt farp⟩
      · rw [if_neg h1, if_neg h2] at ha; exact absurd rfl ha
  · intro a o e
    by_cases h1 : a = rt
    · subst h1
      rw [if_pos rfl] at e; cases e
      exact ⟨(A₅.mine _ _ r5).1, (gother _ (Ne.symm hrtd) (Ne.symm hrtx)).trans (A₅.mine _ _ r5).2.1, by omega⟩
    rw [if_neg h1] at e
    by_cases h2 : a = pd
    · subst h2
      rw [if_pos rfl] at e; cases e
      exact ⟨(A₅.mine _ _ p5).1, (gother _ (Nat.ne_of_gt hdp) (Nat.ne_of_gt hxp)).trans (A₅.mine _ _ p5).2.1, Nat.le_of_lt hdp⟩
    · rw [if_neg h2] at e; cases e
end
end Mine

namespace Mine
noncomputable abbrev St := (Bool → Way → Int → Bool) × List (Way × Int)
noncomputable def stepS (st : St) (c : Cl) : St :=
  if c.1 < 2 then (setM st.1 (c.1 == 1) c.2.1 c.2.2, st.2) else if c.1 == 2 then (st.1, st.2 ++ [(c.2.1, c.2.2)]) else if c.1 == 3 then (finM st.1 st.2, []) else (unsetM st.1 c.2.1, st.2)
noncomputable def runS (calls : List Cl) : St := calls.foldl stepS (fun _ _ _ => false, [])
noncomputable def answers (calls : List Cl) (qs : List (Way × Int)) : List Bool := qs.map fun q => told (runS calls).1 q.1 q.2
theorem fm_some {α β : Type} (f : α → β) : ∀ l : List α, l.filterMap (fun x => some (f x)) = l.map f
  | [] => rfl
  | x :: r => by rw [List.filterMap_cons, List.map_cons, fm_some f r]
theorem runS_snoc (l : List Cl) (c : Cl) : runS (l ++ [c]) = stepS (runS l) c := by unfold runS; rw [List.foldl_append]; rfl
theorem runS_take (l : List Cl) (i : Nat) (c : Cl) (h : l[i]? = some c) : runS (l.take (i + 1)) = stepS (runS (l.take i)) c := by
  rw [List.take_add_one, h]; exact runS_snoc _ _
theorem stepS_wait (st : St) (c : Cl) : (stepS st c).2.length ≤ st.2.length + 1 ∧ ∀ q ∈ (stepS st c).2, q ∈ st.2 ∨ q = (c.2.1, c.2.2) := by
  unfold stepS
  split
  · exact ⟨Nat.le_succ _, fun q h => .inl h⟩
  split
  · refine ⟨by simp, fun q h => ?_⟩
    rcases List.mem_append.mp h with h | h
    · exact .inl h
    · exact .inr (List.mem_singleton.mp h)
  split
  · exact ⟨Nat.zero_le _, fun q h => (by cases h)⟩
  · exact ⟨Nat.le_succ _, fun q h => .inl h⟩
theorem runS_wait (l : List Cl) : ∀ i, i ≤ l.length → (runS (l.take i)).2.length ≤ i ∧ ∀ q ∈ (runS (l.take i)).2, ∃ c ∈ l, q = (c.2.1, c.2.2)
  | 0, _ => ⟨Nat.le_refl _, fun q h => (by cases h)⟩
  | i + 1, hi => by
    obtain ⟨ih1, ih2⟩ := runS_wait l i (by omega)
    rw [runS_take l i l[i] (List.getElem?_eq_getElem (by omega))]
    obtain ⟨h1, h2⟩ := stepS_wait (runS (l.take i)) l[i]
    refine ⟨by omega, fun q hq => ?_⟩
    rcases h2 q hq with h | h
    · exact ih2 q h
    · exact ⟨l[i], List.getElem_mem _, h⟩

section
variable {prog : Program} {w : World} {A : Around} {E : Value → Shared → Prop} {b s s' s₀ : Shared} {g₀ g g' μ μ' μ'' : Kn} {fp : Addr → Prop} {L : Addr} {m : Str → Option Value} {env : Env} {mg mb : Str → Option Value}
  {f root pend : Addr} {T : Tree} {own : Addr → Option Own} {M M' : Bool → Way → Int → Bool} {pl pl' : List (Way × Int)}

theorem At.adopt (h : At b g₀ s₀ fp L m g μ s) (h' : ∀ a o, μ' a = some o → s.heap.get? a = some o ∧ g a = none ∧ L < a ∧ s₀.heap.objs.size ≤ a) : At b g₀ s₀ fp L m g (fun a => if (μ' a).isSome then μ' a else μ a) s := by
  refine ⟨h.base, h.le, h.inn, h.keep, h.old, h.gens, h.os, h.ns, h.offL, h.newL, fun a o e => ?_⟩
  by_cases hs : (μ' a).isSome = true
  · rw [if_pos hs] at e
    obtain ⟨h1, h2, h3, h4⟩ := h' a o e
    exact ⟨h1, h2, Nat.ne_of_gt h3, .inr h4⟩
  · rw [if_neg hs] at e
    exact h.mine a o e

set_option maxHeartbeats 2000000 in
theorem answers_ {v1 v2 : Value} {calls : List Cl} {qs : List (Way × Int)} {Q : Value → Shared → Prop} (R : Room A 4 97) (C : Cx w b.heap mg mb) (k : Know b g s)
    (h1 : Ls g v1 (calls.map encC)) (h2 : Ls g v2 (qs.map encQ)) (okc : ∀ c ∈ calls, OkQ (c.2.1, c.2.2)) (okq : ∀ q ∈ qs, OkW q.1) (hl : calls.length ≤ 74) (hq : qs.length ≤ 1000)
    (q : ∀ s' g' v, Grown b g s (fun _ => False) g' s' → Ls g' v ((answers calls qs).map PyData.bool) → Q v s') : wpAny (model prog w) A (call (.ref 82) [v1, v2]) Q E s := by
  refine enterC (fd := fdAt w.params 82) (binds := [("calls", v1), ("questions", v2)]) (fp := fun _ => False) (μ := fun _ => none) (d := 3) (u := 94) R C k rfl rfl (by kernel_rfl) rfl (by kernel_rfl) (by kernel_rfl)
    ?_ (fun _ _ e => nomatch e) fun s₁ μ₁ A₁ hcells _ R₁ => ?_
  · have all : ([("calls", v1), ("questions", v2)] : List (Str × Value)).all (fun x => (fdAt w.params 82).scope.names.lookup x.1 == some .local) = true := by kernel_rfl
    intro x hx
    exact .inl (by simpa using List.all_eq_true.mp all x hx)
  obtain ⟨oc, hoc, hdc⟩ := hcells "flags" (s.heap.objs.size + 1) (by kernel_rfl)
  have hdc : oc.data = .cell none := hdc.trans (by kernel_rfl)
  have m1 : bindL (callEnvC (fdAt w.params 82) s.heap.objs.size 82).kindOf [("calls", v1), ("questions", v2)] (fun _ => none) "calls" = some v1 := by kernel_rfl
  have m2 : bindL (callEnvC (fdAt w.params 82) s.heap.objs.size 82).kindOf [("calls", v1), ("questions", v2)] (fun _ => none) "questions" = some v2 := by kernel_rfl
  generalize bindL (callEnvC (fdAt w.params 82) s.heap.objs.size 82).kindOf [("calls", v1), ("questions", v2)] (fun _ => none) = m at A₁ m1 m2
  have hK : ∀ {s' : Shared} {m' g' μ'}, At b g s (fun _ => False) s.heap.objs.size m' g' μ' s' → Frag.In (hd.heap_39 w.params) s'.heap := fun D x y e => D.keeps x y (C.K x y e)
  refine exCons_ (asgName_ ?_)
  refine Call_Name0 (global_ C A₁ (by rfl) (by rfl) (by rfl) (by rfl) ?_)
  refine callWith_K0 (env := callEnvC (fdAt w.params 82) s.heap.objs.size 82) (hK A₁) (by kernel_rfl) ?_
  refine flagsNew_ (R₁.less (by omega) (by omega)) C A₁.know fun s2 g2 μ2 f root pend T own G r0 hown => ?_
  have A₂ := A₁.grown G
  have A₃ := A₂.adopt (μ' := μ2) fun a o e => by
    obtain ⟨h1, h2, h3⟩ := hown a o e
    exact ⟨h1, h2, Nat.lt_of_lt_of_le A₁.ltL h3, Nat.le_trans A₁.size h3⟩
  have hfc : μ2 (s.heap.objs.size + 1) = none := by
    cases e : μ2 (s.heap.objs.size + 1) with
    | none => rfl
    | some o => exact absurd (Heap.lt_size (A₁.mine _ _ hoc).1) (Nat.not_lt.mpr (hown _ o e).2.2)
  have hoc3 : (fun a => if (μ2 a).isSome then μ2 a else μ₁ a) (s.heap.objs.size + 1) = some oc := by
    show (if (μ2 (s.heap.objs.size + 1)).isSome then μ2 (s.heap.objs.size + 1) else μ₁ (s.heap.objs.size + 1)) = some oc
    rw [hfc]; exact hoc
  have ownc : own (s.heap.objs.size + 1) = none := by
    cases e : own (s.heap.objs.size + 1) with
    | none => rfl
    | some o => exact absurd hfc (r0.ownM _ (by rw [e]; simp)).1
  have r3 : Rep prog w g2 (fun a => if (μ2 a).isSome then μ2 a else μ₁ a) f root pend T own (fun _ _ _ => false) [] := r0.congr fun a ha => by
    obtain ⟨x, hx⟩ := Option.ne_none_iff_exists'.mp (r0.ownM a ha).1
    show (if (μ2 a).isSome then μ2 a else μ₁ a) = μ2 a
    rw [hx]; rfl
  generalize (fun a => if (μ2 a).isSome then μ2 a else μ₁ a) = μ3 at A₃ hoc3 r3
  refine storeC_ A₃ (by kernel_rfl) (by kernel_rfl) (by kernel_rfl) hoc3 hdc fun s4 oc4 hd4 A₄ => ?_
  have r4 : Rep prog w g2 (upd μ3 (s.heap.objs.size + 1) oc4) f root pend T own (fun _ _ _ => false) [] := r3.congr fun a ha => upd_ne _ (by rintro rfl; exact ha ownc)
  have hoc4 : (upd μ3 (s.heap.objs.size + 1) oc4) (s.heap.objs.size + 1) = some oc4 := upd_self _ _ _
  generalize upd μ3 (s.heap.objs.size + 1) oc4 = μ4 at A₄ r4 hoc4
  refine exCons_ (wpAny_For ?_)
  refine name_ A₄ (by rfl) (by rfl) (by rfl) m1 ?_
  have hle2 : g.le g2 := G.le
  have hI : ∀ a, own a ≠ none → a ≠ s4.heap.objs.size := by
    intro a ha
    obtain ⟨x, hx⟩ := Option.ne_none_iff_exists'.mp (r4.ownM a ha).1
    exact Nat.ne_of_lt (Heap.lt_size (A₄.mine a x hx).1)
  have hcI : s.heap.objs.size + 1 ≠ s4.heap.objs.size := Nat.ne_of_lt (Heap.lt_size (A₄.mine _ _ hoc4).1)
  have hfn : ∀ a, (a = 56 ∨ a = 35 ∨ a = 42 ∨ a = 49) → ∃ o, (hd.heap_39 w.params).lookup a = some o ∧ o.data = .func (fdAt w.params a) := by
    rintro a (rfl | rfl | rfl | rfl) <;> exact ⟨_, rfl, rfl⟩
  refine for_list2_ (fun I i m g' μ' => (∃ T' own', Rep prog w g' μ' f root pend T' own' (runS (calls.take i)).1 (runS (calls.take i)).2 ∧ own' I = none ∧ own' (s.heap.objs.size + 1) = none) ∧ μ' (s.heap.objs.size + 1) = some oc4 ∧ m "questions" = some v2) R₁.hd A₄ (h1.mono hle2) ?_ ?_ ?_ ?_
  · intro I μ' eI hμ'
    refine ⟨⟨T, own, r4.congr fun a ha => hμ' a (eI ▸ hI a ha), ?_, ownc⟩, (hμ' _ (eI ▸ hcI)).trans hoc4, m2⟩
    cases e : own I with
    | none => rfl
    | some o => exact absurd eI.symm (hI I (by rw [e]; simp))
  · rintro I i m g μ₁ μ₂ eI hμ' ⟨⟨T', own', j1, j2, j3⟩, j4, j5⟩
    refine ⟨⟨T', own', j1.congr fun a ha => hμ' a ?_, j2, j3⟩, (hμ' _ (eI ▸ hcI)).trans j4, j5⟩
    rintro rfl
    exact ha j2
  · rintro I i d v m' g' μ' s' eI hd hr hle ⟨⟨T', own', j1, j2, j3⟩, j4, j5⟩ D₁ ⟨oI, hoI⟩
    rw [List.getElem?_map] at hd
    obtain ⟨c, hc, rfl⟩ := Option.map_eq_some_iff.mp hd
    have okq' : OkQ (c.2.1, c.2.2) := okc c (List.mem_of_getElem? hc)
    have hilt : i < calls.length := by
      rcases Nat.lt_or_ge i calls.length with h | h
      · exact h
      · rw [List.getElem?_eq_none h] at hc; cases hc
    obtain ⟨hw1, hw2⟩ := runS_wait calls i (Nat.le_of_lt hilt)
    have okpl : ∀ q ∈ (runS (calls.take i)).2, OkQ q := fun q hq => by
      obtain ⟨c', hc', e⟩ := hw2 q hq
      rw [e]; exact okc c' hc'
    refine assign3_ R₁.hd D₁ hr (by rfl) (by rfl) (by rfl) (by rfl) (by rfl) fun s6 u1 u2 u3 r1 r2 r3' D₂ => ?_
    obtain ⟨t1, rfl⟩ := r1.intE
    have hrs := runS_take calls i c hc
    generalize runS (calls.take i) = st at j1 hw1 hw2 okpl hrs
    obtain ⟨M, pl⟩ := st
    dsimp only at j1 hw1 okpl
    obtain ⟨d', es', n', hi', hdd', _, _, hl3'⟩ := j1.inst
    have hμc : ∀ {s'' : Shared} {m'' : Str → Option Value}, At b g s (fun _ => False) s.heap.objs.size m'' g' μ' s'' → ∀ a o, only own' μ' a = some o → s''.heap.get? a = some o ∧ g' a = none := fun D a o e => let q := D.mine a o (only_le _ _ e); ⟨q.1, q.2.1⟩
    -- behind the call
    have fin : ∀ {s7 s8 : Shared} {g8 μ8 : Kn} {M8 : Bool → Way → Int → Bool} {pl8 : List (Way × Int)}, At b g s (fun _ => False) s.heap.objs.size (bnd (bnd (bnd m' "what" (.int c.1 t1)) "way" u2) "flag" u3) g' μ' s7 → Left prog w b g' (only own' μ') s7 f root pend M8 pl8 g8 μ8 s8 → stepS (M, pl) c = (M8, pl8) →
        Turn b g s (fun _ => False) s.heap.objs.size I (fun m g' μ' => (∃ T' own', Rep prog w g' μ' f root pend T' own' (runS (calls.take (i + 1))).1 (runS (calls.take (i + 1))).2 ∧ own' I = none ∧ own' (s.heap.objs.size + 1) = none) ∧ μ' (s.heap.objs.size + 1) = some oc4 ∧ m "questions" = some v2) g' μ'
          (fun fl s' => match fl with
            | .next => wpAny (model prog w) (A.deeper (callEnvC (fdAt w.params 82) s.heap.objs.size 82)) (execs ((stmtsOf (fdAt w.params 82)).drop 2) (callEnvC (fdAt w.params 82) s.heap.objs.size 82)) (fun f s' => Q (match f with | .ret v => v | _ => .none) s') (fun _ _ => False) s'
            | f => Q (match f with | .ret v => v | _ => .none) s') .next s8 := by
      intro s7 s8 g8 μ8 M8 pl8 D Lf hst
      obtain ⟨μn, Tn, ownn, D₃, r₃, hkp, hpn⟩ := D.called j1 Lf
      obtain ⟨z1, z2⟩ := hkp I oI j2 hoI
      obtain ⟨z3, z4⟩ := hkp _ oc4 j3 j4
      refine ⟨_, _, _, ?_, D₃, z2.trans hoI.symm, Lf.grown.le⟩
      rw [hrs, hst]
      exact ⟨⟨Tn, ownn, r₃, z1, z3⟩, z4, by exact j5⟩
    refine exCons_ (wpAny_If (cmpT_ ?_))
    refine name_ D₂ (by rfl) (by rfl) (by rfl) (by rfl) ?_
    refine int_ D₂ fun s7 t7 D₃ => lt_int (wpAny_truthy_bool ?_)
    by_cases e1 : c.1 < 2
    · rw [decide_eq_true e1]
      simp only [if_true]
      obtain ⟨o56, ho56, hd56⟩ := hfn 56 (.inl rfl)
      refine exCons_ (wpAny_Expr (MethodCallKw_ ?_))
      refine nameC_ D₃ (by kernel_rfl) (by kernel_rfl) (by kernel_rfl) j4 hd4 ?_
      refine meth_ C D₃ hi' hdd' (by kernel_rfl) (by kernel_rfl) (fn := 56) (by kernel_rfl) (by kernel_rfl) (hl3' "set" (by simp)) ?_
      refine callWith_function_kw (o := o56) (fd := fdAt w.params 56) (evalArgs_kw2 (by rfl) ?_ (by rfl))
      refine argCons_ (name_ D₃ (by rfl) (by rfl) (by rfl) (by rfl) ?_)
      refine argCons_ (name_ D₃ (by rfl) (by rfl) (by rfl) (by rfl) (args_nil ?_))
      refine kwAll_cons (cmpE_ ?_)
      refine name_ D₃ (by rfl) (by rfl) (by rfl) (by rfl) ?_
      refine int_ D₃ fun s8 t8 D₄ => eq_int ?_
      refine kwAll_nil ?_
      refine ⟨⟨D₄.keeps _ _ (C.K _ _ ho56), hd56⟩, ?_⟩
      refine set_ (rec := c.1 == 1) (μ := only own' μ') (way := c.2.1) (flag := c.2.2) (R₁.less (by omega) (by omega)) C D₄.know j1.only (hμc D₄) r2 r3' okq'.ok okq'.ne okq'.names okq'.flag fun s9 g9 μ9 Lf _ => ?_
      refine wpAny_execs_nil (wpAny_execs_nil ?_)
      exact fin D₄ Lf (by unfold stepS; rw [if_pos e1])
    rw [decide_eq_false e1]
    simp only [Bool.false_eq_true, if_false]
    refine exCons_ (wpAny_If (cmpT_ ?_))
    refine name_ D₃ (by rfl) (by rfl) (by rfl) (by rfl) ?_
    refine int_ D₃ fun s8 t8 D₄ => eq_int (wpAny_truthy_bool ?_)
    cases e2 : c.1 == 2 with
    | true =>
      simp only [if_true]
      obtain ⟨o35, ho35, hd35⟩ := hfn 35 (.inr (.inl rfl))
      refine exCons_ (wpAny_Expr (MethodCall_ ?_))
      refine nameC_ D₄ (by kernel_rfl) (by kernel_rfl) (by kernel_rfl) j4 hd4 ?_
      refine meth_ C D₄ hi' hdd' (by kernel_rfl) (by kernel_rfl) (fn := 35) (by kernel_rfl) (by kernel_rfl) (hl3' "add_pending" (by simp)) ?_
      refine callWith_meth (h₀ := b.heap) hd35 (C.K _ _ ho35) ?_ (by rfl)
      refine argCons_ (name_ D₄ (by rfl) (by rfl) (by rfl) (by rfl) ?_)
      refine argCons_ (name_ D₄ (by rfl) (by rfl) (by rfl) (by rfl) (args_nil ⟨D₄.keeps, ?_⟩))
      refine add_pending_ (μ := only own' μ') (way := c.2.1) (flag := c.2.2) (R₁.less (by omega) (by omega)) C D₄.know j1.only (hμc D₄) r2 r3' okq'.ok okq'.ne (fun q hq => (okpl q hq).ok) (by omega) fun s9 g9 μ9 Lf => ?_
      refine wpAny_execs_nil (wpAny_execs_nil (wpAny_execs_nil ?_))
      exact fin D₄ Lf (by unfold stepS; rw [if_neg e1, if_pos e2])
    | false =>
      simp only [Bool.false_eq_true, if_false]
      refine exCons_ (wpAny_If (cmpT_ ?_))
      refine name_ D₄ (by rfl) (by rfl) (by rfl) (by rfl) ?_
      refine int_ D₄ fun s9 t9 D₅ => eq_int (wpAny_truthy_bool ?_)
      cases e3 : c.1 == 3 with
      | true =>
        simp only [if_true]
        obtain ⟨o42, ho42, hd42⟩ := hfn 42 (.inr (.inr (.inl rfl)))
        refine exCons_ (wpAny_Expr (MethodCall_ ?_))
        refine nameC_ D₅ (by kernel_rfl) (by kernel_rfl) (by kernel_rfl) j4 hd4 ?_
        refine meth_ C D₅ hi' hdd' (by kernel_rfl) (by kernel_rfl) (fn := 42) (by kernel_rfl) (by kernel_rfl) (hl3' "finalize_pending" (by simp)) ?_
        refine callWith_meth0 (o := o42) hd42 (D₅.keeps _ _ (C.K _ _ ho42)) ?_
        refine finalize_pending_ (μ := only own' μ') (R₁.less (by omega) (by omega)) C D₅.know j1.only (hμc D₅) okpl (by omega) fun s9 g9 μ9 Lf => ?_
        refine wpAny_execs_nil (wpAny_execs_nil (wpAny_execs_nil (wpAny_execs_nil ?_)))
        exact fin D₅ Lf (by unfold stepS; rw [if_neg e1, if_neg (by rw [e2]; simp), if_pos e3])
      | false =>
        simp only [Bool.false_eq_true, if_false]
        obtain ⟨o49, ho49, hd49⟩ := hfn 49 (.inr (.inr (.inr rfl)))
        refine exCons_ (wpAny_Expr (MethodCall_ ?_))
        refine nameC_ D₅ (by kernel_rfl) (by kernel_rfl) (by kernel_rfl) j4 hd4 ?_
        refine meth_ C D₅ hi' hdd' (by kernel_rfl) (by kernel_rfl) (fn := 49) (by kernel_rfl) (by kernel_rfl) (hl3' "unset_all" (by simp)) ?_
        refine callWith_meth (h₀ := b.heap) hd49 (C.K _ _ ho49) ?_ (by rfl)
        refine argCons_ (name_ D₅ (by rfl) (by rfl) (by rfl) (by rfl) (args_nil ⟨D₅.keeps, ?_⟩))
        refine unset_all_ (μ := only own' μ') (way := c.2.1) (R₁.less (by omega) (by omega)) C D₅.know j1.only (hμc D₅) r2 okq'.ok okq'.ne fun s9 g9 μ9 Lf => ?_
        refine wpAny_execs_nil (wpAny_execs_nil (wpAny_execs_nil (wpAny_execs_nil ?_)))
        exact fin D₅ Lf (by unfold stepS; rw [if_neg e1, if_neg (by rw [e2]; simp), if_neg (by rw [e3]; simp)])
  · rintro I m' g' μ' s' eI hle ⟨⟨T', own', j1, j2, j3⟩, j4, j5⟩ D₁
    rw [List.length_map, List.take_length] at j1
    obtain ⟨o63, ho63, hd63⟩ : ∃ o, (hd.heap_39 w.params).lookup 63 = some o ∧ o.data = .func (fdAt w.params 63) := ⟨_, rfl, rfl⟩
    refine exCons_ (retE_ ?_)
    refine comp_ (α := Way × Int) (by rfl) (by decide) (by rfl) (by decide) (by intro _; rfl) ?_
    refine name_ D₁ (by rfl) (by rfl) (by rfl) (by exact j5) ?_
    refine iterL_ R₁.hd D₁ ((h2.mono hle2).mono hle) fun s7 I' o St hI' A₇ It hst => ?_
    refine ⟨qs, encQ, fun y => some (.bool (told (runS calls).1 y.1 y.2)), _, _, _, _, _, _, μ', I', o, St, rfl, It, A₇, ?_, hst, hq, ?_, ?_⟩
    · exact D₁.freshM (by omega)
    · intro C' y v mc g8 μ8 s8 hmem hr hle8 hμ8 B₁
      have j8 : Rep prog w g8 μ8 f root pend T' own' (runS calls).1 (runS calls).2 := (j1.up hle8).congr fun a ha => by
        obtain ⟨x, hx⟩ := Option.ne_none_iff_exists'.mp (j1.ownM a ha).1
        rw [hx]; exact hμ8 a x hx
      unfold CompTurn
      refine assign2_ R₁.hd B₁ hr (by rfl) (by rfl) (by rfl) (by rfl) fun s9 u1 u2 r1 r2 B₂ => ?_
      refine ifs0_ ?_
      simp only [if_true]
      obtain ⟨d', es', n', hi', hdd', _, _, hl3'⟩ := j8.inst
      refine MethodCall_ ?_
      refine nameC_ B₂ (by kernel_rfl) (by kernel_rfl) (by kernel_rfl) (hμ8 _ _ j4) hd4 ?_
      refine meth_ C B₂ hi' hdd' (by kernel_rfl) (by kernel_rfl) (fn := 63) (by kernel_rfl) (by kernel_rfl) (hl3' "is_" (by simp)) ?_
      refine callWith_meth (h₀ := b.heap) hd63 (C.K _ _ ho63) ?_ (by rfl)
      refine argCons_ (name_ B₂ (by rfl) (by rfl) (by rfl) (by rfl) ?_)
      refine argCons_ (name_ B₂ (by rfl) (by rfl) (by rfl) (by rfl) (args_nil ⟨B₂.keeps, ?_⟩))
      refine is__ (μ := only own' μ8) (way := y.1) (flag := y.2) (R₁.less (by omega) (by omega)) C B₂.know j8.only (fun a o e => let q := B₂.mine a o (only_le _ _ e); ⟨q.1, q.2.1⟩) r1 r2 (okq y hmem) fun s10 K10 => ?_
      exact ⟨_, _, _, Kn.le.refl _, B₂.kept K10, rfl, .bool _⟩
    · intro s8 g8 r8 hle8 A₈ hr8
      refine q _ _ _ A₈.done ?_
      have e : qs.filterMap (fun y => some (PyData.bool (told (runS calls).1 y.1 y.2))) = (answers calls qs).map PyData.bool := by
        unfold answers
        rw [List.map_map]
        exact fm_some _ qs
      rw [← e]
      exact hr8
end
end Mine

namespace Mine
noncomputable abbrev Mk := Bool → Way → Int → Bool
noncomputable def Told (M : Mk) (q : Way) (f : Int) : Prop := ∃ b p, M b p f = true ∧ p ≠ [] ∧ (p = q ∨ (b = true ∧ p <+: q))
theorem told_iff (M : Mk) (q : Way) (f : Int) : told M q f = true ↔ Told M q f := by
  unfold told Told
  rw [Bool.and_eq_true, Bool.or_eq_true]
  constructor
  · rintro ⟨h0, h | h⟩
    · exact ⟨false, q, h, by simpa using h0, .inl rfl⟩
    · obtain ⟨j, hj, h⟩ := List.any_eq_true.mp h
      have hj' := List.mem_range.mp hj
      refine ⟨true, q.take (j + 1), h, ?_, .inr ⟨rfl, List.take_prefix _ _⟩⟩
      exact List.ne_nil_of_length_pos (by rw [List.length_take]; omega)
  · rintro ⟨b, p, h, hp, hq⟩
    have hpre : p <+: q := by
      rcases hq with rfl | ⟨_, h⟩
      · exact List.prefix_refl p
      · exact h
    have hlen := hpre.length_le
    have hpos : 0 < p.length := List.length_pos_iff.mpr hp
    have hqne : q ≠ [] := List.ne_nil_of_length_pos (by omega)
    refine ⟨by simpa using hqne, ?_⟩
    cases b with
    | false =>
      rcases hq with rfl | ⟨h, _⟩
      · exact .inl h
      · cases h
    | true =>
      refine .inr (List.any_eq_true.mpr ⟨p.length - 1, List.mem_range.mpr (by omega), ?_⟩)
      rw [show p.length - 1 + 1 = p.length by omega, ← List.prefix_iff_eq_take.mp hpre]
      exact h

noncomputable def b2i (b : Bool) : Int := if b then 1 else 0
noncomputable def hasM (l : List Cl) : Mk := fun b p i => decide ((b2i b, p, i) ∈ l)
theorem hasM_iff {l : List Cl} {b : Bool} {p : Way} {i : Int} : hasM l b p i = true ↔ (b2i b, p, i) ∈ l := by unfold hasM; exact decide_eq_true_iff
structure OkL (l : List Cl) : Prop where
  what : ∀ c ∈ l, c.1 = 0 ∨ c.1 = 1
  ne : ∀ c ∈ l, c.2.1 ≠ []
theorem OkL.of_sub {l l' : List Cl} (h : OkL l) (hs : ∀ c ∈ l', c ∈ l) : OkL l' := ⟨fun c hc => h.what c (hs c hc), fun c hc => h.ne c (hs c hc)⟩
theorem OkL.app {l l' : List Cl} (h : OkL l) (h' : OkL l') : OkL (l ++ l') := ⟨fun c hc => (List.mem_append.mp hc).elim (h.what c) (h'.what c), fun c hc => (List.mem_append.mp hc).elim (h.ne c) (h'.ne c)⟩
theorem tells_told {l : List Cl} (ok : OkL l) (q : Way) (f : Int) : tells l q f = told (hasM l) q f := by
  rw [Bool.eq_iff_iff, told_iff]
  unfold tells Told
  rw [List.any_eq_true]
  constructor
  · rintro ⟨⟨a, p, i⟩, hc, h⟩
    simp only [Bool.and_eq_true, Bool.or_eq_true, beq_iff_eq] at h
    obtain ⟨rfl, h⟩ := h
    have hne := ok.ne _ hc
    rcases ok.what _ hc with e | e
    · dsimp only at e; subst e
      refine ⟨false, p, hasM_iff.mpr hc, hne, ?_⟩
      rcases h with h | ⟨h, _⟩
      · exact .inl h
      · cases h
    · dsimp only at e; subst e
      refine ⟨true, p, hasM_iff.mpr hc, hne, ?_⟩
      rcases h with h | ⟨_, h⟩
      · exact .inl h
      · exact .inr ⟨rfl, List.prefix_iff_eq_take.mpr h⟩
  · rintro ⟨b, p, h, hne, hq⟩
    refine ⟨(b2i b, p, f), hasM_iff.mp h, ?_⟩
    simp only [Bool.and_eq_true, Bool.or_eq_true, beq_iff_eq]
    refine ⟨trivial, ?_⟩
    rcases hq with h2 | ⟨rfl, h2⟩
    · exact .inl h2
    · exact .inr ⟨rfl, List.prefix_iff_eq_take.mp h2⟩

theorem b2i_inj {b c : Bool} (h : b2i b = b2i c) : b = c := by cases b <;> cases c <;> first | rfl | (exact absurd h (by decide))
theorem under_iff {t p : Way} : (p.take t.length == t) = true ↔ t <+: p := by rw [beq_iff_eq, List.prefix_iff_eq_take]; exact eq_comm
theorem hasM_set (l : List Cl) {c : Cl} (h : c.1 = 0 ∨ c.1 = 1) : hasM (l ++ [c]) = setM (hasM l) (c.1 == 1) c.2.1 c.2.2 := by
  funext b p i
  rw [Bool.eq_iff_iff, hasM_iff]
  unfold setM
  rw [Bool.or_eq_true, hasM_iff, List.mem_append, List.mem_singleton]
  refine or_congr Iff.rfl ?_
  obtain ⟨a, k, f⟩ := c
  simp only [Bool.and_eq_true, beq_iff_eq, Prod.mk.injEq]
  dsimp only at h
  constructor
  · rintro ⟨rfl, rfl, rfl⟩
    refine ⟨⟨?_, rfl⟩, rfl⟩
    cases b <;> rfl
  · rintro ⟨⟨rfl, rfl⟩, rfl⟩
    refine ⟨?_, rfl, rfl⟩
    rcases h with rfl | rfl <;> rfl
theorem hasM_fin (l : List Cl) {ws : List Cl} (h : ∀ c ∈ ws, c.1 = 0) : hasM (l ++ ws) = finM (hasM l) (ws.map (·.2)) := by
  funext b p i
  rw [Bool.eq_iff_iff, hasM_iff]
  unfold finM
  rw [Bool.or_eq_true, hasM_iff, List.mem_append, Bool.and_eq_true, List.any_eq_true]
  refine or_congr Iff.rfl ?_
  constructor
  · intro hm
    have := h _ hm
    dsimp only at this
    have hb : b = false := by cases b with
      | false => rfl
      | true => cases this
    subst hb
    exact ⟨rfl, (p, i), List.mem_map.mpr ⟨_, hm, rfl⟩, by simp⟩
  · rintro ⟨hb, ⟨p', i'⟩, hm, he⟩
    simp only [Bool.and_eq_true, beq_iff_eq] at he hb
    obtain ⟨rfl, rfl⟩ := he
    subst hb
    obtain ⟨⟨a, x⟩, hc, hx⟩ := List.mem_map.mp hm
    have := h _ hc
    dsimp only at this hx
    subst this hx
    exact hc
theorem hasM_unset (l : List Cl) (t : Way) : hasM (l.filter fun mk => !(mk.2.1.take t.length == t)) = unsetM (hasM l) t := by
  funext b p i
  rw [Bool.eq_iff_iff, hasM_iff]
  unfold unsetM
  rw [Bool.and_eq_true, hasM_iff, List.mem_filter]
theorem hasM_filter (l : List Cl) (P : Way → Bool) : hasM (l.filter fun mk => P mk.2.1) = fun b p i => hasM l b p i && P p := by
  funext b p i
  rw [Bool.eq_iff_iff, hasM_iff, Bool.and_eq_true, hasM_iff, List.mem_filter]

structure OkC (c : Cl) : Prop where
  what : c.1 = 0 ∨ c.1 = 1 ∨ c.1 = 2 ∨ c.1 = 3 ∨ c.1 = 4
  ne : c.2.1 ≠ []
structure Rel (st : St) (marks waits : List Cl) : Prop where
  eq : st = (hasM marks, waits.map (·.2))
  okm : OkL marks
  w0 : ∀ c ∈ waits, c.1 = 0
  wne : ∀ c ∈ waits, c.2.1 ≠ []
theorem Rel.nil : Rel (runS []) [] [] := ⟨by
  show ((fun _ _ _ => false, []) : St) = _
  refine Prod.ext (funext fun b => funext fun p => funext fun i => ?_) rfl
  rw [Bool.eq_iff_iff, hasM_iff]
  simp, ⟨fun c h => (by cases h), fun c h => (by cases h)⟩, fun c h => (by cases h), fun c h => (by cases h)⟩
theorem Rel.step {st : St} {marks waits : List Cl} (r : Rel st marks waits) {c : Cl} (ok : OkC c) : Rel (stepS st c) (behind marks waits c).1 (behind marks waits c).2 := by
  obtain ⟨rfl, h1, h2, h3⟩ := r
  unfold stepS behind
  by_cases e1 : c.1 < 2
  · rw [if_pos e1, if_pos e1]
    have h01 : c.1 = 0 ∨ c.1 = 1 := by have := ok.what; omega
    refine ⟨?_, h1.app ⟨fun x hx => ?_, fun x hx => ?_⟩, h2, h3⟩
    · show (setM (hasM marks) _ _ _, _) = (hasM (marks ++ [c]), _)
      rw [hasM_set _ h01]
    · rw [List.mem_singleton.mp hx]; exact h01
    · rw [List.mem_singleton.mp hx]; exact ok.ne
  rw [if_neg e1, if_neg e1]
  by_cases e2 : (c.1 == 2) = true
  · rw [if_pos e2, if_pos e2]
    refine ⟨?_, h1, fun x hx => ?_, fun x hx => ?_⟩
    · show (hasM marks, _) = (hasM marks, _)
      rw [List.map_append]; rfl
    · rcases List.mem_append.mp hx with hx | hx
      · exact h2 x hx
      · rw [List.mem_singleton.mp hx]
    · rcases List.mem_append.mp hx with hx | hx
      · exact h3 x hx
      · rw [List.mem_singleton.mp hx]; exact ok.ne
  rw [if_neg e2, if_neg e2]
  by_cases e3 : (c.1 == 3) = true
  · rw [if_pos e3, if_pos e3]
    refine ⟨?_, h1.app ⟨fun x hx => .inl (h2 x hx), h3⟩, fun c h => (by cases h), fun c h => (by cases h)⟩
    show (finM (hasM marks) _, _) = (hasM (marks ++ waits), _)
    rw [hasM_fin _ h2]; rfl
  rw [if_neg e3, if_neg e3]
  refine ⟨?_, h1.of_sub fun c hc => (List.mem_filter.mp hc).1, h2, h3⟩
  show (unsetM (hasM marks) _, _) = (hasM (marks.filter _), _)
  rw [hasM_unset]

/-! P2 -/
noncomputable def orM (M N : Mk) : Mk := fun b p i => M b p i || N b p i
theorem orM_iff {M N : Mk} {b : Bool} {p : Way} {i : Int} : orM M N b p i = true ↔ M b p i = true ∨ N b p i = true := by unfold orM; rw [Bool.or_eq_true]
theorem unset_iff {M : Mk} {t : Way} {b : Bool} {p : Way} {i : Int} : unsetM M t b p i = true ↔ M b p i = true ∧ ¬ t <+: p := by
  unfold unsetM
  rw [Bool.and_eq_true, Bool.not_eq_true', ← Bool.not_eq_true, under_iff]

/-- the marks under t that are new, at q -/
noncomputable def New (N : Mk) (t q : Way) (f : Int) : Prop := ∃ b p, N b p f = true ∧ p ≠ [] ∧ t <+: p ∧ (p = q ∨ (b = true ∧ p <+: q))
noncomputable def Abv (M : Mk) (t q : Way) (f : Int) : Prop := ∃ b p, M b p f = true ∧ p ≠ [] ∧ p.length < t.length ∧ (p = q ∨ (b = true ∧ p <+: q))
theorem tells_pre {p q : Way} {b : Bool} (h : p = q ∨ (b = true ∧ p <+: q)) : p <+: q := by
  rcases h with rfl | ⟨_, h⟩
  · exact List.prefix_refl _
  · exact h
theorem not_under_of_short {t p : Way} (h : p.length < t.length) : ¬ t <+: p := fun e => absurd e.length_le (by omega)
theorem core_yes {M N : Mk} {t q : Way} {f : Int} (hN : (∃ b p, N b p f = true ∧ t <+: p) → ∀ p, N true p f = true → t <+: p) (h1 : New N t q f) (h2 : ¬ Abv M t q f) :
    told (unsetM (orM M N) t) q f = false ∧ told (orM (unsetM M t) N) q f = true := by
  obtain ⟨b', p', n1, n2, n3, n4⟩ := h1
  refine ⟨?_, (told_iff _ _ _).mpr ⟨b', p', orM_iff.mpr (.inr n1), n2, n4⟩⟩
  rw [← Bool.not_eq_true, told_iff]
  rintro ⟨b, p, h, hp, hq⟩
  obtain ⟨h, hu⟩ := unset_iff.mp h
  have tq : t <+: q := n3.trans (tells_pre n4)
  have pq := tells_pre hq
  have hlt : p.length < t.length := by
    rcases Nat.lt_or_ge p.length t.length with h | h
    · exact h
    · exact absurd (List.prefix_of_prefix_length_le tq pq h) hu
  rcases orM_iff.mp h with h | h
  · exact h2 ⟨b, p, h, hp, hlt, hq⟩
  · rcases hq with rfl | ⟨rfl, _⟩
    · exact hu tq
    · exact hu (hN ⟨b', p', n1, n3⟩ p h)
theorem core_no {M N : Mk} {t q : Way} {f : Int} (h : ¬ New N t q f ∨ Abv M t q f) : told (unsetM (orM M N) t) q f = told (orM (unsetM M t) N) q f := by
  rw [Bool.eq_iff_iff, told_iff, told_iff]
  rcases h with h | ⟨b, p, h1, h2, h3, h4⟩
  · constructor
    · rintro ⟨b, p, h1, hp, hq⟩
      obtain ⟨h1, hu⟩ := unset_iff.mp h1
      refine ⟨b, p, ?_, hp, hq⟩
      rcases orM_iff.mp h1 with h1 | h1
      · exact orM_iff.mpr (.inl (unset_iff.mpr ⟨h1, hu⟩))
      · exact orM_iff.mpr (.inr h1)
    · rintro ⟨b, p, h1, hp, hq⟩
      refine ⟨b, p, ?_, hp, hq⟩
      rcases orM_iff.mp h1 with h1 | h1
      · obtain ⟨h1, hu⟩ := unset_iff.mp h1
        exact unset_iff.mpr ⟨orM_iff.mpr (.inl h1), hu⟩
      · refine unset_iff.mpr ⟨orM_iff.mpr (.inr h1), fun hu => h ⟨b, p, h1, hp, hu, hq⟩⟩
  · have hu := not_under_of_short h3
    exact ⟨fun _ => ⟨b, p, orM_iff.mpr (.inl (unset_iff.mpr ⟨h1, hu⟩)), h2, h4⟩, fun _ => ⟨b, p, unset_iff.mpr ⟨orM_iff.mpr (.inl h1), hu⟩, h2, h4⟩⟩

theorem laid_iff {l : List Cl} (ok : OkL l) {t q : Way} {f : Int} : tells (l.filter fun mk => mk.2.1.take t.length == t) q f = true ↔ New (hasM l) t q f := by
  rw [tells_told (ok.of_sub fun c hc => (List.mem_filter.mp hc).1), hasM_filter l (fun p => p.take t.length == t), told_iff]
  unfold Told New
  constructor
  · rintro ⟨b, p, h, hp, hq⟩
    rw [Bool.and_eq_true, under_iff] at h
    exact ⟨b, p, h.1, hp, h.2, hq⟩
  · rintro ⟨b, p, h, hp, hu, hq⟩
    exact ⟨b, p, by rw [Bool.and_eq_true, under_iff]; exact ⟨h, hu⟩, hp, hq⟩
theorem above_iff {l : List Cl} (ok : OkL l) {t q : Way} {f : Int} : tells (l.filter fun mk => decide (mk.2.1.length < t.length)) q f = true ↔ Abv (hasM l) t q f := by
  rw [tells_told (ok.of_sub fun c hc => (List.mem_filter.mp hc).1), hasM_filter l (fun p => decide (p.length < t.length)), told_iff]
  unfold Told Abv
  constructor
  · rintro ⟨b, p, h, hp, hq⟩
    rw [Bool.and_eq_true, decide_eq_true_iff] at h
    exact ⟨b, p, h.1, hp, h.2, hq⟩
  · rintro ⟨b, p, h, hp, hu, hq⟩
    exact ⟨b, p, by rw [Bool.and_eq_true, decide_eq_true_iff]; exact ⟨h, hu⟩, hp, hq⟩

theorem setM_or (M : Mk) (c : Cl) (h : c.1 = 0 ∨ c.1 = 1) : setM M (c.1 == 1) c.2.1 c.2.2 = orM M (hasM [c]) := by
  funext b p i
  rw [Bool.eq_iff_iff, orM_iff, hasM_iff, List.mem_singleton]
  unfold setM
  rw [Bool.or_eq_true]
  refine or_congr Iff.rfl ?_
  obtain ⟨a, k, f⟩ := c
  simp only [Bool.and_eq_true, beq_iff_eq, Prod.mk.injEq]
  dsimp only at h
  constructor
  · rintro ⟨⟨rfl, rfl⟩, rfl⟩
    refine ⟨?_, rfl, rfl⟩
    rcases h with rfl | rfl <;> rfl
  · rintro ⟨rfl, rfl, rfl⟩
    refine ⟨⟨?_, rfl⟩, rfl⟩
    cases b <;> rfl
theorem finM_or (M : Mk) {ws : List Cl} (h : ∀ c ∈ ws, c.1 = 0) : finM M (ws.map (·.2)) = orM M (hasM ws) := by
  funext b p i
  rw [Bool.eq_iff_iff, orM_iff, hasM_iff]
  unfold finM
  rw [Bool.or_eq_true, Bool.and_eq_true, List.any_eq_true]
  refine or_congr Iff.rfl ?_
  constructor
  · rintro ⟨hb, ⟨p', i'⟩, hm, he⟩
    simp only [Bool.and_eq_true, beq_iff_eq] at he hb
    obtain ⟨rfl, rfl⟩ := he
    subst hb
    obtain ⟨⟨a, x⟩, hc, hx⟩ := List.mem_map.mp hm
    have := h _ hc
    dsimp only at this hx
    subst this hx
    exact hc
  · intro hm
    have := h _ hm
    dsimp only at this
    have hb : b = false := by cases b with
      | false => rfl
      | true => cases this
    subst hb
    exact ⟨rfl, (p, i), List.mem_map.mpr ⟨_, hm, rfl⟩, by simp⟩
end Mine

namespace Mine
theorem step01 (st : St) {c : Cl} (h : c.1 = 0 ∨ c.1 = 1) : stepS st c = (orM st.1 (hasM [c]), st.2) := by
  unfold stepS
  rw [if_pos (by omega), setM_or _ _ h]
theorem step2 (st : St) {c : Cl} (h : c.1 = 2) : stepS st c = (st.1, st.2 ++ [c.2]) := by
  unfold stepS
  rw [if_neg (by omega), if_pos (by rw [h]; rfl)]
theorem step3 (st : St) {c : Cl} (h : c.1 = 3) : stepS st c = (finM st.1 st.2, []) := by
  unfold stepS
  rw [if_neg (by omega), if_neg (by rw [h]; decide), if_pos (by rw [h]; rfl)]
theorem step4 (st : St) {c : Cl} (h : c.1 = 4) : stepS st c = (unsetM st.1 c.2.1, st.2) := by
  unfold stepS
  rw [if_neg (by omega), if_neg (by rw [h]; decide), if_neg (by rw [h]; decide)]

theorem orM_comm3 (M A B : Mk) : orM (orM M A) B = orM (orM M B) A := by
  funext b p i
  unfold orM
  cases M b p i <;> cases A b p i <;> cases B b p i <;> rfl
theorem fin_or_comm (M A : Mk) (pl : List (Way × Int)) : finM (orM M A) pl = orM (finM M pl) A := by
  funext b p i
  unfold orM finM
  generalize (b == false && pl.any fun q => p == q.1 && i == q.2) = X
  show ((M b p i || A b p i) || X) = ((M b p i || X) || A b p i)
  cases M b p i <;> cases A b p i <;> cases X <;> rfl
theorem unset_comm (M : Mk) (s t : Way) : unsetM (unsetM M s) t = unsetM (unsetM M t) s := by
  funext b p i
  unfold unsetM
  rw [Bool.and_assoc, Bool.and_assoc, Bool.and_comm (!(p.take s.length == s))]
theorem fin_snoc (M : Mk) (pl : List (Way × Int)) (x : Way × Int) : finM M (pl ++ [x]) = setM (finM M pl) false x.1 x.2 := by
  funext b p i
  unfold finM setM
  rw [List.any_append]
  simp only [List.any_cons, List.any_nil, Bool.or_false]
  cases M b p i <;> cases b <;> simp

/-- two calls of which the first is not ahead of the second in the order: 0 or 1, 2, 3, 4 -/
inductive Pair (low high : Cl) : Prop
  | same (h : ∀ st : St, (stepS (stepS st low) high).1 = (stepS (stepS st high) low).1 ∧ ∀ x, x ∈ (stepS (stepS st low) high).2 ↔ x ∈ (stepS (stepS st high) low).2) (hd : ∀ marks waits q f, differ low high marks waits q f = false)
  | fin (hl : low.1 = 2) (hh : high.1 = 3)
  | mark (hl : low.1 = 0 ∨ low.1 = 1) (hh : high.1 = 4)
  | un (hl : low.1 = 3) (hh : high.1 = 4)
theorem pair_of {low high : Cl} (okl : OkC low) (okh : OkC high) (hle : low.1 ≤ high.1) : Pair low high := by
  have hno : ∀ {a b : Int}, low.1 = a → high.1 = b → (a == 2 && b == 3) = false → (b == 4 && (a == 0 || a == 1 || a == 3)) = false → ∀ marks waits q f, differ low high marks waits q f = false := by
    intro a b ha hb h1 h2 marks waits q f
    unfold differ
    rw [ha, hb, h1, h2]
    rfl
  have h5 := okl.what
  have h6 := okh.what
  by_cases l01 : low.1 = 0 ∨ low.1 = 1
  · by_cases h01 : high.1 = 0 ∨ high.1 = 1
    · refine .same (fun st => ?_) ?_
      · rw [step01 st l01, step01 _ h01, step01 st h01, step01 _ l01]
        exact ⟨orM_comm3 _ _ _, fun _ => Iff.rfl⟩
      · rcases l01 with l | l <;> rcases h01 with h | h <;> exact hno l h (by decide) (by decide)
    by_cases h2 : high.1 = 2
    · refine .same (fun st => ?_) ?_
      · rw [step01 st l01, step2 _ h2, step2 st h2, step01 _ l01]
        exact ⟨rfl, fun _ => Iff.rfl⟩
      · rcases l01 with l | l <;> exact hno l h2 (by decide) (by decide)
    by_cases h3 : high.1 = 3
    · refine .same (fun st => ?_) ?_
      · rw [step01 st l01, step3 _ h3, step3 st h3, step01 _ l01]
        exact ⟨fin_or_comm _ _ _, fun _ => Iff.rfl⟩
      · rcases l01 with l | l <;> exact hno l h3 (by decide) (by decide)
    · exact .mark l01 (by omega)
  by_cases l2 : low.1 = 2
  · by_cases h2 : high.1 = 2
    · refine .same (fun st => ?_) (hno l2 h2 (by decide) (by decide))
      rw [step2 st l2, step2 _ h2, step2 st h2, step2 _ l2]
      refine ⟨rfl, fun x => ?_⟩
      simp only [List.mem_append, List.mem_singleton]
      constructor
      · rintro ((h | h) | h)
        · exact .inl (.inl h)
        · exact .inr h
        · exact .inl (.inr h)
      · rintro ((h | h) | h)
        · exact .inl (.inl h)
        · exact .inr h
        · exact .inl (.inr h)
    by_cases h3 : high.1 = 3
    · exact .fin l2 h3
    · have h4 : high.1 = 4 := by omega
      refine .same (fun st => ?_) (hno l2 h4 (by decide) (by decide))
      rw [step2 st l2, step4 _ h4, step4 st h4, step2 _ l2]
      exact ⟨rfl, fun _ => Iff.rfl⟩
  by_cases l3 : low.1 = 3
  · by_cases h3 : high.1 = 3
    · refine .same (fun st => ?_) (hno l3 h3 (by decide) (by decide))
      rw [step3 st l3, step3 _ h3, step3 st h3, step3 _ l3]
      exact ⟨rfl, fun _ => Iff.rfl⟩
    · exact .un l3 (by omega)
  · have l4 : low.1 = 4 := by omega
    have h4 : high.1 = 4 := by omega
    refine .same (fun st => ?_) (hno l4 h4 (by decide) (by decide))
    rw [step4 st l4, step4 _ h4, step4 st h4, step4 _ l4]
    exact ⟨unset_comm _ _ _, fun _ => Iff.rfl⟩

/-- the new marks of a call that lays -/
noncomputable def newOf (low : Cl) (waits : List Cl) : List Cl := if low.1 == 3 then waits else [low]
theorem newOf_ok {low : Cl} {waits : List Cl} (h : low.1 = 0 ∨ low.1 = 1 ∨ low.1 = 3) (ok : low.2.1 ≠ []) (w0 : ∀ c ∈ waits, c.1 = 0) (wne : ∀ c ∈ waits, c.2.1 ≠ []) : OkL (newOf low waits) := by
  unfold newOf
  split
  · exact ⟨fun c hc => .inl (w0 c hc), wne⟩
  · rename_i h3
    have : ¬ low.1 = 3 := fun e => h3 (by rw [e]; rfl)
    refine ⟨fun c hc => ?_, fun c hc => ?_⟩
    · rw [List.mem_singleton.mp hc]; omega
    · rw [List.mem_singleton.mp hc]; exact ok
theorem newOf_hN {low : Cl} {waits : List Cl} (w0 : ∀ c ∈ waits, c.1 = 0) {t : Way} {f : Int} : (∃ b p, hasM (newOf low waits) b p f = true ∧ t <+: p) → ∀ p, hasM (newOf low waits) true p f = true → t <+: p := by
  rintro ⟨b, p, h, hu⟩ p' h'
  rw [hasM_iff] at h h'
  unfold newOf at h h'
  split at h
  · rename_i h3
    rw [if_pos h3] at h'
    have := w0 _ h'
    cases this
  · rename_i h3
    rw [if_neg h3] at h'
    rw [List.mem_singleton] at h h'
    rw [← h] at h'
    injection h' with _ h2
    injection h2 with h2 _
    rw [h2]
    exact hu
theorem lay_steps {low high : Cl} (h : low.1 = 0 ∨ low.1 = 1 ∨ low.1 = 3) (h4 : high.1 = 4) {marks waits : List Cl} (w0 : ∀ c ∈ waits, c.1 = 0) :
    (stepS (stepS (hasM marks, waits.map (·.2)) low) high).1 = unsetM (orM (hasM marks) (hasM (newOf low waits))) high.2.1 ∧
    (stepS (stepS (hasM marks, waits.map (·.2)) high) low).1 = orM (unsetM (hasM marks) high.2.1) (hasM (newOf low waits)) ∧
    (stepS (stepS (hasM marks, waits.map (·.2)) low) high).2 = (stepS (stepS (hasM marks, waits.map (·.2)) high) low).2 := by
  by_cases h3 : low.1 = 3
  · rw [step3 _ h3, step4 _ h4, step4 _ h4, step3 _ h3]
    unfold newOf
    rw [if_pos (by rw [h3]; rfl)]
    exact ⟨by rw [← finM_or _ w0], by rw [← finM_or _ w0], rfl⟩
  · have h01 : low.1 = 0 ∨ low.1 = 1 := by omega
    rw [step01 _ h01, step4 _ h4, step4 _ h4, step01 _ h01]
    unfold newOf
    rw [if_neg (by simpa using h3)]
    exact ⟨rfl, rfl, rfl⟩
theorem differ_lay {low high : Cl} (h : low.1 = 0 ∨ low.1 = 1 ∨ low.1 = 3) (h4 : high.1 = 4) (marks waits : List Cl) (q : Way) (f : Int) :
    differ low high marks waits q f = (tells ((newOf low waits).filter fun mk => mk.2.1.take high.2.1.length == high.2.1) q f && !tells (marks.filter fun mk => decide (mk.2.1.length < high.2.1.length)) q f) := by
  unfold differ newOf
  rw [if_neg (by rw [h4]; simp), if_pos]
  rw [h4]
  rcases h with h | h | h <;> rw [h] <;> decide

theorem law2 {low high : Cl} (okl : OkC low) (okh : OkC high) (hle : low.1 ≤ high.1) {st : St} {marks waits : List Cl} (r : Rel st marks waits) (q : Way) (f : Int) :
    (differ low high marks waits q f = true → told (stepS (stepS st low) high).1 q f = (low.1 == 2) ∧ told (stepS (stepS st high) low).1 q f = (low.1 != 2)) ∧
    (differ low high marks waits q f = false → told (stepS (stepS st low) high).1 q f = told (stepS (stepS st high) low).1 q f) := by
  obtain ⟨rfl, okm, w0, wne⟩ := r
  have lay : (low.1 = 0 ∨ low.1 = 1 ∨ low.1 = 3) → high.1 = 4 → _ := fun h h4 => by
    have okN := newOf_ok h okl.ne w0 wne
    obtain ⟨e1, e2, _⟩ := lay_steps (marks := marks) h h4 w0
    have goal : (differ low high marks waits q f = true → told (stepS (stepS (hasM marks, waits.map (·.2)) low) high).1 q f = (low.1 == 2) ∧ told (stepS (stepS (hasM marks, waits.map (·.2)) high) low).1 q f = (low.1 != 2)) ∧
      (differ low high marks waits q f = false → told (stepS (stepS (hasM marks, waits.map (·.2)) low) high).1 q f = told (stepS (stepS (hasM marks, waits.map (·.2)) high) low).1 q f) := by
      rw [e1, e2, differ_lay h h4]
      constructor
      · intro hd
        rw [Bool.and_eq_true, laid_iff okN, Bool.not_eq_true', ← Bool.not_eq_true, above_iff okm] at hd
        have := core_yes (newOf_hN w0) hd.1 hd.2
        have h2 : (low.1 == 2) = false := by rcases h with h | h | h <;> rw [h] <;> rfl
        have h2' : (low.1 != 2) = true := by rcases h with h | h | h <;> rw [h] <;> rfl
        rw [h2, h2']
        exact this
      · intro hd
        refine core_no ?_
        rw [Bool.and_eq_false_iff, Bool.not_eq_false', ← Bool.not_eq_true, laid_iff okN, above_iff okm] at hd
        exact hd
    exact goal
  cases pair_of okl okh hle with
  | same h hd =>
    rw [hd, (h _).1]
    exact ⟨fun e => (by cases e), fun _ => rfl⟩
  | mark hl hh => exact lay (by omega) hh
  | un hl hh => exact lay (.inr (.inr hl)) hh
  | fin hl hh =>
    rw [step2 _ hl, step3 _ hh, step3 _ hh, step2 _ hl]
    have eD : differ low high marks waits q f = ((q == low.2.1 && f == low.2.2) && !tells (marks ++ waits) q f) := by
      unfold differ
      rw [if_pos (by rw [hl, hh]; rfl)]
    have okmw : OkL (marks ++ waits) := okm.app ⟨fun c hc => .inl (w0 c hc), wne⟩
    rw [eD, tells_told okmw, hasM_fin _ w0]
    show _ ∧ _
    dsimp only
    rw [fin_snoc, hl]
    generalize finM (hasM marks) (waits.map (·.2)) = M
    constructor
    · intro hd
      simp only [Bool.and_eq_true, beq_iff_eq, Bool.not_eq_true'] at hd
      obtain ⟨⟨rfl, rfl⟩, h2⟩ := hd
      refine ⟨?_, ?_⟩
      · show told _ _ _ = true
        rw [told_iff]
        refine ⟨false, low.2.1, ?_, okl.ne, .inl rfl⟩
        unfold setM
        simp
      · exact h2
    · intro hd
      rw [Bool.eq_iff_iff, told_iff, told_iff]
      constructor
      · rintro ⟨b, p, h, hp, hq⟩
        unfold setM at h
        rw [Bool.or_eq_true] at h
        rcases h with h | h
        · exact ⟨b, p, h, hp, hq⟩
        · simp only [Bool.and_eq_true, beq_iff_eq] at h
          obtain ⟨⟨rfl, rfl⟩, rfl⟩ := h
          rcases hq with hq | ⟨hq, _⟩
          · subst hq
            simp at hd
            exact (told_iff _ _ _).mp hd
          · cases hq
      · rintro ⟨b, p, h, hp, hq⟩
        refine ⟨b, p, ?_, hp, hq⟩
        unfold setM
        rw [h]; rfl

/-! P3 -/
noncomputable def Cov (M₁ M₂ : Mk) (p : Way) (i : Int) : Prop := ∃ p', p' ≠ [] ∧ p' <+: p ∧ M₁ true p' i = true ∧ M₂ true p' i = true
theorem Cov.symm {M₁ M₂ : Mk} {p : Way} {i : Int} : Cov M₁ M₂ p i → Cov M₂ M₁ p i := fun ⟨p', a, b, c, d⟩ => ⟨p', a, b, d, c⟩
noncomputable def Sub (M₁ M₂ : Mk) : Prop := ∀ b p i, M₁ b p i = true → M₂ b p i = true ∨ Cov M₁ M₂ p i
noncomputable def Sim (M₁ M₂ : Mk) : Prop := Sub M₁ M₂ ∧ Sub M₂ M₁
theorem Sim.refl (M : Mk) : Sim M M := ⟨fun _ _ _ h => .inl h, fun _ _ _ h => .inl h⟩
theorem Sim.symm {M₁ M₂ : Mk} (h : Sim M₁ M₂) : Sim M₂ M₁ := ⟨h.2, h.1⟩
theorem Sub.told {M₁ M₂ : Mk} (h : Sub M₁ M₂) {q : Way} {f : Int} : Told M₁ q f → Told M₂ q f := by
  rintro ⟨b, p, h1, hp, hq⟩
  rcases h b p f h1 with h2 | ⟨p', c1, c2, c3, c4⟩
  · exact ⟨b, p, h2, hp, hq⟩
  · exact ⟨true, p', c4, c1, .inr ⟨rfl, c2.trans (tells_pre hq)⟩⟩
theorem Sim.told {M₁ M₂ : Mk} (h : Sim M₁ M₂) (q : Way) (f : Int) : told M₁ q f = told M₂ q f := by
  rw [Bool.eq_iff_iff, told_iff, told_iff]
  exact ⟨h.1.told, h.2.told⟩
theorem Sub.or {M₁ M₂ : Mk} (h : Sub M₁ M₂) (N : Mk) : Sub (orM M₁ N) (orM M₂ N) := by
  intro b p i h1
  rcases orM_iff.mp h1 with h1 | h1
  · rcases h b p i h1 with h2 | ⟨p', c1, c2, c3, c4⟩
    · exact .inl (orM_iff.mpr (.inl h2))
    · exact .inr ⟨p', c1, c2, orM_iff.mpr (.inl c3), orM_iff.mpr (.inl c4)⟩
  · exact .inl (orM_iff.mpr (.inr h1))
theorem Sub.unset {M₁ M₂ : Mk} (h : Sub M₁ M₂) (t : Way) : Sub (unsetM M₁ t) (unsetM M₂ t) := by
  intro b p i h1
  obtain ⟨h1, hu⟩ := unset_iff.mp h1
  rcases h b p i h1 with h2 | ⟨p', c1, c2, c3, c4⟩
  · exact .inl (unset_iff.mpr ⟨h2, hu⟩)
  · have hu' : ¬ t <+: p' := fun e => hu (e.trans c2)
    exact .inr ⟨p', c1, c2, unset_iff.mpr ⟨c3, hu'⟩, unset_iff.mpr ⟨c4, hu'⟩⟩
noncomputable def finN (pl : List (Way × Int)) : Mk := fun b p k => b == false && pl.any fun q => p == q.1 && k == q.2
theorem finM_eq (M : Mk) (pl : List (Way × Int)) : finM M pl = orM M (finN pl) := rfl
structure SimS (s₁ s₂ : St) : Prop where
  m : Sim s₁.1 s₂.1
  w : ∀ x, x ∈ s₁.2 ↔ x ∈ s₂.2
theorem SimS.symm {s₁ s₂ : St} (h : SimS s₁ s₂) : SimS s₂ s₁ := ⟨h.m.symm, fun x => (h.w x).symm⟩
theorem SimS.step {s₁ s₂ : St} (h : SimS s₁ s₂) {c : Cl} (ok : OkC c) : SimS (stepS s₁ c) (stepS s₂ c) := by
  by_cases h01 : c.1 = 0 ∨ c.1 = 1
  · rw [step01 _ h01, step01 _ h01]
    exact ⟨⟨h.m.1.or _, h.m.2.or _⟩, h.w⟩
  by_cases h2 : c.1 = 2
  · rw [step2 _ h2, step2 _ h2]
    refine ⟨h.m, fun x => ?_⟩
    simp only [List.mem_append, h.w x]
  by_cases h3 : c.1 = 3
  · rw [step3 _ h3, step3 _ h3]
    refine ⟨?_, fun _ => Iff.rfl⟩
    show Sim (finM s₁.1 s₁.2) (finM s₂.1 s₂.2)
    rw [finM_same s₁.1 h.w, finM_eq, finM_eq]
    exact ⟨h.m.1.or _, h.m.2.or _⟩
  · have h4 : c.1 = 4 := by have := ok.what; omega
    rw [step4 _ h4, step4 _ h4]
    exact ⟨⟨h.m.1.unset _, h.m.2.unset _⟩, h.w⟩
theorem SimS.run {s₁ s₂ : St} (h : SimS s₁ s₂) : ∀ {l : List Cl}, (∀ c ∈ l, OkC c) → SimS (l.foldl stepS s₁) (l.foldl stepS s₂)
  | [], _ => h
  | c :: l, ok => SimS.run (h.step (ok c (.head _))) fun x hx => ok x (.tail _ hx)
theorem SimS.answers {s₁ s₂ : St} (h : SimS s₁ s₂) (qs : List (Way × Int)) : (qs.map fun q => told s₁.1 q.1 q.2) = qs.map fun q => told s₂.1 q.1 q.2 :=
  List.map_congr_left fun q _ => h.m.told q.1 q.2

theorem law3 {low high : Cl} (okl : OkC low) (okh : OkC high) (hle : low.1 ≤ high.1) {st : St} {marks waits : List Cl} (r : Rel st marks waits) (hn : ¬ (low.1 = 2 ∧ high.1 = 3))
    (hq : ∀ x, (x = low.2 ∨ (0, x) ∈ waits) → differ low high marks waits x.1 x.2 = false) : SimS (stepS (stepS st low) high) (stepS (stepS st high) low) := by
  obtain ⟨rfl, okm, w0, wne⟩ := r
  have lay : (low.1 = 0 ∨ low.1 = 1 ∨ low.1 = 3) → high.1 = 4 → SimS (stepS (stepS (hasM marks, waits.map (·.2)) low) high) (stepS (stepS (hasM marks, waits.map (·.2)) high) low) := fun h h4 => by
    have okN := newOf_ok h okl.ne w0 wne
    obtain ⟨e1, e2, e3⟩ := lay_steps (marks := marks) h h4 w0
    refine ⟨?_, fun x => by rw [e3]⟩
    rw [e1, e2]
    constructor
    · intro b p i hm
      obtain ⟨hm, hu⟩ := unset_iff.mp hm
      rcases orM_iff.mp hm with hm | hm
      · exact .inl (orM_iff.mpr (.inl (unset_iff.mpr ⟨hm, hu⟩)))
      · exact .inl (orM_iff.mpr (.inr hm))
    · intro b p i hm
      rcases orM_iff.mp hm with hm | hm
      · obtain ⟨hm, hu⟩ := unset_iff.mp hm
        exact .inl (unset_iff.mpr ⟨orM_iff.mpr (.inl hm), hu⟩)
      by_cases hu : high.2.1 <+: p
      · have hin := hasM_iff.mp hm
        have hpne := okN.ne _ hin
        have asked : (p, i) = low.2 ∨ (0, (p, i)) ∈ waits := by
          unfold newOf at hin
          split at hin
          · have := w0 _ hin
            dsimp only at this
            rw [this] at hin
            exact .inr hin
          · rw [List.mem_singleton] at hin
            exact .inl (by rw [← hin])
        have hd := hq (p, i) asked
        rw [differ_lay h h4, Bool.and_eq_false_iff, Bool.not_eq_false', ← Bool.not_eq_true, laid_iff okN, above_iff okm] at hd
        rcases hd with hd | ⟨b', p', a1, a2, a3, a4⟩
        · exact absurd ⟨b, p, hm, hpne, hu, .inl rfl⟩ hd
        · have hu' := not_under_of_short a3
          rcases a4 with a4 | ⟨rfl, a4⟩
          · subst a4; exact absurd hu hu'
          · exact .inr ⟨p', a2, a4, orM_iff.mpr (.inl (unset_iff.mpr ⟨a1, hu'⟩)), unset_iff.mpr ⟨orM_iff.mpr (.inl a1), hu'⟩⟩
      · exact .inl (unset_iff.mpr ⟨orM_iff.mpr (.inr hm), hu⟩)
  cases pair_of okl okh hle with
  | same h _ =>
    obtain ⟨e1, e2⟩ := h (hasM marks, waits.map (·.2))
    exact ⟨by rw [e1]; exact Sim.refl _, e2⟩
  | mark hl hh => exact lay (by omega) hh
  | un hl hh => exact lay (.inr (.inr hl)) hh
  | fin hl hh => exact absurd ⟨hl, hh⟩ hn

/-! P4 -/
theorem marks_from {P : Way → Prop} : ∀ (l : List Cl) (st : St), (∀ c ∈ l, OkC c ∧ P c.2.1) → (∀ b p i, st.1 b p i = true → P p) → (∀ x ∈ st.2, P x.1) → (∀ b p i, (l.foldl stepS st).1 b p i = true → P p) ∧ ∀ x ∈ (l.foldl stepS st).2, P x.1
  | [], st, _, h1, h2 => ⟨h1, h2⟩
  | c :: l, st, hl, h1, h2 => by
    have hc := hl c (.head _)
    refine marks_from l (stepS st c) (fun x hx => hl x (.tail _ hx)) ?_ ?_
    · intro b p i h
      by_cases h01 : c.1 = 0 ∨ c.1 = 1
      · rw [step01 _ h01] at h
        rcases orM_iff.mp h with h | h
        · exact h1 b p i h
        · rw [hasM_iff, List.mem_singleton] at h
          rw [← h] at hc
          exact hc.2
      by_cases hc2 : c.1 = 2
      · rw [step2 _ hc2] at h
        exact h1 b p i h
      by_cases hc3 : c.1 = 3
      · rw [step3 _ hc3] at h
        have h : finM st.1 st.2 b p i = true := h
        unfold finM at h
        rw [Bool.or_eq_true, Bool.and_eq_true, List.any_eq_true] at h
        rcases h with h | ⟨_, x, hx, he⟩
        · exact h1 b p i h
        · simp only [Bool.and_eq_true, beq_iff_eq] at he
          rw [he.1]
          exact h2 x hx
      · have hc4 : c.1 = 4 := by have := hc.1.what; omega
        rw [step4 _ hc4] at h
        exact h1 b p i (unset_iff.mp h).1
    · intro x hx
      obtain ⟨_, h3⟩ := stepS_wait st c
      rcases h3 x hx with h | h
      · exact h2 x h
      · rw [h]; exact hc.2
theorem law4 {calls : List Cl} (ok : ∀ c ∈ calls, OkC c ∧ c.2.1 ≠ [] ∧ ∀ x ∈ c.2.1, x = "a" ∨ x = "nested") (q : Way) (f : Int) : told (runS (calls ++ ([(4, ["a"], 0), (4, ["nested"], 0)] : List Cl))).1 q f = false := by
  rw [← Bool.not_eq_true, told_iff]
  rintro ⟨b, p, h, hp, _⟩
  unfold runS at h
  rw [List.foldl_append] at h
  obtain ⟨h1, _⟩ := marks_from (P := fun w => w ≠ [] ∧ ∀ x ∈ w, x = "a" ∨ x = "nested") calls (fun _ _ _ => false, []) ok (fun _ _ _ e => by cases e) (fun _ e => by cases e)
  simp only [List.foldl_cons, List.foldl_nil] at h
  rw [step4 _ rfl, step4 _ rfl] at h
  obtain ⟨h, hu2⟩ := unset_iff.mp h
  obtain ⟨h, hu1⟩ := unset_iff.mp h
  obtain ⟨_, hn⟩ := h1 b p f h
  cases p with
  | nil => exact hp rfl
  | cons x p =>
    rcases hn x (.head _) with rfl | rfl
    · exact hu1 ⟨p, rfl⟩
    · exact hu2 ⟨p, rfl⟩
end Mine

namespace Mine
section
variable {prog : Program} {w : World} {A : Around} {E : Value → Shared → Prop} {b s s' s₀ : Shared} {g₀ g g' μ μ' μ'' : Kn} {fp : Addr → Prop} {L : Addr} {m : Str → Option Value} {env : Env} {mg mb : Str → Option Value}

/-- two tuples of strs: some answer -/
theorem ltTup_ {u v : Value} {a c : Way} {Q : Value → Shared → Prop} (hin : ∀ a o, g a = some o → s.heap.get? a = some o) (hu : Rd g u (encW a)) (hv : Rd g v (encW c)) (hU : A.units + 64 < cLine) (q : ∀ r, Q (.bool r) s) :
    wpAny (model prog w) A (compareOp .Lt u v) Q E s := by
  obtain ⟨au, us, nu, rfl, hgu, hru⟩ := hu.tupE
  obtain ⟨av, vs, nv, rfl, hgv, hrv⟩ := hv.tupE
  have hTu : s.TypeIs (.ref au) "tuple" := ⟨_, hin _ _ hgu, rfl⟩
  have hTv : s.TypeIs (.ref av) "tuple" := ⟨_, hin _ _ hgv, rfl⟩
  show wpAny _ _ (richCompare .Lt (.ref au) (.ref av)) _ _ _
  refine wpAny_richCompare_same_room (op := .Lt) hTu hTv F.slot_tuple_lt (wpAny_call_entry F.slot_tuple_lt hTu F.entry_tuple_lt ?_ (F.args_tuple_lt_2 _ _)) (by omega)
  show wpAny _ _ (isInstance (.ref av) (.type "tuple") >>= _) _ _ s
  refine wpAny_bind (wpAny_isInstance hTv isSubtype_tuple_tuple ?_)
  simp only [Bool.not_true, Bool.false_eq_true, if_false]
  refine wpAny_bind (wpAny_tupleItemsOf (hin _ _ hgu) rfl ?_)
  refine wpAny_bind (wpAny_tupleItemsOf (hin _ _ hgv) rfl ?_)
  refine wpAny_bind ?_
  have hs : ∀ {l : List Value} {w : Way}, RdAll g l (w.map PyData.str) → ∀ x ∈ l, ∃ y t, x = .str y t := by
    intro l w hl x hx
    obtain ⟨i, hi⟩ := List.getElem?_of_mem hx
    have hlt : i < (w.map PyData.str).length := by
      rw [← hl.length]
      rcases Nat.lt_or_ge i l.length with h | h
      · exact h
      · rw [List.getElem?_eq_none h] at hi; cases hi
    obtain ⟨v', hv', rv⟩ := hl.get (List.getElem?_eq_getElem hlt)
    rw [hi] at hv'
    cases hv'
    rw [List.getElem_map] at rv
    obtain ⟨t, rfl⟩ := rv.strE
    exact ⟨_, _, rfl⟩
  have hz : ∀ p ∈ us.zip vs, (∃ y t, p.1 = .str y t) ∧ ∃ y t, p.2 = .str y t := fun p hp => ⟨hs hru _ (List.of_mem_zip hp).1, hs hrv _ (List.of_mem_zip hp).2⟩
  refine wpAny_forIn_list _ (fun rest r s' => r.1 = none ∧ s' = s ∧ ∀ p ∈ rest, (∃ y t, p.1 = .str y t) ∧ ∃ y t, p.2 = .str y t) _ ?_ ?_ _ _ ⟨rfl, rfl, by simpa using hz⟩
  · rintro ⟨x, y⟩ rest r s' ⟨hr, rfl, hall⟩
    obtain ⟨⟨x', t, rfl⟩, y', t', rfl⟩ := hall _ (.head _)
    have hrest : ∀ p ∈ rest, (∃ y t, p.1 = .str y t) ∧ ∃ y t, p.2 = .str y t := fun p hp => hall p (List.mem_cons_of_mem _ hp)
    dsimp only
    refine wpAny_bind (wpAny_eqBool_str ?_)
    by_cases e : x' = y'
    · simp only [decide_eq_true e, Bool.not_true, Bool.false_eq_true, if_false]
      exact wpAny_pure ⟨rfl, rfl, hrest⟩
    · simp only [decide_eq_false e, Bool.not_false, if_true]
      refine wpAny_bind (wpAny_rule (wpAny_bind ?_))
      show wpAny _ _ (compareOp .Lt (.str x' t) (.str y' t')) _ _ _
      refine PyProof.Rows.lt_str ?_
      exact wpAny_bind (wpAny_pure (wpAny_pure (wpAny_pure ⟨_, rfl, (fun e => nomatch e), q _⟩)))
  · rintro ⟨r1, r2⟩ s' ⟨hr, rfl, _⟩
    simp only at hr
    subst hr
    exact wpAny_pure ⟨_, rfl, (fun e => nomatch e), q _⟩

/-! the sort of two -/
theorem sort2 (cmp : Nat → Nat → (Bool → Shared → Prop) → Shared → Prop) (Q : Array Nat → Shared → Prop) (s : Shared) : (kas_sort 2).kasWp cmp Q s = cmp 1 0 (fun c s' => Q (if c then #[1, 0] else #[0, 1]) s') s := by
  have e : kas_sort 2 = .ask 1 0 fun c => .ret (if c then #[1, 0] else #[0, 1]) := by
    show KasT.ask 1 0 _ = _
    congr 1
    funext c
    cases c <;> rfl
  rw [e]
  rfl

noncomputable def allNews (L : Addr) (h : Heap) : List (Addr × Obj) := (List.range h.objs.size).filterMap fun x => if x = L then none else (h.get? x).map (x, ·)
theorem allNews_mem {L : Addr} {h : Heap} {p : Addr × Obj} : p ∈ allNews L h ↔ p.1 ≠ L ∧ h.get? p.1 = some p.2 := by
  unfold allNews
  rw [List.mem_filterMap]
  constructor
  · rintro ⟨x, _, hx⟩
    by_cases hL : x = L
    · rw [if_pos hL] at hx; cases hx
    · rw [if_neg hL] at hx
      obtain ⟨o, ho, rfl⟩ := Option.map_eq_some_iff.mp hx
      exact ⟨hL, ho⟩
  · rintro ⟨hL, ho⟩
    exact ⟨p.1, List.mem_range.mpr (Heap.lt_size ho), by rw [if_neg hL, ho]; rfl⟩
theorem At.fr (h : At b g₀ s₀ fp L m g μ s) : Fr ({ objs := #[] } : Heap) L s.heap m := ⟨h.ns, fun x o e => by
  have : x < 0 := Heap.lt_size e
  exact absurd this (Nat.not_lt_zero _), Nat.zero_le _⟩
theorem At.news : News ({ objs := #[] } : Heap) L s.heap (allNews L s.heap) := fun p hp => by
  obtain ⟨h1, h2⟩ := allNews_mem.mp hp
  refine ⟨h2, h1, ?_⟩
  cases e : ({ objs := #[] } : Heap).get? p.1 with
  | none => rfl
  | some o => exact absurd (show p.1 < 0 from Heap.lt_size e) (Nat.not_lt_zero _)
theorem At.back {h' : Heap} {tk : Nat} (A' : At b g₀ s₀ fp L m g μ s) (hn : h'.Ns L m) (k : ∀ x o, x ≠ L → s.heap.get? x = some o → h'.get? x = some o) : At b g₀ s₀ fp L m g μ { s with heap := h', toks := tk } where
  base := A'.base
  le := A'.le
  inn := fun a o e => k a o (by rintro rfl; rw [A'.offL] at e; cases e) (A'.inn a o e)
  keep := fun a o h e => k a o (by rintro rfl; exact absurd (Heap.lt_size e) (Nat.not_lt.mpr A'.newL)) (A'.keep a o h e)
  old := A'.old
  gens := A'.gens
  os := A'.os
  ns := hn
  offL := A'.offL
  newL := A'.newL
  mine := fun a o e => let ⟨h1, h2, h3, h4⟩ := A'.mine a o e; ⟨k a o h3 h1, h2, h3, h4⟩

theorem sorted2_ {l : Addr} {vs : List Value} {n : Nat} {a c : Cl} {Q : Value → Shared → Prop} (h : At b g₀ s₀ fp L m g μ s) (hl : g l = some (lstObj vs n)) (hr : RdAll g vs [encC a, encC c]) (hls : s₀.heap.objs.size ≤ l) (oka : OkW a.2.1) (okc : OkW c.2.1) (hU : A.units + 70 < cLine)
    (q : ∀ s' g' v' (sw : Bool), g.le g' → At b g₀ s₀ fp L m g' μ s' → Ls g' v' (if sw then [encC c, encC a] else [encC a, encC c]) → (if sw then c.1 ≤ a.1 else a.1 ≤ c.1) → Q v' s') : wpAny (model prog w) A (call (.builtin "sorted") [.ref l]) Q E s := by
  cases hr with
  | @cons va da _ _ ha hr =>
    cases hr with
    | @cons vc dc _ _ hc hr =>
      cases hr
      obtain ⟨aa, xs, na, rfl, hga, hxs⟩ := ha.tupE
      obtain ⟨ac, ys, nc, rfl, hgc, hys⟩ := hc.tupE
      cases hxs with
      | @cons a1 _ _ _ ha1 hxs =>
        cases hxs with
        | @cons a2 _ _ _ ha2 hxs =>
          cases hxs with
          | @cons a3 _ _ _ ha3 hxs =>
            cases hxs
            cases hys with
            | @cons c1 _ _ _ hc1 hys =>
              cases hys with
              | @cons c2 _ _ _ hc2 hys =>
                cases hys with
                | @cons c3 _ _ _ hc3 hys =>
                  cases hys
                  obtain ⟨ta1, rfl⟩ := ha1.intE
                  obtain ⟨ta3, rfl⟩ := ha3.intE
                  obtain ⟨tc1, rfl⟩ := hc1.intE
                  obtain ⟨tc3, rfl⟩ := hc3.intE
                  have hneD : ∀ {D : Addr}, (∀ q ∈ allNews L s.heap, q.1 < D) → ∀ p ∈ allNews L s.heap, p.1 ≠ D := fun hD p hp => Nat.ne_of_lt (hD p hp)
                  refine kat_sorted h.fr At.news (h.isList hl) (Nat.le_refl 2) (show 2 < 64 by decide) fun D e1 h' F' N' hD => ?_
                  have hlL : l ≠ L := fun e => by rw [e, h.offL] at hl; cases hl
                  have hlm := allNews_mem.mpr (show (l, lstObj [.ref aa, .ref ac] n).1 ≠ L ∧ s.heap.get? (l, lstObj [.ref aa, .ref ac] n).1 = some (l, lstObj [.ref aa, .ref ac] n).2 from ⟨hlL, h.inn _ _ hl⟩)
                  have gets : ∀ x o, x ≠ L → s.heap.get? x = some o → h'.get? x = some o := fun x o hx e => (N' (x, o) (.tail _ (allNews_mem.mpr ⟨hx, e⟩))).1
                  have gin : ∀ x o, g x = some o → h'.get? x = some o := fun x o e => gets x o (by rintro rfl; rw [h.offL] at e; cases e) (h.inn x o e)
                  refine kat_kind (fs := [.int a.1 ta1, .int c.1 tc1]) (T := .type "int") (KatTups.cons (gin _ _ hga) rfl rfl rfl (KatTups.cons (gin _ _ hgc) rfl rfl rfl KatTups.nil)) (by simp) ?_ (by rfl) ?_
                  · intro v hv
                    rcases List.mem_cons.mp hv with rfl | hv
                    · exact Looks.of_pure rfl
                    · rw [List.mem_singleton.mp hv]; exact Looks.of_pure rfl
                  rw [show ((Value.type "int") != (Value.type "tuple")) = true by decide]
                  show KasT.kasWp _ (kas_sort 2) _ _
                  rw [sort2]
                  show wpAny _ _ (keyLt' (tuples' true) (.ref ac) (.ref aa)) _ _ _
                  refine kat_lt (gin _ _ hgc) rfl (gin _ _ hga) rfl ?_
                  have fin : ∀ sw : Bool, (if sw then c.1 ≤ a.1 else a.1 ≤ c.1) → KasFin ({ objs := #[] } : Heap) L m D e1 (List.map (fun i => [Value.ref aa, Value.ref ac].getD i Value.none) (if sw then (#[1, 0] : Array Nat) else #[0, 1]).toList) (fun s3 => Q (.ref D) s3) { s with heap := h' } := by
                    intro sw hsw
                    refine KasFin.intro F' N' (UpdF.head (hneD hD)) fun h3 c3 F3 N3 => ?_
                    have gets3 : ∀ x o, x ≠ L → s.heap.get? x = some o → h3.get? x = some o := fun x o hx e => (N3 (x, o) (.tail _ (allNews_mem.mpr ⟨hx, e⟩))).1
                    have A3 := h.back (tk := s.toks) F3.ns gets3
                    obtain ⟨n1, n2, _⟩ := N3 _ (.head _)
                    have hDg : g D = none := by
                      cases e : g D with
                      | none => rfl
                      | some o => exact absurd rfl (hneD hD (D, o) (allNews_mem.mpr ⟨n2, h.inn D o e⟩))
                    have hDm : μ D = none := by
                      cases e : μ D with
                      | none => rfl
                      | some o => exact absurd rfl (hneD hD (D, o) (allNews_mem.mpr ⟨n2, (h.mine D o e).1⟩))
                    have hDs : s₀.heap.objs.size ≤ D := Nat.le_of_lt (Nat.lt_of_le_of_lt hls (hD _ hlm))
                    cases sw with
                    | true =>
                      have A4 := A3.learn (o := lstObj [.ref ac, .ref aa] c3) n1 n2 hDg hDs hDm
                      have hle : g.le (upd g D (lstObj [.ref ac, .ref aa] c3)) := le_upd hDg
                      exact q _ _ _ true hle A4 ⟨D, [.ref ac, .ref aa], c3, rfl, upd_self _ _ _, .cons (hc.mono hle) (.cons (ha.mono hle) .nil)⟩ hsw
                    | false =>
                      have A4 := A3.learn (o := lstObj [.ref aa, .ref ac] c3) n1 n2 hDg hDs hDm
                      have hle : g.le (upd g D (lstObj [.ref aa, .ref ac] c3)) := le_upd hDg
                      exact q _ _ _ false hle A4 ⟨D, [.ref aa, .ref ac], c3, rfl, upd_self _ _ _, .cons (ha.mono hle) (.cons (hc.mono hle) .nil)⟩ hsw
                  have inW : ∀ x o, g x = some o → ({ s with heap := h' } : Shared).heap.get? x = some o := gin
                  refine kat_cons (wpAny_eqBool_int (kat_go (fun e => ?_) fun e => ?_))
                  · have e1 : c.1 = a.1 := by simpa using e
                    refine kat_yes ?_
                    obtain ⟨_, p1⟩ := hc2.reads inW
                    obtain ⟨_, p2⟩ := ha2.reads inW
                    refine kat_cons (SeqAt.eqBoolOverData prog w _ _ _ _ _ (encW c.2.1) (encW a.2.1) _ _ _ p1 p2 (SeqAt.canLay_of_shaped (shaped_W okc)) (SeqAt.canLay_of_shaped (shaped_W oka)) (SeqAt.room_of_shaped (shaped_W okc) (by show A.units + 1 + 1 + 64 < cLine; omega)) (kat_go (fun e => ?_) fun e => ?_))
                    · refine kat_yes ?_
                      refine kat_cons (wpAny_eqBool_int (kat_go (fun e => ?_) fun e => ?_))
                      · refine kat_yes (kat_nil ?_)
                        exact fin _ (by
                          have : decide ((#[Value.int c.1 tc1, c2, Value.int c.2.2 tc3] : Array Value).size < (#[Value.int a.1 ta1, a2, Value.int a.2.2 ta3] : Array Value).size) = false := rfl
                          rw [show decide (([Value.int c.1 tc1, c2, Value.int c.2.2 tc3].toArray).size < ([Value.int a.1 ta1, a2, Value.int a.2.2 ta3].toArray).size) = false from rfl]
                          exact Int.le_of_eq e1.symm)
                      · refine kat_no (kat_one _ _ (PyProof.Rows.lt_int ?_))
                        exact fin _ (by split <;> omega)
                    · refine kat_no (kat_one _ _ (ltTup_ inW hc2 ha2 (by show A.units + 1 + 1 + 64 < cLine; omega) fun r => ?_))
                      exact fin r (by split <;> omega)
                  · refine kat_no (oneLt_int ?_)
                    refine fin _ ?_
                    by_cases hlt : c.1 < a.1
                    · rw [decide_eq_true hlt, if_pos rfl]; omega
                    · rw [decide_eq_false hlt]
                      show a.1 ≤ c.1
                      omega
end
end Mine

namespace Mine
section
variable {prog : Program} {w : World} {A : Around} {E : Value → Shared → Prop} {b s s' s₀ : Shared} {g₀ g g' μ μ' μ'' : Kn} {fp : Addr → Prop} {L : Addr} {m : Str → Option Value} {env : Env} {mg mb : Str → Option Value}

theorem Ls.reads {v : Value} {ds : List PyData} (hin : ∀ a o, g a = some o → s.heap.get? a = some o) (hv : Ls g v ds) : ∃ as, Reads s.heap v (.list ds) as := by
  obtain ⟨a, vs, n, rfl, hg, hr⟩ := hv
  obtain ⟨as, q⟩ := hr.reads hin
  exact ⟨_, .list (hin _ _ hg) rfl rfl (by simpa using q)⟩

/-- an item of a list -/
theorem itemLst_ {value slice : Expr} {Q : Value → Shared → Prop} (h : At b g₀ s₀ fp L m g μ s) {v : Value} {ds : List PyData} {k : Nat} {u : Tok} {d : PyData} (hv : Ls g v ds) (hk : k < 1000) (hd : ds[k]? = some d) (q : ∀ x, Rd g x d → Q x s)
    (hs : ∀ t, subscripted slice false (.ref t) (.int k u) = operate [.ref t, .int k u] (getItem (.ref t) (.int k u)) := by intro _; with_unfolding_all rfl) : wpAny (model prog w) A (subscriptTail value slice v (.int k u)) Q E s := by
  obtain ⟨t, vs, n, rfl, hg, hall⟩ := hv
  obtain ⟨x, hx, hr⟩ := hall.get hd
  have ht := h.isList hg
  exact tail_any ht.typeIs slot_list_getitem.lookup (wpAny_getItem_list ht (by omega) (by omega) (by simpa using hx) (q x hr)) (hs t)

noncomputable def PickK (o vl : Value) (Q : Value → Shared → Prop) (vu : Value) (s₃ : Shared) : Prop :=
      ∃ b s₀ g₀ fp L m g μ ds lo hi es, At b g₀ s₀ fp L m g μ s₃ ∧ Ls g o ds ∧ ds.length ≤ 1000 ∧ IsPart vl lo ∧ IsPart vu hi ∧ (∀ vs, RdAll g vs ds → RdAll g (slicePick vs.toArray lo hi none).toList es) ∧
        ∀ s' g' l vs, g.le g' → At b g₀ s₀ fp L m g' μ s' → g' l = some (lstObj vs 0) → RdAll g' vs es → s₀.heap.objs.size ≤ l → Q (.ref l) s'
theorem pick_in {b s s₀ : Shared} {g₀ g μ : Kn} {fp : Addr → Prop} {L : Addr} {m : Str → Option Value} {o vl vu : Value} {Q : Value → Shared → Prop} (ds : List PyData) (lo hi : Option Int) (es : List PyData) (h : At b g₀ s₀ fp L m g μ s) (hr : Ls g o ds) (hsz : ds.length ≤ 1000)
    (pl : IsPart vl lo) (pu : IsPart vu hi) (hp : ∀ vs, RdAll g vs ds → RdAll g (slicePick vs.toArray lo hi none).toList es)
    (q : ∀ s' g' l vs, g.le g' → At b g₀ s₀ fp L m g' μ s' → g' l = some (lstObj vs 0) → RdAll g' vs es → s₀.heap.objs.size ≤ l → Q (.ref l) s') : PickK o vl Q vu s :=
  ⟨_, _, _, _, _, _, _, _, ds, lo, hi, es, h, hr, hsz, pl, pu, hp, q⟩
/-- a slice of a list -/
theorem sliceLst_ {value : Expr} {lower upper : Option Expr} {p pos : Pos} {Q : Value → Shared → Prop}
    (h : wpAny (model prog w) A (eval value env) (fun o s₁ => wpAny (model prog w) A (evalPart lower env) (fun vl s₂ => wpAny (model prog w) A (evalPart upper env) (PickK o vl Q) E s₂) E s₁) E s)
    (ht : ∀ o r, letTemporaryGo value o r = pure () := by intro _ _; rfl) :
    wpAny (model prog w) A (eval (.Subscript value (.Slice lower upper none p) pos) env) Q E s := by
  refine PySem.wpAny_Subscript_list_slice (wpAny_mono h (fun o s₁ h₁ => wpAny_mono h₁ (fun vl s₂ h₂ => wpAny_mono h₂ (fun vu s₃ h₃ => ?_) fun _ _ e => e) fun _ _ e => e) fun _ _ e => e) ht
  obtain ⟨b, s₀, g₀, fp, L, m, g, μ, ds, lo, hi, es, hA, ⟨l, vs, n, rfl, hg, hr⟩, hsz, pl, pu, hpick, q⟩ := h₃
  have hl := hr.length
  refine ⟨l, vs.toArray, lo, hi, rfl, hA.isList hg, by rw [List.size_toArray, sizeLine_eq]; omega, pl, pu, ?_⟩
  have h1 := hA.push (tk := s₃.toks) ({ cls := .type "slice", data := .fields #[vl, vu, .none] } : Obj)
  have h2 := h1.new (tk := s₃.toks) (lstObj (slicePick vs.toArray lo hi none).toList 0)
  dsimp only at h2
  rw [Heap.size_push] at h2
  have hle : g.le (upd g (s₃.heap.objs.size + 1) (lstObj (slicePick vs.toArray lo hi none).toList 0)) := le_upd (hA.freshG (Nat.le_succ _))
  have e : lstObj (slicePick vs.toArray lo hi none).toList 0 = ({ cls := .type "list", data := .seq (slicePick vs.toArray lo hi none) } : Obj) := by unfold lstObj; simp
  have := q _ _ (s₃.heap.objs.size + 1) _ hle h2 (upd_self _ _ _) ((hpick vs hr).mono hle) (Nat.le_succ_of_le hA.size)
  rw [e] at this
  exact this
theorem pick_upto_ {ds : List PyData} {k : Nat} : ∀ vs, RdAll g vs ds → RdAll g (slicePick vs.toArray none (some (k : Int)) none).toList (ds.take k) := fun vs hr => by
  rw [slicePick_upto']
  simpa using hr.take k
theorem pick_from_ {ds : List PyData} {k : Nat} : ∀ vs, RdAll g vs ds → RdAll g (slicePick vs.toArray (some (k : Int)) none none).toList (ds.drop k) := fun vs hr => by
  rw [slicePick_from']
  simpa using hr.drop k
theorem pick_run_ {ds : List PyData} {a c : Nat} (hc : c ≤ ds.length) (hac : a ≤ c) : ∀ vs, RdAll g vs ds → RdAll g (slicePick vs.toArray (some (a : Int)) (some (c : Int)) none).toList ((ds.drop a).take (c - a)) := fun vs hr => by
  rw [slicePick_run _ _ _ (by rw [List.size_toArray, hr.length]; exact hc) hac]
  simpa using (hr.drop a).take (c - a)

/-- a list of two items unpacked -/
theorem unpackList2_ {l : Addr} {vs : List Value} {n : Nat} {x y : Value} {targets : List (Bool × (Value → Sem Unit))} {Q : Unit → Shared → Prop} (hh : A.handled = none) (h : At b g₀ s₀ fp L m g μ s) (hg : g l = some (lstObj vs n)) (hvs : vs = [x, y])
    (hn : targets.length = 2) (hstar : targets.findIdx? (·.1) = none) (q : ∀ s', At b g₀ s₀ fp L m g μ s' → wpAny (model prog w) A (assignInOrder (targets.map (·.2)) [x, y]) Q E s') :
    wpAny (model prog w) A (unpack (.ref l) targets) Q E s := by
  subst hvs
  have hl := h.isList hg
  have hlt : l ≠ s.heap.objs.size := Nat.ne_of_lt (Heap.lt_size (h.inn _ _ hg))
  unfold unpack
  rw [hn, hstar]
  refine wpAny_bind (wpAny_holding ?_)
  unfold unpackItems
  refine wpAny_bind ?_
  unfold notIterableAtAll
  refine wpAny_bind (wpAny_specialOf hl.typeIs slot_list_iter.lookup ?_)
  refine wpAny_pure ?_
  simp only [Bool.false_eq_true, if_false]
  refine wpAny_bind (wpAny_holding (wpAny_pyIter_list hl ?_))
  have i0 : (s.heap.push ({ cls := .type "list_iterator", data := .fields #[.ref l, .int 0 0] } : Obj)).IsListIter s.heap.objs.size l 0 := ⟨_, Heap.get?_push_size _ rfl, rfl, rfl⟩
  have hl0 := hl.push ({ cls := .type "list_iterator", data := .fields #[.ref l, .int 0 0] } : Obj)
  refine wpAny_bind (wpAny_holding ?_)
  show wpAny _ _ (draw (.ref s.heap.objs.size) 2) _ _ _
  unfold draw
  refine wpAny_bind (wpAny_pyNext_list_item (l := l) (i := 0) (x := x) i0 hl0 (by rfl) fun h1 i1 s1 => ?_)
  have hl1 := hl0.extBut s1.extBut hlt
  refine wpAny_bind (wpAny_holding ?_)
  unfold draw
  refine wpAny_bind (wpAny_pyNext_list_item (l := l) (i := 1) (x := y) i1 hl1 (by rfl) fun h2 i2 s2 => ?_)
  have hl2 := hl1.extBut s2.extBut hlt
  refine wpAny_bind (wpAny_holding ?_)
  unfold draw
  refine wpAny_pure (wpAny_pure (wpAny_pure ?_))
  rw [if_neg (by simp)]
  refine wpAny_bind (wpAny_holding (wpAny_pyNext_list_end (l := l) (i := 2) hh i2 hl2 (by rfl) fun h3 e3 => ?_))
  simp only [Option.isSome_none, Bool.false_eq_true, if_false]
  refine wpAny_pure (q _ ?_)
  refine h.ext (tk := s.toks) fun a o ha e => e3 a o ha (s2.extBut a o ha (s1.extBut a o ha (Heap.get?_push_of_some _ e)))
end
end Mine

namespace Mine
/-! questions -/
noncomputable def addQ (qs : List (Way × Int)) (x : Way × Int) : List (Way × Int) := if qs.any (· == x) then qs else qs ++ [x]
noncomputable def four (c : Cl) : List (Way × Int) := [(c.2.1, 0), (c.2.1, 1), (c.2.1 ++ [("b" : Str)], 0), (c.2.1 ++ [("b" : Str)], 1)]
noncomputable def ask4 (qs : List (Way × Int)) (c : Cl) : List (Way × Int) := (four c).foldl addQ qs
noncomputable def asked (calls : List Cl) : List (Way × Int) := calls.foldl ask4 [([], 0)]
theorem addQ_mem {qs : List (Way × Int)} {x y : Way × Int} : y ∈ addQ qs x ↔ y ∈ qs ∨ y = x := by
  unfold addQ
  split
  · rename_i h
    obtain ⟨z, hz, he⟩ := List.any_eq_true.mp h
    have := beq_iff_eq.mp he
    subst this
    exact ⟨.inl, fun h => h.elim id fun e => e ▸ hz⟩
  · rw [List.mem_append, List.mem_singleton]
theorem addQ_len (qs : List (Way × Int)) (x : Way × Int) : (addQ qs x).length ≤ qs.length + 1 := by
  unfold addQ
  split
  · omega
  · simp
theorem foldQ_mem : ∀ (l qs : List (Way × Int)) {y : Way × Int}, y ∈ l.foldl addQ qs ↔ y ∈ qs ∨ y ∈ l
  | [], qs, y => by simp
  | x :: l, qs, y => by
    rw [List.foldl_cons, foldQ_mem l, addQ_mem, List.mem_cons, or_assoc]
theorem foldQ_len : ∀ (l qs : List (Way × Int)), (l.foldl addQ qs).length ≤ qs.length + l.length
  | [], qs => by simp
  | x :: l, qs => by
    have := foldQ_len l (addQ qs x)
    have := addQ_len qs x
    rw [List.foldl_cons, List.length_cons]
    omega
theorem asked_mem : ∀ (l : List Cl) (qs : List (Way × Int)) {y : Way × Int}, y ∈ l.foldl ask4 qs ↔ y ∈ qs ∨ ∃ c ∈ l, y ∈ four c
  | [], qs, y => by simp
  | c :: l, qs, y => by
    rw [List.foldl_cons, asked_mem l]
    unfold ask4
    rw [foldQ_mem]
    constructor
    · rintro ((h | h) | ⟨c', h, h'⟩)
      · exact .inl h
      · exact .inr ⟨c, .head _, h⟩
      · exact .inr ⟨c', .tail _ h, h'⟩
    · rintro (h | ⟨c', h, h'⟩)
      · exact .inl (.inl h)
      · rcases List.mem_cons.mp h with rfl | h
        · exact .inl (.inr h')
        · exact .inr ⟨c', h, h'⟩
theorem asked_len : ∀ (l : List Cl) (qs : List (Way × Int)), (l.foldl ask4 qs).length ≤ qs.length + 4 * l.length
  | [], qs => by simp
  | c :: l, qs => by
    have := asked_len l (ask4 qs c)
    have h := foldQ_len (four c) qs
    have : (four c).length = 4 := rfl
    rw [List.foldl_cons, List.length_cons]
    unfold ask4 at *
    omega

/-! the calls -/
structure Good (c : Cl) : Prop where
  ok : OkC c
  q : OkQ (c.2.1, c.2.2)
  len : c.2.1.length ≤ 4
theorem good_lawCall (number place : Int) : Good (lawCall number place) := by
  have h4 := fmod4 (number.fdiv 5)
  have h5a := Int.fmod_nonneg_of_pos number (show (0 : Int) < 5 by decide)
  have h5b := Int.fmod_lt_of_pos number (show (0 : Int) < 5 by decide)
  have hlen : (lawCall number place).2.1.length = sizeOf' number := wayOf_length _ _
  have hsz : 1 ≤ sizeOf' number ∧ sizeOf' number ≤ 4 := by unfold sizeOf'; omega
  have hne : (lawCall number place).2.1 ≠ [] := List.ne_nil_of_length_pos (by omega)
  have hnm : ∀ x ∈ (lawCall number place).2.1, x = "a" ∨ x = "nested" := wayOf_names _ _
  refine ⟨⟨?_, hne⟩, ⟨⟨fun x hx => (hnm x hx).elim .inl fun h => .inr (.inl h), by show (lawCall number place).2.1.length ≤ 8; omega⟩, hne, hnm, fmod_cases _⟩, by omega⟩
  show number.fmod 5 = 0 ∨ number.fmod 5 = 1 ∨ number.fmod 5 = 2 ∨ number.fmod 5 = 3 ∨ number.fmod 5 = 4
  omega
noncomputable def lawCalls (numbers : List Int) : List Cl := (List.range numbers.length).map fun i => lawCall (numbers.getD i 0) i
theorem lawCalls_good {numbers : List Int} : ∀ c ∈ lawCalls numbers, Good c := fun c hc => by
  obtain ⟨i, _, rfl⟩ := List.mem_map.mp hc
  exact good_lawCall _ _
theorem lawCalls_length (numbers : List Int) : (lawCalls numbers).length = numbers.length := by simp [lawCalls]
theorem four_ok {c : Cl} (h : Good c) : ∀ y ∈ four c, OkW y.1 := by
  have hb : OkW (c.2.1 ++ [("b" : Str)]) := ⟨fun x hx => by
    rcases List.mem_append.mp hx with hx | hx
    · exact h.q.ok.names x hx
    · exact .inr (.inr (List.mem_singleton.mp hx)), by have := h.len; simp; omega⟩
  intro y hy
  unfold four at hy
  simp only [List.mem_cons, List.not_mem_nil, or_false] at hy
  rcases hy with rfl | rfl | rfl | rfl
  · exact h.q.ok
  · exact h.q.ok
  · exact hb
  · exact hb
theorem asked_ok {calls : List Cl} (h : ∀ c ∈ calls, Good c) : ∀ y ∈ asked calls, OkW y.1 := by
  intro y hy
  rcases (asked_mem calls _).mp hy with h1 | ⟨c, hc, h1⟩
  · rw [List.mem_singleton.mp h1]
    exact ⟨fun x hx => (by cases hx), Nat.zero_le _⟩
  · exact four_ok (h c hc) y h1
theorem asked_has {calls : List Cl} {c : Cl} (h : Good c) (hc : c ∈ calls) : c.2 ∈ asked calls := by
  refine (asked_mem calls _).mpr (.inr ⟨c, hc, ?_⟩)
  unfold four
  obtain ⟨a, w, f⟩ := c
  have := h.q.flag
  dsimp only at this ⊢
  rcases this with rfl | rfl <;> simp

section
variable {prog : Program} {w : World} {A : Around} {E : Value → Shared → Prop} {b s s' s₀ : Shared} {g₀ g g' μ μ' μ'' : Kn} {fp : Addr → Prop} {L : Addr} {m : Str → Option Value} {env : Env} {mg mb : Str → Option Value}

theorem len_lst_ {np pos : Pos} {e : Expr} {Q : Value → Shared → Prop} (C : Cx w b.heap mg mb) (hkeep : ∀ a o, b.heap.get? a = some o → s.heap.get? a = some o)
    (hl : env.kindOf "len" = some .globalImplicit) (hk : env.scope.kind = .function) (hG : env.globals = mainGlobals) (hB : env.builtins = builtinsNs) (hs : starEach [e] env = [(false, eval e env)])
    (h : wpAny (model prog w) A (eval e env) (fun v s₁ => ∃ a vs n ds, v = .ref a ∧ s₁.heap.get? a = some (lstObj vs n) ∧ vs.length = ds ∧ ds ≤ 1000 ∧ ∀ tk t, Q (.int ds t) { s₁ with toks := tk }) E s) :
    wpAny (model prog w) A (eval (.Call (.Name "len" np) [e] [] pos) env) Q E s := by
  refine Call_Name1 ?_ hs
  refine Name_function_global hk hl (loadGlobal_builtin (hG ▸ C.g.keeps hkeep) (mg_none_of C.K C.g rfl) (hB ▸ C.bi.keeps hkeep) ((C.boot "len" (by decide)).trans boot_len) ?_)
  refine callWith_builtin1 (wpAny_mono h (fun v s₁ h₁ => ?_) fun _ _ e => e)
  obtain ⟨a, vs, n, ds, rfl, hg, hlen, hsz, q⟩ := h₁
  refine PyProof.Rows.len_list (items := vs.toArray) ⟨_, hg, rfl, n, rfl⟩ (by rw [List.size_toArray]; omega) ?_
  rw [List.size_toArray, hlen]
  exact q _ _

theorem canLayQs {qs : List (Way × Int)} (h : ∀ y ∈ qs, OkW y.1) : PyData.canLayAll0 (qs.map encQ) = true := by
  induction qs with
  | nil => rfl
  | cons x r ih =>
    rw [List.map_cons, PyData.canLayAll0, Bool.and_eq_true]
    exact ⟨SeqAt.canLay_of_shaped (shaped_Q (h x (.head _)) (flag := x.2)), ih fun y hy => h y (.tail _ hy)⟩
theorem anyQs (qs : List (Way × Int)) (x : Way × Int) : (qs.map encQ).any (fun y => PyData.eqv y (encQ x)) = qs.any (· == x) := by
  rw [List.any_map]
  congr 1
  funext y
  exact eqv_Q y.1 x.1 y.2 x.2
/-- one not in questions -/
theorem notInQ_ {u : Value} {l : Addr} {vs : List Value} {n : Nat} {qs : List (Way × Int)} {x : Way × Int} {Q : Value → Shared → Prop} (hin : ∀ a o, g a = some o → s.heap.get? a = some o) (hl : s.heap.get? l = some (lstObj vs n)) (hr : RdAll g vs (qs.map encQ)) (hu : Rd g u (encQ x))
    (ok : ∀ y ∈ qs, OkW y.1) (okx : OkW x.1) (hU : A.units + 70 < cLine) (q : Q (.bool (!qs.any (· == x))) s) : wpAny (model prog w) A (compareOp .NotIn u (.ref l)) Q E s := by
  obtain ⟨as, ra⟩ := hr.reads hin
  obtain ⟨bs, rb⟩ := hu.reads hin
  have sx := shaped_Q okx (flag := x.2)
  have hd := SeqAt.depth_of_shaped sx
  refine SeqAt.notIn_list_reads (xs := qs.map encQ) (.list hl rfl rfl (by simpa using ra)) rb (canLayQs ok) (SeqAt.canLay_of_shaped sx) (by
    have : min (PyData.depthAll (qs.map encQ)) (encQ x).depth ≤ 64 := Nat.le_trans (Nat.min_le_right _ _) hd
    omega) ?_
  rw [anyQs]
  exact q

theorem canLayBs (bs : List Bool) : PyData.canLayAll0 (bs.map PyData.bool) = true ∧ PyData.depthAll (bs.map PyData.bool) = 0 := by
  induction bs with
  | nil => exact ⟨rfl, rfl⟩
  | cons x r ih =>
    rw [List.map_cons]
    simp only [PyData.canLayAll0, PyData.canLay0, PyData.depthAll, PyData.depth, ih.1, ih.2]
    exact ⟨rfl, rfl⟩
theorem shapedBs (bs : List Bool) : SeqAt.shaped (.list (bs.map PyData.bool)) = true := by
  obtain ⟨h1, h2⟩ := canLayBs bs
  unfold SeqAt.shaped
  simp only [PyData.canLay0, PyData.depth, h1, h2]
  decide
theorem eqvBs : ∀ (as bs : List Bool), PyData.eqvAll (as.map PyData.bool) (bs.map PyData.bool) = (as == bs)
  | [], [] => rfl
  | [], _ :: _ => rfl
  | _ :: _, [] => rfl
  | a :: as, c :: cs => by
    simp only [List.map_cons, PyData.eqvAll, PyData.eqv, eqvBs as cs]
    rfl
/-- lists of bools compared -/
theorem neBs_ {u v : Value} {as bs : List Bool} {Q : Value → Shared → Prop} (hin : ∀ a o, g a = some o → s.heap.get? a = some o) (hu : Ls g u (as.map .bool)) (hv : Ls g v (bs.map .bool)) (hU : A.units + 64 < cLine) (q : Q (.bool (!(as == bs))) s) :
    wpAny (model prog w) A (compareOp .NotEq u v) Q E s := by
  obtain ⟨_, p1⟩ := hu.reads hin
  obtain ⟨_, p2⟩ := hv.reads hin
  refine ne_dataH p1 p2 (shapedBs _) (shapedBs _) hU ?_
  show Q (.bool (!PyData.eqvAll (as.map PyData.bool) (bs.map PyData.bool))) s
  rw [eqvBs]
  exact q
theorem anyBs (bs : List Bool) : (bs.map PyData.bool).any (fun y => PyData.eqv y (.bool true)) = bs.any id := by
  rw [List.any_map]
  congr 1
  funext y
  show (y == true) = y
  cases y <;> rfl
/-- True not in a list of bools -/
theorem notInBs_ {v : Value} {bs : List Bool} {Q : Value → Shared → Prop} (hin : ∀ a o, g a = some o → s.heap.get? a = some o) (hv : Ls g v (bs.map .bool)) (hU : A.units + 64 < cLine) (q : Q (.bool (!bs.any id)) s) :
    wpAny (model prog w) A (compareOp .NotIn (.bool true) v) Q E s := by
  obtain ⟨_, p1⟩ := hv.reads hin
  obtain ⟨h1, h2⟩ := canLayBs bs
  refine SeqAt.notIn_list_reads (xs := bs.map PyData.bool) p1 (.bool true) h1 rfl (by rw [h2]; simp; omega) ?_
  rw [anyBs]
  exact q

theorem twoCells_ (h : At b g₀ s₀ fp L m g μ s) {x y : Str} {px py : Pos} {u1 u2 : Value} {cx cy : Addr} {o1 o2 : Obj} {v1 v2 : Option Value} {Q : Unit → Shared → Prop} (hk : env.scope.kind = .function)
    (kx : env.kindOf x = some .cell) (ky : env.kindOf y = some .cell) (ex : env.cells.lookup x = some cx) (ey : env.cells.lookup y = some cy) (hne : cy ≠ cx) (m1 : μ cx = some o1) (m2 : μ cy = some o2) (d1 : o1.data = .cell v1) (d2 : o2.data = .cell v2)
    (q : ∀ s' p1 p2, p1.data = .cell (some u1) → p2.data = .cell (some u2) → At b g₀ s₀ fp L m g (upd (upd μ cx p1) cy p2) s' → Q () s') :
    wpAny (model prog w) A (assignInOrder [assign (.Name x px) env, assign (.Name y py) env] [u1, u2]) Q E s := by
  refine assignInOrder_cons (t := assign (.Name x px) env) (wpAny_assign_Name (storeC_ h kx hk ex m1 d1 fun s1 p1 e1 h1 => ?_))
  refine assignInOrder_cons (t := assign (.Name y py) env) (wpAny_assign_Name (storeC_ h1 ky hk ey ((upd_ne _ hne).trans m2) d2 fun s2 p2 e2 h2 => ?_))
  exact assignInOrder_nil (q s2 p1 p2 e1 e2 h2)
end
end Mine

namespace Mine
section
variable {prog : Program} {w : World} {A : Around} {E : Value → Shared → Prop} {b s s' s₀ : Shared} {g₀ g g' μ μ' μ'' : Kn} {fp : Addr → Prop} {L : Addr} {m : Str → Option Value} {env : Env} {mg mb : Str → Option Value}

noncomputable abbrev lawEnv (P : Params) (n : Nat) : Env := callEnvC (fdAt P 104) n 104
noncomputable abbrev intsL (l : List Int) : List PyData := l.map PyData.int

set_option maxHeartbeats 2000000 in
/-- the head: numbers and calls -/
theorem lawHead_ {v : Value} {script : List Int} {rest : List Stmt} {Q : Flow → Shared → Prop} (R : Room A 4 100) (C : Cx w b.heap mg mb) (hrest : (stmtsOf (fdAt w.params 104)).drop 2 = rest)
    (h : At b g s (fun _ => False) s.heap.objs.size m g μ s') (hm : m "script" = some v) (h1 : Ls g v (intsL script)) (hl : script.length ≤ 63) {o0 : Obj} (hc0 : μ (s.heap.objs.size + 1) = some o0) (hd0 : o0.data = .cell none)
    (q : ∀ s₂ g₂ o0' vn vc, g.le g₂ → o0'.data = .cell (some vn) → Ls g₂ vn (intsL ([2, 4, 0] ++ script)) → Ls g₂ vc ((lawCalls ([2, 4, 0] ++ script)).map encC) →
      At b g s (fun _ => False) s.heap.objs.size (bnd m "calls" vc) g₂ (upd μ (s.heap.objs.size + 1) o0') s₂ → wpAny (model prog w) A (execs rest (lawEnv w.params s.heap.objs.size)) Q (fun _ _ => False) s₂) :
    wpAny (model prog w) A (execs (stmtsOf (fdAt w.params 104)) (lawEnv w.params s.heap.objs.size)) Q (fun _ _ => False) s' := by
  subst hrest
  refine exCons_ (asgName_ (binE_ ?_))
  refine List_ (argCons_ (int_ h fun s2 t2 A₂ => ?_))
  refine argCons_ (int_ A₂ fun s3 t3 A₃ => ?_)
  refine argCons_ (int_ A₃ fun s4 t4 A₄ => ?_)
  refine args_nil (newList_ A₄ (.cons (.int _ _) (.cons (.int _ _) (.cons (.int _ _) .nil))) (fun s5 g5 v5 hle5 r5 A₅ => ?_) (by simp))
  refine name_ A₅ (by rfl) (by rfl) (by rfl) hm ?_
  refine addLst_ A₅ r5 (h1.mono hle5) (by simp; omega) fun s6 g6 v6 hle6 A₆ r6 => ?_
  have r6 : Ls g6 v6 (intsL ([2, 4, 0] ++ script)) := r6
  generalize hN : ([2, 4, 0] ++ script : List Int) = numbers at r6 q
  have hNl : numbers.length ≤ 66 := by rw [← hN]; simp; omega
  refine storeC_ A₆ (by kernel_rfl) (by kernel_rfl) (by kernel_rfl) hc0 hd0 fun s7 o0' e0 A₇ => ?_
  have hc0' : (upd μ (s.heap.objs.size + 1) o0') (s.heap.objs.size + 1) = some o0' := upd_self _ _ _
  refine exCons_ ?_
  refine compAssign_ (α := Nat) (by kernel_rfl) (by rfl) (by decide) (by rfl) (by decide) (by rfl) (by rfl) (by intro _; rfl) ?_
  refine Call_Name1 ?_ (by rfl)
  refine builtin_ C A₇ (by rfl) (by rfl) (by rfl) (by rfl) (by rfl) boot_range (by decide) ?_
  refine callWith_type1 ?_
  refine len_lst_ C A₇.keeps (by rfl) (by rfl) (by rfl) (by rfl) (by rfl) ?_
  refine nameC_ A₇ (by kernel_rfl) (by kernel_rfl) (by kernel_rfl) hc0' e0 ?_
  obtain ⟨an, vs, nn, rfl, hgn, hrn⟩ := id r6
  have hlen := hrn.length
  have hlen2 : vs.length = numbers.length := by rw [hlen]; simp [intsL]
  refine ⟨an, vs, nn, numbers.length, rfl, A₇.inn _ _ hgn, hlen2, by omega, fun tk t => ?_⟩
  refine range1_ (A₇.toks (tk := tk)) fun s8 g8 v8 hle8 A₈ r8 => ?_
  refine iterR_ R.hd A₈ r8 (by omega) (by omega) (by omega) (by omega) (by omega) fun s9 I o St hI A₉ It hst => ?_
  have hN0 : ((numbers.length : Int) - 0).toNat = numbers.length := by omega
  rw [hN0] at It
  refine ⟨List.range numbers.length, fun (i : Nat) => .int (0 + i), fun (i : Nat) => some (encC (lawCall (numbers.getD i 0) i)), _, _, _, _, _, _, (upd μ (s.heap.objs.size + 1) o0'), I, o, St, rfl, It, A₉, ?_, hst, by simp; omega, ?_, ?_⟩
  · exact A₈.freshM (by omega)
  · intro C' i v mc g' μ' s'' hmem hr hle hμ B₁
    have hi := List.mem_range.mp hmem
    obtain ⟨tp, rfl⟩ := hr.intE
    unfold CompTurn
    refine assignN_ B₁ (by rfl) (by rfl) (by rfl) fun s10 B₂ => ?_
    refine ifs0_ ?_
    simp only [if_true]
    refine callG_ C B₂ (by rfl) (by rfl) (by rfl) (by rfl) (by decide) (by rfl) (by rfl) (by rfl) ?_
    refine argCons_ (Subscript_ ?_)
    refine nameC_ B₂ (by kernel_rfl) (by kernel_rfl) (by kernel_rfl) (hμ _ _ hc0') e0 ?_
    refine name_ B₂ (by rfl) (by rfl) (by rfl) (by rfl) ?_
    have e00 : (0 : Int) + (i : Int) = (i : Int) := by omega
    rw [e00]
    refine itemLst_ (k := i) (d := .int (numbers.getD i 0)) B₂ ((r6.mono hle8).mono hle) (by omega) ?_ (fun x hx => ?_) (by intro _; with_unfolding_all rfl)
    · show (numbers.map PyData.int)[i]? = _
      rw [List.getElem?_map, List.getElem?_eq_getElem hi]
      simp [hi]
    obtain ⟨tx, rfl⟩ := hx.intE
    refine argCons_ (name_ B₂ (by rfl) (by rfl) (by rfl) (by rfl) (args_nil ⟨B₂.keeps, ?_⟩))
    rw [e00]
    refine lawCall_ (R.less (by omega) (by omega)) C B₂.know fun s11 g11 v11 G r11 => ?_
    exact ⟨_, _, _, G.le, B₂.grown G, rfl, r11⟩
  · intro s10 g10 r10 hle10 A₁₀ hr10
    refine q s10 g10 o0' (.ref an) r10 ((hle5.trans hle6).trans (hle8.trans hle10)) e0 (r6.mono (hle8.trans hle10)) ?_ A₁₀
    have e : (List.range numbers.length).filterMap (fun (i : Nat) => some (encC (lawCall (numbers.getD i 0) i))) = (lawCalls numbers).map encC := by
      rw [fm_some]
      unfold lawCalls
      rw [List.map_map]
      rfl
    rw [← e]
    exact hr10
end
end Mine

namespace Mine
theorem foldl_take {α β : Type} (f : β → α → β) (b : β) (l : List α) (i : Nat) (x : α) (h : l[i]? = some x) : (l.take (i + 1)).foldl f b = f ((l.take i).foldl f b) x := by
  rw [List.take_add_one, h, List.foldl_append]; rfl
section
variable {prog : Program} {w : World} {A : Around} {E : Value → Shared → Prop} {b s s' s₀ : Shared} {g₀ g g' μ μ' μ'' : Kn} {fp : Addr → Prop} {L : Addr} {m : Str → Option Value} {env : Env} {mg mb : Str → Option Value}

theorem newListM_ (h : At b g₀ s₀ fp L m g μ s) {vs : List Value} {Q : Value → Shared → Prop} (q : ∀ s' l, At b g₀ s₀ fp L m g (upd μ l (lstObj vs 0)) s' → μ l = none → s₀.heap.objs.size ≤ l → Q (.ref l) s') (hsz : vs.length ≤ 1000) :
    wpAny (model prog w) A (newList vs) Q E s :=
  wpAny_newObj_type (q _ _ (h.newMut (lstObj vs 0)) (h.freshM (Nat.le_refl _)) h.size) (by show vs.toArray.size ≤ sizeLine; rw [List.size_toArray, sizeLine_eq]; omega)
theorem append_ (h : At b g₀ s₀ fp L m g μ s) {l : Addr} {vs : List Value} {n : Nat} {x : Value} {Q : Value → Shared → Prop} (ho : μ l = some (lstObj vs n)) (hsz : vs.length ≤ 1000)
    (q : ∀ s' n', At b g₀ s₀ fp L m g (upd μ l (lstObj (vs ++ [x]) n')) s' → Q .none s') : wpAny (model prog w) A (call (.builtin "list.append") [.ref l, x]) Q E s := by
  refine wpAny_list_append_plain (items := vs.toArray) ⟨n, (h.mine l _ ho).1⟩ (fun h6 hl6 hs6 => ?_) (by rw [List.size_toArray, sizeLine_eq]; omega)
  obtain ⟨n6, hl6⟩ := hl6
  have hl6' : h6.get? l = some (lstObj (vs ++ [x]) n6) := by rw [hl6]; simp [lstObj]
  exact q _ n6 (h.set (tk := s.toks) ho hs6 hl6')

set_option maxHeartbeats 2000000 in
/-- the questions -/
theorem lawAsk_ {vc : Value} {calls : List Cl} {rest : List Stmt} {Q : Flow → Shared → Prop} (R : Room A 4 100) (C : Cx w b.heap mg mb) (hrest : (stmtsOf (fdAt w.params 104)).drop 4 = rest)
    (h : At b g₀ s (fun _ => False) s.heap.objs.size m g μ s') (hm : m "calls" = some vc) (hc : Ls g vc (calls.map encC)) (good : ∀ c ∈ calls, Good c) (hl : calls.length ≤ 66)
    (q : ∀ s₂ g₂ μ₂ m₂ vq, g.le g₂ → (∀ x o, μ x = some o → μ₂ x = some o) → m₂ "calls" = some vc → m₂ "questions" = some vq → Ls g₂ vq ((asked calls).map encQ) →
      At b g₀ s (fun _ => False) s.heap.objs.size m₂ g₂ μ₂ s₂ → wpAny (model prog w) A (execs rest (lawEnv w.params s.heap.objs.size)) Q (fun _ _ => False) s₂) :
    wpAny (model prog w) A (execs ((stmtsOf (fdAt w.params 104)).drop 2) (lawEnv w.params s.heap.objs.size)) Q (fun _ _ => False) s' := by
  subst hrest
  have hU : A.units + 70 < cLine := by have := R.units; omega
  refine exCons_ (asgName_ ?_)
  refine List_ (argCons_ (tupE_ (argCons_ (tupE_ (args_nil ?_)))))
  refine newTuple_ h .nil (fun s2 g2 v2 hle2 r2 A₂ => ?_) (by simp)
  refine argCons_ (int_ A₂ fun s3 t3 A₃ => ?_)
  refine args_nil (newTuple_ A₃ (.cons r2 (.cons (.int _ _) .nil)) (fun s4 g4 v4 hle4 r4 A₄ => ?_) (by simp))
  refine args_nil (newListM_ A₄ (fun s5 qa A₅ hqn hqs => ?_) (by simp))
  have hq0 : (upd μ qa (lstObj [v4] 0)) qa = some (lstObj [v4] 0) := upd_self _ _ _
  refine store_ A₅ (by rfl) (by rfl) (by rfl) fun s6 A₆ => ?_
  have hqne : ∀ x o, μ x = some o → x ≠ qa := fun x o e => by rintro rfl; rw [hqn] at e; cases e
  have hk0 : ∀ x o, μ x = some o → (upd μ qa (lstObj [v4] 0)) x = some o := fun x o e => (upd_ne _ (hqne x o e)).trans e
  have hle04 := hle2.trans hle4
  refine exCons_ (wpAny_For ?_)
  refine name_ A₆ (by rfl) (by rfl) (by rfl) (by exact hm) ?_
  have hlt : ∀ x o, (upd μ qa (lstObj [v4] 0)) x = some o → x ≠ s6.heap.objs.size := fun x o e => Nat.ne_of_lt (Heap.lt_size (A₆.mine x o e).1)
  refine for_list2_ (fun I i m g' μ' => (∃ vs n, μ' qa = some (lstObj vs n) ∧ RdAll g' vs (((calls.take i).foldl ask4 [([], 0)]).map encQ)) ∧ (∀ x o, μ x = some o → μ' x = some o) ∧ m "calls" = some vc ∧ m "questions" = some (.ref qa)) R.hd A₆ (hc.mono hle04) ?_ ?_ ?_ ?_
  · intro I μ' eI hμ'
    have hne : qa ≠ I := eI ▸ hlt _ _ hq0
    exact ⟨⟨[v4], 0, (hμ' qa hne).trans hq0, .cons r4 .nil⟩, fun x o e => (hμ' x (eI ▸ hlt x o (hk0 x o e))).trans (hk0 x o e), by exact hm, by rfl⟩
  · rintro I i m g μ₁ μ₂ eI hμ' ⟨⟨vs, n, j1, j2⟩, j3, j4, j5⟩
    have hne : qa ≠ I := eI ▸ hlt _ _ hq0
    exact ⟨⟨vs, n, (hμ' qa hne).trans j1, j2⟩, fun x o e => (hμ' x (eI ▸ hlt x o (hk0 x o e))).trans (j3 x o e), j4, j5⟩
  · rintro I i d v m' g' μ' s7 eI hd hr hle ⟨⟨vs, n, j1, j2⟩, j3, j4, j5⟩ D₁ ⟨oI, hoI⟩
    rw [List.getElem?_map] at hd
    obtain ⟨c, hc', rfl⟩ := Option.map_eq_some_iff.mp hd
    have gc := good c (List.mem_of_getElem? hc')
    have hstep := foldl_take ask4 [([], 0)] calls i c hc'
    have hlenq := asked_len (calls.take i) [([], 0)]
    have hokq : ∀ y ∈ (calls.take i).foldl ask4 [([], 0)], OkW y.1 := asked_ok (calls := calls.take i) fun c hc => good c (List.mem_of_mem_take hc)
    have hti : (calls.take i).length ≤ 66 := by rw [List.length_take]; omega
    generalize (calls.take i).foldl ask4 [([], 0)] = qs at j2 hstep hlenq hokq
    have hqI : qa ≠ I := eI ▸ hlt _ _ hq0
    refine assign3_ R.hd D₁ hr (by rfl) (by rfl) (by rfl) (by rfl) (by rfl) fun s8 u1 u2 u3 r1 r2' r3 D₂ => ?_
    have hw := gc.len
    refine exCons_ (wpAny_For (tupE_ (argCons_ (tupE_ ?_))))
    refine argCons_ (name_ D₂ (by rfl) (by rfl) (by rfl) (by rfl) ?_)
    refine argCons_ (int_ D₂ fun s9 t9 D₃ => ?_)
    refine args_nil (newTuple_ D₃ (.cons r2' (.cons (.int _ _) .nil)) (fun s10 g10 v10 hle10 r10 D₄ => ?_) (by simp))
    refine argCons_ (tupE_ ?_)
    refine argCons_ (name_ D₄ (by rfl) (by rfl) (by rfl) (by rfl) ?_)
    refine argCons_ (int_ D₄ fun s11 t11 D₅ => ?_)
    refine args_nil (newTuple_ D₅ (.cons (r2'.mono hle10) (.cons (.int _ _) .nil)) (fun s12 g12 v12 hle12 r12 D₆ => ?_) (by simp))
    have hle1012 := hle10.trans hle12
    refine argCons_ (tupE_ (argCons_ (binE_ ?_)))
    refine name_ D₆ (by rfl) (by rfl) (by rfl) (by rfl) ?_
    refine tupE_ (argCons_ (str_ D₆ fun s13 t13 D₇ => ?_))
    refine args_nil (newTuple_ D₇ (.cons (.str _ _) .nil) (fun s14 g14 v14 hle14 r14 D₈ => ?_) (by simp))
    refine addTup_ D₈ (r2'.mono (hle1012.trans hle14)) r14 (by simp; omega) fun s15 g15 v15 hle15 D₉ r15 => ?_
    refine argCons_ (int_ D₉ fun s16 t16 E₁ => ?_)
    refine args_nil (newTuple_ E₁ (.cons r15 (.cons (.int _ _) .nil)) (fun s17 g17 v17 hle17 r17 E₂ => ?_) (by simp))
    have hle1017 := hle1012.trans (hle14.trans (hle15.trans hle17))
    refine argCons_ (tupE_ (argCons_ (binE_ ?_)))
    refine name_ E₂ (by rfl) (by rfl) (by rfl) (by rfl) ?_
    refine tupE_ (argCons_ (str_ E₂ fun s18 t18 E₃ => ?_))
    refine args_nil (newTuple_ E₃ (.cons (.str _ _) .nil) (fun s19 g19 v19 hle19 r19 E₄ => ?_) (by simp))
    refine addTup_ E₄ (r2'.mono (hle1017.trans hle19)) r19 (by simp; omega) fun s20 g20 v20 hle20 E₅ r20 => ?_
    refine argCons_ (int_ E₅ fun s21 t21 E₆ => ?_)
    refine args_nil (newTuple_ E₆ (.cons r20 (.cons (.int _ _) .nil)) (fun s22 g22 v22 hle22 r22 E₇ => ?_) (by simp))
    have hle1722 := hle19.trans (hle20.trans hle22)
    have hle1222 : g12.le g22 := hle14.trans (hle15.trans (hle17.trans hle1722))
    refine args_nil (newTuple_ E₇ (.cons (r10.mono (hle12.trans hle1222)) (.cons (r12.mono hle1222) (.cons (r17.mono hle1722) (.cons r22 .nil)))) (fun s23 g23 v23 hle23 r23 E₈ => ?_) (by simp))
    have e4 : (four c).map encQ = [.tuple [encW c.2.1, .int 0], .tuple [encW c.2.1, .int 1], .tuple [.tuple (c.2.1.map PyData.str ++ [.str "b"]), .int 0], .tuple [.tuple (c.2.1.map PyData.str ++ [.str "b"]), .int 1]] := by
      unfold four
      simp [encQ, encW]
    have r23 : Rd g23 v23 (.tuple ((four c).map encQ)) := by rw [e4]; exact r23
    have hle723 : g'.le g23 := hle10.trans (hle12.trans (hle1222.trans hle23))
    have hlt2 : ∀ x o, μ' x = some o → x ≠ s23.heap.objs.size := fun x o e => Nat.ne_of_lt (Heap.lt_size (E₈.mine x o e).1)
    refine for_tup_ (fun I2 j m g'' μ'' => (∃ vs n, μ'' qa = some (lstObj vs n) ∧ RdAll g'' vs ((((four c).take j).foldl addQ qs).map encQ)) ∧ (∀ x o, x ≠ qa → μ' x = some o → μ'' x = some o) ∧ m "calls" = some vc ∧ m "questions" = some (.ref qa)) R.hd E₈ r23 ?_ ?_ ?_ ?_
    · intro I2 μ2 eI2 hμ2
      exact ⟨⟨vs, n, (hμ2 qa (eI2 ▸ hlt2 _ _ j1)).trans j1, j2.mono hle723⟩, fun x o _ e => (hμ2 x (eI2 ▸ hlt2 x o e)).trans e, by exact j4, by exact j5⟩
    · rintro I2 j m g'' μ₁ μ₂ eI2 hμ2 ⟨⟨vs', n', k1, k2⟩, k3, k4, k5⟩
      exact ⟨⟨vs', n', (hμ2 qa (eI2 ▸ hlt2 _ _ j1)).trans k1, k2⟩, fun x o hx e => (hμ2 x (eI2 ▸ hlt2 x o e)).trans (k3 x o hx e), k4, k5⟩
    · rintro I2 j dd v2 m2 g2' μ2 s24 eI2 hd2 hr2 hle2' ⟨⟨vs', n', k1, k2⟩, k3, k4, k5⟩ F₁ ⟨oI2, hoI2⟩
      rw [List.getElem?_map] at hd2
      obtain ⟨y, hy, rfl⟩ := Option.map_eq_some_iff.mp hd2
      have oky := four_ok gc y (List.mem_of_getElem? hy)
      have hstep2 := foldl_take addQ qs (four c) j y hy
      have hlen2 := foldQ_len ((four c).take j) qs
      have htj : ((four c).take j).length ≤ 4 := by
        have : (four c).length = 4 := rfl
        rw [List.length_take]; omega
      have hok2 : ∀ z ∈ ((four c).take j).foldl addQ qs, OkW z.1 := fun z hz => by
        rcases (foldQ_mem _ _).mp hz with hz | hz
        · exact hokq z hz
        · exact four_ok gc z (List.mem_of_mem_take hz)
      generalize ((four c).take j).foldl addQ qs = qs2 at k2 hstep2 hlen2 hok2
      have hvl := k2.length
      rw [List.length_map] at hvl
      have hI2 : qa ≠ I2 := eI2 ▸ hlt2 _ _ j1
      refine assignN_ F₁ (by rfl) (by rfl) (by rfl) fun s25 F₂ => ?_
      refine exCons_ (wpAny_If (cmpT_ ?_))
      refine name_ F₂ (by rfl) (by rfl) (by rfl) (by rfl) ?_
      refine name_ F₂ (by rfl) (by rfl) (by rfl) (by exact k5) ?_
      refine notInQ_ F₂.inn (F₂.mine _ _ k1).1 k2 hr2 hok2 oky hU (wpAny_truthy_bool ?_)
      cases ea : qs2.any (· == y) with
      | true =>
        simp only [Bool.not_true, Bool.false_eq_true, if_false]
        refine wpAny_execs_nil (wpAny_execs_nil ?_)
        refine ⟨_, _, _, ?_, F₂, rfl, Kn.le.refl _⟩
        refine ⟨⟨vs', n', k1, ?_⟩, k3, by exact k4, by exact k5⟩
        rw [hstep2]
        unfold addQ
        rw [ea]
        exact k2
      | false =>
        simp only [Bool.not_false, if_true]
        refine exCons_ (wpAny_Expr (MethodCall_ ?_))
        refine name_ F₂ (by rfl) (by rfl) (by rfl) (by exact k5) ?_
        refine getMethod_list_append (F₂.mine _ _ k1).1 rfl rfl ?_
        refine callWith_method1 ?_ (by rfl) (by rfl)
        refine argCons_ (name_ F₂ (by rfl) (by rfl) (by rfl) (by rfl) (args_nil ?_))
        refine append_ F₂ k1 (by simp at hlenq; omega) fun s26 n6 F₃ => ?_
        refine wpAny_execs_nil (wpAny_execs_nil ?_)
        refine ⟨_, _, _, ?_, F₃, upd_ne _ (Ne.symm hI2), Kn.le.refl _⟩
        refine ⟨⟨vs' ++ [v2], n6, upd_self _ _ _, ?_⟩, fun x o hx e => (upd_ne _ hx).trans (k3 x o hx e), by exact k4, by exact k5⟩
        rw [hstep2]
        unfold addQ
        rw [ea]
        simp only [Bool.false_eq_true, if_false]
        rw [List.map_append]
        exact k2.append (.cons hr2 .nil)
    · rintro I2 m2 g2' μ2 s24 eI2 hle2' ⟨⟨vs', n', k1, k2⟩, k3, k4, k5⟩ F₁
      refine wpAny_execs_nil ?_
      refine ⟨_, _, _, ?_, F₁, (k3 I oI (Ne.symm hqI) hoI).trans hoI.symm, hle723.trans hle2'⟩
      refine ⟨⟨vs', n', k1, ?_⟩, fun x o e => k3 x o (hqne x o e) (j3 x o e), k4, k5⟩
      rw [hstep]
      rw [List.length_map, List.take_length] at k2
      exact k2
  · rintro I m' g' μ' s7 eI hle ⟨⟨vs, n, j1, j2⟩, j3, j4, j5⟩ D₁
    rw [List.length_map, List.take_length] at j2
    have D₂ := D₁.rest j1 hqs
    have hqg := (D₁.mine _ _ j1).2.1
    have hle' : g'.le (upd g' qa (lstObj vs n)) := le_upd hqg
    refine q s7 _ _ m' (.ref qa) (hle04.trans (hle.trans hle')) (fun x o e => ?_) j4 j5 ⟨qa, vs, n, rfl, upd_self _ _ _, j2.mono hle'⟩ D₂
    show (if x = qa then none else μ' x) = some o
    rw [if_neg (hqne x o e)]
    exact j3 x o e
end
end Mine

namespace Mine
section
variable {prog : Program} {w : World} {A : Around} {E : Value → Shared → Prop} {b s s' s₀ : Shared} {g₀ g g' μ μ' μ'' : Kn} {fp : Addr → Prop} {L : Addr} {m : Str → Option Value} {env : Env} {mg mb : Str → Option Value}

theorem assignTupC_ (hh : A.handled = none) (h : At b g₀ s₀ fp L m g μ s) {a : Addr} {x y : Str} {px py pos : Pos} {k : Nat} {u1 u2 : Value} {n : Nat} {cx cy : Addr} {o1 o2 : Obj} {v1 v2 : Option Value} {Q : Unit → Shared → Prop} (hg : g a = some (tupObj [u1, u2] n)) (hk : env.scope.kind = .function)
    (kx : env.kindOf x = some .cell) (ky : env.kindOf y = some .cell) (ex : env.cells.lookup x = some cx) (ey : env.cells.lookup y = some cy) (hne : cy ≠ cx) (m1 : μ cx = some o1) (m2 : μ cy = some o2) (d1 : o1.data = .cell v1) (d2 : o2.data = .cell v2)
    (q : ∀ s' p1 p2, p1.data = .cell (some u1) → p2.data = .cell (some u2) → At b g₀ s₀ fp L m g (upd (upd μ cx p1) cy p2) s' → Q () s') :
    wpAny (model prog w) A (assign (.Tuple [.Name x px, .Name y py] k pos) env (.ref a)) Q E s := by
  refine assign_Tuple_tuple hh (h.isTup hg) rfl rfl fun h' he => ?_
  exact twoCells_ (h.ext (tk := s.toks) he) hk kx ky ex ey hne m1 m2 d1 d2 q

set_option maxHeartbeats 2000000 in
theorem lawMid_ {vc vq : Value} {calls : List Cl} {qs : List (Way × Int)} {rest : List Stmt} {Q : Flow → Shared → Prop} (R : Room A 5 100) (C : Cx w b.heap mg mb) (hrest : (stmtsOf (fdAt w.params 104)).drop 7 = rest)
    (h : At b g₀ s (fun _ => False) s.heap.objs.size m g μ s') (hm : m "calls" = some vc) (hmq : m "questions" = some vq) (hc : Ls g vc (calls.map encC)) (hq : Ls g vq (qs.map encQ)) (good : ∀ c ∈ calls, Good c) (okq : ∀ y ∈ qs, OkW y.1) (hl : calls.length ≤ 66) (hlq : qs.length ≤ 300)
    {o1 o2 : Obj} (m1 : μ (s.heap.objs.size + 2) = some o1) (m2 : μ (s.heap.objs.size + 3) = some o2) (d1 : o1.data = .cell none) (d2 : o2.data = .cell none)
    (q : ∀ s₂ g₂ μ₂ m₂ vw p1 p2 u1 u2, g.le g₂ → (∀ x o, x ≠ s.heap.objs.size + 2 → x ≠ s.heap.objs.size + 3 → μ x = some o → μ₂ x = some o) → m₂ "calls" = some vc → m₂ "questions" = some vq → m₂ "whole" = some vw → Ls g₂ vw ((answers calls qs).map .bool) →
      μ₂ (s.heap.objs.size + 2) = some p1 → μ₂ (s.heap.objs.size + 3) = some p2 → p1.data = .cell (some u1) → p2.data = .cell (some u2) → Ls g₂ u1 [] → Ls g₂ u2 [] →
      At b g₀ s (fun _ => False) s.heap.objs.size m₂ g₂ μ₂ s₂ → wpAny (model prog w) A (execs rest (lawEnv w.params s.heap.objs.size)) Q (fun _ _ => False) s₂) :
    wpAny (model prog w) A (execs ((stmtsOf (fdAt w.params 104)).drop 4) (lawEnv w.params s.heap.objs.size)) Q (fun _ _ => False) s' := by
  subst hrest
  have hU : A.units + 70 < cLine := by have := R.units; omega
  refine exCons_ (asgName_ ?_)
  refine callG_ C h (by rfl) (by rfl) (by rfl) (by rfl) (by decide) (by rfl) (by rfl) (by rfl) ?_
  refine argCons_ (name_ h (by rfl) (by rfl) (by rfl) (by exact hm) ?_)
  refine argCons_ (name_ h (by rfl) (by rfl) (by rfl) (by exact hmq) (args_nil ⟨h.keeps, ?_⟩))
  refine answers_ (R.less (by omega) (by omega)) C h.know hc hq (fun c hc => (good c hc).q) okq (by omega) (by omega) fun s2 g2 vw G hw => ?_
  have A₂ := h.grown G
  refine store_ A₂ (by rfl) (by rfl) (by rfl) fun s3 A₃ => ?_
  refine exCons_ (wpAny_If (cmpT_ ?_))
  refine comp_ (α := Bool) (by rfl) (by decide) (by rfl) (by decide) (by intro _; rfl) ?_
  refine name_ A₃ (by rfl) (by rfl) (by rfl) (by rfl) ?_
  refine iterL_ R.hd A₃ hw fun s4 I o St hI A₄ It hst => ?_
  refine ⟨answers calls qs, PyData.bool, fun _ => none, _, _, _, _, _, _, μ, I, o, St, rfl, It, A₄, A₃.freshM (by omega), hst, by unfold answers; simp; omega, ?_, ?_⟩
  · intro C' x v mc g' μ' s'' hmem hr hle hμ B₁
    have e := hr.boolE
    subst e
    unfold CompTurn
    refine assignN_ B₁ (by rfl) (by rfl) (by rfl) fun s5 B₂ => ?_
    refine wpAny_mono (E := fun _ _ => False) (Q := fun ok s' => ok = false ∧ At b g₀ s (fun _ => False) C' (bnd mc "one" (.bool x)) g' μ' s') (ifs1_ ?_) (fun ok s6 h6 => ?_) (fun _ _ e => e.elim)
    · refine isTrue_not (isTrue_plain ?_ (by rfl))
      refine Call_Name rfl (builtin_ C B₂ (by rfl) (by rfl) (by rfl) (by rfl) (by rfl) boot_isinstance (by decide) (callWith_method1 ?_ (by rfl) (by rfl)))
      refine argCons_ (name_ B₂ (by rfl) (by rfl) (by rfl) (by rfl) ?_)
      refine argCons_ (builtin_ C B₂ (by rfl) (by rfl) (by rfl) (by rfl) (by rfl) boot_bool (by decide) (args_nil ?_))
      exact IsiPair.bool_bool (wpAny_truthy_bool ⟨rfl, B₂⟩)
    · obtain ⟨rfl, B₃⟩ := h6
      exact ⟨rfl, _, _, Kn.le.refl _, B₃⟩
  intro s5 g5 r5 hle5 A₅ hr5
  have hr5 : Ls g5 r5 (([] : List Bool).map PyData.bool) := by
    have e : (answers calls qs).filterMap (fun _ => (none : Option PyData)) = [] := List.filterMap_eq_nil_iff.mpr fun _ _ => rfl
    rw [e] at hr5
    exact hr5
  refine List_ (args_nil (newList_ A₅ .nil (fun s6 g6 v6 hle6 r6 A₆ => ?_) (by simp)))
  refine neBs_ (as := []) (bs := []) A₆.inn (hr5.mono hle6) r6 (by omega) (wpAny_truthy_bool ?_)
  simp only [BEq.rfl, Bool.not_true, Bool.false_eq_true, if_false]
  refine wpAny_execs_nil ?_
  refine exCons_ (Assign_Tuple ?_ (by rfl) (by rfl))
  refine tupE_ (argCons_ (List_ (args_nil (newList_ A₆ .nil (fun s7 g7 v7 hle7 r7 A₇ => ?_) (by simp)))))
  refine argCons_ (List_ (args_nil (newList_ A₇ .nil (fun s8 g8 v8 hle8 r8 A₈ => ?_) (by simp))))
  refine args_nil (newTupleV_ A₈ (fun s9 g9 a9 hle9 r9 A₉ => ?_) (by simp))
  refine assignTupC_ (cx := s.heap.objs.size + 2) (cy := s.heap.objs.size + 3) R.hd A₉ r9 (by kernel_rfl) (by kernel_rfl) (by kernel_rfl) (by kernel_rfl) (by kernel_rfl) (Nat.ne_of_gt (Nat.lt_succ_self _)) m1 m2 d1 d2 fun s10 p1 p2 e1 e2 A₁₀ => ?_
  have hle : g.le g9 := G.le.trans (hle5.trans (hle6.trans (hle7.trans (hle8.trans hle9))))
  refine q s10 g9 _ _ vw p1 p2 v7 v8 hle (fun x o h1 h2 e => (upd_ne _ h2).trans ((upd_ne _ h1).trans e)) (by exact hm) (by exact hmq) (by rfl) (hw.mono (hle5.trans (hle6.trans (hle7.trans (hle8.trans hle9))))) ((upd_ne _ (Nat.ne_of_lt (Nat.lt_succ_self _))).trans (upd_self _ _ _)) (upd_self _ _ _) e1 e2 (r7.mono (hle8.trans hle9)) (r8.mono hle9) A₁₀
end
end Mine

namespace Mine
structure Bh (l : List Cl) (i : Nat) (mw : List Cl × List Cl) : Prop where
  rel : Rel (runS (l.take i)) mw.1 mw.2
  len : mw.1.length + mw.2.length ≤ i
  okm : ∀ c ∈ mw.1, ∃ d ∈ l, c.2.1 = d.2.1
  okw : ∀ c ∈ mw.2, ∃ d ∈ l, c.2 = d.2
theorem Bh.zero (l : List Cl) : Bh l 0 ([], []) := ⟨Rel.nil, Nat.le_refl _, fun c h => (by cases h), fun c h => (by cases h)⟩
theorem Bh.step {l : List Cl} {i : Nat} {mw : List Cl × List Cl} (h : Bh l i mw) {c : Cl} (hc : l[i]? = some c) (ok : OkC c) : Bh l (i + 1) (behind mw.1 mw.2 c) := by
  have hmem := List.mem_of_getElem? hc
  obtain ⟨r, hl, hm, hw⟩ := h
  refine ⟨by rw [runS_take l i c hc]; exact r.step ok, ?_, ?_, ?_⟩
  · unfold behind
    split
    · simp; omega
    split
    · simp; omega
    split
    · simp; omega
    · have := List.length_filter_le (fun mk : Cl => !(mk.2.1.take c.2.1.length == c.2.1)) mw.1
      show (mw.1.filter _).length + mw.2.length ≤ _
      omega
  · intro x hx
    unfold behind at hx
    split at hx
    · rcases List.mem_append.mp hx with hx | hx
      · exact hm x hx
      · rw [List.mem_singleton.mp hx]; exact ⟨c, hmem, rfl⟩
    split at hx
    · exact hm x hx
    split at hx
    · rcases List.mem_append.mp hx with hx | hx
      · exact hm x hx
      · obtain ⟨d, hd, e⟩ := hw x hx
        exact ⟨d, hd, by rw [e]⟩
    · exact hm x (List.mem_filter.mp hx).1
  · intro x hx
    unfold behind at hx
    split at hx
    · exact hw x hx
    split at hx
    · rcases List.mem_append.mp hx with hx | hx
      · exact hw x hx
      · rw [List.mem_singleton.mp hx]; exact ⟨c, hmem, rfl⟩
    split at hx
    · cases hx
    · exact hw x hx

theorem runS_pair (ahead rest : List Cl) (x y : Cl) : runS (ahead ++ [x, y] ++ rest) = rest.foldl stepS (stepS (stepS (runS ahead) x) y) := by
  unfold runS
  rw [List.foldl_append, List.foldl_append]
  rfl
theorem runS_two (ahead : List Cl) (x y : Cl) : runS (ahead ++ [x, y]) = stepS (stepS (runS ahead) x) y := by
  have := runS_pair ahead [] x y
  rw [List.append_nil] at this
  exact this

/-- a turn of the law's loop, in plain data -/
structure Turned (calls : List Cl) (qs : List (Way × Int)) (i : Nat) (c1 c2 low high : Cl) (mw : List Cl × List Cl) : Prop where
  two : ∀ y ∈ qs, (differ low high mw.1 mw.2 y.1 y.2 = true → told (runS (calls.take i ++ [low, high])).1 y.1 y.2 = (low.1 == 2) ∧ told (runS (calls.take i ++ [high, low])).1 y.1 y.2 = (low.1 != 2)) ∧
    (differ low high mw.1 mw.2 y.1 y.2 = false → told (runS (calls.take i ++ [low, high])).1 y.1 y.2 = told (runS (calls.take i ++ [high, low])).1 y.1 y.2)
  three : (∀ y ∈ qs, differ low high mw.1 mw.2 y.1 y.2 = false) → ¬ (low.1 = 2 ∧ high.1 = 3) → answers (calls.take i ++ [c2, c1] ++ calls.drop (i + 2)) qs = answers calls qs
theorem turned {calls : List Cl} {qs : List (Way × Int)} {i : Nat} {c1 c2 low high : Cl} {mw : List Cl × List Cl} (good : ∀ c ∈ calls, Good c) (hq : ∀ c ∈ calls, c.2 ∈ qs) (h1 : calls[i]? = some c1) (h2 : calls[i + 1]? = some c2)
    (hsort : (low = c1 ∧ high = c2 ∨ low = c2 ∧ high = c1)) (hle : low.1 ≤ high.1) (b : Bh calls i mw) : Turned calls qs i c1 c2 low high mw := by
  have g1 := good c1 (List.mem_of_getElem? h1)
  have g2 := good c2 (List.mem_of_getElem? h2)
  have ml : low ∈ calls := by
    rcases hsort with ⟨rfl, _⟩ | ⟨rfl, _⟩
    · exact List.mem_of_getElem? h1
    · exact List.mem_of_getElem? h2
  have okl : OkC low := hsort.elim (fun h => h.1 ▸ g1.ok) (fun h => h.1 ▸ g2.ok)
  have okh : OkC high := hsort.elim (fun h => h.2 ▸ g2.ok) (fun h => h.2 ▸ g1.ok)
  refine ⟨fun y _ => ?_, fun hd hn => ?_⟩
  · rw [runS_two, runS_two]
    exact law2 okl okh hle b.rel y.1 y.2
  · have S := law3 okl okh hle b.rel hn fun x hx => hd x (by
      rcases hx with rfl | hx
      · exact hq low ml
      · obtain ⟨d, hd', e⟩ := b.okw _ hx
        dsimp only at e
        rw [e]; exact hq d hd')
    have hsplit : calls = calls.take i ++ [c1, c2] ++ calls.drop (i + 2) := by
      have e1 : calls.drop i = c1 :: calls.drop (i + 1) := by
        obtain ⟨hlt, he⟩ := List.getElem?_eq_some_iff.mp h1
        rw [List.drop_eq_getElem_cons hlt, he]
      have e2 : calls.drop (i + 1) = c2 :: calls.drop (i + 2) := by
        obtain ⟨hlt, he⟩ := List.getElem?_eq_some_iff.mp h2
        rw [List.drop_eq_getElem_cons hlt, he]
      conv => lhs; rw [← List.take_append_drop i calls, e1, e2]
      simp
    have ok : ∀ c ∈ calls.drop (i + 2), OkC c := fun c hc => (good c (List.mem_of_mem_drop hc)).ok
    have main : ∀ x y, SimS (stepS (stepS (runS (calls.take i)) x) y) (stepS (stepS (runS (calls.take i)) y) x) → answers (calls.take i ++ [x, y] ++ calls.drop (i + 2)) qs = answers (calls.take i ++ [y, x] ++ calls.drop (i + 2)) qs := by
      intro x y hs
      unfold answers
      rw [runS_pair, runS_pair]
      exact (hs.run ok).answers qs
    have e : answers calls qs = answers (calls.take i ++ [c1, c2] ++ calls.drop (i + 2)) qs := by rw [← hsplit]
    rw [e]
    rcases hsort with ⟨rfl, rfl⟩ | ⟨rfl, rfl⟩
    · exact (main _ _ S).symm
    · exact main _ _ S
theorem fourth {calls : List Cl} (good : ∀ c ∈ calls, Good c) (qs : List (Way × Int)) : (answers (calls ++ ([(4, ["a"], 0), (4, ["nested"], 0)] : List Cl)) qs).any id = false := by
  unfold answers
  rw [List.any_map, List.any_eq_false]
  intro y _
  show ¬ told _ _ _ = true
  rw [law4 (fun c hc => ⟨(good c hc).ok, (good c hc).ok.ne, (good c hc).q.names⟩)]
  simp
end Mine

namespace Mine
noncomputable def lawBody (P : Params) : List Stmt := match (stmtsOf (fdAt P 104)).drop 7 with
  | .For _ _ body _ _ :: _ => body
  | _ => []
section
variable {prog : Program} {w : World} {A : Around} {E : Value → Shared → Prop} {b s s' s₀ : Shared} {g₀ g g' μ μ' μ'' : Kn} {fp : Addr → Prop} {L : Addr} {m : Str → Option Value} {env : Env} {mg mb : Str → Option Value}

structure Cells (g μ : Kn) (z : Addr) (mw : List Cl × List Cl) (low high : Option Value) : Prop where
  c1 : ∃ p u, μ (z + 2) = some p ∧ p.data = .cell (some u) ∧ Ls g u (mw.1.map encC)
  c2 : ∃ p u, μ (z + 3) = some p ∧ p.data = .cell (some u) ∧ Ls g u (mw.2.map encC)
  c3 : ∃ p, μ (z + 4) = some p ∧ p.data = .cell low
  c4 : ∃ p, μ (z + 5) = some p ∧ p.data = .cell high
theorem Cells.mono {g g' μ : Kn} {z : Addr} {mw : List Cl × List Cl} {low high : Option Value} (h : Cells g μ z mw low high) (hle : g.le g') : Cells g' μ z mw low high :=
  ⟨let ⟨p, u, a, b, c⟩ := h.c1; ⟨p, u, a, b, c.mono hle⟩, let ⟨p, u, a, b, c⟩ := h.c2; ⟨p, u, a, b, c.mono hle⟩, h.c3, h.c4⟩
theorem Cells.congr {g μ μ' : Kn} {z : Addr} {mw : List Cl × List Cl} {low high : Option Value} (h : Cells g μ z mw low high) (hk : ∀ x o, μ x = some o → μ' x = some o) : Cells g μ' z mw low high :=
  ⟨let ⟨p, u, a, b⟩ := h.c1; ⟨p, u, hk _ _ a, b⟩, let ⟨p, u, a, b⟩ := h.c2; ⟨p, u, hk _ _ a, b⟩, let ⟨p, a, b⟩ := h.c3; ⟨p, hk _ _ a, b⟩, let ⟨p, a, b⟩ := h.c4; ⟨p, hk _ _ a, b⟩⟩

set_option maxHeartbeats 4000000 in
/-- ahead, low and high -/
theorem turnA_ {vc : Value} {calls : List Cl} {i : Nat} {c1 c2 : Cl} {mw : List Cl × List Cl} {rest : List Stmt} {tn : Tok} {lo hi : Option Value} {Q : Flow → Shared → Prop} (R : Room A 5 100) (C : Cx w b.heap mg mb) (hrest : (lawBody w.params).drop 2 = rest)
    (h : At b g₀ s (fun _ => False) s.heap.objs.size m g μ s') (hn : m "n" = some (.int (1 + (i : Int)) tn)) (hm : m "calls" = some vc) (hc : Ls g vc (calls.map encC)) (good : ∀ c ∈ calls, Good c) (hl : calls.length ≤ 66)
    (h1 : calls[i]? = some c1) (h2 : calls[i + 1]? = some c2) (cs : Cells g μ s.heap.objs.size mw lo hi)
    (q : ∀ s₂ g₂ μ₂ va vl vh low high, g.le g₂ → (∀ x, x ≠ s.heap.objs.size + 4 → x ≠ s.heap.objs.size + 5 → μ₂ x = μ x) → Ls g₂ va ((calls.take i).map encC) → Rd g₂ vl (encC low) → Rd g₂ vh (encC high) →
      (low = c1 ∧ high = c2 ∨ low = c2 ∧ high = c1) → low.1 ≤ high.1 → Cells g₂ μ₂ s.heap.objs.size mw (some vl) (some vh) → At b g₀ s (fun _ => False) s.heap.objs.size (bnd m "ahead" va) g₂ μ₂ s₂ →
      wpAny (model prog w) A (execs rest (lawEnv w.params s.heap.objs.size)) Q (fun _ _ => False) s₂) :
    wpAny (model prog w) A (execs (lawBody w.params) (lawEnv w.params s.heap.objs.size)) Q (fun _ _ => False) s' := by
  subst hrest
  have hU : A.units + 70 < cLine := by have := R.units; omega
  have g1 := good c1 (List.mem_of_getElem? h1)
  have g2 := good c2 (List.mem_of_getElem? h2)
  have hi2 : i + 2 ≤ calls.length := by
    obtain ⟨h, _⟩ := List.getElem?_eq_some_iff.mp h2
    omega
  have en1 : (1 + (i : Int)) - 1 = ((i : Nat) : Int) := by omega
  have en2 : (1 + (i : Int)) + 1 = ((i + 2 : Nat) : Int) := by omega
  refine exCons_ (asgName_ (sliceLst_ ?_ (by intro _ _; rfl)))
  refine name_ h (by rfl) (by rfl) (by rfl) hm ?_
  refine evalPart_none_step (evalPart_some_step (binE_ ?_))
  refine name_ h (by rfl) (by rfl) (by rfl) hn ?_
  refine int_ h fun s2 t2 A₂ => sub_int ?_
  rw [en1]
  refine pick_in (calls.map encC) none (some ((i : Nat) : Int)) ((calls.take i).map encC) A₂.toks hc (by simp; omega) .none (.int _ _) (fun vs hr => (by have := pick_upto_ (k := i) vs hr; rwa [← List.map_take] at this)) fun s3 g3 l3 vs3 hle3 A₃ hg3 hr3 hs3 => ?_
  refine store_ A₃ (by rfl) (by rfl) (by rfl) fun s4 A₄ => ?_
  refine exCons_ (Assign_Tuple ?_ (by rfl) (by rfl))
  refine Call_Name1 ?_ (by rfl)
  refine builtin_ C A₄ (by rfl) (by rfl) (by rfl) (by rfl) (by rfl) boot_sorted (by decide) ?_
  refine callWith_builtin1 (sliceLst_ ?_ (by intro _ _; rfl))
  refine name_ A₄ (by rfl) (by rfl) (by rfl) (by exact hm) ?_
  refine evalPart_some_step (binE_ ?_)
  refine name_ A₄ (by rfl) (by rfl) (by rfl) (by exact hn) ?_
  refine int_ A₄ fun s5 t5 A₅ => sub_int ?_
  rw [en1]
  have A₅' := A₅.toks (tk := s5.toks + 1)
  refine evalPart_some_step (binE_ ?_)
  refine name_ A₅' (by rfl) (by rfl) (by rfl) (by exact hn) ?_
  refine int_ A₅' fun s6 t6 A₆ => add_int ?_
  rw [en2]
  have epick : ((calls.map encC).drop i).take (i + 2 - i) = [encC c1, encC c2] := by
    have e1 : calls.drop i = c1 :: calls.drop (i + 1) := by
      obtain ⟨hlt, he⟩ := List.getElem?_eq_some_iff.mp h1
      rw [List.drop_eq_getElem_cons hlt, he]
    have e2 : calls.drop (i + 1) = c2 :: calls.drop (i + 2) := by
      obtain ⟨hlt, he⟩ := List.getElem?_eq_some_iff.mp h2
      rw [List.drop_eq_getElem_cons hlt, he]
    rw [← List.map_drop, e1, e2, show i + 2 - i = 2 by omega]
    rfl
  refine pick_in (calls.map encC) (some ((i : Nat) : Int)) (some ((i + 2 : Nat) : Int)) [encC c1, encC c2] A₆.toks (hc.mono hle3) (by simp; omega) (.int _ _) (.int _ _) (fun vs hr => (by
    have := pick_run_ (a := i) (c := i + 2) (by simpa using hi2) (by omega) vs hr
    rwa [epick] at this)) fun s7 g7 l7 vs7 hle7 A₇ hg7 hr7 hs7 => ?_
  refine sorted2_ A₇ hg7 hr7 hs7 g1.q.ok g2.q.ok hU fun s8 g8 v8 sw hle8 A₈ hv8 hsw => ?_
  have key : ∃ low high : Cl, Ls g8 v8 [encC low, encC high] ∧ (low = c1 ∧ high = c2 ∨ low = c2 ∧ high = c1) ∧ low.1 ≤ high.1 := by
    cases sw with
    | true => exact ⟨c2, c1, hv8, .inr ⟨rfl, rfl⟩, hsw⟩
    | false => exact ⟨c1, c2, hv8, .inl ⟨rfl, rfl⟩, hsw⟩
  obtain ⟨low, high, ⟨l8, vs8, n8, rfl, hg8, hr8⟩, hsort, hlh⟩ := key
  cases hr8 with
  | @cons vl _ _ _ rl hr8 =>
    cases hr8 with
    | @cons vh _ _ _ rh hr8 =>
      cases hr8
      rw [assign_Tuple]
      refine wpAny_bind (wpAny_standAt (unpackList2_ R.hd A₈ hg8 rfl rfl rfl fun s9 A₉ => ?_))
      obtain ⟨p3, m3, d3⟩ := cs.c3
      obtain ⟨p4, m4, d4⟩ := cs.c4
      refine twoCells_ (cx := s.heap.objs.size + 4) (cy := s.heap.objs.size + 5) A₉ (by kernel_rfl) (by kernel_rfl) (by kernel_rfl) (by kernel_rfl) (by kernel_rfl) (Nat.ne_of_gt (Nat.lt_succ_self _)) m3 m4 d3 d4 fun s10 o3 o4 e3 e4 A₁₀ => ?_
      have hle : g.le g8 := hle3.trans (hle7.trans hle8)
      obtain ⟨p1, u1, m1, d1, r1⟩ := cs.c1
      obtain ⟨p2, u2, m2, d2, r2⟩ := cs.c2
      have n24 : s.heap.objs.size + 2 ≠ s.heap.objs.size + 4 := by omega
      have n25 : s.heap.objs.size + 2 ≠ s.heap.objs.size + 5 := by omega
      have n34 : s.heap.objs.size + 3 ≠ s.heap.objs.size + 4 := by omega
      have n35 : s.heap.objs.size + 3 ≠ s.heap.objs.size + 5 := by omega
      have n45 : s.heap.objs.size + 4 ≠ s.heap.objs.size + 5 := by omega
      refine q s10 g8 _ (.ref l3) vl vh low high hle (fun x hx4 hx5 => (upd_ne _ hx5).trans (upd_ne _ hx4)) ⟨l3, vs3, 0, rfl, (hle7.trans hle8) _ _ hg3, hr3.mono (hle7.trans hle8)⟩ rl rh hsort hlh ?_ A₁₀
      exact ⟨⟨p1, u1, (upd_ne _ n25).trans ((upd_ne _ n24).trans m1), d1, r1.mono hle⟩, ⟨p2, u2, (upd_ne _ n35).trans ((upd_ne _ n34).trans m2), d2, r2.mono hle⟩, ⟨o3, (upd_ne _ n45).trans (upd_self _ _ _), e3⟩, ⟨o4, upd_self _ _ _, e4⟩⟩
end
end Mine

namespace Mine
section
variable {prog : Program} {w : World} {A : Around} {E : Value → Shared → Prop} {b s s' s₀ : Shared} {g₀ g g' μ μ' μ'' : Kn} {fp : Addr → Prop} {L : Addr} {m : Str → Option Value} {env : Env} {mg mb : Str → Option Value}

theorem answersTwo_ {va vl vh vq : Value} {ahead : List Cl} {x y : Cl} {qs : List (Way × Int)} {cx cy : Str} {p1 p2 p3 p4 p5 p6 p7 pos : Pos} {ox oy : Obj} {ax ay : Addr} {Q : Value → Shared → Prop} (R : Room A 5 100) (C : Cx w b.heap mg mb)
    (h : At b g₀ s (fun _ => False) s.heap.objs.size m g μ s') (ma : m "ahead" = some va) (mq : m "questions" = some vq) (ra : Ls g va (ahead.map encC)) (rx : Rd g vl (encC x)) (ry : Rd g vh (encC y)) (rq : Ls g vq (qs.map encQ))
    (good : ∀ c ∈ ahead ++ [x, y], Good c) (okq : ∀ z ∈ qs, OkW z.1) (hl : ahead.length ≤ 66) (hlq : qs.length ≤ 300)
    (kx : (lawEnv w.params s.heap.objs.size).kindOf cx = some .cell) (ky : (lawEnv w.params s.heap.objs.size).kindOf cy = some .cell) (ex : (lawEnv w.params s.heap.objs.size).cells.lookup cx = some ax) (ey : (lawEnv w.params s.heap.objs.size).cells.lookup cy = some ay)
    (mx : μ ax = some ox) (my : μ ay = some oy) (dx : ox.data = .cell (some vl)) (dy : oy.data = .cell (some vh)) (bx : (cx == ("__debug__" : Str)) = false) (by' : (cy == ("__debug__" : Str)) = false)
    (q : ∀ s₂ g₂ v, g.le g₂ → Ls g₂ v ((answers (ahead ++ [x, y]) qs).map .bool) → At b g₀ s (fun _ => False) s.heap.objs.size m g₂ μ s₂ → Q v s₂) :
    wpAny (model prog w) A (eval (.Call (.Name "_law_answers" p1) [.BinOp (.Name "ahead" p2) .Add (.List [.Name cx p3, .Name cy p4] p5) p6, .Name "questions" p7] [] pos) (lawEnv w.params s.heap.objs.size)) Q (fun _ _ => False) s' := by
  refine callG_ C h (by rfl) (by rfl) (by rfl) (by rfl) (by decide) (by rfl) (by rfl) (by rfl) ?_
  refine argCons_ (binE_ ?_)
  refine name_ h (by rfl) (by rfl) (by rfl) ma ?_
  refine List_ (argCons_ ?_)
  refine nameC_ h kx (by kernel_rfl) ex mx dx ?_ bx
  refine argCons_ (nameC_ h ky (by kernel_rfl) ey my dy ?_ by')
  refine args_nil (newList_ h (.cons rx (.cons ry .nil)) (fun s2 g2 v2 hle2 r2 A₂ => ?_) (by simp))
  refine addLst_ A₂ (ra.mono hle2) r2 (by simp; omega) fun s3 g3 v3 hle3 A₃ r3 => ?_
  refine argCons_ (name_ A₃ (by rfl) (by rfl) (by rfl) mq (args_nil ⟨A₃.keeps, ?_⟩))
  refine answers_ (calls := ahead ++ [x, y]) (R.less (by omega) (by omega)) C A₃.know (by simpa using r3) (rq.mono (hle2.trans hle3)) (fun c hc => (good c hc).q) okq (by simp; omega) (by omega) fun s4 g4 v4 G hv => ?_
  exact q _ _ _ (hle2.trans (hle3.trans G.le)) hv (A₃.grown G)

set_option maxHeartbeats 4000000 in
/-- first, second and differ -/
theorem turnB_ {va vl vh vq : Value} {ahead : List Cl} {low high : Cl} {qs : List (Way × Int)} {mw : List Cl × List Cl} {rest : List Stmt} {Q : Flow → Shared → Prop} (R : Room A 5 100) (C : Cx w b.heap mg mb) (hrest : (lawBody w.params).drop 5 = rest)
    (h : At b g₀ s (fun _ => False) s.heap.objs.size m g μ s') (ma : m "ahead" = some va) (mq : m "questions" = some vq) (ra : Ls g va (ahead.map encC)) (rl : Rd g vl (encC low)) (rh : Rd g vh (encC high)) (rq : Ls g vq (qs.map encQ))
    (good : ∀ c ∈ ahead, Good c) (gl : Good low) (gh : Good high) (okq : ∀ z ∈ qs, OkW z.1) (hl : ahead.length ≤ 66) (hlq : qs.length ≤ 300) (okm : ∀ c ∈ mw.1, OkW c.2.1) (okw : ∀ c ∈ mw.2, OkW c.2.1) (lm : mw.1.length ≤ 300) (lw : mw.2.length ≤ 300)
    (cs : Cells g μ s.heap.objs.size mw (some vl) (some vh))
    (q : ∀ s₂ g₂ v1 v2 vd, g.le g₂ → Ls g₂ v1 ((answers (ahead ++ [low, high]) qs).map .bool) → Ls g₂ v2 ((answers (ahead ++ [high, low]) qs).map .bool) → Ls g₂ vd ((qs.map fun y => differ low high mw.1 mw.2 y.1 y.2).map .bool) →
      At b g₀ s (fun _ => False) s.heap.objs.size (bnd (bnd (bnd m "first" v1) "second" v2) "differ" vd) g₂ μ s₂ →
      wpAny (model prog w) A (execs rest (lawEnv w.params s.heap.objs.size)) Q (fun _ _ => False) s₂) :
    wpAny (model prog w) A (execs ((lawBody w.params).drop 2) (lawEnv w.params s.heap.objs.size)) Q (fun _ _ => False) s' := by
  subst hrest
  have hU : A.units + 70 < cLine := by have := R.units; omega
  obtain ⟨p3, m3, d3⟩ := cs.c3
  obtain ⟨p4, m4, d4⟩ := cs.c4
  obtain ⟨p1, u1, m1, d1, r1⟩ := cs.c1
  obtain ⟨p2, u2, m2, d2, r2⟩ := cs.c2
  have goods : ∀ x y, (x = low ∨ x = high) → (y = low ∨ y = high) → ∀ c ∈ ahead ++ [x, y], Good c := by
    intro x y hx hy c hc
    rcases List.mem_append.mp hc with hc | hc
    · exact good c hc
    · simp only [List.mem_cons, List.not_mem_nil, or_false] at hc
      rcases hc with rfl | rfl
      · rcases hx with rfl | rfl <;> assumption
      · rcases hy with rfl | rfl <;> assumption
  refine exCons_ (asgName_ ?_)
  refine answersTwo_ R C h ma mq ra rl rh rq (goods _ _ (.inl rfl) (.inr rfl)) okq hl hlq (by kernel_rfl) (by kernel_rfl) (by kernel_rfl) (by kernel_rfl) m3 m4 d3 d4 (by decide) (by decide) fun s3 g3 v1 hle3 hv1 A₃ => ?_
  refine store_ A₃ (by rfl) (by rfl) (by rfl) fun s4 A₄ => ?_
  refine exCons_ (asgName_ ?_)
  refine answersTwo_ R C A₄ (by exact ma) (by exact mq) (ra.mono hle3) (rh.mono hle3) (rl.mono hle3) (rq.mono hle3) (goods _ _ (.inr rfl) (.inl rfl)) okq hl hlq (by kernel_rfl) (by kernel_rfl) (by kernel_rfl) (by kernel_rfl) m4 m3 d4 d3 (by decide) (by decide) fun s5 g5 v2 hle5 hv2 A₅ => ?_
  refine store_ A₅ (by rfl) (by rfl) (by rfl) fun s6 A₆ => ?_
  have hle35 := hle3.trans hle5
  refine exCons_ ?_
  refine compAssign_ (α := Way × Int) (by kernel_rfl) (by rfl) (by decide) (by rfl) (by decide) (by rfl) (by rfl) (by intro _; rfl) ?_
  refine name_ A₆ (by rfl) (by rfl) (by rfl) (by exact mq) ?_
  refine iterL_ R.hd A₆ (rq.mono hle35) fun s7 I o St hI A₇ It hst => ?_
  refine ⟨qs, encQ, fun y => some (.bool (differ low high mw.1 mw.2 y.1 y.2)), _, _, _, _, _, _, μ, I, o, St, rfl, It, A₇, A₆.freshM (by omega), hst, by omega, ?_, ?_⟩
  · intro C' y v mc g' μ' s'' hmem hr hle hμ B₁
    have hle' := hle35.trans hle
    unfold CompTurn
    refine assign2_ R.hd B₁ hr (by rfl) (by rfl) (by rfl) (by rfl) fun s8 v3 v4 r3 r4 B₂ => ?_
    refine ifs0_ ?_
    simp only [if_true]
    refine callG_ C B₂ (by rfl) (by rfl) (by rfl) (by rfl) (by decide) (by rfl) (by rfl) (by rfl) ?_
    refine argCons_ (nameC_ B₂ (by kernel_rfl) (by kernel_rfl) (by kernel_rfl) (hμ _ _ m3) d3 ?_)
    refine argCons_ (nameC_ B₂ (by kernel_rfl) (by kernel_rfl) (by kernel_rfl) (hμ _ _ m4) d4 ?_)
    refine argCons_ (nameC_ B₂ (by kernel_rfl) (by kernel_rfl) (by kernel_rfl) (hμ _ _ m1) d1 ?_)
    refine argCons_ (nameC_ B₂ (by kernel_rfl) (by kernel_rfl) (by kernel_rfl) (hμ _ _ m2) d2 ?_)
    refine argCons_ (name_ B₂ (by rfl) (by rfl) (by rfl) (by rfl) ?_)
    refine argCons_ (name_ B₂ (by rfl) (by rfl) (by rfl) (by rfl) (args_nil ⟨B₂.keeps, ?_⟩))
    refine differ_ (way := y.1) (flag := y.2) (R.less (by omega) (by omega)) C B₂.know (rl.mono hle') (rh.mono hle') (r1.mono hle') (r2.mono hle') r3 r4 gl.q.ok gh.q.ok okm okw (okq y hmem) lm lw fun s9 K9 => ?_
    exact ⟨_, _, _, Kn.le.refl _, B₂.kept K9, rfl, .bool _⟩
  · intro s8 g8 r8 hle8 A₈ hr8
    refine q s8 g8 v1 v2 r8 (hle35.trans hle8) (hv1.mono (hle5.trans hle8)) (hv2.mono hle8) ?_ A₈
    have e : qs.filterMap (fun y => some (PyData.bool (differ low high mw.1 mw.2 y.1 y.2))) = (qs.map fun y => differ low high mw.1 mw.2 y.1 y.2).map PyData.bool := by
      rw [fm_some, List.map_map]
      rfl
    rw [← e]
    exact hr8
end
end Mine

namespace Mine
section
variable {prog : Program} {w : World} {A : Around} {E : Value → Shared → Prop} {b s s' s₀ : Shared} {g₀ g g' μ μ' μ'' : Kn} {fp : Addr → Prop} {L : Addr} {m : Str → Option Value} {env : Env} {mg mb : Str → Option Value}

/-- list[k] with k a name, a list of bools -/
theorem atK_ {x : Str} {p1 p2 pos : Pos} {v : Value} {bs : List Bool} {k : Nat} {t : Tok} {d : Bool} {Q : Value → Shared → Prop} (h : At b g₀ s₀ fp L m g μ s) (kx : env.kindOf x = some .local) (kk : env.kindOf "k" = some .local) (hk : env.scope.kind = .function) (hL : env.locals = L)
    (mx : m x = some v) (mk : m "k" = some (.int (k : Nat) t)) (hv : Ls g v (bs.map .bool)) (hlt : k < 1000) (hd : bs[k]? = some d) (bx : (x == ("__debug__" : Str)) = false) (q : Q (.bool d) s) : wpAny (model prog w) A (eval (.Subscript (.Name x p1) (.Name "k" p2) pos) env) Q E s := by
  refine Subscript_ (name_ h kx hk hL mx ?_ bx)
  refine name_ h kk hk hL mk ?_
  refine itemLst_ (k := k) (d := .bool d) h hv hlt (by rw [List.getElem?_map, hd]; rfl) (fun x hx => ?_) (by intro _; with_unfolding_all rfl)
  rw [hx.boolE]
  exact q

set_option maxHeartbeats 4000000 in
/-- the loop over the questions -/
theorem turnC_ {vl vh vq v1 v2 vd : Value} {low high : Cl} {qs : List (Way × Int)} {f1 f2 dd : List Bool} {mw : List Cl × List Cl} {rest : List Stmt} {Q : Flow → Shared → Prop} (R : Room A 5 100) (C : Cx w b.heap mg mb) (hrest : (lawBody w.params).drop 6 = rest)
    (h : At b g₀ s (fun _ => False) s.heap.objs.size m g μ s') (mq : m "questions" = some vq) (n1 : m "first" = some v1) (n2 : m "second" = some v2) (nd : m "differ" = some vd) (rq : Ls g vq (qs.map encQ)) (rl : Rd g vl (encC low))
    (r1 : Ls g v1 (f1.map .bool)) (r2 : Ls g v2 (f2.map .bool)) (rd : Ls g vd (dd.map .bool)) (l1 : f1.length = qs.length) (l2 : f2.length = qs.length) (ld : dd.length = qs.length) (hlq : qs.length ≤ 300)
    (two : ∀ (k : Nat) (a c d : Bool), f1[k]? = some a → f2[k]? = some c → dd[k]? = some d → (d = true → a = (low.1 == 2) ∧ c = (low.1 != 2)) ∧ (d = false → a = c))
    (cs : Cells g μ s.heap.objs.size mw (some vl) (some vh))
    (q : ∀ s₂ g₂ μ₂ m₂, g.le g₂ → (∀ x o, μ x = some o → μ₂ x = some o) → (∀ x : Str, x ≠ "k" → m₂ x = m x) → At b g₀ s (fun _ => False) s.heap.objs.size m₂ g₂ μ₂ s₂ →
      wpAny (model prog w) A (execs rest (lawEnv w.params s.heap.objs.size)) Q (fun _ _ => False) s₂) :
    wpAny (model prog w) A (execs ((lawBody w.params).drop 5) (lawEnv w.params s.heap.objs.size)) Q (fun _ _ => False) s' := by
  subst hrest
  have hU : A.units + 70 < cLine := by have := R.units; omega
  obtain ⟨p3, m3, d3⟩ := cs.c3
  refine exCons_ (wpAny_For ?_)
  refine Call_Name1 ?_ (by rfl)
  refine builtin_ C h (by rfl) (by rfl) (by rfl) (by rfl) (by rfl) boot_range (by decide) ?_
  refine callWith_type1 ?_
  refine len_lst_ C h.keeps (by rfl) (by rfl) (by rfl) (by rfl) (by rfl) ?_
  refine name_ h (by rfl) (by rfl) (by rfl) mq ?_
  obtain ⟨aq, vs, nn, rfl, hgq, hrq⟩ := id rq
  have hlen := hrq.length
  refine ⟨aq, vs, nn, qs.length, rfl, h.inn _ _ hgq, by rw [hlen, List.length_map], by omega, fun tk t => ?_⟩
  refine range1_ (h.toks (tk := tk)) fun s2 g2 v3 hle2 A₂ r3 => ?_
  have hlt : ∀ x o, μ x = some o → x ≠ s2.heap.objs.size := fun x o e => Nat.ne_of_lt (Heap.lt_size (A₂.mine x o e).1)
  refine for_range_ (fun I k m' g' μ' => (∀ x o, μ x = some o → μ' x = some o) ∧ (∀ x : Str, x ≠ "k" → m' x = m x)) R.hd A₂ r3 (by omega) (by omega) (by omega) (by omega) (by omega) ?_ ?_ ?_ ?_
  · intro I μ' eI hμ'
    exact ⟨fun x o e => (hμ' x (eI ▸ hlt x o e)).trans e, fun x _ => rfl⟩
  · rintro I k m' g' μ₁ μ₂ eI hμ' ⟨j1, j2⟩
    exact ⟨fun x o e => (hμ' x (eI ▸ hlt x o e)).trans (j1 x o e), j2⟩
  · rintro I k tk' m' g' μ' s3 eI hk hle ⟨j1, j2⟩ D₁
    have hk' : k < qs.length := by omega
    obtain ⟨a, ea⟩ : ∃ a, f1[k]? = some a := ⟨_, List.getElem?_eq_getElem (by omega)⟩
    obtain ⟨c, ec⟩ : ∃ c, f2[k]? = some c := ⟨_, List.getElem?_eq_getElem (by omega)⟩
    obtain ⟨d, ed⟩ : ∃ d, dd[k]? = some d := ⟨_, List.getElem?_eq_getElem (by omega)⟩
    obtain ⟨t1, t2⟩ := two k a c d ea ec ed
    have e00 : (0 : Int) + (k : Int) = ((k : Nat) : Int) := by omega
    rw [e00]
    have hle' := hle2.trans hle
    refine assignN_ D₁ (by rfl) (by rfl) (by rfl) fun s4 D₂ => ?_
    have mk : (bnd m' "k" (.int ((k : Nat) : Int) tk')) "k" = some (.int ((k : Nat) : Int) tk') := by rfl
    have q1 : (bnd m' "k" (.int ((k : Nat) : Int) tk')) "first" = some v1 := (j2 "first" (by decide)).trans n1
    have q2 : (bnd m' "k" (.int ((k : Nat) : Int) tk')) "second" = some v2 := (j2 "second" (by decide)).trans n2
    have qd : (bnd m' "k" (.int ((k : Nat) : Int) tk')) "differ" = some vd := (j2 "differ" (by decide)).trans nd
    -- the first test
    refine exCons_ (wpAny_If ?_)
    refine wpAny_mono (E := fun _ _ => False) (Q := fun v s' => v = false ∧ ∃ g'', g'.le g'' ∧ At b g₀ s (fun _ => False) s.heap.objs.size (bnd m' "k" (.int ((k : Nat) : Int) tk')) g'' μ' s') ?_ (fun v s5 h5 => ?_) (fun _ _ e => e.elim)
    · refine isTrue_and (isTrue_plain ?_ (by rfl))
      refine atK_ D₂ (by rfl) (by rfl) (by rfl) (by rfl) qd mk (rd.mono hle') (by omega) ed (by decide) (wpAny_truthy_bool ?_)
      cases d with
      | false => exact ⟨rfl, g', Kn.le.refl _, D₂⟩
      | true =>
        simp only [if_true]
        obtain ⟨rfl, rfl⟩ := t1 rfl
        refine isTrue_and (cmpT_ (tupE_ (argCons_ ?_)))
        refine atK_ D₂ (by rfl) (by rfl) (by rfl) (by rfl) q1 mk (r1.mono hle') (by omega) ea (by decide) ?_
        refine argCons_ (atK_ D₂ (by rfl) (by rfl) (by rfl) (by rfl) q2 mk (r2.mono hle') (by omega) ec (by decide) ?_)
        refine args_nil (newTuple_ D₂ (.cons (.bool _) (.cons (.bool _) .nil)) (fun s5 g5 v5 hle5 r5 D₃ => ?_) (by simp))
        refine tupE_ (argCons_ (cmpE_ (place_ (k := 0) ?_)))
        refine nameC_ D₃ (by kernel_rfl) (by kernel_rfl) (by kernel_rfl) (j1 _ _ m3) d3 ?_
        refine place_in D₃ (rl.mono (hle'.trans hle5)) (by simp) rfl fun s6 x6 r6 D₄ => ?_
        obtain ⟨t6, rfl⟩ := r6.intE
        refine int_ D₄ fun s7 t7 D₅ => eq_int ?_
        refine argCons_ (cmpE_ (place_ (k := 0) ?_))
        refine nameC_ D₅ (by kernel_rfl) (by kernel_rfl) (by kernel_rfl) (j1 _ _ m3) d3 ?_
        refine place_in D₅ (rl.mono (hle'.trans hle5)) (by simp) rfl fun s8 x8 r8 D₆ => ?_
        obtain ⟨t8, rfl⟩ := r8.intE
        refine int_ D₆ fun s9 t9 D₇ => ne_int ?_
        refine args_nil (newTuple_ D₇ (.cons (.bool _) (.cons (.bool _) .nil)) (fun s10 g10 v10 hle10 r10 D₈ => ?_) (by simp))
        refine ne_ D₈ (r5.mono hle10) r10 (by rfl) (by rfl) (by omega) ?_
        have e : PyData.eqv (.tuple [.bool (low.1 == 2), .bool (low.1 != 2)]) (.tuple [.bool (low.1 == 2), .bool (low.1 != 2)]) = true := by
          simp [PyData.eqv, PyData.eqvAll]
        rw [e]
        exact wpAny_truthy_bool ⟨rfl, g10, hle5.trans hle10, D₈⟩
    obtain ⟨rfl, g5, hle5, D₃⟩ := h5
    simp only [Bool.false_eq_true, if_false]
    refine wpAny_execs_nil ?_
    have hle'5 := hle'.trans hle5
    refine exCons_ (wpAny_If ?_)
    refine wpAny_mono (E := fun _ _ => False) (Q := fun v s' => v = false ∧ At b g₀ s (fun _ => False) s.heap.objs.size (bnd m' "k" (.int ((k : Nat) : Int) tk')) g5 μ' s') ?_ (fun v s6 h6 => ?_) (fun _ _ e => e.elim)
    · refine isTrue_and (isTrue_not (isTrue_plain ?_ (by rfl)))
      refine atK_ D₃ (by rfl) (by rfl) (by rfl) (by rfl) qd mk (rd.mono hle'5) (by omega) ed (by decide) (wpAny_truthy_bool ?_)
      cases d with
      | true => exact ⟨rfl, D₃⟩
      | false =>
        simp only [Bool.not_false, if_true]
        have := t2 rfl
        subst this
        refine isTrue_and (cmpT_ ?_)
        refine atK_ D₃ (by rfl) (by rfl) (by rfl) (by rfl) q1 mk (r1.mono hle'5) (by omega) ea (by decide) ?_
        refine atK_ D₃ (by rfl) (by rfl) (by rfl) (by rfl) q2 mk (r2.mono hle'5) (by omega) ec (by decide) ?_
        refine ne_ D₃ (.bool a) (.bool a) (by rfl) (by rfl) (by omega) ?_
        have e : PyData.eqv (.bool a) (.bool a) = true := by simp [PyData.eqv]
        rw [e]
        exact wpAny_truthy_bool ⟨rfl, D₃⟩
    obtain ⟨rfl, D₄⟩ := h6
    simp only [Bool.false_eq_true, if_false]
    refine wpAny_execs_nil (wpAny_execs_nil ?_)
    refine ⟨_, _, _, ?_, D₄, rfl, hle5⟩
    refine ⟨j1, fun x hx => ?_⟩
    show (if x = "k" then _ else m' x) = m x
    rw [if_neg hx]
    exact j2 x hx
  · rintro I m' g' μ' s3 eI hle ⟨j1, j2⟩ D₁
    exact q s3 g' μ' m' (hle2.trans hle) j1 j2 D₁
end
end Mine

namespace Mine
section
variable {prog : Program} {w : World} {A : Around} {E : Value → Shared → Prop} {b s s' s₀ : Shared} {g₀ g g' μ μ' μ'' : Kn} {fp : Addr → Prop} {L : Addr} {m : Str → Option Value} {env : Env} {mg mb : Str → Option Value}

set_option maxHeartbeats 4000000 in
/-- the whole answered again, and the marks behind -/
theorem turnD_ {va vc vl vh vq vw vd : Value} {calls : List Cl} {i : Nat} {c1 c2 low high : Cl} {qs : List (Way × Int)} {dd : List Bool} {mw : List Cl × List Cl} {tn : Tok} {Q : Flow → Shared → Prop} (R : Room A 5 100) (C : Cx w b.heap mg mb)
    (h : At b g₀ s (fun _ => False) s.heap.objs.size m g μ s') (nn : m "n" = some (.int (1 + (i : Int)) tn)) (nc : m "calls" = some vc) (na : m "ahead" = some va) (mq : m "questions" = some vq) (nd : m "differ" = some vd) (nw : m "whole" = some vw)
    (rc : Ls g vc (calls.map encC)) (ra : Ls g va ((calls.take i).map encC)) (rq : Ls g vq (qs.map encQ)) (rd : Ls g vd (dd.map .bool)) (rw' : Ls g vw ((answers calls qs).map .bool)) (rl : Rd g vl (encC low)) (rh : Rd g vh (encC high))
    (good : ∀ c ∈ calls, Good c) (hl : calls.length ≤ 66) (h1 : calls[i]? = some c1) (h2 : calls[i + 1]? = some c2) (okq : ∀ z ∈ qs, OkW z.1) (hlq : qs.length ≤ 300)
    (three : dd.any id = false → ¬ (low.1 = 2 ∧ high.1 = 3) → answers (calls.take i ++ [c2, c1] ++ calls.drop (i + 2)) qs = answers calls qs)
    (okm : ∀ c ∈ mw.1, OkW c.2.1) (lm : mw.1.length ≤ 300) (lw : mw.2.length ≤ 300) (cs : Cells g μ s.heap.objs.size mw (some vl) (some vh))
    (q : ∀ s₂ g₂ μ₂, g.le g₂ → (∀ x, x ≠ s.heap.objs.size + 2 → x ≠ s.heap.objs.size + 3 → μ₂ x = μ x) → Cells g₂ μ₂ s.heap.objs.size (behind mw.1 mw.2 c1) (some vl) (some vh) → At b g₀ s (fun _ => False) s.heap.objs.size m g₂ μ₂ s₂ → Q .next s₂) :
    wpAny (model prog w) A (execs ((lawBody w.params).drop 6) (lawEnv w.params s.heap.objs.size)) Q (fun _ _ => False) s' := by
  have hU : A.units + 70 < cLine := by have := R.units; omega
  obtain ⟨p3, m3, d3⟩ := cs.c3
  obtain ⟨p4, m4, d4⟩ := cs.c4
  obtain ⟨p1, u1, m1, d1, r1⟩ := cs.c1
  obtain ⟨p2, u2, m2, d2, r2⟩ := cs.c2
  have g1 := good c1 (List.mem_of_getElem? h1)
  have g2 := good c2 (List.mem_of_getElem? h2)
  have hi2 : i + 2 ≤ calls.length := by
    obtain ⟨h, _⟩ := List.getElem?_eq_some_iff.mp h2
    omega
  have en0 : (1 + (i : Int)) = ((i + 1 : Nat) : Int) := by omega
  have en1 : ((i + 1 : Nat) : Int) - 1 = ((i : Nat) : Int) := by omega
  have en2 : ((i + 1 : Nat) : Int) + 1 = ((i + 2 : Nat) : Int) := by omega
  rw [en0] at nn
  have e1c : (calls.map encC)[i]? = some (encC c1) := by rw [List.getElem?_map, h1]; rfl
  have e2c : (calls.map encC)[i + 1]? = some (encC c2) := by rw [List.getElem?_map, h2]; rfl
  -- calls[n - 1]
  have prev : ∀ {g' s'' μ'} {P : Value → Shared → Prop} {q1 q2 q3 q4 q5 : Pos}, g.le g' → At b g₀ s (fun _ => False) s.heap.objs.size m g' μ' s'' → (∀ s3 x, At b g₀ s (fun _ => False) s.heap.objs.size m g' μ' s3 → Rd g' x (encC c1) → P x s3) →
      wpAny (model prog w) A (eval (.Subscript (.Name "calls" q1) (.BinOp (.Name "n" q2) .Sub (.Constant (.int 1) 0 q3) q4) q5) (lawEnv w.params s.heap.objs.size)) P (fun _ _ => False) s'' := by
    intro g' s'' μ' P q1 q2 q3 q4 q5 hle D k
    refine Subscript_ (name_ D (by rfl) (by rfl) (by rfl) nc ?_)
    refine binE_ (name_ D (by rfl) (by rfl) (by rfl) nn ?_)
    refine int_ D fun s3 t3 D3 => sub_int ?_
    rw [en1]
    exact itemLst_ (k := i) (d := encC c1) (D3.toks (tk := s3.toks + 1)) (rc.mono hle) (by omega) e1c (fun x hx => k _ x D3.toks hx) (by intro _; with_unfolding_all rfl)
  refine exCons_ ?_
  refine wpAny_mono (E := fun _ _ => False) (Q := fun fl s' => fl = .next ∧ ∃ g'', g.le g'' ∧ At b g₀ s (fun _ => False) s.heap.objs.size m g'' μ s') (wpAny_If ?_) (fun fl s3 h3 => ?_) (fun _ _ e => e.elim)
  · refine wpAny_mono (E := fun _ _ => False) (Q := fun v s' => (v = true → dd.any id = false ∧ ¬ (low.1 = 2 ∧ high.1 = 3)) ∧ ∃ g'', g.le g'' ∧ At b g₀ s (fun _ => False) s.heap.objs.size m g'' μ s') ?_ (fun v s3 h3 => ?_) (fun _ _ e => e.elim)
    · refine isTrue_and (cmpT_ (bool_ ?_))
      refine name_ h (by rfl) (by rfl) (by rfl) nd ?_
      refine notInBs_ h.inn rd (by omega) (wpAny_truthy_bool ?_)
      cases ea : dd.any id with
      | true => exact ⟨fun e => (by cases e), g, Kn.le.refl _, h⟩
      | false =>
        simp only [Bool.not_false, if_true]
        refine isTrue_and (cmpT_ (tupE_ (argCons_ (place_ (k := 0) ?_))))
        refine nameC_ h (by kernel_rfl) (by kernel_rfl) (by kernel_rfl) m3 d3 ?_
        refine place_in h rl (by simp) rfl fun s3 x3 r3 A₃ => ?_
        refine argCons_ (place_ (k := 0) ?_)
        refine nameC_ A₃ (by kernel_rfl) (by kernel_rfl) (by kernel_rfl) m4 d4 ?_
        refine place_in A₃ rh (by simp) rfl fun s4 x4 r4 A₄ => ?_
        refine args_nil (newTuple_ A₄ (.cons r3 (.cons r4 .nil)) (fun s5 g5 v5 hle5 r5 A₅ => ?_) (by simp))
        refine tupE_ (argCons_ (int_ A₅ fun s6 t6 A₆ => ?_))
        refine argCons_ (int_ A₆ fun s7 t7 A₇ => ?_)
        refine args_nil (newTuple_ A₇ (.cons (.int _ _) (.cons (.int _ _) .nil)) (fun s8 g8 v8 hle8 r8 A₈ => ?_) (by simp))
        refine ne_ A₈ (r5.mono hle8) r8 (by rfl) (by rfl) (by omega) ?_
        have e : PyData.eqv (.tuple [.int low.1, .int high.1]) (.tuple [.int 2, .int 3]) = (low.1 == 2 && high.1 == 3) := by
          simp [PyData.eqv, PyData.eqvAll]
        rw [e]
        refine wpAny_truthy_bool ?_
        have done : (!(low.1 == 2 && high.1 == 3)) = true → dd.any id = false ∧ ¬ (low.1 = 2 ∧ high.1 = 3) := fun e => ⟨ea, fun ⟨a, c⟩ => by rw [a, c] at e; cases e⟩
        cases eb : (!(low.1 == 2 && high.1 == 3)) with
        | false => exact ⟨fun e => (by cases e), g8, hle5.trans hle8, A₈⟩
        | true => exact isTrue_and_nil ⟨fun _ => ⟨trivial, (done eb).2⟩, g8, hle5.trans hle8, A₈⟩
    obtain ⟨hv, g3, hle3, A₃⟩ := h3
    cases v with
    | false =>
      simp only [Bool.false_eq_true, if_false]
      exact wpAny_execs_nil ⟨rfl, g3, hle3, A₃⟩
    | true =>
      simp only [if_true]
      obtain ⟨hd1, hd2⟩ := hv rfl
      have ewhole := three hd1 hd2
      refine exCons_ (wpAny_If (cmpT_ ?_))
      refine callG_ C A₃ (by rfl) (by rfl) (by rfl) (by rfl) (by decide) (by rfl) (by rfl) (by rfl) ?_
      refine argCons_ (binE_ (binE_ ?_))
      refine name_ A₃ (by rfl) (by rfl) (by rfl) na ?_
      refine List_ (argCons_ (Subscript_ ?_))
      refine name_ A₃ (by rfl) (by rfl) (by rfl) nc ?_
      refine name_ A₃ (by rfl) (by rfl) (by rfl) nn ?_
      refine itemLst_ (k := i + 1) (d := encC c2) A₃ (rc.mono hle3) (by omega) e2c (fun x2 rx2 => ?_) (by intro _; with_unfolding_all rfl)
      refine argCons_ (prev hle3 A₃ fun s4 x1 A₄ rx1 => ?_)
      refine args_nil (newList_ A₄ (.cons rx2 (.cons rx1 .nil)) (fun s5 g5 v5 hle5 r5 A₅ => ?_) (by simp))
      refine addLst_ A₅ ((ra.mono hle3).mono hle5) r5 (by simp; omega) fun s6 g6 v6 hle6 A₆ r6 => ?_
      have hle36 := hle3.trans (hle5.trans hle6)
      refine sliceLst_ ?_ (by intro _ _; rfl)
      refine name_ A₆ (by rfl) (by rfl) (by rfl) nc ?_
      refine evalPart_some_step (binE_ ?_)
      refine name_ A₆ (by rfl) (by rfl) (by rfl) nn ?_
      refine int_ A₆ fun s7 t7 A₇ => add_int ?_
      rw [en2]
      refine evalPart_none_step ?_
      refine pick_in (calls.map encC) (some ((i + 2 : Nat) : Int)) none ((calls.drop (i + 2)).map encC) (A₇.toks (tk := s7.toks + 1)) (rc.mono hle36) (by simp; omega) (.int _ _) .none (fun vs hr => (by have := pick_from_ (k := i + 2) vs hr; rwa [← List.map_drop] at this)) fun s8 g8 l8 vs8 hle8 A₈ hg8 hr8 _ => ?_
      refine addLst_ A₈ (r6.mono hle8) ⟨l8, vs8, 0, rfl, hg8, hr8⟩ (by simp; omega) fun s9 g9 v9 hle9 A₉ r9 => ?_
      have hle39 := hle36.trans (hle8.trans hle9)
      refine argCons_ (name_ A₉ (by rfl) (by rfl) (by rfl) mq (args_nil ⟨A₉.keeps, ?_⟩))
      have r9' : Ls g9 v9 ((calls.take i ++ [c2, c1] ++ calls.drop (i + 2)).map encC) := by simpa using r9
      have gall : ∀ c ∈ calls.take i ++ [c2, c1] ++ calls.drop (i + 2), Good c := by
        intro c hc
        rcases List.mem_append.mp hc with hc | hc
        · rcases List.mem_append.mp hc with hc | hc
          · exact good c (List.mem_of_mem_take hc)
          · simp only [List.mem_cons, List.not_mem_nil, or_false] at hc
            rcases hc with rfl | rfl <;> assumption
        · exact good c (List.mem_of_mem_drop hc)
      refine answers_ (R.less (by omega) (by omega)) C A₉.know r9' (rq.mono hle39) (fun c hc => (gall c hc).q) okq (by simp; omega) (by omega) fun s10 g10 v10 G hv10 => ?_
      have A₁₀ := A₉.grown G
      refine name_ A₁₀ (by rfl) (by rfl) (by rfl) nw ?_
      rw [ewhole] at hv10
      refine neBs_ A₁₀.inn hv10 (rw'.mono (hle39.trans G.le)) (by omega) (wpAny_truthy_bool ?_)
      simp only [BEq.rfl, Bool.not_true, Bool.false_eq_true, if_false]
      exact wpAny_execs_nil (wpAny_execs_nil ⟨rfl, g10, hle39.trans G.le, A₁₀⟩)
  obtain ⟨rfl, g3, hle3, A₃⟩ := h3
  refine exCons_ (Assign_Tuple ?_ (by rfl) (by rfl))
  refine callG_ C A₃ (by rfl) (by rfl) (by rfl) (by rfl) (by decide) (by rfl) (by rfl) (by rfl) ?_
  refine argCons_ (nameC_ A₃ (by kernel_rfl) (by kernel_rfl) (by kernel_rfl) m1 d1 ?_)
  refine argCons_ (nameC_ A₃ (by kernel_rfl) (by kernel_rfl) (by kernel_rfl) m2 d2 ?_)
  refine argCons_ (prev hle3 A₃ fun s4 x1 A₄ rx1 => ?_)
  refine args_nil ⟨A₄.keeps, ?_⟩
  refine behind_ (R.less (by omega) (by omega)) C A₄.know (r1.mono hle3) (r2.mono hle3) rx1 g1.q.ok okm lm lw fun s5 g5 a5 w1 w2 n5 G hg5 q1 q2 => ?_
  have A₅ := A₄.grown G
  refine assignTupC_ (cx := s.heap.objs.size + 2) (cy := s.heap.objs.size + 3) R.hd A₅ hg5 (by kernel_rfl) (by kernel_rfl) (by kernel_rfl) (by kernel_rfl) (by kernel_rfl) (Nat.ne_of_gt (Nat.lt_succ_self _)) m1 m2 d1 d2 fun s6 o1 o2 e1 e2 A₆ => ?_
  refine wpAny_execs_nil ?_
  have n42 : s.heap.objs.size + 4 ≠ s.heap.objs.size + 2 := by omega
  have n43 : s.heap.objs.size + 4 ≠ s.heap.objs.size + 3 := by omega
  have n52 : s.heap.objs.size + 5 ≠ s.heap.objs.size + 2 := by omega
  have n53 : s.heap.objs.size + 5 ≠ s.heap.objs.size + 3 := by omega
  have n23 : s.heap.objs.size + 2 ≠ s.heap.objs.size + 3 := by omega
  refine q s6 g5 _ (hle3.trans G.le) (fun x h2 h3 => (upd_ne _ h3).trans (upd_ne _ h2)) ⟨⟨o1, w1, (upd_ne _ n23).trans (upd_self _ _ _), e1, q1⟩, ⟨o2, w2, upd_self _ _ _, e2, q2⟩, ⟨p3, (upd_ne _ n43).trans ((upd_ne _ n42).trans m3), d3⟩, ⟨p4, (upd_ne _ n53).trans ((upd_ne _ n52).trans m4), d4⟩⟩ A₆
end
end Mine

namespace Mine
section
variable {prog : Program} {w : World} {A : Around} {E : Value → Shared → Prop} {b s s' s₀ : Shared} {g₀ g g' μ μ' μ'' : Kn} {fp : Addr → Prop} {L : Addr} {m : Str → Option Value} {env : Env} {mg mb : Str → Option Value}

theorem for_range2_ {v : Value} {a c : Int} {target : Expr} {body : List Stmt} {Q : Flow → Shared → Prop} (J : Addr → Nat → (Str → Option Value) → Kn → Kn → Prop) (hh : A.handled = none)
    (h : At b g₀ s₀ fp L m g μ s) (hv : Rng g v a c) (ha : -1000 ≤ a) (ha' : a ≤ 1000) (hc : -1000 ≤ c) (hc' : c ≤ 1000) (hac : a ≤ c) (j0 : ∀ I μ', s.heap.objs.size = I → (∀ a, a ≠ I → μ' a = μ a) → J I 0 m g μ')
    (hJ : ∀ I i m g μ₁ μ₂, s.heap.objs.size = I → (∀ a, a ≠ I → μ₂ a = μ₁ a) → J I i m g μ₁ → J I i m g μ₂)
    (turn : ∀ I (i : Nat) t m' g' μ' s', s.heap.objs.size = I → (i : Int) < c - a → g.le g' → J I i m' g' μ' → At b g₀ s₀ fp L m' g' μ' s' → (∃ o, μ' I = some o) →
      wpAny (model prog w) A (assign target env (.int (a + i) t)) (fun _ s₂ => wpAny (model prog w) A (execs body env) (Turn b g₀ s₀ fp L I (J I (i + 1)) g' μ' Q) (fun _ _ => False) s₂) (fun _ _ => False) s')
    (done : ∀ I m' g' μ' s', s.heap.objs.size = I → g.le g' → J I (c - a).toNat m' g' μ' → At b g₀ s₀ fp L m' g' μ' s' → Q .next s') :
    wpAny (model prog w) A (pyIter v) (fun it s₂ => codeAny (model prog w) A (.forLoop target it body [] env) (fun r s' => match r with | .ok f => Q f s' | .error e => cameBackBy (model prog w) A env E e s') s₂) E s := by
  refine iter_range_ h hv ha ha' hc hc' hac fun s' I o hI hA ho => ?_
  have It := Iter.range (prog := prog) (w := w) hh (I := I) (g := g) a (c - a).toNat
  have hlen := rints_length a (c - a).toNat
  have hget : ∀ (i : Nat) (d : PyData), (rints a (c - a).toNat)[i]? = some d → i < (c - a).toNat ∧ d = .int (a + i) := fun i d => rints_get
  generalize rints a (c - a).toNat = ds at It hlen hget
  refine loop_ (J I) It hA (upd_self _ _ _) ho (j0 _ _ hI fun x hx => upd_ne _ hx) (fun i m g μ₁ μ₂ => hJ _ i m g μ₁ μ₂ hI) (fun i d v m' g' μ' s' hd hr hle hj hA' ho' => ?_) fun m' g' μ' s' hle hj hA' => ?_
  · obtain ⟨hi, e⟩ := hget i d hd
    subst e
    obtain ⟨t, rfl⟩ := hr.intE
    exact turn I i t m' g' μ' s' hI (by omega) hle hj hA' ho'
  · rw [hlen] at hj
    exact done I m' g' μ' s' hI hle hj hA'

set_option maxHeartbeats 4000000 in
/-- the loop of the law and its end -/
theorem lawLoop_ {vc vq vw : Value} {calls : List Cl} {qs : List (Way × Int)} {Q : Flow → Shared → Prop} (R : Room A 5 100) (C : Cx w b.heap mg mb)
    (h : At b g₀ s (fun _ => False) s.heap.objs.size m g μ s') (nc : m "calls" = some vc) (mq : m "questions" = some vq) (nw : m "whole" = some vw) (rc : Ls g vc (calls.map encC)) (rq : Ls g vq (qs.map encQ)) (rw' : Ls g vw ((answers calls qs).map .bool))
    (good : ∀ c ∈ calls, Good c) (hl : calls.length ≤ 66) (hl1 : 1 ≤ calls.length) (okq : ∀ z ∈ qs, OkW z.1) (hlq : qs.length ≤ 300) (hq : ∀ c ∈ calls, c.2 ∈ qs) (cs : Cells g μ s.heap.objs.size ([], []) none none)
    (q : ∀ s₂ g₂ μ₂ m₂, g.le g₂ → At b g₀ s (fun _ => False) s.heap.objs.size m₂ g₂ μ₂ s₂ → Q (.ret (.bool true)) s₂) :
    wpAny (model prog w) A (execs ((stmtsOf (fdAt w.params 104)).drop 7) (lawEnv w.params s.heap.objs.size)) Q (fun _ _ => False) s' := by
  have hU : A.units + 70 < cLine := by have := R.units; omega
  refine exCons_ (wpAny_For ?_)
  refine Call_Name rfl (builtin_ C h (by rfl) (by rfl) (by rfl) (by rfl) (by rfl) boot_range (by decide) ?_)
  refine PyProof.Rows.callWith_type (by rfl) (Calls.evalArgs_plain ?_)
  refine argCons_ (int_ h fun s2 t2 A₂ => ?_)
  refine argCons_ (len_lst_ C A₂.keeps (by rfl) (by rfl) (by rfl) (by rfl) (by rfl) ?_)
  refine name_ A₂ (by rfl) (by rfl) (by rfl) nc ?_
  obtain ⟨ac, vs, nn, rfl, hgc, hrc⟩ := id rc
  have hlen := hrc.length
  refine ⟨ac, vs, nn, calls.length, rfl, A₂.inn _ _ hgc, by rw [hlen, List.length_map], by omega, fun tk t => ?_⟩
  refine args_nil ?_
  refine range2_ (A₂.toks (tk := tk)) fun s3 g3 v3 hle3 A₃ r3 => ?_
  have hlt : ∀ x o, μ x = some o → x ≠ s3.heap.objs.size := fun x o e => Nat.ne_of_lt (Heap.lt_size (A₃.mine x o e).1)
  obtain ⟨q1, _, q1', _⟩ := cs.c1
  obtain ⟨q2, _, q2', _⟩ := cs.c2
  obtain ⟨q3, q3', _⟩ := cs.c3
  obtain ⟨q4, q4', _⟩ := cs.c4
  have hz2 := hlt _ _ q1'
  have hz3 := hlt _ _ q2'
  have hz4 := hlt _ _ q3'
  have hz5 := hlt _ _ q4'
  have swap : ∀ {g : Kn} {μ₁ μ₂ : Kn} {I : Addr} {mw : List Cl × List Cl} {lo hi : Option Value}, s3.heap.objs.size = I → (∀ a, a ≠ I → μ₂ a = μ₁ a) → Cells g μ₁ s.heap.objs.size mw lo hi → Cells g μ₂ s.heap.objs.size mw lo hi := by
    intro g μ₁ μ₂ I mw lo hi eI hμ c
    subst eI
    exact ⟨let ⟨p, u, a, b⟩ := c.c1; ⟨p, u, (hμ _ hz2).trans a, b⟩, let ⟨p, u, a, b⟩ := c.c2; ⟨p, u, (hμ _ hz3).trans a, b⟩, let ⟨p, a, b⟩ := c.c3; ⟨p, (hμ _ hz4).trans a, b⟩, let ⟨p, a, b⟩ := c.c4; ⟨p, (hμ _ hz5).trans a, b⟩⟩
  refine for_range2_ (fun I i m' g' μ' => (∃ mw lo hi, Bh calls i mw ∧ Cells g' μ' s.heap.objs.size mw lo hi) ∧ m' "calls" = some (.ref ac) ∧ m' "questions" = some vq ∧ m' "whole" = some vw) R.hd A₃ r3 (by omega) (by omega) (by omega) (by omega) (by omega) ?_ ?_ ?_ ?_
  · intro I μ' eI hμ'
    exact ⟨⟨([], []), none, none, Bh.zero calls, swap eI hμ' (cs.mono hle3)⟩, nc, mq, nw⟩
  · rintro I i m' g' μ₁ μ₂ eI hμ' ⟨⟨mw, lo, hi, j1, j2⟩, j3⟩
    exact ⟨⟨mw, lo, hi, j1, swap eI hμ' j2⟩, j3⟩
  · rintro I i tn m' g' μ' s4 eI hi hle ⟨⟨mw, lo, hi', b1, c1⟩, j3, j4, j5⟩ D₁ ⟨oI, hoI⟩
    have hle' := hle3.trans hle
    have hi1 : i + 1 < calls.length := by omega
    obtain ⟨x1, e1⟩ : ∃ x, calls[i]? = some x := ⟨_, List.getElem?_eq_getElem (by omega)⟩
    obtain ⟨x2, e2⟩ : ∃ x, calls[i + 1]? = some x := ⟨_, List.getElem?_eq_getElem hi1⟩
    have gx1 := good x1 (List.mem_of_getElem? e1)
    have gx2 := good x2 (List.mem_of_getElem? e2)
    have lmw := b1.len
    have okm : ∀ c ∈ mw.1, OkW c.2.1 := fun c hc => by
      obtain ⟨d, hd, e⟩ := b1.okm c hc
      rw [e]; exact (good d hd).q.ok
    have okw : ∀ c ∈ mw.2, OkW c.2.1 := fun c hc => by
      obtain ⟨d, hd, e⟩ := b1.okw c hc
      rw [e]; exact (good d hd).q.ok
    refine assignN_ D₁ (by rfl) (by rfl) (by rfl) fun s5 D₂ => ?_
    refine turnA_ (tn := tn) R C rfl D₂ (by rfl) (by exact j3) (rc.mono hle') good hl e1 e2 c1 fun s6 g6 μ6 va vl vh low high hle6 hk6 ra rl rh hsort hlh c6 D₃ => ?_
    have T := turned good hq e1 e2 hsort hlh b1
    have gl : Good low := hsort.elim (fun h => h.1 ▸ gx1) (fun h => h.1 ▸ gx2)
    have gh : Good high := hsort.elim (fun h => h.2 ▸ gx2) (fun h => h.2 ▸ gx1)
    have goodT : ∀ c ∈ calls.take i, Good c := fun c hc => good c (List.mem_of_mem_take hc)
    refine turnB_ (ahead := calls.take i) R C rfl D₃ (by rfl) (by exact j4) ra rl rh (rq.mono (hle'.trans hle6)) goodT gl gh okq (by rw [List.length_take]; omega) hlq okm okw (by omega) (by omega) c6 fun s7 g7 v1 v2 vd hle7 h1 h2 hd D₄ => ?_
    refine turnC_ (high := high) R C rfl D₄ (by exact j4) (by rfl) (by rfl) (by rfl) (rq.mono (hle'.trans (hle6.trans hle7))) (rl.mono hle7) h1 h2 hd (by simp [answers]) (by simp [answers]) (by simp) hlq ?_ (c6.mono hle7) fun s8 g8 μ8 m8 hle8 hk8 hm8 D₅ => ?_
    · intro k a c d ea ec ed
      unfold answers at ea ec
      rw [List.getElem?_map] at ea ec ed
      obtain ⟨y, hy, rfl⟩ := Option.map_eq_some_iff.mp ea
      rw [hy] at ec ed
      cases ec
      cases ed
      exact T.two y (List.mem_of_getElem? hy)
    have hle18 := hle'.trans (hle6.trans (hle7.trans hle8))
    have n1 : m8 "n" = some (.int (1 + (i : Int)) tn) := (hm8 "n" (by decide)).trans (by rfl)
    have n2 : m8 "calls" = some (.ref ac) := (hm8 "calls" (by decide)).trans (by exact j3)
    have n3 : m8 "ahead" = some va := (hm8 "ahead" (by decide)).trans (by rfl)
    have n4 : m8 "questions" = some vq := (hm8 "questions" (by decide)).trans (by exact j4)
    have n5 : m8 "differ" = some vd := (hm8 "differ" (by decide)).trans (by rfl)
    have n6 : m8 "whole" = some vw := (hm8 "whole" (by decide)).trans (by exact j5)
    refine turnD_ R C D₅ n1 n2 n3 n4 n5 n6 (rc.mono hle18) (ra.mono (hle7.trans hle8)) (rq.mono hle18) (hd.mono hle8) (rw'.mono hle18) (rl.mono (hle7.trans hle8)) (rh.mono (hle7.trans hle8)) good hl e1 e2 okq hlq ?_ okm (by omega) (by omega) ((c6.mono (hle7.trans hle8)).congr hk8) fun s9 g9 μ9 hle9 hk9 c9 D₆ => ?_
    · intro hany hn
      refine T.three (fun y hy => ?_) hn
      rw [List.any_map, List.any_eq_false] at hany
      have := hany y hy
      simpa using this
    subst eI
    have hI6 : μ6 s3.heap.objs.size = some oI := (hk6 _ (Ne.symm hz4) (Ne.symm hz5)).trans hoI
    have hI8 := hk8 _ _ hI6
    have hI9 : μ9 s3.heap.objs.size = some oI := (hk9 _ (Ne.symm hz2) (Ne.symm hz3)).trans hI8
    refine ⟨_, _, _, ?_, D₆, hI9.trans hoI.symm, hle6.trans (hle7.trans (hle8.trans hle9))⟩
    exact ⟨⟨_, _, _, b1.step e1 gx1.ok, c9⟩, n2, n4, n6⟩
  · rintro I m' g' μ' s4 eI hle ⟨_, j3, j4, j5⟩ D₁
    have hle' := hle3.trans hle
    refine exCons_ (retE_ (cmpE_ (bool_ ?_)))
    refine callG_ C D₁ (by rfl) (by rfl) (by rfl) (by rfl) (by decide) (by rfl) (by rfl) (by rfl) ?_
    refine argCons_ (binE_ ?_)
    refine name_ D₁ (by rfl) (by rfl) (by rfl) j3 ?_
    refine List_ (argCons_ (tupE_ (argCons_ (int_ D₁ fun s5 t5 D₂ => ?_))))
    refine argCons_ (tupE_ (argCons_ (str_ D₂ fun s6 t6 D₃ => ?_)))
    refine args_nil (newTuple_ D₃ (.cons (.str _ _) .nil) (fun s7 g7 v7 hle7 r7 D₄ => ?_) (by simp))
    refine argCons_ (int_ D₄ fun s8 t8 D₅ => ?_)
    refine args_nil (newTuple_ D₅ (.cons (.int _ _) (.cons r7 (.cons (.int _ _) .nil))) (fun s9 g9 v9 hle9 r9 D₆ => ?_) (by simp))
    refine argCons_ (tupE_ (argCons_ (int_ D₆ fun s10 t10 D₇ => ?_)))
    refine argCons_ (tupE_ (argCons_ (str_ D₇ fun s11 t11 D₈ => ?_)))
    refine args_nil (newTuple_ D₈ (.cons (.str _ _) .nil) (fun s12 g12 v12 hle12 r12 D₉ => ?_) (by simp))
    refine argCons_ (int_ D₉ fun s13 t13 E₁ => ?_)
    refine args_nil (newTuple_ E₁ (.cons (.int _ _) (.cons r12 (.cons (.int _ _) .nil))) (fun s14 g14 v14 hle14 r14 E₂ => ?_) (by simp))
    refine args_nil (newList_ E₂ (.cons (r9.mono (hle12.trans hle14)) (.cons r14 .nil)) (fun s15 g15 v15 hle15 r15 E₃ => ?_) (by simp))
    have hle15' := hle'.trans (hle7.trans (hle9.trans (hle12.trans (hle14.trans hle15))))
    refine addLst_ E₃ (rc.mono hle15') r15 (by simp; omega) fun s16 g16 v16 hle16 E₄ r16 => ?_
    refine argCons_ (name_ E₄ (by rfl) (by rfl) (by rfl) j4 (args_nil ⟨E₄.keeps, ?_⟩))
    have okE : ∀ x : Str, (x = "a" ∨ x = "nested") → OkQ (([x] : Way), (0 : Int)) := fun x hx => ⟨⟨fun y hy => by
      rw [List.mem_singleton.mp hy]; exact hx.elim .inl fun h => .inr (.inl h), by simp⟩, by simp, fun y hy => by rw [List.mem_singleton.mp hy]; exact hx, .inl rfl⟩
    refine answers_ (calls := calls ++ ([(4, ["a"], 0), (4, ["nested"], 0)] : List Cl)) (R.less (by omega) (by omega)) C E₄.know (by rw [List.map_append]; exact r16) (rq.mono (hle15'.trans hle16)) (fun c hc => ?_) okq (by simp; omega) (by omega) fun s17 g17 v17 G hv17 => ?_
    · rcases List.mem_append.mp hc with hc | hc
      · exact (good c hc).q
      · simp only [List.mem_cons, List.not_mem_nil, or_false] at hc
        rcases hc with rfl | rfl
        · exact okE _ (.inl rfl)
        · exact okE _ (.inr rfl)
    have E₅ := E₄.grown G
    refine notInBs_ E₅.inn hv17 (by omega) ?_
    rw [fourth good]
    exact q _ _ _ _ (hle15'.trans (hle16.trans G.le)) E₅
end
end Mine

namespace Mine
section
variable {prog : Program} {w : World} {A : Around} {E : Value → Shared → Prop} {b s s' s₀ : Shared} {g₀ g g' μ μ' μ'' : Kn} {fp : Addr → Prop} {L : Addr} {m : Str → Option Value} {env : Env} {mg mb : Str → Option Value}

set_option maxHeartbeats 2000000 in
theorem law_ {v : Value} {script : List Int} {Q : Value → Shared → Prop} (R : Room A 6 103) (C : Cx w b.heap mg mb) (k : Know b g s) (h1 : Ls g v (script.map .int)) (hl : script.length ≤ 63)
    (q : ∀ s' g', Grown b g s (fun _ => False) g' s' → Q (.bool true) s') : wpAny (model prog w) A (call (.ref 104) [v]) Q E s := by
  refine enterC (fd := fdAt w.params 104) (binds := [("script", v)]) (fp := fun _ => False) (μ := fun _ => none) (d := 5) (u := 100) R C k rfl rfl (by kernel_rfl) rfl (by kernel_rfl) (by kernel_rfl)
    ?_ (fun _ _ e => nomatch e) fun s₁ μ₁ A₁ hcells _ R₁ => ?_
  · have all : ([("script", v)] : List (Str × Value)).all (fun x => (fdAt w.params 104).scope.names.lookup x.1 == some .local) = true := by kernel_rfl
    intro x hx
    exact .inl (by simpa using List.all_eq_true.mp all x hx)
  obtain ⟨o0, c0, d0⟩ := hcells "numbers" (s.heap.objs.size + 1) (by kernel_rfl)
  obtain ⟨o1, c1, d1⟩ := hcells "marks" (s.heap.objs.size + 2) (by kernel_rfl)
  obtain ⟨o2, c2, d2⟩ := hcells "waits" (s.heap.objs.size + 3) (by kernel_rfl)
  obtain ⟨o3, c3, d3⟩ := hcells "low" (s.heap.objs.size + 4) (by kernel_rfl)
  obtain ⟨o4, c4, d4⟩ := hcells "high" (s.heap.objs.size + 5) (by kernel_rfl)
  have d0 : o0.data = .cell none := d0.trans (by kernel_rfl)
  have d1 : o1.data = .cell none := d1.trans (by kernel_rfl)
  have d2 : o2.data = .cell none := d2.trans (by kernel_rfl)
  have d3 : o3.data = .cell none := d3.trans (by kernel_rfl)
  have d4 : o4.data = .cell none := d4.trans (by kernel_rfl)
  have ms : bindL (callEnvC (fdAt w.params 104) s.heap.objs.size 104).kindOf [("script", v)] (fun _ => none) "script" = some v := by kernel_rfl
  generalize bindL (callEnvC (fdAt w.params 104) s.heap.objs.size 104).kindOf [("script", v)] (fun _ => none) = m at A₁ ms
  have n12 : s.heap.objs.size + 2 ≠ s.heap.objs.size + 1 := by omega
  have n13 : s.heap.objs.size + 3 ≠ s.heap.objs.size + 1 := by omega
  have n14 : s.heap.objs.size + 4 ≠ s.heap.objs.size + 1 := by omega
  have n15 : s.heap.objs.size + 5 ≠ s.heap.objs.size + 1 := by omega
  have n42 : s.heap.objs.size + 4 ≠ s.heap.objs.size + 2 := by omega
  have n43 : s.heap.objs.size + 4 ≠ s.heap.objs.size + 3 := by omega
  have n52 : s.heap.objs.size + 5 ≠ s.heap.objs.size + 2 := by omega
  have n53 : s.heap.objs.size + 5 ≠ s.heap.objs.size + 3 := by omega
  refine lawHead_ (R₁.less (by omega) (by omega)) C rfl A₁ ms h1 hl c0 d0 fun s2 g2 o0' vn vc hle2 _ _ rc A₂ => ?_
  have hlenc : (lawCalls ([2, 4, 0] ++ script)).length ≤ 66 := by rw [lawCalls_length]; simp; omega
  have hlenc1 : 1 ≤ (lawCalls ([2, 4, 0] ++ script)).length := by rw [lawCalls_length]; simp
  have good : ∀ c ∈ lawCalls ([2, 4, 0] ++ script), Good c := lawCalls_good
  generalize lawCalls ([2, 4, 0] ++ script) = calls at rc hlenc hlenc1 good
  refine lawAsk_ (vc := vc) (R₁.less (by omega) (by omega)) C rfl A₂ (by rfl) rc good hlenc fun s3 g3 μ3 m3 vq hle3 hk3 nc3 nq3 rq A₃ => ?_
  have okq := asked_ok good
  have hlq : (asked calls).length ≤ 300 := by
    have := asked_len calls [([], 0)]
    unfold asked
    simp at this
    omega
  have hq : ∀ c ∈ calls, c.2 ∈ asked calls := fun c hc => asked_has (good c hc) hc
  generalize asked calls = qs at rq okq hlq hq
  refine lawMid_ R₁ C rfl A₃ nc3 nq3 (rc.mono hle3) rq good okq hlenc hlq (hk3 _ _ ((upd_ne _ n12).trans c1)) (hk3 _ _ ((upd_ne _ n13).trans c2)) d1 d2 fun s4 g4 μ4 m4 vw p1 p2 u1 u2 hle4 hk4 nc4 nq4 nw4 rw4 q1 q2 e1 e2 r1 r2 A₄ => ?_
  have cs : Cells g4 μ4 s.heap.objs.size ([], []) none none :=
    ⟨⟨p1, u1, q1, e1, r1⟩, ⟨p2, u2, q2, e2, r2⟩, ⟨o3, hk4 _ _ n42 n43 (hk3 _ _ ((upd_ne _ n14).trans c3)), d3⟩, ⟨o4, hk4 _ _ n52 n53 (hk3 _ _ ((upd_ne _ n15).trans c4)), d4⟩⟩
  refine lawLoop_ R₁ C A₄ nc4 nq4 nw4 (rc.mono (hle3.trans hle4)) (rq.mono hle4) rw4 good hlenc hlenc1 okq hlq hq cs fun s5 g5 μ5 m5 hle5 A₅ => ?_
  exact q s5 g5 A₅.done
end
end Mine

namespace Mine
theorem wellInts {P : Params} {h : Heap} {g : Kn} : ∀ {vs : List Value} {l : List Int}, WellAll P h vs (ofPys (l.map PyData.int)) → RdAll g vs (l.map PyData.int)
  | vs, [], x => by cases x; exact .nil
  | vs, i :: l, x => by
    cases x with
    | cons a r =>
      cases a
      exact .cons (.int _ _) (wellInts r)
theorem wellList {P : Params} {s : Shared} {l : Addr} {script : List Int} (x : Well P s.heap (.ref l) (ofPy (.list (script.map PyData.int)))) : Ls (fun a => s.heap.get? a) (.ref l) (script.map PyData.int) := by
  have e : ofPy (.list (script.map PyData.int)) = .list (ofPys (script.map PyData.int)) := rfl
  rw [e] at x
  cases x with
  | @list _ vs _ hg hw => exact ⟨l, vs, _, rfl, hg, wellInts hw⟩

theorem joined {prog : Program} {w : World} {s₁ : Shared} {mg mb : Str → Option Value} {fa l : Addr} {script : List Int} (K : Frag.In (hd.heap_39 w.params) s₁.heap) (g : s₁.heap.Ns mainGlobals mg) (bi : s₁.heap.Ns builtinsNs mb) (nolimit : s₁.heap.NoLimit)
    (boot : ∀ x : Str, x ≠ "__name__" → mb x = bootBuiltins x) (hmg : mg "law" = some (.ref fa)) (hl : Ls (fun a => s₁.heap.get? a) (.ref l) (script.map PyData.int)) (hlen : script.length ≤ 63) :
    wpAny (model prog w) callerA (call (.ref fa) [.ref l]) (fun v s' => v = .bool true ∧ (∀ b o, s₁.heap.get? b = some o → s'.heap.get? b = some o) ∧ s'.os = s₁.os ∧ s'.gens = s₁.gens) (fun _ _ => False) s₁ := by
  have h104 : mg "law" = some (.ref 104) := mg_of K g (by kernel_rfl)
  rw [h104] at hmg
  cases hmg
  refine law_ (b := s₁) (g := fun a => s₁.heap.get? a) ⟨by rfl, by decide, by decide⟩ ⟨K, g, bi, nolimit, boot⟩ ⟨fun _ _ e => e, fun _ _ e => e, rfl, rfl⟩ hl hlen fun s' g' G => ?_
  exact ⟨rfl, fun a o e => G.keep a o id e, G.os, G.gens⟩
end Mine
set_option maxRecDepth 100000 in
set_option maxHeartbeats 8000000 in
theorem PySem.Challenge.cw_kq0031_01_holds : PySem.Challenge.rw_kq0031_01.Holds := by
  refine Mine.hd ?_
  k_fill
  intro w s₀ s₁ mg mb G Y fa o pm cd doc dV kV ho hd' hcd hD hmg hg args vals as hpre hlay hrd hwl hlo
  have KX := kIn_of Y
  have V := (Ground.X G).2
  refine Ground.open G ?_
  intro T B D TE TW
  wrow_args hpre hlay hrd hwl hlo
  all_goals (
    rename_i script _ _ _ _ _ _ _ l vs _ _ _ w1 _ _ _ hcond _
    refine wpAny_mono (Mine.joined KX T.g T.b T.nolimit T.builtins hmg (Mine.wellList w1) (by omega)) (fun v s' h => ?_) (fun _ _ e => e.elim)
    obtain ⟨rfl, k1, k2, k3⟩ := h
    refine GoodW.toG ⟨.inl ⟨_, .bool true, [], rfl, fun cls => rfl, .bool true, ?_, fun _ => ⟨List.nodup_nil, fun _ h => nomatch h⟩⟩, k1, k2, k3.trans hg⟩
    wrow_post)
