import PyProof.Rows.All
import PyProof.DictUpdate
import PyProof.DictDisplay
import PyProof.DictTable
import PyProof.GenRules
import PyProof.GenObj
import PyProof.GenComp
import PyProof.Rows.Tac2
import PyProof.Rows.SetFrom
import Wide.FinOn
import OpenK.AllK
import Wide.All
import Lean
import PySem.Challenge.RW_sn0076_02
set_option linter.unusedVariables false
set_option linter.unusedSimpArgs false
set_option Elab.async false

/-! M0 -/
section
open PySem PySem.Calls PyProof.Rows PySem.W
set_option maxRecDepth 100000
namespace Mine

/-! abstract data -/
inductive Im where
  | none | bool (b : Bool) | int (i : Int) | str (s : Str)
inductive It where
  | im (a : Im) | tup (l : List Im)
inductive PV where
  | it (x : It) | list (l : List It) | rng (a b : Int)

abbrev PV.int (i : Int) : PV := .it (.im (.int i))
abbrev PV.str (s : Str) : PV := .it (.im (.str s))
abbrev PV.bool (b : Bool) : PV := .it (.im (.bool b))
abbrev PV.none : PV := .it (.im .none)
abbrev It.int (i : Int) : It := .im (.int i)
abbrev It.str (s : Str) : It := .im (.str s)

def ImR : Value → Im → Prop
  | .none, .none => True
  | .bool b, .bool c => b = c
  | .int i _, .int j => i = j
  | .str x _, .str y => x = y
  | _, _ => False

inductive All2 {α β : Type} (R : α → β → Prop) : List α → List β → Prop
  | nil : All2 R [] []
  | cons {a b l m} : R a b → All2 R l m → All2 R (a :: l) (b :: m)

theorem All2.imp {α β : Type} {R R' : α → β → Prop} (h : ∀ a b, R a b → R' a b) {l : List α} {m : List β} (x : All2 R l m) : All2 R' l m := by
  induction x with
  | nil => exact .nil
  | cons r _ ih => exact .cons (h _ _ r) ih
theorem All2.length {α β : Type} {R : α → β → Prop} {l : List α} {m : List β} (x : All2 R l m) : l.length = m.length := by
  induction x with
  | nil => rfl
  | cons r _ ih => simp [ih]
theorem All2.append {α β : Type} {R : α → β → Prop} {l l' : List α} {m m' : List β} (x : All2 R l m) (y : All2 R l' m') : All2 R (l ++ l') (m ++ m') := by
  induction x with
  | nil => exact y
  | cons r _ ih => exact .cons r ih
theorem All2.get {α β : Type} {R : α → β → Prop} {l : List α} {m : List β} (x : All2 R l m) : ∀ (i : Nat) (b : β), m[i]? = some b → ∃ a, l[i]? = some a ∧ R a b := by
  induction x with
  | nil => intro i b h; simp at h
  | cons r _ ih =>
    intro i b h
    cases i with
    | zero => simp at h; subst h; exact ⟨_, by simp, r⟩
    | succ i => simp at h ⊢; exact ih i b h
def ItR (h : Heap) (v : Value) : It → Prop
  | .im a => ImR v a
  | .tup l => ∃ a vs n, v = .ref a ∧ h.get? a = some { cls := .type "tuple", data := .seq vs n } ∧ All2 ImR vs.toList l
def PVR (h : Heap) (v : Value) : PV → Prop
  | .it x => ItR h v x
  | .list l => ∃ a vs n, v = .ref a ∧ h.get? a = some { cls := .type "list", data := .seq vs n } ∧ All2 (ItR h) vs.toList l
  | .rng lo hi => ∃ r t1 t2 t3, v = .ref r ∧ h.get? r = some { cls := .type "range", data := .fields #[.int lo t1, .int hi t2, .int 1 t3] }

abbrev Kept (h h' : Heap) : Prop := ∀ b o, h.get? b = some o → h'.get? b = some o
theorem Kept.refl (h : Heap) : Kept h h := fun _ _ e => e
theorem Kept.trans {a b c : Heap} (x : Kept a b) (y : Kept b c) : Kept a c := fun b o e => y b o (x b o e)

theorem ItR.keeps {h h' : Heap} {v : Value} {x : It} (r : ItR h v x) (k : Kept h h') : ItR h' v x := by
  cases x with
  | im a => exact r
  | tup l => obtain ⟨a, vs, n, e, g, r⟩ := r; exact ⟨a, vs, n, e, k _ _ g, r⟩
theorem PVR.keeps {h h' : Heap} {v : Value} {d : PV} (r : PVR h v d) (k : Kept h h') : PVR h' v d := by
  cases d with
  | it x => exact ItR.keeps r k
  | list l => obtain ⟨a, vs, n, e, g, r⟩ := r; exact ⟨a, vs, n, e, k _ _ g, r.imp fun _ _ q => q.keeps k⟩
  | rng lo hi => obtain ⟨r, t1, t2, t3, e, g⟩ := r; exact ⟨r, t1, t2, t3, e, k _ _ g⟩

/-! states -/
def FinGens (g g' : Array GenState) : Prop := ∃ l : List GenState, g' = g ++ l.toArray ∧ ∀ x ∈ l, x = .finished
theorem FinGens.refl (g : Array GenState) : FinGens g g := ⟨[], by simp, by simp⟩
theorem FinGens.trans {a b c : Array GenState} (x : FinGens a b) (y : FinGens b c) : FinGens a c := by
  obtain ⟨l, rfl, hl⟩ := x
  obtain ⟨m, rfl, hm⟩ := y
  exact ⟨l ++ m, by simp, fun x hx => (List.mem_append.mp hx).elim (hl x) (hm x)⟩

def Same (s s' : Shared) : Prop := ∃ h t g, s' = { s with heap := h, toks := t, gens := g } ∧ FinGens s.gens g
theorem Same.refl (s : Shared) : Same s s := ⟨s.heap, s.toks, s.gens, rfl, .refl _⟩
theorem Same.trans {a b c : Shared} (x : Same a b) (y : Same b c) : Same a c := by
  obtain ⟨h, t, g, rfl, f⟩ := x
  obtain ⟨h', t', g', rfl, f'⟩ := y
  exact ⟨h', t', g', rfl, f.trans f'⟩
theorem Same.put (s : Shared) (h : Heap) (t : Nat) : Same s { s with heap := h, toks := t } := ⟨h, t, s.gens, rfl, .refl _⟩

structure Ext (s s' : Shared) : Prop where
  same : Same s s'
  kept : Kept s.heap s'.heap
theorem Ext.refl (s : Shared) : Ext s s := ⟨.refl s, .refl _⟩
theorem Ext.trans {a b c : Shared} (x : Ext a b) (y : Ext b c) : Ext a c := ⟨x.same.trans y.same, x.kept.trans y.kept⟩
theorem Ext.put {s : Shared} {h : Heap} (t : Nat) (k : Kept s.heap h) : Ext s { s with heap := h, toks := t } := ⟨.put s h t, k⟩
theorem Ext.tok (s : Shared) (t : Nat) : Ext s { s with toks := t } := Ext.put (h := s.heap) t (.refl _)
theorem Ext.heap {s : Shared} {h : Heap} (k : Kept s.heap h) : Ext s { s with heap := h } := Ext.put (h := h) s.toks k
theorem Ext.push (s : Shared) (o : Obj) : Ext s { s with heap := s.heap.push o } := Ext.heap fun _ _ e => Heap.get?_push_of_some _ e

structure Room (A : Around) (n : Nat) : Prop where
  hd : A.handled = none
  depth : A.depth + n < recursionLimit
  units : A.units + 10 * n < cLine
theorem Room.le {A : Around} {n m : Nat} (x : Room A n) (h : m ≤ n) : Room A m := ⟨x.hd, by have := x.depth; omega, by have := x.units; omega⟩
theorem Room.deeper {A : Around} {n : Nat} (x : Room A (n + 1)) (env : Env) : Room (A.deeper env) n :=
  ⟨x.hd, by have := x.depth; show A.depth + 1 + n < _; omega, by have := x.units; show A.units + 3 + 10 * n < _; omega⟩
theorem Room.lt {A : Around} {n : Nat} (x : Room A n) : A.depth < recursionLimit := by have := x.depth; omega

/-! the top's facts -/
structure Wd where
  prog : Program
  w : World
  mg : Str → Option Value
  mb : Str → Option Value
  hB : Heap
  gN : hB.Ns mainGlobals mg
  bN : hB.Ns builtinsNs mb
  lim : hB.NoLimit
structure GA (W : Wd) (h : Heap) : Prop where
  base : Kept W.hB h
theorem GA.g {W : Wd} {h : Heap} (x : GA W h) : h.Ns mainGlobals W.mg := W.gN.keeps x.base
theorem GA.b {W : Wd} {h : Heap} (x : GA W h) : h.Ns builtinsNs W.mb := W.bN.keeps x.base
theorem GA.nolimit {W : Wd} {h : Heap} (x : GA W h) : h.NoLimit := W.lim.keeps x.base
theorem GA.keeps {W : Wd} {h h' : Heap} (x : GA W h) (k : Kept h h') : GA W h' := ⟨x.base.trans k⟩
theorem GA.start (W : Wd) : GA W W.hB := ⟨.refl _⟩

structure EnvOk (env : Env) : Prop where
  kind : env.scope.kind = .function
  globals : env.globals = mainGlobals
  builtins : env.builtins = builtinsNs
  apart : ∀ x y c, env.cells.lookup x = some c → env.cells.lookup y = some c → x = y

def Bound (env : Env) (h : Heap) (x : Str) (v : Value) : Prop :=
  (env.kindOf x = some .local ∧ ∃ m, h.Ns env.locals m ∧ m x = some v) ∨
  (env.kindOf x = some .cell ∧ ∃ c, env.cells.lookup x = some c ∧ h.IsCell c (some v)) ∨
  (env.kindOf x = some .free ∧ ∃ c, env.cells.lookup x = some c ∧ h.IsCell c (some v))
theorem Bound.keeps {env : Env} {h h' : Heap} {x : Str} {v : Value} (b : Bound env h x v) (k : Kept h h') : Bound env h' x v := by
  rcases b with ⟨e, m, n, hm⟩ | ⟨e, c, hc, hv⟩ | ⟨e, c, hc, hv⟩
  · exact .inl ⟨e, m, n.keeps k, hm⟩
  · exact .inr (.inl ⟨e, c, hc, hv.keeps k⟩)
  · exact .inr (.inr ⟨e, c, hc, hv.keeps k⟩)

abbrev Sto := Str → Option PV
def SAt (env : Env) (h : Heap) (σ : Sto) : Prop := ∀ x d, σ x = some d → ∃ v, PVR h v d ∧ Bound env h x v
theorem SAt.keeps {env : Env} {h h' : Heap} {σ : Sto} (x : SAt env h σ) (k : Kept h h') : SAt env h' σ := fun y d e =>
  let ⟨v, r, b⟩ := x y d e; ⟨v, r.keeps k, b.keeps k⟩

def NewL (h : Heap) (v : Value) (d : PV) : Prop := ∀ l, d = .list l → ∃ a, v = .ref a ∧ h.get? a = none
theorem newL_it {h : Heap} {v : Value} {x : It} : NewL h v (.it x) := fun _ e => by cases e
theorem newL_rng {h : Heap} {v : Value} {a b : Int} : NewL h v (.rng a b) := fun _ e => by cases e
theorem Kept.none {h h' : Heap} (k : Kept h h') {a : Addr} (e : h'.get? a = none) : h.get? a = none := by
  cases q : h.get? a with
  | none => rfl
  | some o => rw [k _ _ q] at e; cases e
theorem NewL.of {h h' : Heap} {v : Value} {d : PV} (x : NewL h' v d) (k : Kept h h') : NewL h v d := fun l e => let ⟨a, e1, e2⟩ := x l e; ⟨a, e1, k.none e2⟩

section
variable (W : Wd)

/-- the tree of a value, from any state that bears σ, gives d -/
structure Ev (n : Nat) (fr : Bool) (env : Env) (σ : Sto) (t : Sem Value) (d : PV) : Prop where
  run : ∀ (A : Around) (s : Shared) (Q : Value → Shared → Prop) (E : Value → Shared → Prop), Room A n → GA W s.heap → SAt env s.heap σ →
    (∀ v s', Ext s s' → PVR s'.heap v d → (fr = true → NewL s.heap v d) → Q v s') → wpAny (model W.prog W.w) A t Q E s

structure EvT (n : Nat) (env : Env) (σ : Sto) (t : Sem Bool) (b : Bool) : Prop where
  run : ∀ (A : Around) (s : Shared) (Q : Bool → Shared → Prop) (E : Value → Shared → Prop), Room A n → GA W s.heap → SAt env s.heap σ →
    (∀ s', Ext s s' → Q b s') → wpAny (model W.prog W.w) A t Q E s

structure EvL (n : Nat) (env : Env) (σ : Sto) (t : Sem (List Value)) (ds : List PV) : Prop where
  run : ∀ (A : Around) (s : Shared) (Q : List Value → Shared → Prop) (E : Value → Shared → Prop), Room A n → GA W s.heap → SAt env s.heap σ →
    (∀ vs s', Ext s s' → All2 (PVR s'.heap) vs ds → Q vs s') → wpAny (model W.prog W.w) A t Q E s

/-- a step on values already made -/
structure Op (n : Nat) (t : List Value → Sem Value) (ds : List PV) (d : PV) : Prop where
  run : ∀ (A : Around) (s : Shared) (vs : List Value) (Q : Value → Shared → Prop) (E : Value → Shared → Prop), Room A n → GA W s.heap → All2 (PVR s.heap) vs ds →
    (∀ v s', Ext s s' → PVR s'.heap v d → NewL s.heap v d → Q v s') → wpAny (model W.prog W.w) A (t vs) Q E s
end

end Mine
end

/-! M1 -/
section
open PySem PySem.Calls PyProof.Rows PySem.W
set_option maxRecDepth 100000
namespace Mine
section
variable {W : Wd} {n : Nat} {fr : Bool} {env : Env} {σ : Sto}

theorem ImR.str_inv {v : Value} {x : Str} (r : ImR v (.str x)) : ∃ t, v = .str x t := by
  cases v with
  | str y t => exact ⟨t, by rw [show y = x from r]⟩
  | _ => exact (show False from r).elim
theorem ImR.int_inv {v : Value} {i : Int} (r : ImR v (.int i)) : ∃ t, v = .int i t := by
  cases v with
  | int y t => exact ⟨t, by rw [show y = i from r]⟩
  | _ => exact (show False from r).elim
theorem ImR.bool_inv {v : Value} {b : Bool} (r : ImR v (.bool b)) : v = .bool b := by
  cases v with
  | bool c => rw [show c = b from r]
  | _ => exact (show False from r).elim
theorem ImR.none_inv {v : Value} (r : ImR v .none) : v = .none := by
  cases v with
  | none => rfl
  | _ => exact (show False from r).elim
theorem pv_str {h : Heap} {v : Value} {x : Str} (r : PVR h v (.str x)) : ∃ t, v = .str x t := ImR.str_inv r
theorem pv_int {h : Heap} {v : Value} {i : Int} (r : PVR h v (.int i)) : ∃ t, v = .int i t := ImR.int_inv r
theorem pv_bool {h : Heap} {v : Value} {b : Bool} (r : PVR h v (.bool b)) : v = .bool b := ImR.bool_inv r
theorem pv_none {h : Heap} {v : Value} (r : PVR h v .none) : v = .none := ImR.none_inv r
theorem r_str {h : Heap} {x : Str} {t : Tok} : PVR h (.str x t) (.str x) := rfl
theorem r_int {h : Heap} {i : Int} {t : Tok} : PVR h (.int i t) (.int i) := rfl
theorem r_bool {h : Heap} {b : Bool} : PVR h (.bool b) (.bool b) := rfl
theorem r_none {h : Heap} : PVR h .none .none := trivial

theorem Ev.cstr {x : Str} {k : Nat} {p : Pos} : Ev W n fr env σ (eval (.Constant (.str x) k p) env) (.str x) :=
  .mk fun _ s _ _ _ _ _ h => Constant_str (h _ _ (.tok s _) r_str fun _ => newL_it)
theorem Ev.cint {i : Int} {k : Nat} {p : Pos} : Ev W n fr env σ (eval (.Constant (.int i) k p) env) (.int i) :=
  .mk fun _ s _ _ _ _ _ h => wpAny_Constant_int (h _ _ (.tok s _) r_int fun _ => newL_it)
theorem Ev.cbool {b : Bool} {k : Nat} {p : Pos} : Ev W n fr env σ (eval (.Constant (.bool b) k p) env) (.bool b) :=
  .mk fun _ s _ _ _ _ _ h => wpAny_pure (h _ _ (.refl s) r_bool fun _ => newL_it)
theorem Ev.cnone {k : Nat} {p : Pos} : Ev W n fr env σ (eval (.Constant .none k p) env) .none :=
  .mk fun _ s _ _ _ _ _ h => wpAny_pure (h _ _ (.refl s) r_none fun _ => newL_it)

theorem load_bound {M : Model} {A : Around} {E : Value → Shared → Prop} {s : Shared} {x : Str} {v : Value} {Q : Value → Shared → Prop} (hk : EnvOk env) (b : Bound env s.heap x v) (h : Q v s)
    (hn : (x == ("__classdict__" : Str)) = false := by decide) : wpAny M A (loadName env x) Q E s := by
  rcases b with ⟨e, m, n, hm⟩ | ⟨e, c, hc, hv⟩ | ⟨e, c, hc, hv⟩
  · exact wpAny_loadName_local hk.kind e n hm h
  · exact wpAny_loadName_cell hk.kind e hc hv h
  · exact wpAny_loadName_free hk.kind e hc hv h hn

theorem Ev.name {x : Str} {p : Pos} {d : PV} (hk : EnvOk env) (hx : σ x = some d) (hd : (x == ("__debug__" : Str)) = false := by decide) (hn : (x == ("__classdict__" : Str)) = false := by decide) :
    Ev W n false env σ (eval (.Name x p) env) d := .mk fun A s Q E _ _ sa h => by
  obtain ⟨v, r, b⟩ := sa x d hx
  exact wpAny_Name (load_bound hk b (h v s (.refl s) r (by simp)) hn) hd
theorem Ev.nameI {x : Str} {p : Pos} {d : It} (hk : EnvOk env) (hx : σ x = some (.it d)) (hd : (x == ("__debug__" : Str)) = false := by decide) (hn : (x == ("__classdict__" : Str)) = false := by decide) :
    Ev W n fr env σ (eval (.Name x p) env) (.it d) := .mk fun A s Q E _ _ sa h => by
  obtain ⟨v, r, b⟩ := sa x _ hx
  exact wpAny_Name (load_bound hk b (h v s (.refl s) r fun _ => newL_it) hn) hd

/-- a global name that stands for a value -/
def GN (W : Wd) (x : Str) (f : Value) : Prop := W.mg x = some f ∨ (W.mg x = none ∧ W.mb x = some f)
theorem load_global {M : Model} {A : Around} {E : Value → Shared → Prop} {s : Shared} {x : Str} {p : Pos} {f : Value} {Q : Value → Shared → Prop} (hk : EnvOk env) (g : GA W s.heap) (hx : env.kindOf x = some .globalImplicit)
    (hf : GN W x f) (h : Q f s) (hd : (x == ("__debug__" : Str)) = false := by decide) : wpAny M A (eval (.Name x p) env) Q E s := by
  refine Name_function_global hk.kind hx ?_ hd
  rcases hf with e | ⟨e, e'⟩
  · exact loadGlobal_global (hk.globals ▸ g.g) e h
  · exact loadGlobal_builtin (hk.globals ▸ g.g) e (hk.builtins ▸ g.b) e' h
theorem Ev.gint {x : Str} {p : Pos} {i : Int} {t : Tok} (hk : EnvOk env) (hx : env.kindOf x = some .globalImplicit) (hf : W.mg x = some (.int i t)) (hd : (x == ("__debug__" : Str)) = false := by decide) :
    Ev W n fr env σ (eval (.Name x p) env) (.int i) := .mk fun _ s _ _ _ g _ h => load_global hk g hx (.inl hf) (h _ _ (.refl s) r_int fun _ => newL_it) hd
theorem Ev.gstr {x y : Str} {p : Pos} {t : Tok} (hk : EnvOk env) (hx : env.kindOf x = some .globalImplicit) (hf : W.mg x = some (.str y t)) (hd : (x == ("__debug__" : Str)) = false := by decide) :
    Ev W n fr env σ (eval (.Name x p) env) (.str y) := .mk fun _ s _ _ _ g _ h => load_global hk g hx (.inl hf) (h _ _ (.refl s) r_str fun _ => newL_it) hd

/-- a step on two values -/
structure Op2 (W : Wd) (n : Nat) (t : Value → Value → Sem Value) (d1 d2 d : PV) : Prop where
  run : ∀ (A : Around) (s : Shared) (a b : Value) (Q : Value → Shared → Prop) (E : Value → Shared → Prop), Room A n → GA W s.heap → PVR s.heap a d1 → PVR s.heap b d2 →
    (∀ v s', Ext s s' → PVR s'.heap v d → NewL s.heap v d → Q v s') → wpAny (model W.prog W.w) A (t a b) Q E s

theorem Ev.bin {l r : Expr} {op : Operator} {p : Pos} {d1 d2 d : PV} (h1 : Ev W n false env σ (eval l env) d1) (h2 : Ev W n false env σ (eval r env) d2)
    (ho : Op2 W n (binaryOp op) d1 d2 d) : Ev W n fr env σ (eval (.BinOp l op r p) env) d := .mk fun A s Q E ro g sa h =>
  wpAny_BinOp (h1.run A s _ E ro g sa fun a s1 e1 r1 _ => h2.run A s1 _ E ro (g.keeps e1.kept) (sa.keeps e1.kept) fun b s2 e2 r2 _ =>
    ho.run A s2 a b Q E ro (g.keeps (e1.trans e2).kept) (r1.keeps e2.kept) r2 fun v s3 e3 r3 q => h v s3 ((e1.trans e2).trans e3) r3 fun _ => q.of (e1.trans e2).kept)

theorem Ev.cmp {l r : Expr} {op : CmpOp} {p : Pos} {d1 d2 d : PV} (h1 : Ev W n false env σ (eval l env) d1) (h2 : Ev W n false env σ (eval r env) d2)
    (ho : Op2 W n (compareOp op) d1 d2 d) (hm : behindInMarks op r = false := by with_unfolding_all rfl) : Ev W n fr env σ (eval (.Compare l [op] [r] p) env) d := .mk fun A s Q E ro g sa h =>
  wpAny_Compare1 (h1.run A s _ E ro g sa fun a s1 e1 r1 _ => h2.run A s1 _ E ro (g.keeps e1.kept) (sa.keeps e1.kept) fun b s2 e2 r2 _ =>
    ho.run A s2 a b Q E ro (g.keeps (e1.trans e2).kept) (r1.keeps e2.kept) r2 fun v s3 e3 r3 q => h v s3 ((e1.trans e2).trans e3) r3 fun _ => q.of (e1.trans e2).kept) hm

theorem EvT.cmp {l r : Expr} {op : CmpOp} {p : Pos} {d1 d2 : PV} {b : Bool} {whole : Sem Value} (h1 : Ev W n false env σ (eval l env) d1) (h2 : Ev W n false env σ (eval r env) d2)
    (ho : Op2 W n (compareOp op) d1 d2 (.bool b)) (hm : behindInMarks op r = false := by with_unfolding_all rfl) : EvT W n env σ (isTrue (.Compare l [op] [r] p) env whole) b := .mk fun A s Q E ro g sa h =>
  wpAny_isTrue_Compare1 (h1.run A s _ E ro g sa fun a s1 e1 r1 _ => h2.run A s1 _ E ro (g.keeps e1.kept) (sa.keeps e1.kept) fun b' s2 e2 r2 _ =>
    ho.run A s2 a b' _ E ro (g.keeps (e1.trans e2).kept) (r1.keeps e2.kept) r2 fun v s3 e3 r3 _ => by
      obtain rfl := pv_bool r3
      exact wpAny_truthy_bool (h s3 ((e1.trans e2).trans e3))) hm
theorem EvT.boolv {e : Expr} {whole : Sem Value} {b : Bool} (h1 : Ev W n false env σ whole (.bool b))
    (he : isTrue e env whole = (do let v ← whole; standAt e.pos; holding [v] (truthy v)) := by rfl) : EvT W n env σ (isTrue e env whole) b := .mk fun A s Q E ro g sa h =>
  isTrue_plain (h1.run A s _ E ro g sa fun v s1 e1 r1 _ => by obtain rfl := pv_bool r1; exact wpAny_truthy_bool (h s1 e1)) he
theorem EvT.strv {e : Expr} {whole : Sem Value} {x : Str} (h1 : Ev W n false env σ whole (.str x)) (hf : x.length < 2 ^ 62)
    (he : isTrue e env whole = (do let v ← whole; standAt e.pos; holding [v] (truthy v)) := by rfl) : EvT W n env σ (isTrue e env whole) ((x.length : Int) != 0) := .mk fun A s Q E ro g sa h =>
  isTrue_plain (h1.run A s _ E ro g sa fun v s1 e1 r1 _ => by obtain ⟨t, rfl⟩ := pv_str r1; exact P.truthy_str (by omega) (h _ (e1.trans (.tok _ _)))) he
theorem EvT.not {x : Expr} {p : Pos} {whole : Sem Value} {b : Bool} (h1 : EvT W n env σ (isTrue x env (eval x env)) b) : EvT W n env σ (isTrue (.UnaryOp .Not x p) env whole) (!b) := .mk fun A s Q E ro g sa h =>
  isTrue_not (h1.run A s _ E ro g sa fun s1 e1 => h s1 e1)
theorem EvT.and_nil {p : Pos} {whole : Sem Value} : EvT W n env σ (isTrue (.BoolOp .And [] p) env whole) true := .mk fun _ s _ _ _ _ _ h => isTrue_and_nil (h s (.refl s))
theorem EvT.and {x : Expr} {rest : List Expr} {p : Pos} {whole : Sem Value} {a b : Bool} (h1 : EvT W n env σ (isTrue x env (eval x env)) a) (h2 : a = true → EvT W n env σ (isTrue (.BoolOp .And rest p) env whole) b) :
    EvT W n env σ (isTrue (.BoolOp .And (x :: rest) p) env whole) (a && b) := .mk fun A s Q E ro g sa h =>
  isTrue_and (h1.run A s _ E ro g sa fun s1 e1 => by
    cases a with
    | false => exact h s1 e1
    | true => exact (h2 rfl).run A s1 _ E ro (g.keeps e1.kept) (sa.keeps e1.kept) fun s2 e2 => h s2 (e1.trans e2))

theorem Ev.ifexp {test body orelse : Expr} {p : Pos} {b : Bool} {d : PV} (h1 : EvT W n env σ (isTrue test env (eval test env)) b)
    (h2 : b = true → Ev W n fr env σ (eval body env) d) (h3 : b = false → Ev W n fr env σ (eval orelse env) d) : Ev W n fr env σ (eval (.IfExp test body orelse p) env) d := .mk fun A s Q E ro g sa h =>
  wpAny_IfExp (h1.run A s _ E ro g sa fun s1 e1 => by
    cases b with
    | true => exact (h2 rfl).run A s1 _ E ro (g.keeps e1.kept) (sa.keeps e1.kept) fun v s2 e2 r q => h v s2 (e1.trans e2) r fun f => (q f).of e1.kept
    | false => exact (h3 rfl).run A s1 _ E ro (g.keeps e1.kept) (sa.keeps e1.kept) fun v s2 e2 r q => h v s2 (e1.trans e2) r fun f => (q f).of e1.kept)

/-! the operators -/
theorem Op2.addI {a b : Int} : Op2 W n (binaryOp .Add) (.int a) (.int b) (.int (a + b)) := .mk fun A s x y Q E _ _ r1 r2 h => by
  obtain ⟨t, rfl⟩ := pv_int r1; obtain ⟨u, rfl⟩ := pv_int r2
  exact PyProof.Rows.add_int (h _ _ (.tok s _) r_int newL_it)
theorem Op2.subI {a b : Int} : Op2 W n (binaryOp .Sub) (.int a) (.int b) (.int (a - b)) := .mk fun A s x y Q E _ _ r1 r2 h => by
  obtain ⟨t, rfl⟩ := pv_int r1; obtain ⟨u, rfl⟩ := pv_int r2
  exact PyProof.Rows.sub_int (h _ _ (.tok s _) r_int newL_it)
theorem Op2.divI {a b : Int} (hb : 0 < b) (hb2 : b < 1073741824) : Op2 W n (binaryOp .FloorDiv) (.int a) (.int b) (.int (a.fdiv b)) := .mk fun A s x y Q E _ _ r1 r2 h => by
  obtain ⟨t, rfl⟩ := pv_int r1; obtain ⟨u, rfl⟩ := pv_int r2
  exact PyProof.Rows.floordiv_int (by omega) (h _ _ (.tok s _) r_int newL_it) (.inl (PyProof.noPylong_small (by omega)))
theorem Op2.modI {a b : Int} (hb : b ≠ 0) : Op2 W n (binaryOp .Mod) (.int a) (.int b) (.int (a.fmod b)) := .mk fun A s x y Q E _ _ r1 r2 h => by
  obtain ⟨t, rfl⟩ := pv_int r1; obtain ⟨u, rfl⟩ := pv_int r2
  exact PyProof.Rows.mod_int hb (h _ _ (.tok s _) r_int newL_it)
theorem Op2.addS {a b : Str} (hs : a.length + b.length ≤ sizeLine) : Op2 W n (binaryOp .Add) (.str a) (.str b) (.str (a ++ b)) := .mk fun A s x y Q E _ _ r1 r2 h => by
  obtain ⟨t, rfl⟩ := pv_str r1; obtain ⟨u, rfl⟩ := pv_str r2
  exact PyProof.Rows.add_str (fun _ _ => h _ _ (.tok s _) r_str newL_it) hs
theorem Op2.eqI {a b : Int} : Op2 W n (compareOp .Eq) (.int a) (.int b) (.bool (a == b)) := .mk fun A s x y Q E _ _ r1 r2 h => by
  obtain ⟨t, rfl⟩ := pv_int r1; obtain ⟨u, rfl⟩ := pv_int r2
  exact PyProof.Rows.eq_int (h _ _ (.refl s) r_bool newL_it)
theorem Op2.neI {a b : Int} : Op2 W n (compareOp .NotEq) (.int a) (.int b) (.bool (a != b)) := .mk fun A s x y Q E _ _ r1 r2 h => by
  obtain ⟨t, rfl⟩ := pv_int r1; obtain ⟨u, rfl⟩ := pv_int r2
  exact PyProof.Rows.ne_int (h _ _ (.refl s) r_bool newL_it)
theorem Op2.ltI {a b : Int} : Op2 W n (compareOp .Lt) (.int a) (.int b) (.bool (decide (a < b))) := .mk fun A s x y Q E _ _ r1 r2 h => by
  obtain ⟨t, rfl⟩ := pv_int r1; obtain ⟨u, rfl⟩ := pv_int r2
  exact PyProof.Rows.lt_int (h _ _ (.refl s) r_bool newL_it)
theorem Op2.gtI {a b : Int} : Op2 W n (compareOp .Gt) (.int a) (.int b) (.bool (decide (b < a))) := .mk fun A s x y Q E _ _ r1 r2 h => by
  obtain ⟨t, rfl⟩ := pv_int r1; obtain ⟨u, rfl⟩ := pv_int r2
  exact PyProof.Rows.gt_int (h _ _ (.refl s) r_bool newL_it)
theorem Op2.geI {a b : Int} : Op2 W n (compareOp .GtE) (.int a) (.int b) (.bool (decide (b ≤ a))) := .mk fun A s x y Q E _ _ r1 r2 h => by
  obtain ⟨t, rfl⟩ := pv_int r1; obtain ⟨u, rfl⟩ := pv_int r2
  exact PyProof.Rows.ge_int (h _ _ (.refl s) r_bool newL_it)
theorem Op2.eqS {a b : Str} : Op2 W n (compareOp .Eq) (.str a) (.str b) (.bool (a == b)) := .mk fun A s x y Q E _ _ r1 r2 h => by
  obtain ⟨t, rfl⟩ := pv_str r1; obtain ⟨u, rfl⟩ := pv_str r2
  exact PyProof.Rows.eq_str (h _ _ (.refl s) r_bool newL_it)
theorem Op2.neS {a b : Str} : Op2 W n (compareOp .NotEq) (.str a) (.str b) (.bool (a != b)) := .mk fun A s x y Q E _ _ r1 r2 h => by
  obtain ⟨t, rfl⟩ := pv_str r1; obtain ⟨u, rfl⟩ := pv_str r2
  exact PyProof.Rows.ne_str (h _ _ (.refl s) r_bool newL_it)
end
end Mine
end

/-! M2 -/
section
open PySem PySem.Calls PyProof.Rows PySem.W
set_option maxRecDepth 100000
namespace Mine
section
variable {W : Wd} {n : Nat} {fr : Bool} {env : Env} {σ : Sto}

/-! lists of values -/
theorem EvL.nil {pos : Pos} : EvL W n env σ (spliced (backTo pos (starEach [] env))) [] := .mk fun _ s _ _ _ _ _ h => spliced_nil (h [] s (.refl s) .nil)
theorem EvL.cons {pos : Pos} {e : Expr} {es : List Expr} {d : PV} {ds : List PV} (h1 : Ev W n false env σ (eval e env) d) (h2 : EvL W n env σ (spliced (backTo pos (starEach es env))) ds)
    (he : starEach (e :: es) env = (false, eval e env) :: starEach es env := by rfl) : EvL W n env σ (spliced (backTo pos (starEach (e :: es) env))) (d :: ds) := .mk fun A s Q E ro g sa h => by
  rw [he]
  exact spliced_cons (h1.run A s _ E ro g sa fun v s1 e1 r1 _ => h2.run A s1 _ E ro (g.keeps e1.kept) (sa.keeps e1.kept) fun vs s2 e2 r2 => h (v :: vs) s2 (e1.trans e2) (.cons (r1.keeps e2.kept) r2))

/-! displays -/
theorem items_im {h : Heap} : ∀ {vs : List Value} {ds : List It}, All2 (PVR h) vs (ds.map .it) → All2 (ItR h) vs ds
  | _, [], .nil => .nil
  | _, _ :: _, .cons r x => .cons r (items_im x)
theorem items_tup {h : Heap} : ∀ {vs : List Value} {ds : List Im}, All2 (PVR h) vs (ds.map fun a => .it (.im a)) → All2 ImR vs ds
  | _, [], .nil => .nil
  | _, _ :: _, .cons r x => .cons r (items_tup x)

theorem fresh_size (h : Heap) : h.get? h.objs.size = none := by
  cases q : h.get? h.objs.size with
  | none => rfl
  | some o => exact absurd (Heap.lt_size q) (Nat.lt_irrefl _)

theorem Ev.listD {elts : List Expr} {pos : Pos} {ds : List It} (h1 : EvL W n env σ (spliced (backTo pos (starEach elts env))) (ds.map .it)) (hs : ds.length ≤ sizeLine) :
    Ev W n fr env σ (eval (.List elts pos) env) (.list ds) := .mk fun A s Q E ro g sa h => by
  rw [arm_eval_List]
  refine wpAny_bind (wpAny_standAt (wpAny_bind (h1.run A s _ E ro g sa fun vs s1 e1 r1 => ?_)))
  have r := items_im r1
  refine wpAny_newList (h _ _ (e1.trans (.push s1 _)) ⟨_, vs.toArray, 0, rfl, Heap.get?_push_size _ rfl, by simpa using r.imp fun _ _ q => q.keeps fun _ _ e => Heap.get?_push_of_some _ e⟩ fun _ l _ => ⟨_, rfl, e1.kept.none (fresh_size _)⟩) ?_
  simp only [List.size_toArray, r.length]; exact hs

theorem Ev.tupD {elts : List Expr} {k : Nat} {pos : Pos} {ds : List Im} (h1 : EvL W n env σ (spliced (backTo pos (starEach elts env))) (ds.map fun a => .it (.im a))) (hs : ds.length ≤ sizeLine) :
    Ev W n fr env σ (eval (.Tuple elts k pos) env) (.it (.tup ds)) := .mk fun A s Q E ro g sa h => by
  rw [arm_eval_Tuple]
  refine wpAny_bind (wpAny_standAt (wpAny_bind (h1.run A s _ E ro g sa fun vs s1 e1 r1 => ?_)))
  have r := items_tup r1
  refine wpAny_newTuple (h _ _ (e1.trans (.push s1 _)) ⟨_, vs.toArray, 0, rfl, Heap.get?_push_size _ rfl, by simpa using r⟩ fun _ => newL_it) ?_
  simp only [List.size_toArray, r.length]; exact hs

/-! calls -/
def OpC (W : Wd) (n : Nat) (f : Value) (ds : List PV) (d : PV) : Prop := Op W n (fun vs => call f vs) ds d

theorem Ev.callB {id : Str} {p pos : Pos} {b : String} {e : Expr} {rest : List Expr} {ds : List PV} {d : PV} (hk : EnvOk env) (hx : env.kindOf id = some .globalImplicit) (hf : GN W id (.builtin b))
    (h1 : EvL W n env σ (spliced (backTo pos (starEach (e :: rest) env))) ds) (ho : OpC W n (.builtin b) ds d)
    (he : starEach (e :: rest) env = (false, eval e env) :: starEach rest env := by rfl) (hplain : (backTo pos (starEach rest env)).any (·.1) = false := by rfl) (hd : (id == ("__debug__" : Str)) = false := by decide) :
    Ev W n fr env σ (eval (.Call (.Name id p) (e :: rest) [] pos) env) d := .mk fun A s Q E ro g sa h =>
  wpAny_Call_NameR (load_global hk g hx hf (PyProof.Rows.callWith_builtin1 (h1.run A s _ E ro g sa fun vs s1 e1 r1 =>
    ho.run A s1 vs Q E ro (g.keeps e1.kept) r1 fun v s2 e2 r2 q => h v s2 (e1.trans e2) r2 fun _ => q.of e1.kept) he hplain) hd)
theorem Ev.callT {id : Str} {p pos : Pos} {T : String} {e : Expr} {rest : List Expr} {ds : List PV} {d : PV} (hk : EnvOk env) (hx : env.kindOf id = some .globalImplicit) (hf : GN W id (.type T))
    (h1 : EvL W n env σ (spliced (backTo pos (starEach (e :: rest) env))) ds) (ho : OpC W n (.type T) ds d)
    (he : starEach (e :: rest) env = (false, eval e env) :: starEach rest env := by rfl) (hplain : (backTo pos (starEach rest env)).any (·.1) = false := by rfl) (hd : (id == ("__debug__" : Str)) = false := by decide) :
    Ev W n fr env σ (eval (.Call (.Name id p) (e :: rest) [] pos) env) d := .mk fun A s Q E ro g sa h =>
  wpAny_Call_NameR (load_global hk g hx hf (by
    have h1' := h1.run A s (fun vs s1 => wpAny (model W.prog W.w) A (call (.type T) ([] ++ vs)) Q E s1) E ro g sa fun vs s1 e1 r1 => ho.run A s1 vs Q E ro (g.keeps e1.kept) r1 fun v s2 e2 r2 q => h v s2 (e1.trans e2) r2 fun _ => q.of e1.kept
    rw [he] at h1' ⊢
    exact PySem.callWith_type (by show (false || (backTo pos (starEach rest env)).any (·.1)) = false; rw [hplain]; rfl) (evalArgs_plain h1')) hd)
/-- the text's own def -/
theorem Ev.callF {id : Str} {p pos : Pos} {f : Addr} {o : Obj} {fd : FuncData} {e : Expr} {rest : List Expr} {ds : List PV} {d : PV} (hk : EnvOk env) (hx : env.kindOf id = some .globalImplicit) (hf : W.mg id = some (.ref f))
    (hfo : W.hB.get? f = some o) (hfd : o.data = .func fd)
    (h1 : EvL W n env σ (spliced (backTo pos (starEach (e :: rest) env))) ds) (ho : OpC W n (.ref f) ds d)
    (he : starEach (e :: rest) env = (false, eval e env) :: starEach rest env := by rfl) (hd : (id == ("__debug__" : Str)) = false := by decide) :
    Ev W n fr env σ (eval (.Call (.Name id p) (e :: rest) [] pos) env) d := .mk fun A s Q E ro g sa h =>
  wpAny_Call_NameR (load_global hk g hx (.inl hf) (PyProof.Rows.callWith_def hfd (h1.run A s _ E ro g sa fun vs s1 e1 r1 =>
    ⟨(g.keeps e1.kept).base _ _ hfo, ho.run A s1 vs Q E ro (g.keeps e1.kept) r1 fun v s2 e2 r2 q => h v s2 (e1.trans e2) r2 fun _ => q.of e1.kept⟩) he) hd)

/-! methods of values of built-in types -/
def OpM (W : Wd) (n : Nat) (id : String) (d0 : PV) (ds : List PV) (d : PV) : Prop :=
  Op W n (fun vs => call (.builtin id) vs) (d0 :: ds) d

theorem Ev.meth {o : Expr} {name : Str} {apos pos : Pos} {e : Expr} {rest : List Expr} {T id : String} {d0 : PV} {ds : List PV} {d : PV}
    (h0 : Ev W n false env σ (eval o env) d0) (pa : PlainAttrs T) (sl : Slot T name id) (ty : typeOf (.builtin id) = pure (.type "method_descriptor"))
    (hT : ∀ (s : Shared) (v : Value), PVR s.heap v d0 → s.TypeIs v T ∧ ∀ a, v = .ref a → ∃ ob, s.heap.get? a = some ob ∧ ob.dict = none)
    (h1 : EvL W n env σ (spliced (backTo pos (starEach (e :: rest) env))) ds) (ho : OpM W n id d0 ds d)
    (hbase : attributeBase o name env (eval o env) = eval o env := by with_unfolding_all rfl)
    (hfew : ((backTo pos (starEach (e :: rest) env)).all (fun x => !x.1) && (backToKw pos (keywordEach [] env)).all (fun x => x.1.isSome) && decide ((e :: rest).length + ([] : List Keyword).length + (if ([] : List Keyword).isEmpty then 0 else 1) < 30)) = true := by rfl)
    (hline : (apos.endLine == pos.line) = true := by rfl)
    (he : starEach (e :: rest) env = (false, eval e env) :: starEach rest env := by rfl) (hplain : (backTo pos (starEach rest env)).any (·.1) = false := by rfl) :
    Ev W n fr env σ (eval (.Call (.Attribute o name apos) (e :: rest) [] pos) env) d := .mk fun A s Q E ro g sa h => by
  refine wpAny_Call_method_late hbase hfew hline rfl (h0.run A s _ E ro g sa fun v s1 e1 r1 _ => ?_)
  obtain ⟨t1, t2⟩ := hT s1 v r1
  refine ⟨T, id, pa, sl, ty, t1, t2, ?_⟩
  have h1' := h1.run A s1 (fun vs s2 => wpAny (model W.prog W.w) A (call (.builtin id) ([v] ++ vs)) Q E s2) E ro (g.keeps e1.kept) (sa.keeps e1.kept) fun vs s2 e2 r2 =>
    ho.run A s2 (v :: vs) Q E ro (g.keeps (e1.trans e2).kept) (.cons (r1.keeps e2.kept) r2) fun y s3 e3 r3 q => h y s3 ((e1.trans e2).trans e3) r3 fun _ => q.of (e1.trans e2).kept
  rw [he] at h1' ⊢
  exact PySem.Calls.callWith_builtin (by show (false || (backTo pos (starEach rest env)).any (·.1)) = false; rw [hplain]; rfl) (evalArgs_plain h1')

theorem str_typed {x : Str} (s : Shared) (v : Value) (r : PVR s.heap v (.str x)) : s.TypeIs v "str" ∧ ∀ a, v = .ref a → ∃ ob, s.heap.get? a = some ob ∧ ob.dict = none := by
  obtain ⟨t, rfl⟩ := pv_str r
  exact ⟨typeIs_str _ _ _, fun a e => by cases e⟩
theorem list_typed {l : List It} (s : Shared) (v : Value) (r : PVR s.heap v (.list l)) : s.TypeIs v "list" ∧ ∀ a, v = .ref a → ∃ ob, s.heap.get? a = some ob ∧ ob.dict = none := by
  obtain ⟨a, vs, n, rfl, g, r⟩ := r
  exact ⟨⟨_, g, rfl⟩, fun b e => by cases e; exact ⟨_, g, rfl⟩⟩

/-! subscripts -/
theorem wp_subscripted {A : Around} {E : Value → Shared → Prop} {s : Shared} {sl : Expr} {o i : Value} {Q : Value → Shared → Prop} (h : wpAny (model W.prog W.w) A (getItem o i) Q E s) :
    wpAny (model W.prog W.w) A (subscripted sl false o i) Q E s := by
  unfold subscripted
  split <;> first | exact wpAny_operating h | (rename_i q; cases q) | skip
theorem wp_tail {A : Around} {E : Value → Shared → Prop} {s : Shared} {value sl : Expr} {o i : Value} {T id : String} {Q : Value → Shared → Prop} (hT : s.TypeIs o T)
    (hl : typeLookup (.type T) "__getitem__" = pure (some (.builtin id))) (h : wpAny (model W.prog W.w) A (getItem o i) Q E s) : wpAny (model W.prog W.w) A (subscriptTail value sl o i) Q E s := by
  unfold subscriptTail
  refine wpAny_bind ?_
  rw [getitemInPython_of_ne hT.not_modules]
  refine wpAny_bind (wpAny_specialOf hT hl ?_)
  have fin : wpAny (model W.prog W.w) A (subscripted sl false o i) (fun r s₃ => wpAny (model W.prog W.w) A (letTemporaryGo value o r >>= fun _ => pure r) Q E s₃) E s :=
    wp_subscripted (wpAny_mono h (fun r s₃ h₃ => wpAny_bind (wpAny_letTemporaryGo (wpAny_pure h₃))) fun _ _ x => x)
  first
    | exact wpAny_pure (wpAny_bind fin)
    | exact wpAny_bind (wpAny_pure (wpAny_bind fin))
    | exact wpAny_bind fin

theorem Ev.subS {value idx : Expr} {p : Pos} {x : Str} {i : Int} {c : Nat} (h1 : Ev W n false env σ (eval value env) (.str x)) (h2 : Ev W n false env σ (eval idx env) (.int i))
    (h0 : 0 ≤ i) (hi : i < 2 ^ 62) (hc : x.cps[i.toNat]? = some c) : Ev W n fr env σ (eval (.Subscript value idx p) env) (.str ⟨#[c]⟩) := .mk fun A s Q E ro g sa h =>
  Subscript_ (h1.run A s _ E ro g sa fun v s1 e1 r1 _ => h2.run A s1 _ E ro (g.keeps e1.kept) (sa.keeps e1.kept) fun u s2 e2 r2 _ => by
    obtain ⟨t, rfl⟩ := pv_str r1
    obtain ⟨t', rfl⟩ := pv_int r2
    have hlt : i.toNat < x.cps.size := by
      rcases Nat.lt_or_ge i.toNat x.cps.size with h | h
      · exact h
      · rw [Array.getElem?_eq_none h] at hc; cases hc
    refine wp_tail (typeIs_str _ _ _) F.slot_str_getitem.lookup (P.getItem_str (c := c) ?_ ?_ (h _ _ ((e1.trans e2).trans (.tok s2 _)) r_str fun _ => newL_it))
    · simp only [Bool.or_eq_false_iff, decide_eq_false_iff_not]; omega
    · have := PySem.seqIndex_of (k := i) (n := x.length) h0 (by show i < (x.cps.size : Int); omega)
      rw [this]; exact hc)

theorem Ev.subL {value idx : Expr} {p : Pos} {l : List It} {i : Int} {d : It} (h1 : Ev W n false env σ (eval value env) (.list l)) (h2 : Ev W n false env σ (eval idx env) (.int i))
    (h0 : 0 ≤ i) (hi : i < 2 ^ 62) (hc : l[i.toNat]? = some d) : Ev W n fr env σ (eval (.Subscript value idx p) env) (.it d) := .mk fun A s Q E ro g sa h =>
  Subscript_ (h1.run A s _ E ro g sa fun v s1 e1 r1 _ => h2.run A s1 _ E ro (g.keeps e1.kept) (sa.keeps e1.kept) fun u s2 e2 r2 _ => by
    obtain ⟨a, vs, k, rfl, ga, ra⟩ := r1.keeps e2.kept
    obtain ⟨t', rfl⟩ := pv_int r2
    obtain ⟨y, hy, ry⟩ := ra.get _ _ hc
    exact wp_tail ⟨_, ga, rfl⟩ slot_list_getitem.lookup (wpAny_getItem_list ⟨_, ga, rfl, _, rfl⟩ h0 (by omega) (by simpa using hy) (h _ _ (e1.trans e2) ry fun _ => newL_it)))
theorem Ev.subLneg {value idx : Expr} {p : Pos} {l : List It} {d : It} (h1 : Ev W n false env σ (eval value env) (.list l)) (h2 : Ev W n false env σ (eval idx env) (.int (-1)))
    (hc : l.getLast? = some d) : Ev W n fr env σ (eval (.Subscript value idx p) env) (.it d) := .mk fun A s Q E ro g sa h =>
  Subscript_ (h1.run A s _ E ro g sa fun v s1 e1 r1 _ => h2.run A s1 _ E ro (g.keeps e1.kept) (sa.keeps e1.kept) fun u s2 e2 r2 _ => by
    obtain ⟨a, vs, k, rfl, ga, ra⟩ := r1.keeps e2.kept
    obtain ⟨t', rfl⟩ := pv_int r2
    rw [List.getLast?_eq_getElem?] at hc
    obtain ⟨y, hy, ry⟩ := ra.get _ _ hc
    have hlen := ra.length
    have hpos : 0 < l.length := by
      cases l with
      | nil => simp at hc
      | cons => simp
    have hvs : vs.size = l.length := by simpa using hlen
    refine wp_tail ⟨_, ga, rfl⟩ slot_list_getitem.lookup (wpAny_getItem_list_neg ⟨_, ga, rfl, _, rfl⟩ (by omega) (by omega) (by omega) (x := y) ?_ (h _ _ (e1.trans e2) ry fun _ => newL_it))
    have : ((-1 : Int) + vs.size).toNat = l.length - 1 := by omega
    rw [this]; simpa using hy)

/-! slices -/
def pk {α : Type} (lo hi st : Option Int) (l : List α) : List α :=
  (sliceRange (sliceBounds lo hi st l.length).1 (sliceBounds lo hi st l.length).2.1 (sliceBounds lo hi st l.length).2.2).filterMap (l[·]?)
theorem All2.pk {α β : Type} {R : α → β → Prop} {l : List α} {m : List β} (x : All2 R l m) (lo hi st : Option Int) : All2 R (Mine.pk lo hi st l) (Mine.pk lo hi st m) := by
  unfold Mine.pk
  rw [x.length]
  generalize sliceRange _ _ _ = idx
  induction idx with
  | nil => exact .nil
  | cons i r ih =>
    simp only [List.filterMap_cons]
    cases hm : m[i]? with
    | none =>
      have : l[i]? = none := by
        rw [List.getElem?_eq_none_iff] at hm ⊢
        rw [x.length]; exact hm
      simp only [this]; exact ih
    | some b =>
      obtain ⟨a, ha, r⟩ := x.get _ _ hm
      simp only [ha]; exact .cons r ih

structure EvP (W : Wd) (n : Nat) (env : Env) (σ : Sto) (e : Option Expr) (d : Option Int) : Prop where
  run : ∀ (A : Around) (s : Shared) (Q : Value → Shared → Prop) (E : Value → Shared → Prop), Room A n → GA W s.heap → SAt env s.heap σ →
    (∀ v s', Ext s s' → (match d with | none => v = .none | some i => ∃ t, v = .int i t) → Q v s') → wpAny (model W.prog W.w) A (evalPart e env) Q E s
theorem EvP.none : EvP W n env σ none none := .mk fun _ s _ _ _ _ _ h => evalPart_none_step (h _ _ (.refl s) rfl)
theorem EvP.some {e : Expr} {i : Int} (h1 : Ev W n false env σ (eval e env) (.int i)) : EvP W n env σ (some e) (some i) := .mk fun A s Q E ro g sa h =>
  evalPart_some_step (h1.run A s _ E ro g sa fun v s1 e1 r1 _ => by obtain ⟨t, rfl⟩ := pv_int r1; exact h _ _ e1 ⟨t, rfl⟩)

theorem part_of {v : Value} {d : Option Int} (h : match d with | none => v = .none | some i => ∃ t, v = .int i t) : IsPart v d := by
  cases d with
  | none => subst h; exact .none
  | some i => obtain ⟨t, rfl⟩ := h; exact .int i t
theorem partV_of {v : Value} {d : Option Int} (h : match d with | none => v = .none | some i => ∃ t, v = .int i t) : ∃ l : Option (Int × Tok), v = partValue l ∧ l.map (·.1) = d := by
  cases d with
  | none => subst h; exact ⟨none, rfl, rfl⟩
  | some i => obtain ⟨t, rfl⟩ := h; exact ⟨some (i, t), rfl, rfl⟩

theorem Ev.sliceL {value : Expr} {lo hi st : Option Expr} {p q : Pos} {l : List It} {a b c : Option Int} (h1 : Ev W n false env σ (eval value env) (.list l)) (h2 : EvP W n env σ lo a) (h3 : EvP W n env σ hi b) (h4 : EvP W n env σ st c)
    (h0 : c ≠ some 0) (hs : l.length ≤ sizeLine) : Ev W n fr env σ (eval (.Subscript value (.Slice lo hi st q) p) env) (.list (pk a b c l)) := .mk fun A s Q E ro g sa h =>
  Subscript_ (h1.run A s _ E ro g sa fun v s1 e1 r1 _ => wpAny_Slice (h2.run A s1 _ E ro (g.keeps e1.kept) (sa.keeps e1.kept) fun v2 s2 e2 r2 => h3.run A s2 _ E ro (g.keeps (e1.trans e2).kept) (sa.keeps (e1.trans e2).kept) fun v3 s3 e3 r3 =>
    h4.run A s3 _ E ro (g.keeps ((e1.trans e2).trans e3).kept) (sa.keeps ((e1.trans e2).trans e3).kept) fun v4 s4 e4 r4 => by
      have e5 := ((e2.trans e3).trans e4).trans (Ext.push s4 { cls := .type "slice", data := .fields #[v2, v3, v4] })
      obtain ⟨x, vs, k, rfl, ga, ra⟩ := r1.keeps e5.kept
      have hl := ra.length
      refine wp_tail ⟨_, ga, rfl⟩ slot_list_getitem.lookup (wpAny_getItem_list_slice ⟨_, ga, rfl, _, rfl⟩ (Heap.IsSliceOf.new _ _ _ _) (part_of r2) (part_of r3) (part_of r4) h0 (h _ _ ((e1.trans e5).trans (.push _ _)) ⟨_, _, 0, rfl, Heap.get?_push_size _ rfl, ?_⟩ fun _ l _ => ⟨_, rfl, (e1.trans e5).kept.none (fresh_size _)⟩) ?_)
      · have := (ra.pk a b c).imp fun v d (q : ItR _ v d) => q.keeps (h' := Heap.push _ { cls := .type "list", data := .seq (slicePick vs a b c) }) fun _ _ e => Heap.get?_push_of_some _ e
        have e : (slicePick vs a b c).toList = Mine.pk a b c vs.toList := by simp [slicePick, Mine.pk]
        rw [e]; exact this
      · have : vs.size = l.length := by simpa using hl
        omega))

def pkS (lo hi st : Option Int) (x : Str) : Str := ⟨(pk lo hi st x.cps.toList).toArray⟩
theorem strIdx_eq (lo hi st : Option Int) (n : Nat) : Builtin.Str.strSliceIndices lo hi (st.getD 1) n = sliceRange (sliceBounds lo hi st n).1 (sliceBounds lo hi st n).2.1 (sliceBounds lo hi st n).2.2 := rfl
theorem range_full {a b : Int} {n : Nat} (ha : 0 ≤ a) (hb : b ≤ n) (hl : (sliceRange a b 1).length = n) : sliceRange a b 1 = List.range n := by
  obtain ⟨a', rfl⟩ : ∃ k : Nat, a = k := ⟨a.toNat, by omega⟩
  rcases Int.lt_or_le b 0 with h | h
  · have e : (sliceRange (a' : Int) b 1) = [] := by
      unfold sliceRange
      simp only [show (1 : Int) > 0 by decide, if_true]
      rw [if_neg (by omega)]; rfl
    rw [e] at hl ⊢
    subst hl; rfl
  · obtain ⟨b', rfl⟩ : ∃ k : Nat, b = k := ⟨b.toNat, by omega⟩
    rw [sliceRange_one] at hl ⊢
    simp only [List.length_map, List.length_range] at hl
    rcases Nat.eq_zero_or_pos n with h0 | h0
    · subst h0; rw [hl]; rfl
    · have : a' = 0 := by omega
      subst this
      rw [hl]; simp
theorem pk_full {lo hi st : Option Int} {x : Str} (h1 : st.getD 1 = 1) (hl : (Builtin.Str.strSliceIndices lo hi (st.getD 1) x.length).length = x.length) : pkS lo hi st x = x := by
  have hst : (sliceBounds lo hi st x.length).2.2 = 1 := h1
  rw [strIdx_eq, hst] at hl
  have hb : 0 ≤ (sliceBounds lo hi st x.length).1 ∧ (sliceBounds lo hi st x.length).2.1 ≤ x.length := by
    unfold sliceBounds
    simp only [h1, show (1 : Int) > 0 by decide, if_true]
    constructor
    · cases lo <;> simp only <;> omega
    · cases hi <;> simp only <;> omega
  have := range_full hb.1 hb.2 hl
  unfold pkS pk
  rw [show x.cps.toList.length = x.length from by simp [Str.length]]
  rw [hst, this]
  have e : (List.range x.length).filterMap (x.cps.toList[·]?) = x.cps.toList := by
    have := krv_all x.cps
    simpa [Str.length] using this
  rw [e]
theorem Ev.sliceS {value : Expr} {lo hi st : Option Expr} {p q : Pos} {x : Str} {a b c : Option Int} (h1 : Ev W n false env σ (eval value env) (.str x)) (h2 : EvP W n env σ lo a) (h3 : EvP W n env σ hi b) (h4 : EvP W n env σ st c)
    (h0 : (c.getD 1 == 0) = false) (hs : x.length ≤ sizeLine) : Ev W n fr env σ (eval (.Subscript value (.Slice lo hi st q) p) env) (.str (pkS a b c x)) := .mk fun A s Q E ro g sa h =>
  Subscript_ (h1.run A s _ E ro g sa fun v s1 e1 r1 _ => wpAny_Slice (h2.run A s1 _ E ro (g.keeps e1.kept) (sa.keeps e1.kept) fun v2 s2 e2 r2 => h3.run A s2 _ E ro (g.keeps (e1.trans e2).kept) (sa.keeps (e1.trans e2).kept) fun v3 s3 e3 r3 =>
    h4.run A s3 _ E ro (g.keeps ((e1.trans e2).trans e3).kept) (sa.keeps ((e1.trans e2).trans e3).kept) fun v4 s4 e4 r4 => by
      have e5 := e1.trans (((e2.trans e3).trans e4).trans (Ext.push s4 { cls := .type "slice", data := .fields #[v2, v3, v4] }))
      obtain ⟨t, rfl⟩ := pv_str r1
      obtain ⟨l2, rfl, f2⟩ := partV_of r2
      obtain ⟨l3, rfl, f3⟩ := partV_of r3
      obtain ⟨l4, rfl, f4⟩ := partV_of r4
      subst f2 f3 f4
      refine wp_tail (typeIs_str _ _ _) F.slot_str_getitem.lookup (wpAny_getItem_str_slice (l := l2) (u := l3) (st := l4) ⟨_, Heap.get?_push_size _ rfl, rfl, rfl⟩ h0 ?_)
      unfold sliceMade slicePicked
      split
      · rename_i hq
        rw [Bool.and_eq_true, beq_iff_eq, beq_iff_eq] at hq
        have e := pk_full (lo := l2.map (·.1)) (hi := l3.map (·.1)) (st := l4.map (·.1)) (x := x) hq.1 hq.2
        exact h _ _ e5 (by rw [e]; exact r_str) fun _ => newL_it
      · have e : (⟨((Builtin.Str.strSliceIndices (l2.map (·.1)) (l3.map (·.1)) ((l4.map (·.1)).getD 1) x.length).filterMap (x.cps[·]?)).toArray⟩ : Str) = pkS (l2.map (·.1)) (l3.map (·.1)) (l4.map (·.1)) x := by
          rw [strIdx_eq]; unfold pkS pk; simp [Str.length]
        rw [e]
        refine ⟨?_, h _ _ (e5.trans (.tok _ _)) r_str fun _ => newL_it⟩
        have hl : (pk (l2.map (·.1)) (l3.map (·.1)) (l4.map (·.1)) x.cps.toList).length ≤ x.length := by
          have := slicePick_size_le (x.cps.map fun c => Value.int (c : Nat) 0) (l2.map (·.1)) (l3.map (·.1)) (l4.map (·.1))
          have al : All2 (fun (v : Value) (c : Nat) => v = .int (c : Nat) 0) (x.cps.map fun c => Value.int (c : Nat) 0).toList x.cps.toList := by
            rw [Array.toList_map]
            generalize x.cps.toList = l
            induction l with
            | nil => exact .nil
            | cons a r ih => exact .cons rfl ih
          have e2 := (al.pk (l2.map (·.1)) (l3.map (·.1)) (l4.map (·.1))).length
          rw [← e2]
          have e3 : (pk (l2.map (·.1)) (l3.map (·.1)) (l4.map (·.1)) (x.cps.map fun c => Value.int (c : Nat) 0).toList).length = (slicePick (x.cps.map fun c => Value.int (c : Nat) 0) (l2.map (·.1)) (l3.map (·.1)) (l4.map (·.1))).size := by
            simp [slicePick, pk]
          rw [e3]
          simpa [Str.length] using this
        show (pk _ _ _ x.cps.toList).toArray.size ≤ sizeLine
        rw [List.size_toArray]
        exact Nat.le_trans hl hs))
end
end Mine
end

/-! M3 -/
section
open PySem PySem.Calls PyProof.Rows PySem.W
set_option maxRecDepth 100000
namespace Mine
section
variable {W : Wd} {n : Nat} {fr : Bool} {env : Env} {σ : Sto}

theorem all1 {α β : Type} {R : α → β → Prop} {vs : List α} {d : β} (h : All2 R vs [d]) : ∃ v, vs = [v] ∧ R v d := by
  cases h with
  | cons r x => cases x; exact ⟨_, rfl, r⟩
theorem all2 {α β : Type} {R : α → β → Prop} {vs : List α} {d e : β} (h : All2 R vs [d, e]) : ∃ v u, vs = [v, u] ∧ R v d ∧ R u e := by
  cases h with
  | cons r x => obtain ⟨u, rfl, q⟩ := all1 x; exact ⟨_, _, rfl, r, q⟩
theorem all3 {α β : Type} {R : α → β → Prop} {vs : List α} {d e f : β} (h : All2 R vs [d, e, f]) : ∃ v u y, vs = [v, u, y] ∧ R v d ∧ R u e ∧ R y f := by
  cases h with
  | cons r x => obtain ⟨u, y, rfl, q⟩ := all2 x; exact ⟨_, _, _, rfl, r, q⟩

/-! built-in functions -/
theorem OpC.lenS {x : Str} (hf : x.length < 2 ^ 62) : OpC W n (.builtin "len") [.str x] (.int x.length) := .mk fun A s vs Q E _ _ r h => by
  obtain ⟨v, rfl, r1⟩ := all1 r
  obtain ⟨t, rfl⟩ := pv_str r1
  exact P.len_str (by omega) (h _ _ (.tok s _) r_int newL_it)
theorem OpC.lenL {l : List It} (hf : l.length < 2 ^ 62) : OpC W n (.builtin "len") [.list l] (.int l.length) := .mk fun A s vs Q E _ _ r h => by
  obtain ⟨v, rfl, r1⟩ := all1 r
  obtain ⟨a, vs, k, rfl, g, ra⟩ := r1
  have hl : vs.size = l.length := by simpa using ra.length
  refine PySem.Calls.call_len_list ⟨_, g, rfl, _, rfl⟩ (by rw [hl]; omega) ?_
  rw [hl]
  exact h _ _ (.tok s _) r_int newL_it
theorem OpC.chr {i : Int} (h0 : 0 ≤ i) (h1 : i ≤ 0x10FFFF) : OpC W n (.builtin "chr") [.int i] (.str ⟨#[i.toNat]⟩) := .mk fun A s vs Q E _ _ r h => by
  obtain ⟨v, rfl, r1⟩ := all1 r
  obtain ⟨t, rfl⟩ := pv_int r1
  exact P.chr_of_int (by simp only [Bool.or_eq_false_iff, decide_eq_false_iff_not]; omega) (h _ _ (.tok s _) r_str newL_it)
theorem OpC.ord {c : Nat} : OpC W n (.builtin "ord") [.str ⟨#[c]⟩] (.int c) := .mk fun A s vs Q E _ _ r h => by
  obtain ⟨v, rfl, r1⟩ := all1 r
  obtain ⟨t, rfl⟩ := pv_str r1
  exact P.ord_of_char (h _ _ (.tok s _) r_int newL_it)

theorem getD_map_int (ns : List Int) : ∀ i < ns.length, (ns.map It.int)[i]? = some (It.int (ns.getD i 0)) := by
  intro i hi
  simp [List.getD, hi]
theorem OpC.sum {ns : List Int} : OpC W (n + 1) (.builtin "sum") [.list (ns.map It.int)] (.int ns.sum) := .mk fun A s vs Q E ro _ r h => by
  obtain ⟨v, rfl, r1⟩ := all1 r
  obtain ⟨a, vs, k, rfl, g, ra⟩ := r1
  have hl : vs.size = ns.length := by simpa using ra.length
  have hL : s.heap.IsList a vs := ⟨_, g, rfl, _, rfl⟩
  have hlt : a < s.heap.objs.size := Heap.lt_size g
  refine call_sum_walkG (wpAny_pyIter_list hL ?_)
  refine ⟨_, _, _, _, _, _, fun i => ns.getD i 0, rfl, Walks.list (by show A.handled = none; exact ro.hd) _ a (Nat.ne_of_lt hlt) vs, ⟨⟨_, Heap.get?_push_size _ rfl, rfl, rfl⟩, hL.push _⟩, ?_, ?_, ?_⟩
  · intro b hb
    show b < (s.heap.push _).objs.size
    rw [Heap.size_push]
    simp only [List.mem_cons, List.not_mem_nil, or_false] at hb
    rcases hb with e | e
    · rw [e]; exact Nat.lt_succ_self _
    · rw [e]; exact Nat.lt_succ_of_lt hlt
  · intro i v hv
    have hi : i < ns.length := by
      rw [← hl]
      rcases Nat.lt_or_ge i vs.size with q | q
      · exact q
      · rw [Array.getElem?_eq_none q] at hv; cases hv
    obtain ⟨y, hy, ry⟩ := ra.get i _ (getD_map_int ns i hi)
    have : vs[i]? = some y := by simpa using hy
    rw [this] at hv; cases hv
    exact ImR.int_inv ry
  · intro h' tk t' hk
    rw [hl, preSum_getD, List.take_of_length_le (Nat.le_refl _)]
    refine h _ _ (Ext.put tk fun b o e => hk b o ?_ (Heap.get?_push_of_some _ e)) r_int newL_it
    simp only [List.mem_cons, List.not_mem_nil, or_false]
    exact Nat.ne_of_lt (Heap.lt_size e)

theorem OpC.range1 {b : Int} : OpC W n (.type "range") [.int b] (.rng 0 b) := .mk fun A s vs Q E _ _ r h => by
  obtain ⟨v, rfl, r1⟩ := all1 r
  obtain ⟨t, rfl⟩ := pv_int r1
  exact call_range_1 (h _ _ (Ext.put _ fun _ _ e => Heap.get?_push_of_some _ e) ⟨_, _, _, _, rfl, Heap.get?_push_size _ rfl⟩ newL_rng)
theorem OpC.range2 {a b : Int} : OpC W n (.type "range") [.int a, .int b] (.rng a b) := .mk fun A s vs Q E _ _ r h => by
  obtain ⟨v, u, rfl, r1, r2⟩ := all2 r
  obtain ⟨t, rfl⟩ := pv_int r1
  obtain ⟨t, rfl⟩ := pv_int r2
  exact call_range_2 (h _ _ (Ext.put _ fun _ _ e => Heap.get?_push_of_some _ e) ⟨_, _, _, _, rfl, Heap.get?_push_size _ rfl⟩ newL_rng)

/-- the ints of a range by ones -/
def rngL (a b : Int) : List Int := (List.range (b - a).toNat).map fun i => a + (i : Nat)
theorem rngL_size (a b : Int) : Builtin.Range.rangeSize a b 1 = ((b - a).toNat : Int) := by
  rw [rangeSize_one]; split <;> omega
theorem OpC.listR {a b : Int} (ha : -(2 ^ 62) ≤ a) (ha' : a < 2 ^ 62) (hb : -(2 ^ 62) ≤ b) (hb' : b < 2 ^ 62) (hl : (b - a).toNat ≤ 2 ^ 24) : OpC W n (.type "list") [.rng a b] (.list ((rngL a b).map It.int)) := .mk fun A s vs Q E ro _ r h => by
  obtain ⟨v, rfl, r1⟩ := all1 r
  obtain ⟨x, t1, t2, t3, rfl, g⟩ := r1
  refine call_list_range ro.hd g (small_one ha ha' hb hb') (rngL_size a b) hl fun h' tk acc c hk hg hi => ?_
  refine h _ _ (Ext.put tk hk) ⟨_, acc, c, rfl, hg, ?_⟩ fun l _ => ⟨_, rfl, fresh_size _⟩
  obtain ⟨h1, h2⟩ := hi
  have key : ∀ (l : List Value) (ns : List Int), l.length = ns.length → (∀ j v, l[j]? = some v → ∃ t, v = Value.int (ns.getD j 0) t) → All2 (ItR h') l (ns.map It.int) := by
    intro l
    induction l with
    | nil => intro ns hn _; cases ns with | nil => exact .nil | cons => simp at hn
    | cons x r ih =>
      intro ns hn hv
      cases ns with
      | nil => simp at hn
      | cons m ns =>
        obtain ⟨t, e⟩ := hv 0 x (by simp)
        subst e
        exact .cons rfl (ih ns (by simpa using hn) fun j v hj => by simpa using hv (j + 1) v (by simpa using hj))
  refine key _ _ (by simp [rngL, h1]) fun j v hj => ?_
  have hj' : acc[j]? = some v := by simpa using hj
  obtain ⟨t, e⟩ := h2 j v hj'
  have hlt : j < (b - a).toNat := by
    rw [← h1]
    rcases Nat.lt_or_ge j acc.size with q | q
    · exact q
    · rw [Array.getElem?_eq_none q] at hj'; cases hj'
  exact ⟨t, by rw [e]; simp [rngL, List.getD, hlt]⟩

/-! methods of texts -/
theorem OpM.starts {x y : Str} : OpM W n "str.startswith" (.str x) [.str y] (.bool (Txt.startswith x y)) := .mk fun A s vs Q E _ _ r h => by
  obtain ⟨v, u, rfl, r1, r2⟩ := all2 r
  obtain ⟨t, rfl⟩ := pv_str r1; obtain ⟨t', rfl⟩ := pv_str r2
  exact SC.startswith (h _ _ (.refl s) r_bool newL_it)
theorem OpM.ends {x y : Str} : OpM W n "str.endswith" (.str x) [.str y] (.bool (Txt.endswith x y)) := .mk fun A s vs Q E _ _ r h => by
  obtain ⟨v, u, rfl, r1, r2⟩ := all2 r
  obtain ⟨t, rfl⟩ := pv_str r1; obtain ⟨t', rfl⟩ := pv_str r2
  exact SC.endswith (h _ _ (.refl s) r_bool newL_it)

theorem strs_of {h : Heap} : ∀ {vs : List Value} {xs : List Str}, All2 (ItR h) vs (xs.map It.str) → ∃ l : List (Str × Tok), vs = strValues l ∧ l.map (·.1) = xs
  | _, [], .nil => ⟨[], rfl, rfl⟩
  | _, x :: xs, .cons r y => by
    obtain ⟨t, rfl⟩ := ImR.str_inv r
    obtain ⟨l, rfl, e⟩ := strs_of y
    exact ⟨(x, t) :: l, rfl, by simp [e]⟩
theorem strs_are {h : Heap} : ∀ {vs : List Value} {xs : List Str}, All2 (ItR h) vs (xs.map It.str) → StrsAre vs xs
  | _, [], .nil => .nil
  | _, x :: xs, .cons r y => by
    obtain ⟨t, rfl⟩ := ImR.str_inv r
    exact .cons x t (strs_are y)
theorem of_strs {h : Heap} (l : List (Str × Tok)) : All2 (ItR h) (strValues l) ((l.map (·.1)).map It.str) := by
  induction l with
  | nil => exact .nil
  | cons a r ih => exact .cons rfl ih

theorem OpM.join {x : Str} {xs : List Str} (hok : JoinOk x xs = true) : OpM W n "str.join" (.str x) [.list (xs.map It.str)] (.str (Txt.join x xs)) := .mk fun A s vs Q E _ _ r h => by
  obtain ⟨v, u, rfl, r1, r2⟩ := all2 r
  obtain ⟨t, rfl⟩ := pv_str r1
  obtain ⟨a, vs, k, rfl, g, ra⟩ := r2
  obtain ⟨l, e, hl⟩ := strs_of ra
  have e2 : vs = (strValues l).toArray := by rw [← e]
  exact SC.join (D := a) (l := l) (texts := xs) ⟨_, g, rfl, k, by rw [e2]⟩ hl hok fun t' k => h _ _ (.tok s _) r_str newL_it

theorem OpM.split {x y : Str} (hy : (y.length == 0) = false) (hx : x.length ≤ sizeLine) (hx2 : (Txt.split x y).length ≤ sizeLine) : OpM W n "str.split" (.str x) [.str y] (.list ((Txt.split x y).map It.str)) := .mk fun A s vs Q E _ _ r h => by
  obtain ⟨v, u, rfl, r1, r2⟩ := all2 r
  obtain ⟨t, rfl⟩ := pv_str r1; obtain ⟨t', rfl⟩ := pv_str r2
  have one : (Txt.split x y = [x]) → ∀ Qx, Qx = Q → Qx (.ref s.heap.objs.size) { s with heap := s.heap.push { cls := .type "list", data := .seq #[.str x t] } } := fun e Qx hQ => by
    subst hQ
    refine h _ _ (.push s _) ⟨_, _, 0, rfl, Heap.get?_push_size _ rfl, ?_⟩ fun l _ => ⟨_, rfl, fresh_size _⟩
    rw [e]; exact .cons rfl .nil
  cases h1 : (decide (x.length < y.length) || decide (Builtin.Str.strKind x < Builtin.Str.strKind y))
  · cases hf : (Builtin.Str.occurrences x y 0 x.length (x.length + 1)).isEmpty
    · have e : Txt.split x y = Builtin.Str.partsBetween x (Builtin.Str.occurrences x y 0 x.length (x.length + 1)) y.length := by
        unfold Txt.split; rw [h1, hf]; rfl
      rw [e] at hx2
      refine call_meets PySem.F.slot_str_split (typeIs_str _ _ _) PySem.F.entry_str_split (PySem.F.args_str_split_2 _ _) (meets_str_split_sep x y t t' h1 hy hf hx hx2) ?_
      refine h _ _ (Ext.put _ fun _ _ e => Heap.get?_push_of_some _ e) ⟨_, _, 0, rfl, Heap.get?_push_size _ rfl, ?_⟩ fun l _ => ⟨_, rfl, fresh_size _⟩
      have := of_strs (h := s.heap.push { cls := .type "list", data := .seq (strsFrom s.toks (Builtin.Str.partsBetween x (Builtin.Str.occurrences x y 0 x.length (x.length + 1)) y.length)).toArray }) (numbered s.toks (Builtin.Str.partsBetween x (Builtin.Str.occurrences x y 0 x.length (x.length + 1)) y.length))
      rw [numbered_texts, ← strsFrom_eq, ← e] at this
      simpa [e] using this
    · exact call_meets PySem.F.slot_str_split (typeIs_str _ _ _) PySem.F.entry_str_split (PySem.F.args_str_split_2 _ _) (meets_str_split_not_found x y t t' h1 hy hf) (one (by unfold Txt.split; rw [h1, hf]; rfl) Q rfl)
  · exact call_meets PySem.F.slot_str_split (typeIs_str _ _ _) PySem.F.entry_str_split (PySem.F.args_str_split_2 _ _) (meets_str_split_cannot_occur x y t t' h1) (one (by unfold Txt.split; rw [h1]; rfl) Q rfl)
end
end Mine
end

/-! M4 -/
section
open PySem PySem.Calls PyProof.Rows PySem.W
set_option maxRecDepth 100000
namespace Mine
open PySem.Builtin PySem.Builtin.Str
section
variable {W : Wd} {n : Nat} {fr : Bool} {env : Env} {σ : Sto}

/-- str.find with a start and an end inside the text -/
def fnd (x y : Str) (lo hi : Nat) : Int := match occurrences x y lo hi 1 with | k :: _ => (k : Int) | [] => -1
theorem gives_find4 (x y : Str) (lo hi : Nat) (hh : hi ≤ x.length) (t u v v' : Tok) : Gives («str.find» ⟨[.str x t, .str y u, .int lo v, .int hi v'], []⟩) (.int (fnd x y lo hi)) := by
  have e1 : (max 0 (if (lo : Int) < 0 then (lo : Int) + x.length else lo)).toNat = lo := by
    rw [if_neg (by omega)]; omega
  have e2 : (min (max 0 (if (hi : Int) < 0 then (hi : Int) + x.length else hi)) (x.length : Int)).toNat = hi := by
    rw [if_neg (by omega)]; omega
  have e3 : (min ((max 0 (if (hi : Int) < 0 then (hi : Int) + x.length else hi)).toNat) x.length) = hi := by
    rw [if_neg (by omega)]; omega
  have key : Gives (match occurrences x y ((max 0 (if (lo : Int) < 0 then (lo : Int) + x.length else lo)).toNat) (min ((max 0 (if (hi : Int) < 0 then (hi : Int) + x.length else hi)).toNat) x.length) 1 with | k :: _ => retInt k | [] => (do rule "str.find.not-found"; retInt (-1))) (.int (fnd x y lo hi)) := by
    rw [e1, e3]
    unfold fnd
    cases occurrences x y lo hi 1 with
    | nil => exact .rule (.of_eq rfl)
    | cons k _ => exact .of_eq rfl
  exact key

theorem all4 {α β : Type} {R : α → β → Prop} {vs : List α} {d e f g : β} (h : All2 R vs [d, e, f, g]) : ∃ v u y z, vs = [v, u, y, z] ∧ R v d ∧ R u e ∧ R y f ∧ R z g := by
  cases h with
  | cons r x => obtain ⟨u, y, z, rfl, q⟩ := all3 x; exact ⟨_, _, _, _, rfl, r, q⟩
theorem OpM.find {x y : Str} {lo hi : Nat} (hh : hi ≤ x.length) : OpM W n "str.find" (.str x) [.str y, .int lo, .int hi] (.int (fnd x y lo hi)) := .mk fun A s vs Q E _ _ r h => by
  obtain ⟨v, u, y, z, rfl, r1, r2, r3, r4⟩ := all4 r
  obtain ⟨t, rfl⟩ := pv_str r1; obtain ⟨t', rfl⟩ := pv_str r2
  obtain ⟨t3, rfl⟩ := pv_int r3; obtain ⟨t4, rfl⟩ := pv_int r4
  exact call_gives PySem.F.slot_str_find (typeIs_str _ _ _) PySem.F.entry_str_find (PySem.F.args_str_find_4 _ _ _ _) (gives_find4 _ _ _ _ hh _ _ _ _) (h _ _ (.tok s _) r_int newL_it)
theorem OpM.lower {x : Str} (hx : x.length ≤ 5592405) : OpM W n "str.lower" (.str x) [] (.str (Txt.lower x)) := .mk fun A s vs Q E _ _ r h => by
  obtain ⟨v, rfl, r1⟩ := all1 r
  obtain ⟨t, rfl⟩ := pv_str r1
  exact SCL.lower hx fun _ => h _ _ (.tok s _) r_str newL_it

/-! in -/
theorem Op2.ninS {x y : Str} : Op2 W n (compareOp .NotIn) (.str y) (.str x) (.bool (!Txt.contains x y)) := .mk fun A s a b Q E _ _ r1 r2 h => by
  obtain ⟨t, rfl⟩ := pv_str r1; obtain ⟨u, rfl⟩ := pv_str r2
  exact SB.notContains (h _ _ (.refl s) r_bool newL_it)
theorem Op2.ninLS {x : Str} {l : List Str} : Op2 W n (compareOp .NotIn) (.str x) (.list (l.map It.str)) (.bool (!(l.any (· == x)))) := .mk fun A s a b Q E _ _ r1 r2 h => by
  obtain ⟨t, rfl⟩ := pv_str r1; obtain ⟨a, vs, k, rfl, g, ra⟩ := r2
  exact PyProof.Rows.notin_list_strs (l := a) (vs := vs.toList) ⟨_, g, rfl, k, by simp⟩ (strs_are ra) (h _ _ (.refl s) r_bool newL_it)
/-! bools and None -/
theorem Op2.eqB {a b : Bool} : Op2 W n (compareOp .Eq) (.bool a) (.bool b) (.bool (a == b)) := .mk fun A s x y Q E _ _ r1 r2 h => by
  obtain rfl := pv_bool r1; obtain rfl := pv_bool r2
  exact PyProof.Rows.eq_bool (h _ _ (.refl s) r_bool newL_it)
theorem Op2.isB {a b : Bool} : Op2 W n (compareOp .Is) (.bool a) (.bool b) (.bool (a == b)) := .mk fun A s x y Q E _ _ r1 r2 h => by
  obtain rfl := pv_bool r1; obtain rfl := pv_bool r2
  exact PyProof.Rows.is_bool (h _ _ (.refl s) r_bool newL_it)
theorem Op2.isnB {a b : Bool} : Op2 W n (compareOp .IsNot) (.bool a) (.bool b) (.bool (a != b)) := .mk fun A s x y Q E _ _ r1 r2 h => by
  obtain rfl := pv_bool r1; obtain rfl := pv_bool r2
  exact PyProof.Rows.isnot_bool (h _ _ (.refl s) r_bool newL_it)
def Im.isNone : Im → Bool | .none => true | _ => false
theorem im_none {v : Value} {a : Im} (r : ImR v a) : (v == .none) = a.isNone := by
  cases a <;> cases v <;> first | rfl | (simp only [ImR] at r)
theorem Op2.isN {a : Im} : Op2 W n (compareOp .Is) (.it (.im a)) .none (.bool a.isNone) := .mk fun A s x y Q E _ _ r1 r2 h => by
  obtain rfl := pv_none r2
  have e : (x == .none) = a.isNone := im_none r1
  exact PyProof.Rows.is_none_gen (by rw [e]; exact h _ _ (.refl s) r_bool newL_it)
theorem Op2.isnN {a : Im} : Op2 W n (compareOp .IsNot) (.it (.im a)) .none (.bool (!a.isNone)) := .mk fun A s x y Q E _ _ r1 r2 h => by
  obtain rfl := pv_none r2
  have e : (x == .none) = a.isNone := im_none r1
  exact PyProof.Rows.isnot_none_gen (by rw [e]; exact h _ _ (.refl s) r_bool newL_it)

/-! lists -/
theorem Op2.addL {l m : List It} (hs : l.length + m.length ≤ sizeLine) : Op2 W n (binaryOp .Add) (.list l) (.list m) (.list (l ++ m)) := .mk fun A s x y Q E _ _ r1 r2 h => by
  obtain ⟨a, vs, k, rfl, g, ra⟩ := r1
  obtain ⟨b, us, k', rfl, g', rb⟩ := r2
  have h1 : vs.size = l.length := by simpa using ra.length
  have h2 : us.size = m.length := by simpa using rb.length
  refine P.add_list g g' (h _ _ (.push s _) ⟨_, vs ++ us, 0, rfl, Heap.get?_push_size _ rfl, ?_⟩ fun _ _ => ⟨_, rfl, fresh_size _⟩) (by omega)
  rw [Array.toList_append]
  exact (ra.append rb).imp fun _ _ q => q.keeps fun _ _ e => Heap.get?_push_of_some _ e

def rep {α : Type} (k : Int) (l : List α) : List α := (List.replicate k.toNat l).flatten
theorem All2.rep {α β : Type} {R : α → β → Prop} {l : List α} {m : List β} (x : All2 R l m) (k : Int) : All2 R (rep k l) (rep k m) := by
  unfold Mine.rep
  induction k.toNat with
  | zero => exact .nil
  | succ n ih => simp only [List.replicate_succ, List.flatten_cons]; exact x.append ih
theorem Op2.mulL {l : List It} {k : Int} (hlo : -(2 ^ 63 : Int) ≤ k) (hhi : k < 2 ^ 63) (hs : l.length * k.toNat ≤ 2 ^ 24) : Op2 W n (binaryOp .Mult) (.list l) (.int k) (.list (rep k l)) := .mk fun A s x y Q E _ _ r1 r2 h => by
  obtain ⟨a, vs, c, rfl, g, ra⟩ := r1
  obtain ⟨t, rfl⟩ := pv_int r2
  have hsz : vs.size = l.length := by simpa using ra.length
  rw [← hsz] at hs
  refine wpAny_binaryOp_repeat_ref (T := "list") (U := "int") (by decide) ⟨_, g, rfl⟩ (fun s' => typeIs_int s' k t) noFill_list_mul F.fills_int_mul F.slot_int_rmul repeat_list F.slot_int_index.lookup
    (call_meets F.slot_int_rmul (typeIs_int s k t) F.entry_int_rmul (F.args_int_rmul_2 _ _) (lm_int_rmul_list_any k t a vs c none #[])
      ⟨g, rfl, ⟨_, g, rfl⟩, call_meets F.slot_list_mul ⟨_, g, rfl⟩ F.entry_list_mul (F.args_list_mul_2 _ _)
        (lm_list_mul_any a vs c none #[] k t (by simp [Builtin.List.listFitsIndex]; omega) (by omega) (by simp [Builtin.List.listTooLong, sizeLine]; omega))
        ⟨g, h _ _ (.push s _) ⟨_, _, 0, rfl, Heap.get?_push_size _ rfl, ?_⟩ fun _ _ => ⟨_, rfl, fresh_size _⟩⟩⟩)
  rw [listMul_foldl_if]
  exact (ra.rep k).imp fun _ _ q => q.keeps fun _ _ e => Heap.get?_push_of_some _ e
def repS (k : Int) (x : Str) : Str := ⟨(rep k x.cps.toList).toArray⟩
theorem Op2.mulS {x : Str} {k : Int} (hlo : -(2 ^ 63 : Int) ≤ k) (hhi : k < 2 ^ 24) (hs : x.length * k.toNat ≤ 2 ^ 24) : Op2 W n (binaryOp .Mult) (.str x) (.int k) (.str (repS k x)) := .mk fun A s a b Q E _ _ r1 r2 h => by
  obtain ⟨t, rfl⟩ := pv_str r1
  obtain ⟨u, rfl⟩ := pv_int r2
  refine P.mul_str ?_ ?_ ?_ ?_
  · simp only [Bool.or_eq_false_iff, decide_eq_false_iff_not]; omega
  · intro h1 h2 h3
    have hk : 0 < k := by omega
    have hq : (2 ^ 63 - 1 : Int) / k < x.length := h3
    rw [Int.ediv_lt_iff_lt_mul hk] at hq
    have h5 : ((x.length * k.toNat : Nat) : Int) = (x.length : Int) * k := by rw [Int.natCast_mul, Int.toNat_of_nonneg (by omega)]
    rw [← h5] at hq
    omega
  · intro _ _
    simp [Builtin.Str.tooLong, sizeLine]; omega
  · by_cases h1 : k < 1
    · rw [if_pos h1]
      have e : repS k x = Str.empty := by
        have : k.toNat = 0 := by omega
        simp [repS, rep, this]; rfl
      exact ⟨by decide, by rw [← e]; exact h _ _ (.tok s _) r_str newL_it⟩
    · rw [if_neg h1]
      by_cases h2 : (k == 1 || x.length == 0) = true
      · rw [if_pos h2]
        have e : repS k x = x := by
          simp only [Bool.or_eq_true, beq_iff_eq] at h2
          rcases h2 with e | e
          · subst e; simp [repS, rep]
          · have : x.cps = #[] := by simpa [Str.length] using e
            obtain ⟨c⟩ := x
            simp only at this; subst this
            simp [repS, rep]
        exact h _ _ (.refl s) (by rw [e]; exact r_str) newL_it
      · rw [if_neg h2]
        have e : (⟨(List.replicate k.toNat x.cps).foldl (· ++ ·) #[]⟩ : Str) = repS k x := by
          have := listMul_foldl (x.cps.map fun c => Value.int (c : Nat) 0) k.toNat #[]
          unfold repS rep
          congr 1
          have gen : ∀ (k : Nat) (acc : Array Nat), List.foldl (fun x1 x2 => x1 ++ x2) acc (List.replicate k x.cps) = (acc.toList ++ (List.replicate k x.cps.toList).flatten).toArray := by
            intro k
            induction k with
            | zero => intro acc; simp
            | succ m ih => intro acc; simp only [List.replicate_succ, List.foldl_cons, ih, List.flatten_cons]; simp
          rw [gen]; simp
        rw [e]
        refine ⟨?_, h _ _ (.tok s _) r_str newL_it⟩
        show (rep k x.cps.toList).toArray.size ≤ sizeLine
        simp only [List.size_toArray, rep, List.length_flatten, List.map_replicate, List.sum_replicate_nat, sizeLine]
        have : x.cps.toList.length = x.length := by simp [Str.length]
        rw [this, Nat.mul_comm]; exact hs

/-! minus -/
theorem Ev.neg {e : Expr} {p : Pos} {i : Int} (h1 : Ev W n false env σ (eval e env) (.int i)) : Ev W n fr env σ (eval (.UnaryOp .USub e p) env) (.int (-i)) := .mk fun A s Q E ro g sa h =>
  wpAny_UnaryOp (h1.run A s _ E ro g sa fun v s1 e1 r1 _ => by
    obtain ⟨t, rfl⟩ := pv_int r1
    exact PyProof.Rows.neg_int (h _ _ (e1.trans (.tok s1 _)) r_int fun _ => newL_it))
end
end Mine
end

/-! M5 -/
section
open PySem PySem.Calls PyProof.Rows PySem.W
set_option maxRecDepth 100000
namespace Mine
section
variable {W : Wd} {n : Nat} {fr : Bool} {env : Env} {σ : Sto}

def OptR (v : Option Value) (x : Option Im) : Prop :=
  match v, x with
  | none, none => True
  | some v, some a => ImR v a
  | _, _ => False
theorem OptR.getD {v : Option Value} {x : Option Im} (r : OptR v x) {w : Value} {b : Im} (q : ImR w b) : ImR (v.getD w) (x.getD b) := by
  cases v <;> cases x <;> simp only [OptR] at r <;> first | exact q | exact r

theorem mapOf_kept {K : Type} [DecidableEq K] {prog : Program} {w : World} {knd : KeyKind prog w K} {h h' : Heap} {a : Addr} {f : K → Option Value} (hm : h.MapOf knd a f) (k : Kept h h') : h'.MapOf knd a f :=
  let ⟨o, es, ep, ho, r⟩ := hm; ⟨o, es, ep, k _ _ ho, r⟩
theorem setOf_kept {K : Type} [DecidableEq K] {prog : Program} {w : World} {knd : KeyKind prog w K} {h h' : Heap} {a : Addr} {f : K → Bool} {m : Nat} (hm : h.SetOf knd a f m) (k : Kept h h') : h'.SetOf knd a f m :=
  let ⟨o, es, ep, t, ho, r⟩ := hm; ⟨o, es, ep, t, k _ _ ho, r⟩

/-- a key of a kind, as data -/
structure KeyD (W : Wd) (K : Type) [DecidableEq K] (knd : KeyKind W.prog W.w K) (k : K) (a : Im) : Prop where
  is : ∀ v, ImR v a → knd.is k v = true
theorem keyI (k : Int) : KeyD W Int (intKind W.prog W.w) k (.int k) := ⟨fun v r => by obtain ⟨t, rfl⟩ := ImR.int_inv r; simp [intKind, Value.isInt]⟩
theorem keyS (k : Str) : KeyD W Str (PySem.strKind W.prog W.w) k (.str k) := ⟨fun v r => by obtain ⟨t, rfl⟩ := ImR.str_inv r; simp [PySem.strKind, Value.isStrOf]⟩

theorem getName {o : Expr} {name : Str} {apos pos : Pos} {args : List Expr} {trees : List (Bool × Sem Value)} {A : Around} {s : Shared} {E : Value → Shared → Prop} {Q : Value → Shared → Prop} {id : Str} {p : Pos} {v : Value} {T bid : String}
    (hk : EnvOk env) (g : GA W s.heap) (hx : env.kindOf id = some .globalImplicit) (hf : W.mg id = some v) (ho : o = .Name id p)
    (pa : PlainAttrs T) (sl : Slot T name bid) (ty : typeOf (.builtin bid) = pure (.type "method_descriptor")) (hT : s.TypeIs v T) (hN : ∀ a, v = .ref a → ∃ ob, s.heap.get? a = some ob ∧ ob.dict = none)
    (hbase : attributeBase o name env (eval o env) = eval o env)
    (hfew : ((backTo pos (starEach args env)).all (fun x => !x.1) && (backToKw pos (keywordEach [] env)).all (fun x => x.1.isSome) && decide (args.length + ([] : List Keyword).length + (if ([] : List Keyword).isEmpty then 0 else 1) < 30)) = true)
    (hline : (apos.endLine == pos.line) = true) (htr : backTo pos (starEach args env) = trees)
    (h : wpAny (model W.prog W.w) A (callWith pos (.builtin bid) [v] trees []) Q E s)
    (hd : (id == ("__debug__" : Str)) = false := by decide) :
    wpAny (model W.prog W.w) A (eval (.Call (.Attribute o name apos) args [] pos) env) Q E s := by
  subst ho
  refine wpAny_Call_method_late hbase hfew hline htr (load_global hk g hx (.inl hf) ?_ hd)
  exact ⟨T, bid, pa, sl, ty, hT, hN, h⟩

section
variable {K : Type} [DecidableEq K] {knd : KeyKind W.prog W.w K} {d : Addr} {f : K → Option Value} {T : K → Option Im}

theorem Ev.get2 {id : Str} {p apos pos : Pos} {e1 e2 : Expr} {k : K} {a b : Im} (hk : EnvOk env) (hx : env.kindOf id = some .globalImplicit) (hf : W.mg id = some (.ref d)) (hm : W.hB.MapOf knd d f) (hT : ∀ k, OptR (f k) (T k))
    (hkey : KeyD W K knd k a) (hmod : (d == sysModules) = false)
    (h1 : Ev W n false env σ (eval e1 env) (.it (.im a))) (h2 : Ev W n false env σ (eval e2 env) (.it (.im b)))
    (hbase : attributeBase (.Name id p) "get" env (eval (.Name id p) env) = eval (.Name id p) env := by with_unfolding_all rfl)
    (hfew : ((backTo pos (starEach [e1, e2] env)).all (fun x => !x.1) && (backToKw pos (keywordEach [] env)).all (fun x => x.1.isSome) && decide ([e1, e2].length + ([] : List Keyword).length + (if ([] : List Keyword).isEmpty then 0 else 1) < 30)) = true := by rfl)
    (hline : (apos.endLine == pos.line) = true := by rfl)
    (htr : backTo pos (starEach [e1, e2] env) = [(false, eval e1 env), (false, eval e2 env)] := by rfl) (hd : (id == ("__debug__" : Str)) = false := by decide) :
    Ev W n fr env σ (eval (.Call (.Attribute (.Name id p) "get" apos) [e1, e2] [] pos) env) (.it (.im ((T k).getD b))) := .mk fun A s Q E ro g sa h => by
  have hm0 : s.heap.MapOf knd d f := mapOf_kept hm g.base
  refine getName hk g hx hf rfl F.plainAttrs_dict F.slot_dict_get F.type_dict_get hm0.typeIs hm0.noDict hbase hfew hline htr (wpAny_dict_get2 (knd := knd) hmod ?_) hd
  exact h1.run A s _ E ro g sa fun v s1 x1 r1 _ => h2.run A s1 _ E ro (g.keeps x1.kept) (sa.keeps x1.kept) fun u s2 x2 r2 _ =>
    ⟨k, f, hkey.is v r1, mapOf_kept hm (g.keeps (x1.trans x2).kept).base, h _ _ ((x1.trans x2).trans (.tok s2 _)) ((hT k).getD r2) fun _ => newL_it⟩
theorem Ev.get1 {id : Str} {p apos pos : Pos} {e1 : Expr} {k : K} {a : Im} (hk : EnvOk env) (hx : env.kindOf id = some .globalImplicit) (hf : W.mg id = some (.ref d)) (hm : W.hB.MapOf knd d f) (hT : ∀ k, OptR (f k) (T k))
    (hkey : KeyD W K knd k a) (hmod : (d == sysModules) = false)
    (h1 : Ev W n false env σ (eval e1 env) (.it (.im a)))
    (hbase : attributeBase (.Name id p) "get" env (eval (.Name id p) env) = eval (.Name id p) env := by with_unfolding_all rfl)
    (hfew : ((backTo pos (starEach [e1] env)).all (fun x => !x.1) && (backToKw pos (keywordEach [] env)).all (fun x => x.1.isSome) && decide ([e1].length + ([] : List Keyword).length + (if ([] : List Keyword).isEmpty then 0 else 1) < 30)) = true := by rfl)
    (hline : (apos.endLine == pos.line) = true := by rfl)
    (htr : backTo pos (starEach [e1] env) = [(false, eval e1 env)] := by rfl) (hd : (id == ("__debug__" : Str)) = false := by decide) :
    Ev W n fr env σ (eval (.Call (.Attribute (.Name id p) "get" apos) [e1] [] pos) env) (.it (.im ((T k).getD .none))) := .mk fun A s Q E ro g sa h => by
  have hm0 : s.heap.MapOf knd d f := mapOf_kept hm g.base
  refine getName hk g hx hf rfl F.plainAttrs_dict F.slot_dict_get F.type_dict_get hm0.typeIs hm0.noDict hbase hfew hline htr (wpAny_dict_get1 (knd := knd) hmod ?_) hd
  exact h1.run A s _ E ro g sa fun v s1 x1 r1 _ =>
    ⟨k, f, hkey.is v r1, mapOf_kept hm (g.keeps x1.kept).base, h _ _ (x1.trans (.tok s1 _)) ((hT k).getD (w := .none) (b := .none) trivial) fun _ => newL_it⟩
end

/-- an int looked for in a set of ints -/
theorem EvT.inSet {l r : Expr} {p : Pos} {id : Str} {q : Pos} {a : Addr} {S : Int → Bool} {m : Nat} {i : Int} (hk : EnvOk env) (hx : env.kindOf id = some .globalImplicit) (hf : W.mg id = some (.ref a)) (hS : W.hB.SetOf (intKind W.prog W.w) a S m)
    (h1 : Ev W n false env σ (eval l env) (.int i)) (hr : r = .Name id q) (hm : behindInMarks .In r = false := by with_unfolding_all rfl) (hd : (id == ("__debug__" : Str)) = false := by decide) :
    Ev W n fr env σ (eval (.Compare l [.In] [r] p) env) (.bool (S i)) := .mk fun A s Q E ro g sa h => by
  subst hr
  refine wpAny_Compare1 (h1.run A s _ E ro g sa fun v s1 e1 r1 _ => load_global hk (g.keeps e1.kept) hx (.inl hf) ?_ hd) hm
  obtain ⟨t, rfl⟩ := pv_int r1
  exact wpAny_inSet_of (knd := intKind W.prog W.w) (k := i) (by simp [intKind, Value.isInt]) rfl (setOf_kept hS (g.keeps e1.kept).base) (h _ _ (e1.trans (.tok s1 _)) r_bool fun _ => newL_it)

/-- a method without arguments -/
theorem Ev.meth0 {o : Expr} {name : Str} {apos pos : Pos} {T id : String} {d0 : PV} {d : PV}
    (h0 : Ev W n false env σ (eval o env) d0) (pa : PlainAttrs T) (sl : Slot T name id) (ty : typeOf (.builtin id) = pure (.type "method_descriptor"))
    (hT : ∀ (s : Shared) (v : Value), PVR s.heap v d0 → s.TypeIs v T ∧ ∀ a, v = .ref a → ∃ ob, s.heap.get? a = some ob ∧ ob.dict = none)
    (ho : OpM W n id d0 [] d)
    (hbase : attributeBase o name env (eval o env) = eval o env := by with_unfolding_all rfl)
    (hfew : ((backTo pos (starEach [] env)).all (fun x => !x.1) && (backToKw pos (keywordEach [] env)).all (fun x => x.1.isSome) && decide (([] : List Expr).length + ([] : List Keyword).length + (if ([] : List Keyword).isEmpty then 0 else 1) < 30)) = true := by rfl)
    (hline : (apos.endLine == pos.line) = true := by rfl) :
    Ev W n fr env σ (eval (.Call (.Attribute o name apos) [] [] pos) env) d := .mk fun A s Q E ro g sa h => by
  refine wpAny_Call_method_late hbase hfew hline rfl (h0.run A s _ E ro g sa fun v s1 e1 r1 _ => ?_)
  obtain ⟨t1, t2⟩ := hT s1 v r1
  refine ⟨T, id, pa, sl, ty, t1, t2, ?_⟩
  exact PySem.Calls.callWith_builtin rfl (PySem.evalArgs_none (ho.run A s1 [v] Q E ro (g.keeps e1.kept) (.cons r1 .nil) fun y s3 e3 r3 q => h y s3 (e1.trans e3) r3 fun _ => q.of e1.kept))
end
end Mine
end

/-! M6 -/
section
open PySem PySem.Calls PyProof.Rows PySem.W
set_option maxRecDepth 100000
namespace Mine

abbrev Sl := List (Str × PV × Bool)
def lk (l : Sl) : Sto := fun x => (l.lookup x).map (·.1)
def put (x : Str) (d : PV) : Sl → Sl
  | [] => [(x, d, true)]
  | (y, e) :: r => if y == x then (y, d, true) :: r else (y, e) :: put x d r
theorem lookup_put (x y : Str) (d : PV) (l : Sl) : (put x d l).lookup y = if y = x then some (d, true) else l.lookup y := by
  induction l with
  | nil =>
    by_cases h : y = x
    · simp [put, List.lookup_cons, h]
    · have : (y == x) = false := by simpa using h
      simp [put, List.lookup_cons, h, this]
  | cons e r ih =>
    obtain ⟨z, e⟩ := e
    by_cases h : z = x
    · subst h
      by_cases q : y = z
      · subst q; simp [put]
      · have : (y == z) = false := by simpa using q
        simp [put, List.lookup_cons, q, this]
    · have h' : (z == x) = false := by simpa using h
      simp only [put, h', Bool.false_eq_true, if_false, List.lookup_cons, ih]
      by_cases q : y = z
      · subst q; simp [h]
      · have : (y == z) = false := by simpa using q
        simp [this]

theorem nsFun {h : Heap} {a : Addr} {m m' : Str → Option Value} (x : h.Ns a m) (y : h.Ns a m') : m = m' := by
  obtain ⟨o, es, ep, e, d, _, f⟩ := x
  obtain ⟨o', es', ep', e', d', _, f'⟩ := y
  rw [e] at e'; cases e'
  rw [d] at d'; cases d'
  funext z; rw [← f z, ← f' z]
theorem cellFun {h : Heap} {a : Addr} {m m' : Option Value} (x : h.IsCell a m) (y : h.IsCell a m') : m = m' := by
  obtain ⟨o, e, d⟩ := x
  obtain ⟨o', e', d'⟩ := y
  rw [e] at e'; cases e'
  rw [d] at d'; cases d'
  rfl
theorem ns_not_cell {h : Heap} {a : Addr} {m : Str → Option Value} {v : Option Value} (x : h.Ns a m) (y : h.IsCell a v) : False := by
  obtain ⟨o, es, ep, e, d, _, f⟩ := x
  obtain ⟨o', e', d'⟩ := y
  rw [e] at e'; cases e'
  rw [d] at d'; cases d'

/-- an object that no datum is -/
def Odd (h : Heap) (b : Addr) : Prop := ∀ o, h.get? b = some o → (∀ vs n, o.data ≠ .seq vs n) ∧ ∀ vs, o.data ≠ .fields vs
theorem ns_odd {h : Heap} {a : Addr} {m : Str → Option Value} (x : h.Ns a m) : Odd h a := by
  obtain ⟨o, es, ep, e, d, _, f⟩ := x
  intro o' e'
  rw [e] at e'; cases e'
  rw [d]; exact ⟨fun _ _ => Data.noConfusion, fun _ => Data.noConfusion⟩
theorem cell_odd {h : Heap} {a : Addr} {v : Option Value} (x : h.IsCell a v) : Odd h a := by
  obtain ⟨o, e, d⟩ := x
  intro o' e'
  rw [e] at e'; cases e'
  rw [d]; exact ⟨fun _ _ => Data.noConfusion, fun _ => Data.noConfusion⟩

theorem ItR.odd {h h' : Heap} {b : Addr} (hs : Heap.SameBut b h h') (ho : Odd h b) {v : Value} {x : It} (r : ItR h v x) : ItR h' v x := by
  cases x with
  | im a => exact r
  | tup l =>
    obtain ⟨a, vs, n, e, g, r⟩ := r
    refine ⟨a, vs, n, e, (hs.2 a ?_).trans g, r⟩
    rintro rfl
    exact (ho _ g).1 _ _ rfl
theorem PVR.odd {h h' : Heap} {b : Addr} (hs : Heap.SameBut b h h') (ho : Odd h b) {v : Value} {d : PV} (r : PVR h v d) : PVR h' v d := by
  cases d with
  | it x => exact ItR.odd hs ho r
  | list l =>
    obtain ⟨a, vs, n, e, g, r⟩ := r
    refine ⟨a, vs, n, e, (hs.2 a ?_).trans g, r.imp fun _ _ q => q.odd hs ho⟩
    rintro rfl
    exact (ho _ g).1 _ _ rfl
  | rng lo hi =>
    obtain ⟨r, t1, t2, t3, e, g⟩ := r
    refine ⟨r, t1, t2, t3, e, (hs.2 r ?_).trans g⟩
    rintro rfl
    exact (ho _ g).2 _ rfl

/-- a list object changes: what does not stand at it stays -/
theorem ItR.mut {h h' : Heap} {a : Addr} {us : Array Value} {k : Nat} (hs : Heap.SameBut a h h') (ha : h.get? a = some { cls := .type "list", data := .seq us k }) {v : Value} {x : It} (r : ItR h v x) : ItR h' v x := by
  cases x with
  | im a => exact r
  | tup l =>
    obtain ⟨b, vs, n, e, g, r⟩ := r
    refine ⟨b, vs, n, e, (hs.2 b ?_).trans g, r⟩
    rintro rfl
    rw [ha] at g; injection g with g; injection g with g; injection g with g; exact absurd g (by decide)
theorem PVR.mut {h h' : Heap} {a : Addr} {us : Array Value} {k : Nat} (hs : Heap.SameBut a h h') (ha : h.get? a = some { cls := .type "list", data := .seq us k }) {v : Value} {d : PV} (r : PVR h v d) (hv : v ≠ .ref a) : PVR h' v d := by
  cases d with
  | it x => exact ItR.mut hs ha r
  | list l =>
    obtain ⟨b, vs, n, e, g, r⟩ := r
    refine ⟨b, vs, n, e, (hs.2 b ?_).trans g, r.imp fun _ _ q => q.mut hs ha⟩
    rintro rfl
    exact hv e
  | rng lo hi =>
    obtain ⟨r, t1, t2, t3, e, g⟩ := r
    refine ⟨r, t1, t2, t3, e, (hs.2 r ?_).trans g⟩
    rintro rfl
    exact hv e

theorem PVR.mem {h : Heap} {a : Addr} {d : PV} (r : PVR h (.ref a) d) : ∃ o, h.get? a = some o := by
  cases d with
  | it x =>
    cases x with
    | im a => cases a <;> simp only [PVR, ItR, ImR] at r
    | tup l => obtain ⟨b, vs, n, e, g, r⟩ := r; cases e; exact ⟨_, g⟩
  | list l => obtain ⟨b, vs, n, e, g, r⟩ := r; cases e; exact ⟨_, g⟩
  | rng lo hi => obtain ⟨r, t1, t2, t3, e, g⟩ := r; cases e; exact ⟨_, g⟩
theorem PVR.list_only {h : Heap} {a : Addr} {d : PV} {ds : List It} (r : PVR h (.ref a) (.list ds)) (q : PVR h (.ref a) d) : ∃ es, d = .list es := by
  obtain ⟨b, vs, n, e, g, _⟩ := r
  cases e
  cases d with
  | it x =>
    cases x with
    | im a => cases a <;> simp only [PVR, ItR, ImR] at q
    | tup l =>
      obtain ⟨b, vs, n, e, g', r⟩ := q; cases e
      rw [g] at g'; injection g' with g'; injection g' with g'; injection g' with g'; exact absurd g' (by decide)
  | list l => exact ⟨l, rfl⟩
  | rng lo hi =>
    obtain ⟨r, t1, t2, t3, e, g'⟩ := q; cases e
    rw [g] at g'; injection g' with g'; injection g' with g'; injection g' with g'; exact absurd g' (by decide)

abbrev Bm := Addr → Option Obj
def upd (V : Str → Option Value) (x : Str) (v : Value) : Str → Option Value := fun y => if y = x then some v else V y

/-- a name that this frame may store -/
abbrev Kd (env : Env) (x : Str) : Prop := env.kindOf x = some .local ∨ (env.kindOf x = some .cell ∧ env.func.isSome = true)

structure St (W : Wd) (B : Bm) (env : Env) (l : Sl) (h : Heap) (V : Str → Option Value) : Prop where
  base : ∀ a o, W.hB.get? a = some o → B a = some o
  prot : ∀ a o, B a = some o → h.get? a = some o
  ns : ∃ m, h.Ns env.locals m
  offL : B env.locals = none
  cell : ∀ x, env.kindOf x = some .cell → ∃ c v, env.cells.lookup x = some c ∧ h.IsCell c v ∧ (env.func.isSome = true → B c = none)
  apart : ∀ x y c, env.cells.lookup x = some c → env.cells.lookup y = some c → x = y
  bnd : ∀ x v, V x = some v → Bound env h x v
  typ : ∀ x v, V x = some v → ∃ d b, l.lookup x = some (d, b) ∧ PVR h v d
  has : ∀ x d b, l.lookup x = some (d, b) → ∃ v, V x = some v
  own : ∀ x d, l.lookup x = some (.list d, true) → ∃ a, V x = some (.ref a) ∧ B a = none ∧ ∀ y, y ≠ x → V y ≠ some (.ref a)

section
variable {W : Wd} {B : Bm} {env : Env} {l : Sl} {h h' : Heap} {V : Str → Option Value}

theorem St.ga (x : St W B env l h V) : GA W h := (GA.start W).keeps fun a o e => x.prot a o (x.base a o e)
theorem St.sat (x : St W B env l h V) : SAt env h (lk l) := fun y d e => by
  simp only [lk, Option.map_eq_some_iff] at e
  obtain ⟨⟨d', b⟩, e, rfl⟩ := e
  obtain ⟨v, hv⟩ := x.has y _ _ e
  obtain ⟨d2, b2, e2, r⟩ := x.typ y v hv
  rw [e] at e2; cases e2
  exact ⟨v, r, x.bnd y v hv⟩
theorem St.at (x : St W B env l h V) {y : Str} {d : PV} {b : Bool} (e : l.lookup y = some (d, b)) : ∃ v, V y = some v ∧ PVR h v d := by
  obtain ⟨v, hv⟩ := x.has y _ _ e
  obtain ⟨d2, b2, e2, r⟩ := x.typ y v hv
  rw [e] at e2; cases e2
  exact ⟨v, hv, r⟩
theorem St.ext (x : St W B env l h V) (k : Kept h h') : St W B env l h' V where
  base := x.base
  prot := fun a o e => k a o (x.prot a o e)
  ns := let ⟨m, n⟩ := x.ns; ⟨m, n.keeps k⟩
  offL := x.offL
  cell := fun y e => let ⟨c, v, h1, h2, h3⟩ := x.cell y e; ⟨c, v, h1, h2.keeps k, h3⟩
  apart := x.apart
  bnd := fun y v e => (x.bnd y v e).keeps k
  typ := fun y v e => let ⟨d, b, h1, h2⟩ := x.typ y v e; ⟨d, b, h1, h2.keeps k⟩
  has := x.has
  own := x.own
/-- fewer objects are protected -/
theorem St.less {B' : Bm} (x : St W B env l h V) (hb : ∀ a o, W.hB.get? a = some o → B' a = some o) (hle : ∀ a o, B' a = some o → B a = some o) : St W B' env l h V where
  base := hb
  prot := fun a o e => x.prot a o (hle a o e)
  ns := x.ns
  offL := by cases e : B' env.locals with
    | none => rfl
    | some o => have := hle _ _ e; rw [x.offL] at this; cases this
  cell := fun y e => let ⟨c, v, h1, h2, h3⟩ := x.cell y e; ⟨c, v, h1, h2, fun hf => by
    cases e : B' c with
    | none => rfl
    | some o => have := hle _ _ e; rw [h3 hf] at this; cases this⟩
  apart := x.apart
  bnd := x.bnd
  typ := x.typ
  has := x.has
  own := fun y d e => let ⟨a, h1, h2, h3⟩ := x.own y d e; ⟨a, h1, (by
    cases e : B' a with
    | none => rfl
    | some o => have := hle _ _ e; rw [h2] at this; cases this), h3⟩

/-- less is known of the names -/
def le (l' l : Sl) : Prop := ∀ x d b, l'.lookup x = some (d, b) → ∃ b', l.lookup x = some (d, b') ∧ (b = true → b' = true)
theorem le.refl (l : Sl) : le l l := fun _ _ b e => ⟨b, e, id⟩
theorem le.trans {a b c : Sl} (x : le a b) (y : le b c) : le a c := fun z d q e => by
  obtain ⟨q1, e1, h1⟩ := x z d q e
  obtain ⟨q2, e2, h2⟩ := y z d q1 e1
  exact ⟨q2, e2, fun t => h2 (h1 t)⟩
theorem St.mono {l' : Sl} (x : St W B env l h V) (hl : le l' l) : St W B env l' h (fun y => if (l'.lookup y).isSome then V y else none) where
  base := x.base
  prot := x.prot
  ns := x.ns
  offL := x.offL
  cell := x.cell
  apart := x.apart
  bnd := fun y v e => by
    by_cases q : (l'.lookup y).isSome = true
    · rw [if_pos q] at e; exact x.bnd y v e
    · rw [if_neg q] at e; cases e
  typ := fun y v e => by
    by_cases q : (l'.lookup y).isSome = true
    · rw [if_pos q] at e
      obtain ⟨⟨d, b⟩, hd⟩ := Option.isSome_iff_exists.mp q
      obtain ⟨b', hb, _⟩ := hl y d b hd
      obtain ⟨d2, b2, e2, r⟩ := x.typ y v e
      rw [hb] at e2; cases e2
      exact ⟨d, b, hd, r⟩
    · rw [if_neg q] at e; cases e
  has := fun y d b e => by
    obtain ⟨b', hb, _⟩ := hl y d b e
    obtain ⟨v, hv⟩ := x.has y d b' hb
    exact ⟨v, by rw [e]; simpa using hv⟩
  own := fun y d e => by
    obtain ⟨b', hb, hq⟩ := hl y _ _ e
    rw [hq rfl] at hb
    obtain ⟨a, h1, h2, h3⟩ := x.own y d hb
    refine ⟨a, by rw [e]; simpa using h1, h2, fun z hz hq => ?_⟩
    by_cases q : (l'.lookup z).isSome = true
    · rw [if_pos q] at hq; exact h3 z hz hq
    · rw [if_neg q] at hq; cases hq

theorem St.store (x : St W B env l h V) {z : Str} {v : Value} {d : PV} {b : Addr} (hs : Heap.SameBut b h h') (ho : Odd h b) (hB : B b = none)
    (hns : ∃ m, h'.Ns env.locals m) (hcell : ∀ y, env.kindOf y = some .cell → ∃ c v, env.cells.lookup y = some c ∧ h'.IsCell c v)
    (hb : ∀ y w, y ≠ z → Bound env h y w → Bound env h' y w) (hz : Bound env h' z v)
    (r : PVR h v d) (hf : ∀ ds, d = .list ds → ∃ a, v = .ref a ∧ B a = none ∧ ∀ y, V y ≠ some (.ref a)) : St W B env (put z d l) h' (upd V z v) where
  base := x.base
  prot := fun a o e => (hs.2 a (by rintro rfl; rw [hB] at e; cases e)).trans (x.prot a o e)
  ns := hns
  offL := x.offL
  cell := fun y e => by
    obtain ⟨c, v, h1, _, h3⟩ := x.cell y e
    obtain ⟨c', v', h1', h2'⟩ := hcell y e
    rw [h1] at h1'; cases h1'
    exact ⟨c, v', h1, h2', h3⟩
  apart := x.apart
  bnd := fun y w e => by
    by_cases q : y = z
    · subst q; simp only [upd, if_true, Option.some.injEq] at e; subst e; exact hz
    · simp only [upd, q, if_false] at e; exact hb y w q (x.bnd y w e)
  typ := fun y w e => by
    by_cases q : y = z
    · subst q; simp only [upd, if_true, Option.some.injEq] at e; subst e
      exact ⟨d, true, by rw [lookup_put]; simp, r.odd hs ho⟩
    · simp only [upd, q, if_false] at e
      obtain ⟨d', b', h1, h2⟩ := x.typ y w e
      exact ⟨d', b', by rw [lookup_put]; simpa [q] using h1, h2.odd hs ho⟩
  has := fun y d' b' e => by
    by_cases q : y = z
    · subst q; exact ⟨v, by simp [upd]⟩
    · rw [lookup_put, if_neg q] at e
      obtain ⟨w, hw⟩ := x.has y d' b' e
      exact ⟨w, by simpa [upd, q] using hw⟩
  own := fun y d' e => by
    by_cases q : y = z
    · subst q
      rw [lookup_put, if_pos rfl] at e
      cases e
      obtain ⟨a, h1, h2, h3⟩ := hf _ rfl
      exact ⟨a, by simp [upd, h1], h2, fun u hu => by simpa [upd, hu] using h3 u⟩
    · rw [lookup_put, if_neg q] at e
      obtain ⟨a, h1, h2, h3⟩ := x.own y d' e
      refine ⟨a, by simpa [upd, q] using h1, h2, fun u hu hv => ?_⟩
      by_cases q2 : u = z
      · subst q2
        simp only [upd, if_true, Option.some.injEq] at hv
        subst hv
        obtain ⟨d2, b2, e2, r2⟩ := x.typ y _ h1
        rw [e] at e2; cases e2
        obtain ⟨es, rfl⟩ := r2.list_only r
        obtain ⟨a', h1', _, h3'⟩ := hf _ rfl
        cases h1'
        exact h3' y h1
      · simp only [upd, q2, if_false] at hv
        exact h3 u hu hv

/-- an object changes that is no part of all this -/
theorem St.other (x : St W B env l h V) {b : Addr} (hs : Heap.SameBut b h h') {mb : Str → Option Value} (hb : h.Ns b mb) (hB : B b = none) (hL : env.locals ≠ b) : St W B env l h' V where
  base := x.base
  prot := fun a o e => (hs.2 a (by rintro rfl; rw [hB] at e; cases e)).trans (x.prot a o e)
  ns := let ⟨m, n⟩ := x.ns; ⟨m, n.sameBut hs hL⟩
  offL := x.offL
  cell := fun y e => let ⟨c, v, h1, h2, h3⟩ := x.cell y e; ⟨c, v, h1, h2.sameBut hs (by rintro rfl; exact ns_not_cell hb h2), h3⟩
  apart := x.apart
  bnd := fun y w e => by
    rcases x.bnd y w e with ⟨e, m', n', hm⟩ | ⟨e, c', hc, hv'⟩ | ⟨e, c', hc, hv'⟩
    · exact .inl ⟨e, m', n'.sameBut hs hL, hm⟩
    · exact .inr (.inl ⟨e, c', hc, hv'.sameBut hs (by rintro rfl; exact ns_not_cell hb hv')⟩)
    · exact .inr (.inr ⟨e, c', hc, hv'.sameBut hs (by rintro rfl; exact ns_not_cell hb hv')⟩)
  typ := fun y v e => let ⟨d, b, h1, h2⟩ := x.typ y v e; ⟨d, b, h1, h2.odd hs (ns_odd hb)⟩
  has := x.has
  own := x.own

theorem wp_store {A : Around} {s : Shared} {E : Value → Shared → Prop} {M : Model} {Q : Unit → Shared → Prop} {z : Str} {v : Value} {d : PV} (x : St W B env l s.heap V) (hk : EnvOk env)
    (hx : Kd env z) (r : PVR s.heap v d) (hf : ∀ ds, d = .list ds → ∃ a, v = .ref a ∧ B a = none ∧ ∀ y, V y ≠ some (.ref a))
    (h : ∀ h' t, St W B env (put z d l) h' (upd V z v) → Q () { s with heap := h', toks := t }) : wpAny M A (storeName env z v) Q E s := by
  obtain ⟨m, n⟩ := x.ns
  rcases hx with hx | hx
  · refine wpAny_storeName_local hx n (fun h' hn hs => h h' _ (x.store hs (ns_odd n) x.offL ⟨_, hn⟩ ?_ ?_ (.inl ⟨hx, _, hn, by simp⟩) r hf)) ?_
    · intro y hy
      obtain ⟨c, w, h1, h2, _⟩ := x.cell y hy
      exact ⟨c, w, h1, h2.sameBut hs (by rintro rfl; exact ns_not_cell n h2)⟩
    · rintro y w hy (⟨e, m', n', hm⟩ | ⟨e, c, hc, hv⟩ | ⟨e, c, hc, hv⟩)
      · rw [← nsFun n n'] at hm
        exact .inl ⟨e, _, hn, by simpa [hy] using hm⟩
      · exact .inr (.inl ⟨e, c, hc, hv.sameBut hs (by rintro rfl; exact ns_not_cell n hv)⟩)
      · exact .inr (.inr ⟨e, c, hc, hv.sameBut hs (by rintro rfl; exact ns_not_cell n hv)⟩)
    · rw [hk.kind]; rfl
  · obtain ⟨c, w, h1, h2, h3⟩ := x.cell z hx.1
    have hcL : env.locals ≠ c := by rintro rfl; exact ns_not_cell n h2
    refine wpAny_storeName_cell hk.kind hx.1 h1 h2 fun h' hv hs => h h' s.toks (x.store hs (cell_odd h2) (h3 hx.2) ⟨m, n.sameBut hs hcL⟩ ?_ ?_ (.inr (.inl ⟨hx.1, c, h1, hv⟩)) r hf)
    · intro y hy
      obtain ⟨c', w', h1', h2', _⟩ := x.cell y hy
      by_cases q : c' = c
      · subst q; exact ⟨_, _, h1', hv⟩
      · exact ⟨c', w', h1', h2'.sameBut hs q⟩
    · rintro y w hy (⟨e, m', n', hm⟩ | ⟨e, c', hc, hv'⟩ | ⟨e, c', hc, hv'⟩)
      · exact .inl ⟨e, m', n'.sameBut hs hcL, hm⟩
      · exact .inr (.inl ⟨e, c', hc, hv'.sameBut hs (by rintro rfl; exact hy (x.apart _ _ _ hc h1))⟩)
      · exact .inr (.inr ⟨e, c', hc, hv'.sameBut hs (by rintro rfl; exact hy (x.apart _ _ _ hc h1))⟩)

/-- an owned list changes -/
theorem St.mut (x : St W B env l h V) {z : Str} {a : Addr} {ds es : List It} {vs us : Array Value} {k m : Nat} (hl : l.lookup z = some (.list ds, true)) (hz : V z = some (.ref a))
    (hg : h.get? a = some { cls := .type "list", data := .seq vs k }) (hs : Heap.SameBut a h h') (hg' : h'.get? a = some { cls := .type "list", data := .seq us m }) (hr : All2 (ItR h') us.toList es) :
    St W B env (put z (.list es) l) h' V := by
  obtain ⟨a', e1, hB, hu⟩ := x.own z ds hl
  rw [hz] at e1; cases e1
  have hdata : ∀ {w : Value} {b : Addr}, h.get? b = some { cls := .type "list", data := .seq vs k } → (∀ m, ¬ h.Ns b m) ∧ ∀ v, ¬ h.IsCell b v := fun {w b} e =>
    ⟨fun m ⟨o, es, ep, e', d, _⟩ => (by rw [e] at e'; cases e'; cases d), fun v ⟨o, e', d⟩ => (by rw [e] at e'; cases e'; cases d)⟩
  obtain ⟨hN, hC⟩ := hdata (w := .none) hg
  have hb : ∀ y w, Bound env h y w → Bound env h' y w := by
    rintro y w (⟨e, m', n', hm⟩ | ⟨e, c', hc, hv'⟩ | ⟨e, c', hc, hv'⟩)
    · exact .inl ⟨e, m', n'.sameBut hs (fun q => hN m' (q ▸ n')), hm⟩
    · exact .inr (.inl ⟨e, c', hc, hv'.sameBut hs (fun q => hC _ (q ▸ hv'))⟩)
    · exact .inr (.inr ⟨e, c', hc, hv'.sameBut hs (fun q => hC _ (q ▸ hv'))⟩)
  exact {
    base := x.base
    prot := fun b o e => (hs.2 b (by rintro rfl; rw [hB] at e; cases e)).trans (x.prot b o e)
    ns := let ⟨m, n⟩ := x.ns; ⟨m, n.sameBut hs fun q => hN m (q ▸ n)⟩
    offL := x.offL
    cell := fun y e => let ⟨c, v, h1, h2, h3⟩ := x.cell y e; ⟨c, v, h1, h2.sameBut hs fun q => hC _ (q ▸ h2), h3⟩
    apart := x.apart
    bnd := fun y w e => hb y w (x.bnd y w e)
    typ := fun y w e => by
      by_cases q : y = z
      · subst q
        rw [hz] at e; cases e
        exact ⟨.list es, true, by rw [lookup_put]; simp, ⟨a, us, m, rfl, hg', hr⟩⟩
      · obtain ⟨d', b', h1, h2⟩ := x.typ y w e
        exact ⟨d', b', by rw [lookup_put]; simpa [q] using h1, h2.mut hs hg fun e' => hu y q (e' ▸ e)⟩
    has := fun y d' b' e => by
      by_cases q : y = z
      · subst q; exact ⟨_, hz⟩
      · rw [lookup_put, if_neg q] at e
        exact x.has y d' b' e
    own := fun y d' e => by
      by_cases q : y = z
      · subst q; exact ⟨a, hz, hB, hu⟩
      · rw [lookup_put, if_neg q] at e
        exact x.own y d' e }
end

inductive Out where
  | next (l : Sl) | ret (d : PV)

def After (W : Wd) (B : Bm) (env : Env) : Out → Flow → Shared → Prop
  | .next l, f, s => f = .next ∧ ∃ V, St W B env l s.heap V
  | .ret d, f, s => ∃ v, f = .ret v ∧ PVR s.heap v d ∧ (∀ a o, B a = some o → s.heap.get? a = some o) ∧ ∀ ds, d = .list ds → ∃ a, v = .ref a ∧ B a = none

structure Tr (W : Wd) (n : Nat) (env : Env) (l : Sl) (t : Sem Flow) (o : Out) : Prop where
  run : ∀ (A : Around) (s : Shared) (B : Bm) (V : Str → Option Value) (Q : Flow → Shared → Prop) (E : Value → Shared → Prop), Room A n → St W B env l s.heap V →
    (∀ f s', Same s s' → After W B env o f s' → Q f s') → wpAny (model W.prog W.w) A t Q E s
end Mine
end

/-! M7 -/
section
open PySem PySem.Calls PyProof.Rows PySem.W
set_option maxRecDepth 100000
namespace Mine
section
variable {W : Wd} {n : Nat} {env : Env} {l : Sl}

theorem Same.heap (s : Shared) (h : Heap) : Same s { s with heap := h } := ⟨h, s.toks, s.gens, rfl, .refl _⟩

theorem Tr.nil : Tr W n env l (execs [] env) (.next l) := .mk fun _ s B V Q E _ st h => wpAny_execs_nil (h _ _ (.refl s) ⟨rfl, V, st⟩)
theorem Tr.cons {st : Stmt} {rest : List Stmt} {l1 : Sl} {o : Out} (h1 : Tr W n env l (exec st env) (.next l1)) (h2 : Tr W n env l1 (execs rest env) o) : Tr W n env l (execs (st :: rest) env) o :=
  .mk fun A s B V Q E ro x h => wpAny_execs_cons (h1.run A s B V _ E ro x fun f s1 m1 a1 => by
    obtain ⟨rfl, V1, x1⟩ := a1
    exact h2.run A s1 B V1 Q E ro x1 fun f s2 m2 a2 => h f s2 (m1.trans m2) a2)
theorem Tr.stop {st : Stmt} {rest : List Stmt} {d : PV} (h1 : Tr W n env l (exec st env) (.ret d)) : Tr W n env l (execs (st :: rest) env) (.ret d) :=
  .mk fun A s B V Q E ro x h => wpAny_execs_cons (h1.run A s B V _ E ro x fun f s1 m1 a1 => by
    obtain ⟨v, rfl, r⟩ := a1
    exact h _ s1 m1 ⟨v, rfl, r⟩)
theorem Tr.pre {t : Sem Flow} {l' : Sl} {o : Out} (h1 : Tr W n env l' t o) (hl : le l' l) : Tr W n env l t o :=
  .mk fun A s B V Q E ro x h => h1.run A s B _ Q E ro (x.mono hl) h
theorem Tr.post {t : Sem Flow} {l1 l2 : Sl} (h1 : Tr W n env l t (.next l1)) (hl : le l2 l1) : Tr W n env l t (.next l2) :=
  .mk fun A s B V Q E ro x h => h1.run A s B V Q E ro x fun f s' m a => h f s' m (by obtain ⟨rfl, V1, x1⟩ := a; exact ⟨rfl, _, x1.mono hl⟩)

/-- what a value made now is, beside the names -/
theorem fresh_ok {B : Bm} {V : Str → Option Value} {s s' : Shared} {v : Value} {d : PV} (x : St W B env l s.heap V) (q : NewL s.heap v d) :
    ∀ ds, d = .list ds → ∃ a, v = .ref a ∧ B a = none ∧ ∀ y, V y ≠ some (.ref a) := fun ds e => by
  obtain ⟨a, e1, e2⟩ := q ds e
  refine ⟨a, e1, ?_, fun y hy => ?_⟩
  · cases hb : B a with
    | none => rfl
    | some o => have := x.prot a o hb; rw [e2] at this; cases this
  · obtain ⟨d', b', h1, h2⟩ := x.typ y _ hy
    obtain ⟨o, ho⟩ := h2.mem
    rw [e2] at ho; cases ho

theorem Tr.assign {x : Str} {p pos : Pos} {e : Expr} {d : PV} (hk : EnvOk env) (h1 : Ev W n true env (lk l) (eval e env) d) (hx : Kd env x)
    (hs : swapsWith e (some (.Name x p)) pos.line env = pure false := by rfl) : Tr W n env l (exec (.Assign [.Name x p] e pos) env) (.next (put x d l)) :=
  .mk fun A s B V Q E ro st h => wpAny_Assign_Name (h1.run A s _ E ro st.ga st.sat fun v s1 e1 r1 q1 =>
    wp_store (st.ext e1.kept) hk hx r1 (fresh_ok (s' := s1) st (q1 rfl)) fun h' t st' => h _ _ (e1.same.trans (.put s1 h' t)) ⟨rfl, _, st'⟩) hs

theorem Tr.aug {x : Str} {p pos : Pos} {op : Operator} {e : Expr} {d1 d2 d : PV} {b : Bool} (hk : EnvOk env) (hx : Kd env x) (hl : l.lookup x = some (d1, b)) (h1 : Ev W n false env (lk l) (eval e env) d2) (ho : Op2 W n (inplaceOp op) d1 d2 d)
    (hn : (x == ("__classdict__" : Str)) = false := by decide) :
    Tr W n env l (exec (.AugAssign (.Name x p) op e pos) env) (.next (put x d l)) := .mk fun A s B V Q E ro st h => by
  obtain ⟨v, hv, r⟩ := st.at hl
  refine wpAny_AugAssign_Name (load_bound hk (st.bnd x v hv) (h1.run A s _ E ro st.ga st.sat fun u s1 e1 r1 _ => ?_) hn)
  refine ho.run A s1 v u _ E ro (st.ga.keeps e1.kept) (r.keeps e1.kept) r1 fun w s2 e2 r2 q2 => ?_
  have st2 := (st.ext e1.kept).ext e2.kept
  exact wp_store st2 hk hx r2 (fresh_ok (s := s1) (s' := s2) (st.ext e1.kept) q2) fun h' t st' => h _ _ ((e1.trans e2).same.trans (.put s2 h' t)) ⟨rfl, _, st'⟩

theorem Tr.ite {test : Expr} {body orelse : List Stmt} {pos : Pos} {b : Bool} {o : Out} (h1 : EvT W n env (lk l) (isTrue test env (eval test env)) b)
    (h2 : b = true → Tr W n env l (execs body env) o) (h3 : b = false → Tr W n env l (execs orelse env) o) : Tr W n env l (exec (.If test body orelse pos) env) o := .mk fun A s B V Q E ro st h =>
  wpAny_If (h1.run A s _ E ro st.ga st.sat fun s1 e1 => by
    cases b with
    | true => exact (h2 rfl).run A s1 B V Q E ro (st.ext e1.kept) fun f s2 m2 a2 => h f s2 (e1.same.trans m2) a2
    | false => exact (h3 rfl).run A s1 B V Q E ro (st.ext e1.kept) fun f s2 m2 a2 => h f s2 (e1.same.trans m2) a2)

theorem Tr.ret {e : Expr} {pos : Pos} {d : PV} (h1 : Ev W n true env (lk l) (eval e env) d) : Tr W n env l (exec (.Return (some e) pos) env) (.ret d) := .mk fun A s B V Q E ro st h =>
  wpAny_Return_some (h1.run A s _ E ro st.ga st.sat fun v s1 e1 r1 q1 => h _ _ e1.same ⟨v, rfl, r1, (st.ext e1.kept).prot, fun ds e => let ⟨a, x1, x2, _⟩ := fresh_ok (s' := s1) st (q1 rfl) ds e; ⟨a, x1, x2⟩⟩)
theorem Tr.retName {x : Str} {p pos : Pos} {ds : List It} (hk : EnvOk env) (hl : l.lookup x = some (.list ds, true)) (hd : (x == ("__debug__" : Str)) = false := by decide) (hn : (x == ("__classdict__" : Str)) = false := by decide) :
    Tr W n env l (exec (.Return (some (.Name x p)) pos) env) (.ret (.list ds)) := .mk fun A s B V Q E ro st h => by
  obtain ⟨v, hv, r⟩ := st.at hl
  obtain ⟨a, e1, e2, _⟩ := st.own x ds hl
  rw [hv] at e1; cases e1
  exact wpAny_Return_some (wpAny_Name (load_bound hk (st.bnd x _ hv) (h _ _ (.refl s) ⟨_, rfl, r, st.prot, fun ds' e => by cases e; exact ⟨a, rfl, e2⟩⟩) hn) hd)
theorem Tr.assert {test : Expr} {msg : Option Expr} {pos : Pos} (h1 : EvT W n env (lk l) (isTrue test env (eval test env)) true) : Tr W n env l (exec (.Assert test msg pos) env) (.next l) := .mk fun A s B V Q E ro st h =>
  wpAny_Assert_holds (h1.run A s _ E ro st.ga st.sat fun s1 e1 => ⟨rfl, h _ _ e1.same ⟨rfl, V, st.ext e1.kept⟩⟩)

/-- x.append(e) -/
theorem Tr.append {x : Str} {p apos pos epos : Pos} {e : Expr} {ds : List It} {d : It} (hk : EnvOk env) (hl : l.lookup x = some (.list ds, true)) (h1 : Ev W n false env (lk l) (eval e env) (.it d)) (hs : ds.length ≤ sizeLine)
    (hbase : attributeBase (.Name x p) "append" env (eval (.Name x p) env) = eval (.Name x p) env := by with_unfolding_all rfl)
    (hfew : ((backTo pos (starEach [e] env)).all (fun x => !x.1) && (backToKw pos (keywordEach [] env)).all (fun x => x.1.isSome) && decide ([e].length + ([] : List Keyword).length + (if ([] : List Keyword).isEmpty then 0 else 1) < 30)) = true := by rfl)
    (hline : (apos.endLine == pos.line) = true := by rfl)
    (he : backTo pos (starEach [e] env) = [(false, eval e env)] := by rfl)
    (hi : interactive env = false := by rfl) (hsw : swapsWith (.Call (.Attribute (.Name x p) "append" apos) [e] [] pos) none epos.line env = pure false := by rfl)
    (hd : (x == ("__debug__" : Str)) = false := by decide) (hn : (x == ("__classdict__" : Str)) = false := by decide) :
    Tr W n env l (exec (.Expr (.Call (.Attribute (.Name x p) "append" apos) [e] [] pos) epos) env) (.next (put x (.list (ds ++ [d])) l)) := .mk fun A s B V Q E ro st h => by
  obtain ⟨v, hv, r⟩ := st.at hl
  obtain ⟨a, e1, e2, _⟩ := st.own x ds hl
  rw [hv] at e1; cases e1
  refine wpAny_Expr (wpAny_Call_method_late hbase hfew hline he (wpAny_Name (load_bound hk (st.bnd x _ hv) ?_ hn) hd)) hi hsw
  obtain ⟨t1, t2⟩ := list_typed s _ r
  refine ⟨"list", _, F.plainAttrs_list, F.slot_list_append, F.type_list_append, t1, t2, ?_⟩
  refine PySem.Calls.callWith_builtin rfl (evalArgs_plain (spliced_cons (h1.run A s _ E ro st.ga st.sat fun u s1 x1 r1 _ => spliced_nil ?_)))
  have st1 := st.ext x1.kept
  obtain ⟨b, vs, k, e3, g, ra⟩ := r.keeps x1.kept
  cases e3
  have hsz : vs.size ≤ sizeLine := by have := ra.length; simp at this; omega
  refine wpAny_list_append_plain (hsz := hsz) ⟨k, g⟩ fun h' hl' hs' => h _ _ (x1.same.trans (.heap s1 h')) ⟨rfl, V, ?_⟩
  obtain ⟨k', g'⟩ := hl'
  refine st1.mut hl hv g hs' g' ?_
  rw [Array.toList_push]
  exact (ra.imp fun _ _ q => q.mut hs' g).append (.cons (ItR.mut hs' g r1) .nil)

/-- x.extend(e), e a list that is not x -/
theorem Tr.extend {x : Str} {p apos pos epos : Pos} {e : Expr} {ds es : List It} (hk : EnvOk env) (hl : l.lookup x = some (.list ds, true)) (h1 : Ev W n true env (lk l) (eval e env) (.list es)) (hs : ds.length + es.length ≤ sizeLine)
    (hbase : attributeBase (.Name x p) "extend" env (eval (.Name x p) env) = eval (.Name x p) env := by with_unfolding_all rfl)
    (hfew : ((backTo pos (starEach [e] env)).all (fun x => !x.1) && (backToKw pos (keywordEach [] env)).all (fun x => x.1.isSome) && decide ([e].length + ([] : List Keyword).length + (if ([] : List Keyword).isEmpty then 0 else 1) < 30)) = true := by rfl)
    (hline : (apos.endLine == pos.line) = true := by rfl)
    (he : backTo pos (starEach [e] env) = [(false, eval e env)] := by rfl)
    (hi : interactive env = false := by rfl) (hsw : swapsWith (.Call (.Attribute (.Name x p) "extend" apos) [e] [] pos) none epos.line env = pure false := by rfl)
    (hd : (x == ("__debug__" : Str)) = false := by decide) (hn : (x == ("__classdict__" : Str)) = false := by decide) :
    Tr W n env l (exec (.Expr (.Call (.Attribute (.Name x p) "extend" apos) [e] [] pos) epos) env) (.next (put x (.list (ds ++ es)) l)) := .mk fun A s B V Q E ro st h => by
  obtain ⟨v, hv, r⟩ := st.at hl
  obtain ⟨a, e1, e2, _⟩ := st.own x ds hl
  rw [hv] at e1; cases e1
  refine wpAny_Expr (wpAny_Call_method_late hbase hfew hline he (wpAny_Name (load_bound hk (st.bnd x _ hv) ?_ hn) hd)) hi hsw
  obtain ⟨t1, t2⟩ := list_typed s _ r
  refine ⟨"list", _, F.plainAttrs_list, F.slot_list_extend, F.type_list_extend, t1, t2, ?_⟩
  refine P.extend_list (h1.run A s _ E ro st.ga st.sat fun u s1 x1 r1 q1 => ?_)
  have st1 := st.ext x1.kept
  obtain ⟨b, vs, k, e3, g, ra⟩ := r.keeps x1.kept
  cases e3
  obtain ⟨c, us, m, rfl, g2, rb⟩ := r1
  have h3 : vs.size = ds.length := by simpa using ra.length
  have h4 : us.size = es.length := by simpa using rb.length
  have hca : c ≠ a := by
    rintro rfl
    obtain ⟨c', e5, e6⟩ := q1 rfl _ rfl
    cases e5
    obtain ⟨o, ho⟩ := r.mem
    rw [e6] at ho; cases ho
  refine ⟨c, vs, us, k, m, by omega, by omega, extend_door (by omega), rfl, g, g2, ?_⟩
  have hs' : Heap.SameBut a s1.heap (s1.heap.update a (Obj.mapSeq fun xs => xs ++ us)) := Heap.SameBut.update ..
  have g' := IsL.update (n := k) g (fun xs => xs ++ us)
  refine h _ _ (x1.same.trans (.heap s1 _)) ⟨rfl, V, st1.mut hl hv g hs' g' ?_⟩
  rw [Array.toList_append]
  exact (ra.append rb).imp fun _ _ q => q.mut hs' g

/-- del x[i] -/
theorem Tr.del {x : Str} {p tpos pos : Pos} {e : Expr} {ds : List It} {i : Int} {k : Nat} (hk : EnvOk env) (hl : l.lookup x = some (.list ds, true)) (h1 : Ev W n false env (lk l) (eval e env) (.int i)) (hs : ds.length ≤ sizeLine)
    (hfit : Builtin.List.listFitsIndex i = true) (hi : seqIndex? i ds.length = some k)
    (hd : (x == ("__debug__" : Str)) = false := by decide) (hn : (x == ("__classdict__" : Str)) = false := by decide) :
    Tr W n env l (exec (.Delete [.Subscript (.Name x p) e tpos] pos) env) (.next (put x (.list (ds.eraseIdx k)) l)) := .mk fun A s B V Q E ro st h => by
  obtain ⟨v, hv, r⟩ := st.at hl
  obtain ⟨a, e1, e2, _⟩ := st.own x ds hl
  rw [hv] at e1; cases e1
  refine wpAny_Delete (wpAny_deleteEach_cons (wpAny_delete_Subscript (wpAny_Name (load_bound hk (st.bnd x _ hv) (h1.run A s _ E ro st.ga st.sat fun u s1 x1 r1 q1 => ?_) hn) hd)))
  have st1 := st.ext x1.kept
  obtain ⟨b, vs, m, e3, g, ra⟩ := r.keeps x1.kept
  cases e3
  obtain ⟨t, rfl⟩ := pv_int r1
  have h3 : vs.size = ds.length := by simpa using ra.length
  refine wpAny_delItem_plain (k := k) (hsz := by omega) ⟨m, g⟩ hfit (by rw [h3]; exact hi) fun h' hl' hs' => wpAny_deleteEach_nil (h _ _ (x1.same.trans (.heap s1 h')) ⟨rfl, V, ?_⟩)
  obtain ⟨k', g'⟩ := hl'
  refine st1.mut hl hv g hs' g' ?_
  have e4 : (vs.eraseIdxIfInBounds k).toList = vs.toList.eraseIdx k := by simp
  rw [e4]
  have era : ∀ {l : List Value} {m : List It} (k : Nat), All2 (ItR s1.heap) l m → All2 (ItR h') (l.eraseIdx k) (m.eraseIdx k) := by
    intro l m k x
    induction x generalizing k with
    | nil => simp; exact .nil
    | cons r y ih =>
      cases k with
      | zero => simp; exact y.imp fun _ _ q => q.mut hs' g
      | succ k => simp; exact .cons (r.mut hs' g) (ih k)
  exact era k ra
end
end Mine
end

/-! M8 -/
section
open PySem PySem.Calls PyProof.Rows PySem.W
set_option maxRecDepth 100000
namespace Mine

def ItAt (h : Heap) (v : Value) : It → Prop
  | .im a => ImR v a
  | .tup l => ∃ T vs, v = .ref T ∧ h.IsTuple T vs ∧ All2 ImR vs.toList l
theorem ItR.itAt {h : Heap} {v : Value} {x : It} (r : ItR h v x) : ItAt h v x := by
  cases x with
  | im a => exact r
  | tup l => obtain ⟨a, vs, n, e, g, r⟩ := r; exact ⟨a, vs, e, ⟨_, g, rfl, n, rfl⟩, r⟩
def Upd (s s' : Shared) : Prop := ∃ h t g, s' = { s with heap := h, toks := t, gens := g }
theorem Upd.trans {a b c : Shared} (x : Upd a b) (y : Upd b c) : Upd a c := by
  obtain ⟨h, t, g, rfl⟩ := x
  obtain ⟨h', t', g', rfl⟩ := y
  exact ⟨h', t', g', rfl⟩
theorem Same.upd {a b : Shared} (x : Same a b) : Upd a b := let ⟨h, t, g, e, _⟩ := x; ⟨h, t, g, e⟩
theorem Same.fin {a b : Shared} (x : Same a b) : FinGens a.gens b.gens := by obtain ⟨h, t, g, rfl, f⟩ := x; exact f
theorem Upd.same {a b : Shared} (x : Upd a b) (f : FinGens a.gens b.gens) : Same a b := by obtain ⟨h, t, g, rfl⟩ := x; exact ⟨h, t, g, rfl, f⟩

/-- no datum stands here -/
def NoDat (h : Heap) (b : Addr) : Prop := ∀ o, h.get? b = some o → o.cls ≠ .type "list" ∧ o.cls ≠ .type "tuple" ∧ o.cls ≠ .type "range"
def KeptBut (wr : List Addr) (h h' : Heap) : Prop := ∀ b o, b ∉ wr → h.get? b = some o → h'.get? b = some o
theorem ItR.but {h h' : Heap} {wr : List Addr} (k : KeptBut wr h h') (hn : ∀ b ∈ wr, NoDat h b) {v : Value} {x : It} (r : ItR h v x) : ItR h' v x := by
  cases x with
  | im a => exact r
  | tup l =>
    obtain ⟨b, vs, n, e, g, r⟩ := r
    exact ⟨b, vs, n, e, k b _ (fun hb => (hn b hb _ g).2.1 rfl) g, r⟩
theorem PVR.but {h h' : Heap} {wr : List Addr} (k : KeptBut wr h h') (hn : ∀ b ∈ wr, NoDat h b) {v : Value} {d : PV} (r : PVR h v d) : PVR h' v d := by
  cases d with
  | it x => exact ItR.but k hn r
  | list l =>
    obtain ⟨b, vs, n, e, g, r⟩ := r
    exact ⟨b, vs, n, e, k b _ (fun hb => (hn b hb _ g).1 rfl) g, r.imp fun _ _ q => q.but k hn⟩
  | rng lo hi =>
    obtain ⟨r, t1, t2, t3, e, g⟩ := r
    exact ⟨r, t1, t2, t3, e, k r _ (fun hb => (hn r hb _ g).2.2 rfl) g⟩

/-- an object that is part of a walk: no namespace, no cell -/
def Pt (h : Heap) (b : Addr) : Prop := ∃ o, h.get? b = some o ∧ (∀ es ep, o.data ≠ .dict es ep) ∧ ∀ v, o.data ≠ .cell v
theorem Pt.no_ns {h : Heap} {b : Addr} {m : Str → Option Value} (x : Pt h b) (y : h.Ns b m) : False := by
  obtain ⟨o, e, p, _⟩ := x
  obtain ⟨o', es, ep, e', d, _⟩ := y
  rw [e] at e'; cases e'
  exact p _ _ d
theorem Pt.no_cell {h : Heap} {b : Addr} {m : Option Value} (x : Pt h b) (y : h.IsCell b m) : False := by
  obtain ⟨o, e, _, p⟩ := x
  obtain ⟨o', e', d⟩ := y
  rw [e] at e'; cases e'
  exact p _ d

structure Turns (W : Wd) (n : Nat) (target : Expr) (I : Addr) (xs : List It) (g0 : Array GenState) (fp wr : List Addr) (S : Nat → Shared → Prop) : Prop where
  sub : ∀ b ∈ wr, b ∈ fp
  frame : ∀ i s s', S i s → Same s s' → (∀ b ∈ fp, ∀ o, s.heap.get? b = some o → s'.heap.get? b = some o) → S i s'
  nodat : ∀ i s, S i s → ∀ b ∈ wr, NoDat s.heap b
  pt : ∀ i s, S i s → ∀ b ∈ fp, Pt s.heap b
  item : ∀ (A : Around) i x (s : Shared) (Q : Value → Shared → Prop) (E : Value → Shared → Prop), Room A n → xs[i]? = some x → S i s →
    (∀ v s', Upd s s' → ItAt s'.heap v x → S (i + 1) s' → KeptBut wr s.heap s'.heap → Q v s') →
    wpAny (model W.prog W.w) A (pyNext (.ref I)) (fun r s1 => match r with | none => False | some v => wpAny (model W.prog W.w) A (letOwnedTupleGo target (.ref I) v) (fun _ s2 => Q v s2) E s1) E s
  done : ∀ (A : Around) (s : Shared) (Q : Option Value → Shared → Prop) (E : Value → Shared → Prop), Room A n → S xs.length s →
    (∀ s', Upd s s' → FinGens g0 s'.gens → KeptBut wr s.heap s'.heap → Q none s') → wpAny (model W.prog W.w) A (pyNext (.ref I)) Q E s

/-- the iterator gives itself back -/
def Selfs (W : Wd) (n : Nat) (I : Addr) (S : Nat → Shared → Prop) : Prop :=
  ∀ (A : Around) i (s : Shared) (Q : Value → Shared → Prop) (E : Value → Shared → Prop), Room A n → S i s → Q (.ref I) s → wpAny (model W.prog W.w) A (pyIter (.ref I)) Q E s

/-- a source of a loop: the names `us` lend their lists; gn: it is a generator -/
structure Src (W : Wd) (n : Nat) (env : Env) (σ : Sto) (us : List Str) (gn : Bool) (iter target : Expr) (xs : List It) : Prop where
  run : ∀ (A : Around) (s : Shared) (Q : Value → Shared → Prop) (E : Value → Shared → Prop), Room A n → GA W s.heap → SAt env s.heap σ →
    (∀ I fp wr S s', Upd s s' → Kept s.heap s'.heap → Turns W n target I xs s.gens fp wr S → S 0 s' → (∀ b ∈ wr, s.heap.get? b = none) → (gn = false → ∀ i s2, S i s2 → FinGens s.gens s2.gens) →
      (∀ b ∈ fp, ∀ vs k, s.heap.get? b = some { cls := .type "list", data := .seq vs k } → ∃ y ∈ us, Bound env s.heap y (.ref b)) → (gn = false → Selfs W n I S) → Q (.ref I) s') →
    wpAny (model W.prog W.w) A (eval iter env) (fun x s1 => wpAny (model W.prog W.w) A (pyIter x) Q E s1) E s

inductive Tgt : Expr → It → List (Str × Im) → Prop
  | name {x p a} : Tgt (.Name x p) (.im a) [(x, a)]
  | tup2 {x y p q k r a b} : Tgt (.Tuple [.Name x p, .Name y q] k r) (.tup [a, b]) [(x, a), (y, b)]
  | tup3 {x y z p q u k r a b c} : Tgt (.Tuple [.Name x p, .Name y q, .Name z u] k r) (.tup [a, b, c]) [(x, a), (y, b), (z, c)]
def puts : List (Str × Im) → Sl → Sl
  | [], l => l
  | (x, a) :: r, l => puts r (put x (.it (.im a)) l)

section
variable {W : Wd} {n : Nat} {env : Env} {l : Sl} {B : Bm} {V : Str → Option Value}

theorem wp_put {A : Around} {s : Shared} {E : Value → Shared → Prop} {M : Model} {Q : Unit → Shared → Prop} {z : Str} {v : Value} {a : Im} (x : St W B env l s.heap V) (hk : EnvOk env) (hx : Kd env z) (r : ImR v a)
    (h : ∀ h' t V', St W B env (put z (.it (.im a)) l) h' V' → Q () { s with heap := h', toks := t }) : wpAny M A (storeName env z v) Q E s :=
  wp_store x hk hx (d := .it (.im a)) r (fun _ e => by cases e) fun h' t st => h h' t _ st

theorem wp_inOrder {A : Around} {E : Value → Shared → Prop} {M : Model} (hk : EnvOk env) : ∀ {names : List (Str × Im)} {ps : List Pos} {vs : List Value} {l : Sl} {V : Str → Option Value} {s : Shared} {Q : Unit → Shared → Prop}, ps.length = names.length → (∀ b ∈ names, Kd env b.1) → All2 ImR vs (names.map (·.2)) → St W B env l s.heap V →
    (∀ h' t V', St W B env (puts names l) h' V' → Q () { s with heap := h', toks := t }) → wpAny M A (assignInOrder ((names.zip ps).map fun x => assign (.Name x.1.1 x.2) env) vs) Q E s
  | [], _, _, l, V, s, Q, _, _, .nil, x, h => wpAny_pure (h s.heap s.toks V x)
  | (z, a) :: names, [], _, _, _, _, _, hp, _, _, _, _ => by simp at hp
  | (z, a) :: names, p :: ps, _, l, V, s, Q, hp, hkd, .cons r y, x, h => by
    show wpAny M A (holding _ (assign (.Name z p) env _) >>= fun _ => assignInOrder _ _) Q E s
    refine wpAny_bind (wpAny_holding (wpAny_assign_Name (wp_put x hk (hkd _ (.head _)) r fun h' t V' x' => ?_)))
    exact wp_inOrder hk (by simpa using hp) (fun b hb => hkd b (.tail _ hb)) y x' fun h'' t' V'' x'' => h h'' t' V'' x''

theorem wp_target {A : Around} {s : Shared} {E : Value → Shared → Prop} {Q : Unit → Shared → Prop} {target : Expr} {x : It} {bs : List (Str × Im)} {v : Value} (hh : A.handled = none) (ht : Tgt target x bs) (hkd : ∀ b ∈ bs, Kd env b.1) (hk : EnvOk env)
    (st : St W B env l s.heap V) (r : ItAt s.heap v x) (h : ∀ h' t V', St W B env (puts bs l) h' V' → Q () { s with heap := h', toks := t }) : wpAny (model W.prog W.w) A (assign target env v) Q E s := by
  cases ht with
  | name => exact wpAny_assign_Name (wp_put st hk (hkd _ (.head _)) r fun h' t V' x' => h h' t V' x')
  | @tup2 x y p q k r' a b =>
    obtain ⟨T, vs, rfl, hT, ra⟩ := r
    have hl' : vs.size = 2 := by simpa using ra.length
    refine wpAny_assign_Tuple hh hT hl'.symm rfl fun h' he => ?_
    have st' := st.ext (h' := h') fun b o e => he b o (Nat.ne_of_lt (Heap.lt_size e)) e
    exact wp_inOrder (names := [(x, a), (y, b)]) (ps := [p, q]) hk rfl hkd ra st' fun h'' t V'' x'' => h h'' t V'' x''
  | @tup3 x y z p q u k r' a b c =>
    obtain ⟨T, vs, rfl, hT, ra⟩ := r
    have hl' : vs.size = 3 := by simpa using ra.length
    refine wpAny_assign_Tuple hh hT hl'.symm rfl fun h' he => ?_
    have st' := st.ext (h' := h') fun b o e => he b o (Nat.ne_of_lt (Heap.lt_size e)) e
    exact wp_inOrder (names := [(x, a), (y, b), (z, c)]) (ps := [p, q, u]) hk rfl hkd ra st' fun h'' t V'' x'' => h h'' t V'' x''

theorem boundFun {h : Heap} {x : Str} {v w : Value} (a : Bound env h x v) (b : Bound env h x w) : v = w := by
  rcases a with ⟨e, m, n, hm⟩ | ⟨e, c, hc, hv⟩ | ⟨e, c, hc, hv⟩ <;> rcases b with ⟨e', m', n', hm'⟩ | ⟨e', c', hc', hv'⟩ | ⟨e', c', hc', hv'⟩ <;> first | (rw [e] at e'; cases e'; done) | skip
  · rw [nsFun n n'] at hm; rw [hm] at hm'; cases hm'; rfl
  · rw [hc] at hc'; cases hc'; have := cellFun hv hv'; cases this; rfl
  · rw [hc] at hc'; cases hc'; have := cellFun hv hv'; cases this; rfl

/-- an iterator took a step -/
theorem St.step {h h' : Heap} {wr : List Addr} (x : St W B env l h V) (k : KeptBut wr h h') (hB : ∀ b ∈ wr, B b = none) (hn : ∀ b ∈ wr, NoDat h b) (hp : ∀ b ∈ wr, Pt h b) : St W B env l h' V where
  base := x.base
  prot := fun a o e => k a o (fun hb => by rw [hB a hb] at e; cases e) (x.prot a o e)
  ns := let ⟨m, n⟩ := x.ns; ⟨m, n.at' fun o e => k _ o (fun hb => (hp _ hb).no_ns n) e⟩
  offL := x.offL
  cell := fun y e => by
    obtain ⟨c, v, h1, h2, h3⟩ := x.cell y e
    have hc : c ∉ wr := fun hb => (hp _ hb).no_cell h2
    obtain ⟨o, h4, h5⟩ := h2
    exact ⟨c, v, h1, ⟨o, k c o hc h4, h5⟩, h3⟩
  apart := x.apart
  bnd := fun y w e => by
    have cc : ∀ {c' : Addr} {v : Option Value}, h.IsCell c' v → h'.IsCell c' v := fun {c' v} q => by
      have hc : c' ∉ wr := fun hb => (hp _ hb).no_cell q
      obtain ⟨o, h4, h5⟩ := q
      exact ⟨o, k c' o hc h4, h5⟩
    rcases x.bnd y w e with ⟨e, m', n', hm⟩ | ⟨e, c', hc, q⟩ | ⟨e, c', hc, q⟩
    · exact .inl ⟨e, m', n'.at' fun o e => k _ o (fun hb => (hp _ hb).no_ns n') e, hm⟩
    · exact .inr (.inl ⟨e, c', hc, cc q⟩)
    · exact .inr (.inr ⟨e, c', hc, cc q⟩)
  typ := fun y v e => let ⟨d, b, h1, h2⟩ := x.typ y v e; ⟨d, b, h1, h2.but k hn⟩
  has := x.has
  own := x.own

open Classical in
/-- the map of what a turn's body must leave: B and the walk's own objects as they stand -/
noncomputable def over (fp : List Addr) (h : Heap) (B : Bm) : Bm := fun a => if a ∈ fp then h.get? a else B a
theorem over_in {fp : List Addr} {h : Heap} {B : Bm} {a : Addr} (e : a ∈ fp) : over fp h B a = h.get? a := by simp [over, e]
theorem over_out {fp : List Addr} {h : Heap} {B : Bm} {a : Addr} (e : a ∉ fp) : over fp h B a = B a := by simp [over, e]

theorem St.over {h : Heap} {fp : List Addr} (x : St W B env l h V) (hp : ∀ b ∈ fp, Pt h b)
    (hO : ∀ y d a, l.lookup y = some (.list d, true) → V y = some (.ref a) → a ∉ fp) : St W (Mine.over fp h B) env l h V where
  base := fun a o e => by
    by_cases q : a ∈ fp
    · rw [over_in q]; exact x.prot a o (x.base a o e)
    · rw [over_out q]; exact x.base a o e
  prot := fun a o e => by
    by_cases q : a ∈ fp
    · rw [over_in q] at e; exact e
    · rw [over_out q] at e; exact x.prot a o e
  ns := x.ns
  offL := by
    obtain ⟨m, n⟩ := x.ns
    rw [over_out fun hb => (hp _ hb).no_ns n]; exact x.offL
  cell := fun y e => let ⟨c, v, h1, h2, h3⟩ := x.cell y e; ⟨c, v, h1, h2, fun hf => by rw [over_out fun hb => (hp _ hb).no_cell h2]; exact h3 hf⟩
  apart := x.apart
  bnd := x.bnd
  typ := x.typ
  has := x.has
  own := fun y d e => let ⟨a, h1, h2, h3⟩ := x.own y d e; ⟨a, h1, by rw [over_out (hO y d a e h1)]; exact h2, h3⟩
theorem St.unover {h h0 : Heap} {fp : List Addr} (x : St W (Mine.over fp h0 B) env l h V) (hb : ∀ a o, W.hB.get? a = some o → B a = some o) (hp : ∀ a o, B a = some o → h0.get? a = some o) : St W B env l h V :=
  x.less hb fun a o e => by
    by_cases q : a ∈ fp
    · rw [over_in q]; exact hp a o e
    · rw [over_out q]; exact e

/-- a loop over a source -/
theorem Tr.for {target iter : Expr} {body : List Stmt} {pos : Pos} {xs : List It} {us : List Str} {gn : Bool} {o : Out} (P : List It → Sl → Out → Prop) (hk : EnvOk env) (hsrc : Src W n env (lk l) us gn iter target xs) (h0 : P xs l o)
    (hus : ∀ y ∈ us, ∃ d, l.lookup y = some (d, false))
    (hnil : ∀ l' o', P [] l' o' → ∃ l2, o' = .next l2 ∧ le l2 l')
    (hstep : ∀ x rest l' o', P (x :: rest) l' o' → ∃ bs, Tgt target x bs ∧ (∀ b ∈ bs, Kd env b.1) ∧ ∃ o1, Tr W n env (puts bs l') (execs body env) o1 ∧
      match o1 with | .next l1 => ∃ l2, le l2 l1 ∧ P rest l2 o' | .ret d => gn = false ∧ o' = .ret d)
    (hs : ∀ x, foldedSetIterable iter env x = pure x := by intro _; rfl) :
    Tr W n env l (exec (.For target iter body [] pos) env) o := .mk fun A s B V Q E ro st h => by
  refine wpAny_For (hsrc.run A s _ E ro st.ga st.sat fun I fp wr S s1 hu hkept T hS hwr hfin hlist _ => ?_) hs
  have st1 := st.ext hkept
  have hB : ∀ b ∈ wr, B b = none := fun b hb => by
    cases e : B b with
    | none => rfl
    | some o => have := st.prot b o e; rw [hwr b hb] at this; cases this
  have own1 : ∀ y d a, l.lookup y = some (.list d, true) → V y = some (.ref a) → a ∉ fp := fun y d a e hv hf => by
    obtain ⟨v, hv', r⟩ := st.at e
    rw [hv] at hv'; cases hv'
    obtain ⟨b, vs, k, e2, g, _⟩ := r
    cases e2
    obtain ⟨z, hz, bz⟩ := hlist a hf vs k g
    obtain ⟨d', hz'⟩ := hus z hz
    obtain ⟨w, hw, _⟩ := st.at hz'
    have := boundFun (st.bnd z w hw) bz
    subst this
    obtain ⟨a', h1, _, h3⟩ := st.own y d e
    rw [hv] at h1; cases h1
    exact h3 z (by rintro rfl; rw [e] at hz'; cases hz') hw
  refine codeAny_forLoop_any (fun k s' => ∃ i l' V', k = xs.length - i ∧ i ≤ xs.length ∧ Upd s s' ∧ S i s' ∧ St W B env l' s'.heap V' ∧ P (xs.drop i) l' o ∧
    ∀ y d a, l'.lookup y = some (.list d, true) → V' y = some (.ref a) → a ∉ fp) ?_ (xs.length - 0) ⟨0, l, V, rfl, Nat.zero_le _, hu, hS, st1, by simpa using h0, own1⟩
  rintro k s' ⟨i, l', V', rfl, hi, hup, hSi, st', hP, hown⟩
  rcases Nat.lt_or_ge i xs.length with hlt | hge
  · have hx : xs[i]? = some xs[i] := List.getElem?_eq_getElem hlt
    rw [List.drop_eq_getElem_cons hlt] at hP
    obtain ⟨bs, ht, hkd, o1, hbody, hnext⟩ := hstep _ _ _ _ hP
    refine wpAny_mono (T.item A i _ s' (fun v s2 => Upd s' s2 ∧ ItAt s2.heap v xs[i] ∧ S (i + 1) s2 ∧ KeptBut wr s'.heap s2.heap) _ ro hx hSi fun v s2 a b c d => ⟨a, b, c, d⟩) (fun r s2 h2 => ?_) (fun _ _ e => e)
    cases r with
    | none => exact h2.elim
    | some v =>
    refine wpAny_mono h2 (fun _ s2 h2 => ?_) (fun _ _ e => e)
    obtain ⟨hu2, hv, hS2, hk2⟩ := h2
    have st2 := st'.step hk2 hB (T.nodat i s' hSi) fun b hb => T.pt i s' hSi b (T.sub b hb)
    have st3 := st2.over (T.pt _ s2 hS2) hown
    refine wp_target ro.hd ht hkd hk st3 hv fun h' t V3 st4 => ?_
    refine hbody.run A _ _ V3 _ _ ro st4 fun f s5 m5 a5 => ?_
    cases o1 with
    | next l1 =>
      obtain ⟨rfl, V5, st5⟩ := a5
      obtain ⟨l2, hle, hP2⟩ := hnext
      have stm := st5.mono hle
      have m25 : Same s2 s5 := (Same.put s2 h' t).trans m5
      refine ⟨xs.length - (i + 1), by omega, i + 1, l2, _, rfl, hlt, (hup.trans hu2).trans m25.upd, T.frame _ s2 s5 hS2 m25 fun b hb o e => st5.prot b o (by rw [over_in hb]; exact e),
        stm.unover st.base st2.prot, hP2, fun y d a e hv hf => ?_⟩
      obtain ⟨a', h1, h2, _⟩ := stm.own y d e
      rw [hv] at h1; cases h1
      rw [over_in hf] at h2
      obtain ⟨o', e', _⟩ := T.pt _ s2 hS2 a hf
      rw [e'] at h2; cases h2
    | ret d =>
      obtain ⟨v', rfl, r, hp, hd⟩ := a5
      obtain ⟨hg, rfl⟩ := hnext
      have m25 : Same s2 s5 := (Same.put s2 h' t).trans m5
      refine h _ s5 (((hup.trans hu2).trans m25.upd).same ((hfin hg _ s2 hS2).trans m25.fin)) ⟨v', rfl, r, fun a o e => hp a o ?_, fun ds e => ?_⟩
      · by_cases q : a ∈ fp
        · rw [over_in q]; exact st2.prot a o e
        · rw [over_out q]; exact e
      · obtain ⟨a, h1, h2⟩ := hd ds e
        refine ⟨a, h1, ?_⟩
        by_cases q : a ∈ fp
        · rw [over_in q] at h2
          obtain ⟨o', e', _⟩ := T.pt _ s2 hS2 a q
          rw [e'] at h2; cases h2
        · rw [over_out q] at h2; exact h2
  · have hi' : i = xs.length := by omega
    subst hi'
    rw [List.drop_of_length_le (Nat.le_refl _)] at hP
    obtain ⟨l2, rfl, hle⟩ := hnil _ _ hP
    refine T.done A s' _ _ ro hSi fun s2 hu2 hf2 hk2 => ?_
    have st2 := st'.step hk2 hB (T.nodat _ s' hSi) fun b hb => T.pt _ s' hSi b (T.sub b hb)
    exact wpAny_execs_nil (h _ s2 ((hup.trans hu2).same hf2) ⟨rfl, _, st2.mono hle⟩)

/-- a loop while -/
theorem Tr.while {test : Expr} {body : List Stmt} {pos : Pos} {k : Nat} {o : Out} (P : Nat → Sl → Out → Prop) (h0 : P k l o)
    (hstep : ∀ k l' o', P k l' o' → ∃ b, EvT W n env (lk l') (isTrue test env (eval test env)) b ∧ (b = false → ∃ l2, o' = .next l2 ∧ le l2 l') ∧
      (b = true → ∃ o1, Tr W n env l' (execs body env) o1 ∧ match o1 with | .next l1 => ∃ m l2, m < k ∧ le l2 l1 ∧ P m l2 o' | .ret d => o' = .ret d)) :
    Tr W n env l (exec (.While test body [] pos) env) o := .mk fun A s B V Q E ro st h => by
  refine wpAny_While (codeAny_whileLoop (fun k s' => ∃ l' V', Same s s' ∧ St W B env l' s'.heap V' ∧ P k l' o) ?_ k ⟨l, V, .refl s, st, h0⟩)
  rintro k s' ⟨l', V', hm, st', hP⟩
  obtain ⟨b, ht, hf, hb⟩ := hstep k l' o hP
  refine ht.run A s' _ _ ro st'.ga st'.sat fun s2 e2 => ?_
  have st2 := st'.ext e2.kept
  cases b with
  | false =>
    obtain ⟨l2, rfl, hle⟩ := hf rfl
    exact wpAny_execs_nil (h _ s2 (hm.trans e2.same) ⟨rfl, _, st2.mono hle⟩)
  | true =>
    obtain ⟨o1, hbody, hnext⟩ := hb rfl
    refine hbody.run A s2 B V' _ _ ro st2 fun f s3 m3 a3 => ?_
    cases o1 with
    | next l1 =>
      obtain ⟨rfl, V3, st3⟩ := a3
      obtain ⟨m, l2, hm', hle, hP2⟩ := hnext
      exact ⟨m, hm', l2, _, (hm.trans e2.same).trans m3, st3.mono hle, hP2⟩
    | ret d =>
      obtain ⟨v, rfl, r⟩ := a3
      subst hnext
      exact h _ s3 ((hm.trans e2.same).trans m3) ⟨v, rfl, r⟩
end
end Mine
end

/-! M9 -/
section
open PySem PySem.Calls PyProof.Rows PySem.W
set_option maxRecDepth 100000
namespace Mine

abbrev ifsTree (ifs : List Expr) (env : Env) : Sem Bool :=
  forIn ifs true fun c r => if r = true then do let ok ← isTrue c env (eval c env); pure (ForInStep.yield ok) else pure (ForInStep.yield r)

section
variable {prog : Program} {w : World} {A : Around} {E : Value → Shared → Prop} {R : Result → Shared → Prop} {s : Shared}
theorem codeAny_compLoop_own {elt target iter : Expr} {ifs : List Expr} {scope : Scope} {pos : Pos} {it acc : Value} {env : Env} (I : Nat → Shared → Prop)
    (turn : ∀ n s, I n s → wpAny (model prog w) A (pyNext it) (fun r s₁ => match r with
      | none => R (.ok .next) s₁
      | some v => wpAny (model prog w) A (letOwnedTupleGo target it v) (fun _ s₁' => wpAny (model prog w) A (assign target env v) (fun _ s₂ =>
          wpAny (model prog w) A (ifsTree ifs env) (fun ok s₃ =>
            if ok = true then wpAny (model prog w) A (eval elt env) (fun x s₄ =>
              wpAny (model prog w) A (call (.builtin "list.append") [acc, x]) (fun _ s₅ => ∃ m, m < n ∧ I m s₅) (notedBy (model prog w) A env fun e s' => R (.error e) s') s₄) (notedBy (model prog w) A env fun e s' => R (.error e) s') s₃
            else ∃ m, m < n ∧ I m s₃) (notedBy (model prog w) A env fun e s' => R (.error e) s') s₂) (notedBy (model prog w) A env fun e s' => R (.error e) s') s₁') (notedBy (model prog w) A env fun e s' => R (.error e) s') s₁) (notedBy (model prog w) A env fun e s' => R (.error e) s') s)
    (n : Nat) (h : I n s) :
    codeAny (model prog w) A (.compLoop (.ListComp elt [⟨target, iter, ifs, 0⟩] scope pos) 0 it acc env) R s := by
  refine codeAny_loop rfl I (fun n s hI => ?_) n h
  show wpAny _ A ((compTurn (.ListComp elt [⟨target, iter, ifs, 0⟩] scope pos) 0 it acc env).onRaise (fun x => do noteFrame x env; theTreesLotGoes x)) _ _ s
  refine wpAny_noted ?_
  rw [compTurn_list]
  refine wpAny_bind (wpAny_standAt (wpAny_bind (wpAny_mono (turn n s hI) (fun r s₁ h₁ => ?_) fun _ _ h' => h')))
  cases r with
  | none => exact wpAny_pure h₁
  | some v =>
    refine wpAny_bind (wpAny_mono h₁ (fun _ s₁' h₁' => ?_) fun _ _ h' => h')
    refine wpAny_bind (wpAny_mono h₁' (fun _ s₂ h₂ => wpAny_bind (wpAny_mono h₂ (fun ok s₃ h₃ => ?_) fun _ _ h' => h')) fun _ _ h' => h')
    cases ok with
    | false => exact wpAny_pure ⟨rfl, h₃⟩
    | true =>
      exact wpAny_bind (wpAny_bind (wpAny_mono h₃ (fun x s₄ h₄ => wpAny_bind (wpAny_mono h₄ (fun _ s₅ h₅ => wpAny_pure (wpAny_pure ⟨rfl, h₅⟩)) fun _ _ h' => h')) fun _ _ h' => h'))
end

section
variable {W : Wd} {n : Nat} {fr : Bool} {env : Env} {l : Sl} {B : Bm} {V : Str → Option Value}

structure EvIfs (W : Wd) (n : Nat) (env : Env) (σ : Sto) (ifs : List Expr) (b : Bool) : Prop where
  run : ∀ (A : Around) (s : Shared) (Q : Bool → Shared → Prop) (E : Value → Shared → Prop), Room A n → GA W s.heap → SAt env s.heap σ → (∀ s', Ext s s' → Q b s') → wpAny (model W.prog W.w) A (ifsTree ifs env) Q E s
theorem EvIfs.nil {σ : Sto} : EvIfs W n env σ [] true := .mk fun A s Q E _ _ _ h => wpAny_tests_nil (h s (.refl s))
theorem EvIfs.one {σ : Sto} {c : Expr} {b : Bool} (h1 : EvT W n env σ (isTrue c env (eval c env)) b) : EvIfs W n env σ [c] b := .mk fun A s Q E ro g sa h => wpAny_tests_one (h1.run A s _ E ro g sa h)

open Classical in
noncomputable def allBut (c : Addr) (h : Heap) : Bm := fun a => if a = c then none else h.get? a
theorem allBut_ne {c a : Addr} {h : Heap} (e : a ≠ c) : allBut c h a = h.get? a := by simp [allBut, e]
theorem allBut_self {c : Addr} {h : Heap} : allBut c h c = none := by simp [allBut]

/-- what the parts of a comprehension are, in its own frame -/
structure Comp (W : Wd) (n : Nat) (env : Env) (l : Sl) (us : List Str) (target iter elt : Expr) (ifs : List Expr) (scope : Scope) (cl : List (Str × Addr)) (lc : Sl) (xs : List It) (f : It → Option It) : Prop where
  src : Src W n env (lk l) us false iter target xs
  clos : closureFor scope env = pure cl
  nocell : ∀ y ∈ scope.names, y.2 ≠ .cell
  kind : scope.kind = .function
  names : ∀ x ∈ scope.names, x.2 = .local → scope.names.lookup x.1 = some .local
  cl_of : ∀ x c, cl.lookup x = some c → env.kindOf x = some .cell ∧ env.cells.lookup x = some c
  lc_of : ∀ C x d b, lc.lookup x = some (d, b) → b = false ∧ lk l x = some d ∧ (compEnvC scope cl C env).kindOf x = some .cell ∧ ∃ c, cl.lookup x = some c
  of_cell : ∀ C x, (compEnvC scope cl C env).kindOf x = some .cell → ∃ d, lc.lookup x = some (d, false)
  each : ∀ C, EnvOk (compEnvC scope cl C env) → ∀ x ∈ xs, ∃ bs ok, Tgt target x bs ∧ (∀ b ∈ bs, (compEnvC scope cl C env).kindOf b.1 = some .local) ∧ EvIfs W n (compEnvC scope cl C env) (lk (puts bs lc)) ifs ok ∧ (ok = false → f x = none) ∧
    (ok = true → ∃ y, f x = some y ∧ Ev W n false (compEnvC scope cl C env) (lk (puts bs lc)) (eval elt (compEnvC scope cl C env)) (.it y))
  size : xs.length ≤ sizeLine

theorem St.max {h : Heap} (x : St W B env l h V) (hf : env.func = none) (hl : ∀ y d, l.lookup y ≠ some (.list d, true)) : St W (allBut env.locals h) env l h V where
  base := fun a o e => by
    have : a ≠ env.locals := by rintro rfl; have := x.base _ _ e; rw [x.offL] at this; cases this
    rw [allBut_ne this]; exact x.prot a o (x.base a o e)
  prot := fun a o e => by
    by_cases q : a = env.locals
    · subst q; rw [allBut_self] at e; cases e
    · rw [allBut_ne q] at e; exact e
  ns := x.ns
  offL := allBut_self
  cell := fun y e => let ⟨c, v, h1, h2, _⟩ := x.cell y e; ⟨c, v, h1, h2, fun q => by rw [hf] at q; cases q⟩
  apart := x.apart
  bnd := x.bnd
  typ := x.typ
  has := x.has
  own := fun y d e => absurd e (hl y d)

theorem compOk {scope : Scope} {cl : List (Str × Addr)} {C : Addr} (hk : EnvOk env) (hkind : scope.kind = .function) (hcl : ∀ x c, cl.lookup x = some c → env.kindOf x = some .cell ∧ env.cells.lookup x = some c) : EnvOk (compEnvC scope cl C env) :=
  ⟨hkind, hk.globals, hk.builtins, fun x y c hx hy => hk.apart x y c (hcl x c hx).2 (hcl y c hy).2⟩

theorem filterMap_take_succ {α β : Type} (f : α → Option β) (l : List α) (i : Nat) (x : α) (h : l[i]? = some x) : (l.take (i + 1)).filterMap f = (l.take i).filterMap f ++ (f x).toList := by
  rw [List.take_add_one, h, List.filterMap_append]
  cases hf : f x <;> simp [hf]

theorem comp_core {target iter elt : Expr} {ifs : List Expr} {scope : Scope} {pos : Pos} {us : List Str} {cl : List (Str × Addr)} {lc : Sl} {xs : List It} {f : It → Option It}
    (c : Comp W n env l us target iter elt ifs scope cl lc xs f) (hk : EnvOk env) {A : Around} {s : Shared} {use : Option (Value → Sem Unit)} {Q : Value → Shared → Prop} {E : Value → Shared → Prop} {ipos : Pos}
    (ro : Room A n) (ga : GA W s.heap) (sa : SAt env s.heap (lk l))
    (hs : ∀ x, foldedSetIterable iter env x = pure x)
    (h : ∀ D C s' m, Ext s s' → s.heap.get? D = none → s.heap.get? C = none → D ≠ C → s'.heap.Ns C m → PVR s'.heap (.ref D) (.list (xs.filterMap f)) → compPost (model W.prog W.w) A E use Q (.ref D) C (.ok .next) s') :
    wpAny (model W.prog W.w) A (comprehension (.ListComp elt [⟨target, iter, ifs, 0⟩] scope pos) scope env ipos (newList []) false (eval iter env) use) Q E s := by
  refine wpAny_comprehension_free rfl hs c.clos c.kind c.names (c.src.run A s _ E ro ga sa fun I fp wr S s1 hu hkept T hS hwr hfin _ hself => ?_)
  refine wpAny_newObj_type (wpAny_newFunctionEnv c.nocell (by intro y hy; simp at hy) (fun h₁ hns₁ hsb₁ => ?_) c.kind)
  dsimp only at hns₁ hsb₁ ⊢
  generalize hH2 : s1.heap.push { cls := .type "list", dict := none, data := .seq ([] : List Value).toArray } = H2 at hns₁ hsb₁ ⊢
  have hC : H2.objs.size = s1.heap.objs.size + 1 := by rw [← hH2, Heap.size_push]
  generalize hDD : s1.heap.objs.size = D at hC
  generalize hCC : H2.objs.size = C at hC hns₁ hsb₁
  have fresh : ∀ a, D ≤ a → s1.heap.get? a = none := fun a ha => by
    cases e : s1.heap.get? a with
    | none => rfl
    | some o' => exact absurd (Heap.lt_size e) (Nat.not_lt.mpr (hDD ▸ ha))
  have hfD : s1.heap.get? D = none := fresh D (Nat.le_refl _)
  have hfC : s1.heap.get? C = none := fresh C (by omega)
  have hDC : D ≠ C := by omega
  have old : Kept s1.heap h₁ := fun b o e => hsb₁.extBut b o (by rintro rfl; rw [hfC] at e; cases e) (Heap.get?_push_of_some _ (hH2 ▸ Heap.get?_push_of_some _ e))
  have hD1 : h₁.get? D = some { cls := .type "list", data := .seq #[] } := by
    refine hsb₁.extBut _ _ hDC (Heap.get?_push_of_some _ ?_)
    rw [← hH2, ← hDD]; exact Heap.get?_push_size _ rfl
  have hDfp : D ∉ fp := fun hm => by obtain ⟨o, e, _⟩ := T.pt 0 s1 hS D hm; rw [hfD] at e; cases e
  have hCfp : C ∉ fp := fun hm => by obtain ⟨o, e, _⟩ := T.pt 0 s1 hS C hm; rw [hfC] at e; cases e
  have hDwr : D ∉ wr := fun hm => hDfp (T.sub _ hm)
  have hCwr : C ∉ wr := fun hm => hCfp (T.sub _ hm)
  have hk' : EnvOk (compEnvC scope cl C env) := compOk hk c.kind c.cl_of
  -- the comprehension's own frame, from any heap that keeps the rest
  let V0 : Str → Option Value := fun x => open Classical in if q : ∃ v, (∃ d b, lc.lookup x = some (d, b) ∧ PVR s.heap v d) ∧ Bound env s.heap x v then some q.choose else none
  have V0s : ∀ x v, V0 x = some v → (∃ d b, lc.lookup x = some (d, b) ∧ PVR s.heap v d) ∧ Bound env s.heap x v := fun x v e => by
    simp only [V0] at e
    split at e
    · rename_i q; cases e; exact q.choose_spec
    · cases e
  have V0h : ∀ x d b, lc.lookup x = some (d, b) → ∃ v, V0 x = some v := fun x d b e => by
    obtain ⟨_, h2, _⟩ := c.lc_of 0 x d b e
    obtain ⟨v, r, bd⟩ := sa x d h2
    exact ⟨_, by simp only [V0]; rw [dif_pos ⟨v, ⟨d, b, e, r⟩, bd⟩]⟩
  let B0 : Bm := fun a => open Classical in if a ∈ wr then none else s1.heap.get? a
  have keep0 : ∀ {h' : Heap}, KeptBut wr s1.heap h' → Kept s.heap h' := fun {h'} k b o e => k b o (fun hb => by rw [hwr b hb] at e; cases e) (hkept b o e)
  have mk : ∀ {h' : Heap}, (∃ m, h'.Ns C m) → KeptBut wr s1.heap h' → St W B0 (compEnvC scope cl C env) lc h' V0 := fun {h'} hn k => {
    base := fun a o e => by
      have e1 := ga.base a o e
      have hw : a ∉ wr := fun hb => by rw [hwr a hb] at e1; cases e1
      show (if a ∈ wr then none else s1.heap.get? a) = some o
      rw [if_neg hw]; exact hkept a o e1
    prot := fun a o e => by
      simp only [B0] at e
      split at e
      · cases e
      · rename_i hw; exact k a o hw e
    ns := hn
    offL := by
      show (if C ∈ wr then none else s1.heap.get? C) = none
      rw [if_neg hCwr]; exact hfC
    cell := fun x e => by
      obtain ⟨d, hd⟩ := c.of_cell C x e
      obtain ⟨_, h2, _, c', hc'⟩ := c.lc_of C x d false hd
      obtain ⟨hkc, hcc⟩ := c.cl_of x c' hc'
      obtain ⟨v, r, bd⟩ := sa x d h2
      refine ⟨c', some v, hc', ?_, fun q => by cases q⟩
      rcases bd with ⟨e', _⟩ | ⟨_, c2, h3, h4⟩ | ⟨e', _⟩
      · rw [hkc] at e'; cases e'
      · rw [hcc] at h3; cases h3; exact h4.keeps (keep0 k)
      · rw [hkc] at e'; cases e'
    apart := hk'.apart
    bnd := fun x v e => by
      obtain ⟨⟨d, b, hd, r⟩, bd⟩ := V0s x v e
      obtain ⟨_, h2, hkk, c', hc'⟩ := c.lc_of C x d b hd
      obtain ⟨hkc, hcc⟩ := c.cl_of x c' hc'
      rcases bd with ⟨e', _⟩ | ⟨_, c2, h3, h4⟩ | ⟨e', _⟩
      · rw [hkc] at e'; cases e'
      · rw [hcc] at h3; cases h3; exact .inr (.inl ⟨hkk, c', hc', h4.keeps (keep0 k)⟩)
      · rw [hkc] at e'; cases e'
    typ := fun x v e => by
      obtain ⟨⟨d, b, hd, r⟩, bd⟩ := V0s x v e
      exact ⟨d, b, hd, r.keeps (keep0 k)⟩
    has := V0h
    own := fun x d e => by have := (c.lc_of 0 x _ _ e).1; cases this }
  have noown : ∀ y d, lc.lookup y ≠ some (.list d, true) := fun y d e => by have := (c.lc_of 0 y _ _ e).1; cases this
  -- the loop
  have loop : ∀ s2 : Shared, s2 = { s1 with heap := h₁, toks := s1.toks + ([] : List (Str × Value)).length } →
      codeAny (model W.prog W.w) A (.compLoop (.ListComp elt [⟨target, iter, ifs, 0⟩] scope pos) 0 (.ref I) (.ref D) (compEnvC scope cl C env))
        (compPost (model W.prog W.w) A E use Q (.ref D) C) s2 := by
    rintro s2 rfl
    have m12 : Same s1 { s1 with heap := h₁, toks := s1.toks + ([] : List (Str × Value)).length } := Same.put s1 h₁ _
    refine codeAny_compLoop_own (fun k s' => ∃ i, k = xs.length - i ∧ i ≤ xs.length ∧ Upd s s' ∧ S i s' ∧ KeptBut wr s1.heap s'.heap ∧ (∃ m, s'.heap.Ns C m) ∧
      ∃ vs j, s'.heap.get? D = some { cls := .type "list", data := .seq vs j } ∧ All2 (ItR s'.heap) vs.toList ((xs.take i).filterMap f)) ?_ (xs.length - 0)
      ⟨0, rfl, Nat.zero_le _, hu.trans m12.upd, T.frame 0 s1 _ hS m12 fun b _ o e => old b o e, fun b o _ e => old b o e, ⟨_, hns₁⟩, #[], 0, hD1, .nil⟩
    rintro k s' ⟨i, rfl, hi, hup, hSi, hkb, ⟨m, hn⟩, vs, j, hD, hvs⟩
    rcases Nat.lt_or_ge i xs.length with hlt | hge
    · have hx : xs[i]? = some xs[i] := List.getElem?_eq_getElem hlt
      obtain ⟨bs, ok, ht, hkd, hifs, hno, hyes⟩ := c.each C hk' xs[i] (List.getElem_mem hlt)
      refine wpAny_mono (T.item A i _ s' (fun v s2 => Upd s' s2 ∧ ItAt s2.heap v xs[i] ∧ S (i + 1) s2 ∧ KeptBut wr s'.heap s2.heap) _ ro hx hSi fun v s2 a b c d => ⟨a, b, c, d⟩) (fun r s2 h2 => ?_) (fun _ _ e => e)
      cases r with
      | none => exact h2.elim
      | some v =>
      refine wpAny_mono h2 (fun _ s2 h2 => ?_) (fun _ _ e => e)
      obtain ⟨hu2, hv, hS2, hk2⟩ := h2
      have kb2 : KeptBut wr s1.heap s2.heap := fun b o hb e => hk2 b o hb (hkb b o hb e)
      have hn2 : s2.heap.Ns C m := hn.at' fun o e => hk2 C o hCwr e
      have st2 := mk ⟨m, hn2⟩ kb2
      have st3 : St W (allBut C s2.heap) (compEnvC scope cl C env) lc s2.heap V0 := St.max st2 rfl noown
      have nd := T.nodat i s' hSi
      have hvs2 : All2 (ItR s2.heap) vs.toList ((xs.take i).filterMap f) := hvs.imp fun _ _ q => q.but hk2 nd
      have hD2 := hk2 D _ hDwr hD
      refine wp_target ro.hd ht (fun b hb => .inl (hkd b hb)) hk' st3 hv fun h' t V4 st4 => ?_
      have up4 : ∀ b o, b ≠ C → s2.heap.get? b = some o → h'.get? b = some o := fun b o hb e => st4.prot b o (by rw [allBut_ne hb]; exact e)
      refine hifs.run A _ _ _ ro st4.ga st4.sat fun s5 e5 => ?_
      have kb5 : KeptBut wr s1.heap s5.heap := fun b o hb e => e5.kept b o (up4 b o (by rintro rfl; rw [hfC] at e; cases e) (kb2 b o hb e))
      have up5 : ∀ b o, b ≠ C → s2.heap.get? b = some o → s5.heap.get? b = some o := fun b o hb e => e5.kept b o (up4 b o hb e)
      have hn5 : ∃ m, s5.heap.Ns C m := let ⟨m4, n4⟩ := st4.ns; ⟨m4, n4.keeps e5.kept⟩
      obtain ⟨m5, hn5⟩ := hn5
      have m25 : Same s2 s5 := (Same.put s2 h' t).trans e5.same
      have hS5 : S (i + 1) s5 := T.frame _ s2 s5 hS2 m25 fun b hb o e => up5 b o (by rintro rfl; exact hCfp hb) e
      have it5 : ∀ v x, ItR s2.heap v x → ItR s5.heap v x := fun v x r => by
        cases x with
        | im a => exact r
        | tup l =>
          obtain ⟨a, us, n, e, g, r⟩ := r
          refine ⟨a, us, n, e, up5 a _ ?_ g, r⟩
          rintro rfl
          obtain ⟨o, es, ep, e', d, _⟩ := hn2
          rw [g] at e'; cases e'; cases d
      have hvs5 : All2 (ItR s5.heap) vs.toList ((xs.take i).filterMap f) := hvs2.imp it5
      have hD5 := up5 D _ hDC hD2
      cases ok with
      | false =>
        rw [if_neg (by decide)]
        refine ⟨xs.length - (i + 1), by omega, i + 1, rfl, hlt, (hup.trans hu2).trans m25.upd, hS5, kb5, ⟨_, hn5⟩, vs, j, hD5, ?_⟩
        rw [filterMap_take_succ f xs i _ hx, hno rfl]
        simpa using hvs5
      | true =>
        rw [if_pos rfl]
        obtain ⟨y, hy, hev⟩ := hyes rfl
        refine hev.run A s5 _ _ ro (st4.ga.keeps e5.kept) (st4.sat.keeps e5.kept) fun u s6 e6 r6 _ => ?_
        have hlen : vs.size ≤ sizeLine := by
          have h1 := hvs.length
          have h2 : ((xs.take i).filterMap f).length ≤ (xs.take i).length := List.length_filterMap_le ..
          have h3 : (xs.take i).length ≤ xs.length := by rw [List.length_take]; omega
          have h4 := c.size
          have h5 : vs.toList.length = vs.size := by simp
          omega
        refine wpAny_list_append_plain (hsz := hlen) ⟨j, e6.kept _ _ hD5⟩ fun h7 hl7 hs7 => ?_
        obtain ⟨j7, hD7⟩ := hl7
        have kb7 : ∀ b o, b ≠ D → s6.heap.get? b = some o → h7.get? b = some o := fun b o hb e => (hs7.2 b hb).trans e
        have m67 : Same s6 { s6 with heap := h7 } := Same.heap s6 h7
        refine ⟨xs.length - (i + 1), by omega, i + 1, rfl, hlt, ((hup.trans hu2).trans m25.upd).trans (e6.same.trans m67).upd, T.frame _ s5 _ hS5 (e6.same.trans m67) fun b hb o e => kb7 b o (by rintro rfl; exact hDfp hb) (e6.kept b o e),
          fun b o hb e => kb7 b o (by rintro rfl; rw [hfD] at e; cases e) (e6.kept b o (kb5 b o hb e)), ⟨_, (hn5.keeps e6.kept).at' fun o e => kb7 C o (Ne.symm hDC) e⟩, _, j7, hD7, ?_⟩
        rw [filterMap_take_succ f xs i _ hx, hy, Array.toList_push]
        have g6 := e6.kept _ _ hD5
        exact ((hvs5.imp fun _ _ q => q.keeps e6.kept).imp fun _ _ q => q.mut hs7 g6).append (.cons (ItR.mut hs7 g6 r6) .nil)
    · have hi' : i = xs.length := by omega
      subst hi'
      rw [List.take_of_length_le (Nat.le_refl _)] at hvs
      refine T.done A s' _ _ ro hSi fun s2 hu2 hf2 hk2 => ?_
      have kb2 : KeptBut wr s1.heap s2.heap := fun b o hb e => hk2 b o hb (hkb b o hb e)
      refine h D C s2 m ⟨(hup.trans hu2).same hf2, keep0 kb2⟩ ?_ ?_ hDC (hn.at' fun o e => hk2 C o hCwr e) ⟨D, vs, j, rfl, hk2 D _ hDwr hD, hvs.imp fun _ _ q => q.but hk2 (T.nodat _ s' hSi)⟩
      · exact hkept.none hfD
      · exact hkept.none hfC
  have hst : S 0 { s1 with heap := h₁, toks := s1.toks + ([] : List (Str × Value)).length } := T.frame 0 s1 _ hS (Same.put s1 h₁ _) fun b _ o e => old b o e
  exact codeAny_compStart_list (loop _ rfl) (hself rfl A 0 _ _ _ ro hst (loop _ rfl))

/-- a comprehension read where it stands -/
theorem Ev.comp {target iter elt : Expr} {ifs : List Expr} {scope : Scope} {pos : Pos} {us : List Str} {cl : List (Str × Addr)} {lc : Sl} {xs : List It} {f : It → Option It} (hk : EnvOk env)
    (c : Comp W n env l us target iter elt ifs scope cl lc xs f) (hs : ∀ x, foldedSetIterable iter env x = pure x := by intro _; rfl) :
    Ev W n fr env (lk l) (eval (.ListComp elt [⟨target, iter, ifs, 0⟩] scope pos) env) (.list (xs.filterMap f)) := .mk fun A s Q E ro ga sa h => by
  rw [eval_ListComp]
  refine comp_core (use := none) c hk ro ga sa hs fun D C s' m e hD hC hDC hn r => ?_
  refine ⟨m, hn, fun h'' hs'' => ?_⟩
  exact h _ _ ⟨e.same.trans (Same.heap s' h''), fun b o q => (hs''.2 b (by rintro rfl; rw [hC] at q; cases q)).trans (e.kept b o q)⟩ (r.odd hs'' (ns_odd hn)) fun _ _ _ => ⟨D, rfl, hD⟩

/-- a comprehension whose list a name takes -/
theorem Tr.assignComp {y : Str} {py : Pos} {target iter elt : Expr} {ifs : List Expr} {scope : Scope} {pos spos : Pos} {us : List Str} {cl : List (Str × Addr)} {lc : Sl} {xs : List It} {f : It → Option It} (hk : EnvOk env)
    (c : Comp W n env l us target iter elt ifs scope cl lc xs f) (hy : Kd env y)
    (hsw : swapsWith (.ListComp elt [⟨target, iter, ifs, 0⟩] scope pos) (some (.Name y py)) spos.line env = pure true)
    (hs : ∀ x, foldedSetIterable iter env x = pure x := by intro _; rfl) :
    Tr W n env l (exec (.Assign [.Name y py] (.ListComp elt [⟨target, iter, ifs, 0⟩] scope pos) spos) env) (.next (put y (.list (xs.filterMap f)) l)) := .mk fun A s B V Q E ro st h => by
  rw [exec_Assign_Name_used _ _ _ _ hsw]
  refine wpAny_bind (wpAny_standAt (wpAny_bind ?_))
  show wpAny _ A (do let _ ← comprehension (.ListComp elt [⟨target, iter, ifs, 0⟩] scope pos) scope env _ (newList []) false (eval iter env) (some (PySem.assign (.Name y py) env))) _ _ s
  refine wpAny_bind (wpAny_mono (comp_core (use := some (PySem.assign (.Name y py) env)) (Q := fun _ s' => Q .next s') c hk ro st.ga st.sat hs fun D C s' m e hD hC hDC hn r => ?_) (fun _ s' hq => wpAny_pure (wpAny_pure hq)) fun _ _ e => e)
  show wpAny _ A (PySem.assign (.Name y py) env (.ref D)) _ _ _
  have st1 := st.ext e.kept
  have hBC : ∀ a, s.heap.get? a = none → B a = none := fun a ha => by
    cases q : B a with
    | none => rfl
    | some o => have := st.prot a o q; rw [ha] at this; cases this
  have hCL : env.locals ≠ C := by
    obtain ⟨_, n⟩ := st.ns
    obtain ⟨o, _, _, e1, _⟩ := n
    rintro rfl; rw [hC] at e1; cases e1
  have st2 : St W (over [C] s'.heap B) env l s'.heap V := {
    base := fun a o q => by
      by_cases z : a ∈ [C]
      · rw [over_in z]; exact st1.prot a o (st1.base a o q)
      · rw [over_out z]; exact st1.base a o q
    prot := fun a o q => by
      by_cases z : a ∈ [C]
      · rw [over_in z] at q; exact q
      · rw [over_out z] at q; exact st1.prot a o q
    ns := st1.ns
    offL := by rw [over_out (by simpa using hCL)]; exact st1.offL
    cell := fun x q => by
      obtain ⟨c', v, h1, h2, h3⟩ := st.cell x q
      refine ⟨c', v, h1, h2.keeps e.kept, fun hf => ?_⟩
      rw [over_out]
      · exact h3 hf
      · obtain ⟨o, e1, _⟩ := h2
        simp only [List.mem_singleton]
        rintro rfl; rw [hC] at e1; cases e1
    apart := st1.apart
    bnd := st1.bnd
    typ := st1.typ
    has := st1.has
    own := fun x d q => by
      obtain ⟨a, h1, h2, h3⟩ := st.own x d q
      refine ⟨a, h1, ?_, h3⟩
      rw [over_out]
      · exact h2
      · obtain ⟨d', b', _, r'⟩ := st.typ x _ h1
        obtain ⟨o, e1⟩ := r'.mem
        simp only [List.mem_singleton]
        rintro rfl; rw [hC] at e1; cases e1 }
  refine wpAny_assign_Name (wp_store st2 hk hy r (fun ds _ => ⟨D, rfl, ?_, fun z hz => ?_⟩) fun h' t st3 => ?_)
  · rw [over_out (by simpa using hDC)]; exact hBC D hD
  · obtain ⟨d', b', _, r'⟩ := st.typ z _ hz
    obtain ⟨o, e1⟩ := r'.mem
    rw [hD] at e1; cases e1
  · have hn' : h'.Ns C m := hn.at' fun o q => st3.prot C o (by rw [over_in (by simp)]; exact q)
    refine ⟨m, hn', fun h'' hs'' => ?_⟩
    have st4 := st3.unover st.base fun a o q => st1.prot a o q
    exact h _ _ (e.same.trans ((Same.put s' h' t).trans (Same.heap _ h''))) ⟨rfl, _, st4.other hs'' hn' (hBC C hC) hCL⟩
end
end Mine
end

/-! M10 -/
section
open PySem PySem.Calls PyProof.Rows PySem.W
set_option maxRecDepth 100000
namespace Mine
section
variable {W : Wd} {n : Nat} {env : Env} {σ : Sto}

/-- a walk of the library, as turns -/
theorem Turns.ofWalks {target : Expr} {I : Addr} {xs : List It} {g0 : Array GenState} {fp fp' wr : List Addr} {P : Nat → Value → Prop} {H : Nat → Heap → Prop} (R : Heap → Prop)
    (hW : ∀ A : Around, A.handled = none → Walks W.prog W.w A I fp wr xs.length P H)
    (hfp : ∀ b ∈ fp, b ∈ fp') (hR : ∀ h h', R h → (∀ b ∈ fp', b ∉ wr → ∀ o, h.get? b = some o → h'.get? b = some o) → R h')
    (hP : ∀ i h v x, P i v → R h → xs[i]? = some x → ItAt h v x)
    (hnd : ∀ i h, H i h → R h → ∀ b ∈ wr, NoDat h b) (hpt : ∀ i h, H i h → R h → ∀ b ∈ fp', Pt h b)
    (hgo : ∀ (A : Around) i (s : Shared) v (Q : Unit → Shared → Prop) (E : Value → Shared → Prop), P i v → H (i + 1) s.heap → R s.heap → Q () s → wpAny (model W.prog W.w) A (letOwnedTupleGo target (.ref I) v) Q E s) :
    Turns W n target I xs g0 fp' wr (fun i s => H i s.heap ∧ R s.heap ∧ FinGens g0 s.gens) where
  sub := fun b hb => hfp b ((hW callerA rfl).sub b hb)
  frame := fun i s s' st m k => ⟨(hW callerA rfl).frame i _ _ st.1 fun b hb => k b (hfp b hb), hR _ _ st.2.1 fun b hb _ => k b hb, st.2.2.trans m.fin⟩
  nodat := fun i s st => hnd i _ st.1 st.2.1
  pt := fun i s st => hpt i _ st.1 st.2.1
  item := fun A i x s Q E ro hx st hQ => by
    have hlt : i < xs.length := by
      rcases Nat.lt_or_ge i xs.length with h | h
      · exact h
      · rw [List.getElem?_eq_none h] at hx; cases hx
    refine (hW A ro.hd).item i s _ _ hlt st.1 fun v h' tk hp st' hk => ?_
    have r' : R h' := hR _ _ st.2.1 fun b _ hb o e => hk b o hb e
    exact hgo A i _ v _ _ hp st' r' (hQ v _ ⟨h', tk, s.gens, rfl⟩ (hP i h' v x hp r' hx) ⟨st', r', st.2.2⟩ hk)
  done := fun A s Q E ro st hQ => (hW A ro.hd).done s Q E st.1 fun h' tk hk => hQ _ ⟨h', tk, s.gens, rfl⟩ st.2.2 hk
theorem selfs_ofWalks {I : Addr} {m : Nat} {g0 : Array GenState} {fp wr : List Addr} {P : Nat → Value → Prop} {H : Nat → Heap → Prop} (R : Heap → Prop)
    (hW : ∀ A : Around, A.handled = none → Walks W.prog W.w A I fp wr m P H) : Selfs W n I (fun i s => H i s.heap ∧ R s.heap ∧ FinGens g0 s.gens) :=
  fun A i s Q E ro st h => (hW A ro.hd).self i s Q E st.1 h

/-- a loop's target is a name or a tuple -/
def NameT (target : Expr) : Prop := ∃ x p, target = .Name x p
def TupT (target : Expr) : Prop := ∃ e k r, target = .Tuple e k r

theorem go_name {target : Expr} (ht : NameT target) {A : Around} {s : Shared} {I v : Value} {Q : Unit → Shared → Prop} {E : Value → Shared → Prop} (h : Q () s) : wpAny (model W.prog W.w) A (letOwnedTupleGo target I v) Q E s := by
  obtain ⟨x, p, rfl⟩ := ht
  exact wpAny_pure h
theorem go_list {target : Expr} (ht : NameT target ∨ TupT target) {A : Around} {s : Shared} {I l : Addr} {v : Value} {i : Nat} {Q : Unit → Shared → Prop} {E : Value → Shared → Prop} (hit : s.heap.IsListIter I l i) (h : Q () s) :
    wpAny (model W.prog W.w) A (letOwnedTupleGo target (.ref I) v) Q E s := by
  rcases ht with ht | ⟨e, k, r, rfl⟩
  · exact go_name ht h
  · cases v with
    | ref T => exact wpAny_letOwnedTupleGo_listiter hit h
    | _ => exact wpAny_pure h

def refsOf (vs : List Value) : List Addr := vs.filterMap fun v => match v with | .ref a => some a | _ => none
theorem mem_refs {vs : List Value} {a : Addr} : a ∈ refsOf vs ↔ Value.ref a ∈ vs := by
  simp only [refsOf, List.mem_filterMap]
  constructor
  · rintro ⟨v, hv, e⟩
    cases v <;> simp at e
    subst e; exact hv
  · intro h; exact ⟨_, h, rfl⟩
theorem All2.mem {α β : Type} {R : α → β → Prop} {l : List α} {m : List β} (x : All2 R l m) {a : α} (h : a ∈ l) : ∃ b ∈ m, R a b := by
  induction x with
  | nil => cases h
  | cons r _ ih =>
    cases h with
    | head => exact ⟨_, .head _, r⟩
    | tail _ h => obtain ⟨b, hb, r⟩ := ih h; exact ⟨b, .tail _ hb, r⟩
theorem All2.imp_mem {α β : Type} {R R' : α → β → Prop} {l : List α} {m : List β} (x : All2 R l m) (h : ∀ a ∈ l, ∀ b, R a b → R' a b) : All2 R' l m := by
  induction x with
  | nil => exact .nil
  | cons r _ ih => exact .cons (h _ (.head _) _ r) (ih fun a ha => h a (.tail _ ha))

/-- a list -/
theorem Src.list {target iter : Expr} {us : List Str} {xs : List It} {fr : Bool} (ht : NameT target ∨ TupT target) (h1 : Ev W n fr env σ (eval iter env) (.list xs))
    (hus : fr = true ∨ ∃ y p, iter = .Name y p ∧ y ∈ us ∧ (∀ (A : Around) (s : Shared) (Q : Value → Shared → Prop) (E : Value → Shared → Prop), SAt env s.heap σ → (∀ v, Bound env s.heap y v → PVR s.heap v (.list xs) → Q v s) → wpAny (model W.prog W.w) A (eval iter env) Q E s)) :
    Src W n env σ us false iter target xs := .mk fun A s Q E ro ga sa h => by
  have key : ∀ (s1 : Shared) (v : Value), Ext s s1 → PVR s1.heap v (.list xs) → ((∀ a, v = .ref a → s.heap.get? a = none) ∨ ∃ y ∈ us, Bound env s.heap y v) → wpAny (model W.prog W.w) A (pyIter v) Q E s1 := by
    intro s1 v e1 r1 hv
    obtain ⟨ax, vs, k, rfl, g, ra⟩ := r1
    refine wpAny_pyIter_list ⟨_, g, rfl, k, rfl⟩ ?_
    have hlt : ax < s1.heap.objs.size := Heap.lt_size g
    have hne : ax ≠ s1.heap.objs.size := Nat.ne_of_lt hlt
    have hlen : vs.size = xs.length := by simpa using ra.length
    have up : Kept s1.heap (s1.heap.push { cls := .type "list_iterator", data := .fields #[.ref ax, .int 0 0] }) := fun _ _ e => Heap.get?_push_of_some _ e
    have hnr : s1.heap.objs.size ∉ refsOf vs.toList := fun hm => by
      obtain ⟨x, _, r⟩ := ra.mem (mem_refs.mp hm)
      have : PVR s1.heap (.ref s1.heap.objs.size) (.it x) := r
      obtain ⟨o, e⟩ := this.mem
      exact absurd (Heap.lt_size e) (Nat.lt_irrefl _)
    have T := Turns.ofWalks (W := W) (n := n) (target := target) (I := s1.heap.objs.size) (xs := xs) (g0 := s.gens) (fp' := s1.heap.objs.size :: ax :: refsOf vs.toList)
      (fun h => h.get? ax = some { cls := .type "list", data := .seq vs k } ∧ All2 (ItR h) vs.toList xs)
      (fun A hh => hlen ▸ Walks.list hh s1.heap.objs.size ax hne vs) (fun b hb => by simp at hb ⊢; rcases hb with e | e <;> simp [e])
      (fun h h' r kp => ⟨kp ax (by simp) (by simpa using hne) _ r.1, r.2.imp_mem fun v hv x q => by
        cases x with
        | im a => exact q
        | tup l =>
          obtain ⟨a, us, n, e, g, q⟩ := q
          subst e
          have hm := mem_refs.mpr hv
          exact ⟨a, us, n, rfl, kp a (by simp [hm]) (by simp only [List.mem_singleton]; rintro rfl; exact hnr hm) _ g, q⟩⟩)
      (fun i h v x p r hx => by
        obtain ⟨y, hy, ry⟩ := r.2.get _ _ hx
        have : vs[i]? = some y := by simpa using hy
        rw [this] at p; cases p
        exact ry.itAt)
      (fun i h st r b hb => by
        simp only [List.mem_singleton] at hb; subst hb
        obtain ⟨o, e, hc, _⟩ := st.1
        intro o' e'
        rw [e] at e'; cases e'
        rw [hc]; exact ⟨by decide, by decide, by decide⟩)
      (fun i h st r b hb => by
        simp only [List.mem_cons] at hb
        rcases hb with rfl | rfl | hb
        · obtain ⟨o, e, hc, hd⟩ := st.1
          exact ⟨o, e, by rw [hd]; exact fun _ _ => Data.noConfusion, by rw [hd]; exact fun _ => Data.noConfusion⟩
        · exact ⟨_, r.1, fun _ _ => Data.noConfusion, fun _ => Data.noConfusion⟩
        · obtain ⟨x, _, q⟩ := r.2.mem (mem_refs.mp hb)
          cases x with
          | im a => cases a <;> simp only [ItR, ImR] at q
          | tup l =>
            obtain ⟨a, us, n, e, g, q⟩ := q
            cases e
            exact ⟨_, g, fun _ _ => Data.noConfusion, fun _ => Data.noConfusion⟩)
      (fun A i s v Q E _ st _ h => go_list ht st.1 h)
    refine h _ _ _ _ _ (e1.same.upd.trans (Same.heap s1 _).upd) (e1.kept.trans up) T ⟨⟨⟨_, Heap.get?_push_size _ rfl, rfl, rfl⟩, ⟨_, up _ _ g, rfl, k, rfl⟩⟩, ⟨up _ _ g, ra.imp fun _ _ q => q.keeps up⟩, ?_⟩ ?_ (fun _ i s2 st => st.2.2) ?_
      (fun _ => selfs_ofWalks (g0 := s.gens) (fun h => h.get? ax = some { cls := .type "list", data := .seq vs k } ∧ All2 (ItR h) vs.toList xs) fun A hh => Walks.list hh s1.heap.objs.size ax hne vs)
    · exact e1.same.fin
    · intro b hb
      simp only [List.mem_singleton] at hb; subst hb
      exact e1.kept.none (fresh_size _)
    · intro b hb us' m e
      simp only [List.mem_cons] at hb
      rcases hb with rfl | rfl | hb
      · rw [e1.kept.none (fresh_size _)] at e; cases e
      · rcases hv with hv | ⟨y, hy, bd⟩
        · rw [hv _ rfl] at e; cases e
        · exact ⟨y, hy, bd⟩
      · exfalso
        have e2 := e1.kept _ _ e
        obtain ⟨x, _, q⟩ := ra.mem (mem_refs.mp hb)
        cases x with
        | im a => cases a <;> simp only [ItR, ImR] at q
        | tup l =>
          obtain ⟨a, us, n, e, g, q⟩ := q
          cases e
          rw [e2] at g; injection g with g; injection g with g; injection g with g; exact absurd g (by decide)
  rcases hus with hf | ⟨y, p, rfl, hy, hev⟩
  · subst hf
    refine h1.run A s _ E ro ga sa fun v s1 e1 r1 q1 => key s1 v e1 r1 (.inl fun a e => ?_)
    obtain ⟨a', e', e''⟩ := q1 rfl _ rfl
    rw [e] at e'; cases e'; exact e''
  · exact hev A s _ E sa fun v bd r => key s v (.refl s) r (.inr ⟨y, hy, bd⟩)
theorem Src.listName {target : Expr} {y : Str} {p : Pos} {xs : List It} (hk : EnvOk env) (ht : NameT target ∨ TupT target) (hy : σ y = some (.list xs)) (hd : (y == ("__debug__" : Str)) = false := by decide) (hn : (y == ("__classdict__" : Str)) = false := by decide) :
    Src W n env σ [y] false (.Name y p) target xs :=
  Src.list (fr := false) ht (Ev.name hk hy hd hn) (.inr ⟨y, p, rfl, by simp, fun A s Q E sa h => by
    obtain ⟨v, r, b⟩ := sa y _ hy
    exact wpAny_Name (load_bound hk b (h v b r) hn) hd⟩)
theorem Src.listNew {target iter : Expr} {us : List Str} {xs : List It} (ht : NameT target ∨ TupT target) (h1 : Ev W n true env σ (eval iter env) (.list xs)) : Src W n env σ us false iter target xs := Src.list ht h1 (.inl rfl)

theorem Src.range {target iter : Expr} {us : List Str} {a b : Int} (ht : NameT target) (h1 : Ev W n false env σ (eval iter env) (.rng a b)) (ha : -(2 ^ 62) ≤ a) (ha' : a < 2 ^ 62) (hb : -(2 ^ 62) ≤ b) (hb' : b < 2 ^ 62) :
    Src W n env σ us false iter target ((rngL a b).map It.int) := .mk fun A s Q E ro ga sa h => h1.run A s _ E ro ga sa fun v s1 e1 r1 _ => by
  obtain ⟨r, t1, t2, t3, rfl, g⟩ := r1
  refine wpAny_pyIter_range (hr := g) (hsmall := small_one ha ha' hb hb') ?_
  rw [rngL_size]
  have up : Kept s1.heap (s1.heap.push { cls := .type "range_iterator", data := .fields #[rawInt a, rawInt ((b - a).toNat : Nat), rawInt 1] }) := fun _ _ e => Heap.get?_push_of_some _ e
  have hlen : ((rngL a b).map It.int).length = (b - a).toNat := by simp [rngL]
  have hW : ∀ A : Around, A.handled = none → Walks W.prog W.w A s1.heap.objs.size [s1.heap.objs.size] [s1.heap.objs.size] ((rngL a b).map It.int).length (fun i v => ∃ t, v = .int (a + i * 1) t)
      (fun i h => IsRangeIter h s1.heap.objs.size (a + (i : Nat) * 1) (((b - a).toNat : Int) - (i : Nat)) 1) := fun A hh => by
    rw [hlen]; exact Walks.range hh _ a 1 _
  have T := Turns.ofWalks (W := W) (n := n) (target := target) (I := s1.heap.objs.size) (xs := (rngL a b).map It.int) (g0 := s.gens) (fp' := [s1.heap.objs.size]) (fun _ => True) hW (fun b hb => hb)
    (fun _ _ _ _ => trivial)
    (fun i h v x p _ hx => by
      obtain ⟨t, rfl⟩ := p
      rw [List.getElem?_map, Option.map_eq_some_iff] at hx
      obtain ⟨k, hk, rfl⟩ := hx
      simp only [rngL, List.getElem?_map, Option.map_eq_some_iff] at hk
      obtain ⟨j, hj, rfl⟩ := hk
      rw [List.getElem?_range] at hj
      · cases hj; show a + (i : Int) * 1 = a + (i : Int); omega
      · rcases Nat.lt_or_ge i (b - a).toNat with q | q
        · exact q
        · rw [List.getElem?_eq_none (by simpa using q)] at hj; cases hj)
    (fun i h st _ b hb => by
      simp only [List.mem_singleton] at hb; subst hb
      intro o' e'
      rw [st] at e'; cases e'
      exact ⟨show Value.type "range_iterator" ≠ _ by decide, show Value.type "range_iterator" ≠ _ by decide, show Value.type "range_iterator" ≠ _ by decide⟩)
    (fun i h st _ b hb => by
      simp only [List.mem_singleton] at hb; subst hb
      exact ⟨_, st, fun _ _ => Data.noConfusion, fun _ => Data.noConfusion⟩)
    (fun A i s v Q E _ st _ h => go_name ht h)
  refine h _ _ _ _ _ (e1.same.upd.trans (Same.heap s1 _).upd) (e1.kept.trans up) T ⟨?_, trivial, e1.same.fin⟩ ?_ (fun _ i s2 st => st.2.2) ?_ (fun _ => selfs_ofWalks (g0 := s.gens) (fun _ => True) hW)
  · have := Heap.get?_push_size s1.heap (o := { cls := .type "range_iterator", data := .fields #[rawInt a, rawInt ((b - a).toNat : Nat), rawInt 1] }) rfl
    simpa using this
  · intro b hb
    simp only [List.mem_singleton] at hb; subst hb
    exact e1.kept.none (fresh_size _)
  · intro b hb us' m e
    simp only [List.mem_singleton] at hb; subst hb
    rw [e1.kept.none (fresh_size _)] at e; cases e

def chars (x : Str) : List It := x.cps.toList.map fun c => It.str ⟨#[c]⟩
theorem Src.str {target iter : Expr} {us : List Str} {x : Str} (ht : NameT target) (h1 : Ev W n false env σ (eval iter env) (.str x)) :
    Src W n env σ us false iter target (chars x) := .mk fun A s Q E ro ga sa h => h1.run A s _ E ro ga sa fun v s1 e1 r1 _ => by
  obtain ⟨t, rfl⟩ := pv_str r1
  have hlen : (chars x).length = x.cps.size := by simp [chars]
  have go : ∀ (ty : String) (o : Obj), o = { cls := .type ty, data := .fields #[.str x t, .int 0 0] } → (Value.type ty ≠ .type "list" ∧ Value.type ty ≠ .type "tuple" ∧ Value.type ty ≠ .type "range") →
      (∀ A : Around, A.handled = none → Walks W.prog W.w A s1.heap.objs.size [s1.heap.objs.size] [s1.heap.objs.size] x.cps.size (SignAt x) (fun i h => h.IsStrIter s1.heap.objs.size ty x t i)) →
      Q (.ref s1.heap.objs.size) { s1 with heap := s1.heap.push o } := by
    intro ty o ho hne hW'
    subst ho
    have hW : ∀ A : Around, A.handled = none → Walks W.prog W.w A s1.heap.objs.size [s1.heap.objs.size] [s1.heap.objs.size] (chars x).length (SignAt x) (fun i h => h.IsStrIter s1.heap.objs.size ty x t i) := fun A hh => by rw [hlen]; exact hW' A hh
    have up : Kept s1.heap (s1.heap.push { cls := .type ty, data := .fields #[.str x t, .int 0 0] }) := fun _ _ e => Heap.get?_push_of_some _ e
    have T := Turns.ofWalks (W := W) (n := n) (target := target) (I := s1.heap.objs.size) (xs := chars x) (g0 := s.gens) (fp' := [s1.heap.objs.size]) (fun _ => True) hW (fun b hb => hb)
      (fun _ _ _ _ => trivial)
      (fun i h v y p _ hx => by
        obtain ⟨c, u, hc, rfl⟩ := p
        simp only [chars, List.getElem?_map, Option.map_eq_some_iff] at hx
        obtain ⟨d, hd, rfl⟩ := hx
        have : x.cps[i]? = some d := by simpa using hd
        rw [hc] at this; cases this
        exact rfl)
      (fun i h st _ b hb => by
        simp only [List.mem_singleton] at hb; subst hb
        obtain ⟨o, e, hc, _⟩ := st
        intro o' e'
        rw [e] at e'; cases e'
        rw [hc]; exact hne)
      (fun i h st _ b hb => by
        simp only [List.mem_singleton] at hb; subst hb
        obtain ⟨o, e, hc, hd⟩ := st
        exact ⟨o, e, by rw [hd]; exact fun _ _ => Data.noConfusion, by rw [hd]; exact fun _ => Data.noConfusion⟩)
      (fun A i s v Q E _ st _ h => go_name ht h)
    refine h _ _ _ _ _ (e1.same.upd.trans (Same.heap s1 _).upd) (e1.kept.trans up) T ⟨⟨_, Heap.get?_push_size _ rfl, rfl, rfl⟩, trivial, e1.same.fin⟩ ?_ (fun _ i s2 st => st.2.2) ?_ (fun _ => selfs_ofWalks (g0 := s.gens) (fun _ => True) hW)
    · intro b hb
      simp only [List.mem_singleton] at hb; subst hb
      exact e1.kept.none (fresh_size _)
    · intro b hb us' m e
      simp only [List.mem_singleton] at hb; subst hb
      rw [e1.kept.none (fresh_size _)] at e; cases e
  cases ha : x.cps.all (· < 128)
  · exact wpAny_pyIter_wide ha (go "str_iterator" _ rfl ⟨by decide, by decide, by decide⟩ fun A hh => Walks.strWide hh _ x t)
  · exact wpAny_pyIter_ascii ha (go "str_ascii_iterator" _ rfl ⟨by decide, by decide, by decide⟩ fun A hh => Walks.strAscii hh _ x t)
end
end Mine
end

/-! M11 -/
section
open PySem PySem.Calls PyProof.Rows PySem.W
set_option maxRecDepth 100000
namespace Mine
section
variable {W : Wd} {n : Nat} {env : Env} {σ : Sto}

def enumI (ds : List Im) : List It := (List.range ds.length).map fun i => .tup [.int (i : Nat), ds.getD i .none]

theorem Src.enum {target e : Expr} {us : List Str} {ds : List Im} {fr : Bool} {id : Str} {p pos : Pos} (hk : EnvOk env) (ht : TupT target) (h1 : Ev W n fr env σ (eval e env) (.list (ds.map .im)))
    (hx : env.kindOf id = some .globalImplicit) (hf : GN W id (.type "enumerate"))
    (hus : fr = true ∨ ∃ y p, e = .Name y p ∧ y ∈ us ∧ (∀ (A : Around) (s : Shared) (Q : Value → Shared → Prop) (E : Value → Shared → Prop), SAt env s.heap σ → (∀ v, Bound env s.heap y v → PVR s.heap v (.list (ds.map .im)) → Q v s) → wpAny (model W.prog W.w) A (eval e env) Q E s))
    (he : starEach [e] env = [(false, eval e env)] := by rfl) (hd : (id == ("__debug__" : Str)) = false := by decide) :
    Src W n env σ us false (.Call (.Name id p) [e] [] pos) target (enumI ds) := .mk fun A s Q E ro ga sa h => by
  have key : ∀ (s1 : Shared) (v : Value), Ext s s1 → PVR s1.heap v (.list (ds.map .im)) → ((∀ a, v = .ref a → s.heap.get? a = none) ∨ ∃ y ∈ us, Bound env s.heap y v) → wpAny (model W.prog W.w) A (call (.type "enumerate") [v]) (fun x s1 => wpAny (model W.prog W.w) A (pyIter x) Q E s1) E s1 := by
    intro s1 v e1 r1 hv
    obtain ⟨l, vs, k, rfl, g, ra⟩ := r1
    refine call_enumerate_list ⟨_, g, rfl, k, rfl⟩ fun h' hen hit hsz up => ?_
    have hlt : l < s1.heap.objs.size := Heap.lt_size g
    generalize hN : s1.heap.objs.size = N at hen hit hsz hlt ⊢
    have hlen : vs.size = (enumI ds).length := by have := ra.length; simp [enumI] at this ⊢; exact this
    refine wpAny_pyIter_enum hen ?_
    have hW : ∀ A : Around, A.handled = none → WalksT W.prog W.w A (N + 1) [N + 1, N, l] [N + 1, N] (enumI ds).length (fun i vals => ∃ t x, vs[i]? = some x ∧ vals = #[.int i t, x])
      (fun i h => (∃ old, IsEnum h (N + 1) N i old) ∧ h.IsListIter N l i ∧ h.IsList l vs)
      (fun i T h => (∃ x, IsEnumOut h (N + 1) N ((i : Int) + 1) x T) ∧ h.IsListIter N l (i + 1) ∧ h.IsList l vs ∧ T ≠ N + 1 ∧ T ≠ N) := fun A hh => by
      rw [← hlen]; exact WalksT.enumerate hh (N + 1) N l (Nat.succ_ne_self _) (Nat.ne_of_lt (Nat.lt_succ_of_lt hlt)) (Nat.ne_of_lt hlt) vs
    have hlN : l ≠ N := Nat.ne_of_lt hlt
    have hlN1 : l ≠ N + 1 := Nat.ne_of_lt (Nat.lt_succ_of_lt hlt)
    have hli : l ∉ [N + 1, N] := by simp [hlN, hlN1]
    have nd : ∀ {h : Heap} {i : Nat}, ((∃ old, IsEnum h (N + 1) N i old) ∧ h.IsListIter N l i ∧ h.IsList l vs) → ∀ b ∈ [N + 1, N], NoDat h b := fun {h i} st b hb => by
      simp only [List.mem_cons, List.not_mem_nil, or_false] at hb
      obtain ⟨⟨old, e1⟩, ⟨o, e2, hc, _⟩, _⟩ := st
      rcases hb with rfl | rfl
      · intro o' e'
        rw [e1] at e'; cases e'
        exact ⟨show Value.type "enumerate" ≠ _ by decide, show Value.type "enumerate" ≠ _ by decide, show Value.type "enumerate" ≠ _ by decide⟩
      · intro o' e'
        rw [e2] at e'; cases e'
        rw [hc]; exact ⟨by decide, by decide, by decide⟩
    have pts : ∀ {h : Heap} {i : Nat}, ((∃ old, IsEnum h (N + 1) N i old) ∧ h.IsListIter N l i ∧ h.IsList l vs) → ∀ b ∈ [N + 1, N, l], Pt h b := fun {h i} st b hb => by
      simp only [List.mem_cons, List.not_mem_nil, or_false] at hb
      obtain ⟨⟨old, e1⟩, ⟨o, e2, _, hd⟩, ⟨o3, e3, _, _, hd3⟩⟩ := st
      rcases hb with rfl | rfl | rfl
      · exact ⟨_, e1, fun _ _ => Data.noConfusion, fun _ => Data.noConfusion⟩
      · exact ⟨o, e2, by rw [hd]; exact fun _ _ => Data.noConfusion, by rw [hd]; exact fun _ => Data.noConfusion⟩
      · exact ⟨o3, e3, by rw [hd3]; exact fun _ _ => Data.noConfusion, by rw [hd3]; exact fun _ => Data.noConfusion⟩
    have T : Turns W n target (N + 1) (enumI ds) s.gens [N + 1, N, l] [N + 1, N] (fun i s' => ((∃ old, IsEnum s'.heap (N + 1) N i old) ∧ s'.heap.IsListIter N l i ∧ s'.heap.IsList l vs) ∧ FinGens s.gens s'.gens) := {
      sub := (hW callerA rfl).sub
      frame := fun i s s' st m k => ⟨(hW callerA rfl).frame i _ _ st.1 k, st.2.trans m.fin⟩
      nodat := fun i s st => nd st.1
      pt := fun i s st => pts st.1
      item := fun A i x s2 Q E ro hx st hQ => by
        have hlt : i < (enumI ds).length := by
          rcases Nat.lt_or_ge i (enumI ds).length with h | h
          · exact h
          · rw [List.getElem?_eq_none h] at hx; cases hx
        refine (hW A ro.hd).item i s2 _ _ hlt st.1 fun T vals h2 tk hp _ hT hm hk => ?_
        obtain ⟨e', k', r', rfl⟩ := ht
        refine (hW A ro.hd).go e' k' r' i T _ _ _ hm fun h3 st3 hk3 => ?_
        obtain ⟨t, y, hy, rfl⟩ := hp
        have hT3 : h3.IsTuple T #[.int i t, y] := by
          obtain ⟨o, e, r⟩ := hT
          exact ⟨o, hk3 T o ((hW A ro.hd).apart i T h2 hm) e, r⟩
        have hi : i < ds.length := by simpa [enumI] using hlt
        have hx' : x = .tup [.int (i : Nat), ds.getD i .none] := by
          simp only [enumI, List.getElem?_map, List.getElem?_range hi, Option.map_some, Option.some.injEq] at hx
          exact hx.symm
        subst hx'
        refine hQ _ _ ⟨h3, tk, s2.gens, rfl⟩ ⟨T, _, rfl, hT3, ?_⟩ ⟨st3, st.2⟩ fun b o hb e => hk3 b o hb (hk b o hb e)
        have hd : (ds.map It.im)[i]? = some (.im (ds.getD i .none)) := by
          rw [List.getElem?_map, List.getElem?_eq_getElem hi]; simp [List.getD, hi]
        obtain ⟨z, hz, rz⟩ := ra.get i _ hd
        have : vs[i]? = some z := by simpa using hz
        rw [this] at hy; cases hy
        exact .cons rfl (.cons rz .nil)
      done := fun A s2 Q E ro st hQ => (hW A ro.hd).done s2 Q E st.1 fun h2 tk hk => hQ _ ⟨h2, tk, s2.gens, rfl⟩ st.2 hk }
    refine h _ _ _ _ _ (e1.same.upd.trans (Same.heap s1 h').upd) (e1.kept.trans up) T ⟨⟨⟨_, hen⟩, hit, ⟨_, up _ _ g, rfl, k, rfl⟩⟩, e1.same.fin⟩ ?_ (fun _ i s2 st => st.2) ?_ (fun _ A i s2 Q E ro st h => (hW A ro.hd).self i s2 Q E st.1 h)
    · intro b hb
      simp only [List.mem_cons, List.not_mem_nil, or_false] at hb
      refine e1.kept.none ?_
      cases q : s1.heap.get? b with
      | none => rfl
      | some o =>
        have := Heap.lt_size q
        rw [hN] at this
        rcases hb with rfl | rfl
        · exact absurd this (Nat.not_lt.mpr (Nat.le_succ _))
        · exact absurd this (Nat.lt_irrefl _)
    · intro b hb us' m e
      simp only [List.mem_cons, List.not_mem_nil, or_false] at hb
      have hbl : b < N := hN ▸ Heap.lt_size (e1.kept _ _ e)
      rcases hb with rfl | rfl | rfl
      · exact absurd hbl (Nat.not_lt.mpr (Nat.le_succ _))
      · exact absurd hbl (Nat.lt_irrefl _)
      · rcases hv with hv | ⟨y, hy, bd⟩
        · rw [hv _ rfl] at e; cases e
        · exact ⟨y, hy, bd⟩
  have fin : ∀ (s1 : Shared) (v : Value), wpAny (model W.prog W.w) A (call (.type "enumerate") [v]) (fun x s1 => wpAny (model W.prog W.w) A (pyIter x) Q E s1) E s1 → wpAny (model W.prog W.w) A (call (.type "enumerate") ([] ++ [v])) (fun x s1 => wpAny (model W.prog W.w) A (pyIter x) Q E s1) E s1 := fun _ _ h => h
  refine wpAny_Call_NameR (load_global hk ga hx hf ?_ hd)
  rw [he]
  refine PySem.callWith_type rfl (evalArgs_plain (spliced_cons ?_))
  rcases hus with hf | ⟨y, p, rfl, hy, hev⟩
  · subst hf
    refine h1.run A s _ E ro ga sa fun v s1 e1 r1 q1 => spliced_nil (fin _ _ (key s1 v e1 r1 (.inl fun a e => ?_)))
    obtain ⟨a', e', e''⟩ := q1 rfl _ rfl
    rw [e] at e'; cases e'; exact e''
  · exact hev A s _ E sa fun v bd r => spliced_nil (fin _ _ (key s v (.refl s) r (.inr ⟨y, hy, bd⟩)))
end
end Mine
end

/-! M12 -/
section
open PySem PySem.Calls PyProof.Rows PySem.W
set_option maxRecDepth 100000
namespace Mine

theorem cells_some : ∀ (names : List (Str × NameKind)) (k : Nat) (acc : List (Str × Addr)) (x : Str), names.lookup x = some .cell ∨ (acc.lookup x).isSome = true → ((cellsFrom k names acc).lookup x).isSome = true
  | [], _, _, x, h => by
    rcases h with h | h
    · simp at h
    · exact h
  | (m, kd) :: r, k, acc, x, h => by
    unfold cellsFrom
    by_cases hk : (kd == .cell) = true
    · rw [if_pos hk]
      refine cells_some r _ _ x ?_
      by_cases hx : x = m
      · subst hx; right; simp
      · have hx' : (x == m) = false := by simpa using hx
        simp only [List.lookup_cons, hx'] at h ⊢
        exact h
    · rw [if_neg hk]
      refine cells_some r _ _ x ?_
      by_cases hx : x = m
      · subst hx
        rcases h with h | h
        · simp at h; subst h; exact absurd rfl hk
        · exact .inr h
      · have hx' : (x == m) = false := by simpa using hx
        simp only [List.lookup_cons, hx'] at h
        exact h
theorem bindL_not (kf : Str → Option NameKind) : ∀ (binds : List (Str × Value)) (m : Str → Option Value) (x : Str), x ∉ binds.map (·.1) → bindL kf binds m x = m x
  | [], _, _, _ => rfl
  | (y, v) :: r, m, x, h => by
    simp only [List.map_cons, List.mem_cons, not_or] at h
    unfold bindL
    rw [bindL_not kf r _ x h.2]
    split
    · exact if_neg h.1
    · rfl
theorem bindL_get (kf : Str → Option NameKind) : ∀ (binds : List (Str × Value)) (m : Str → Option Value) (x : Str) (v : Value), (binds.map (·.1)).Nodup → (x, v) ∈ binds → kf x = some .local → bindL kf binds m x = some v
  | (y, w) :: r, m, x, v, hn, h, hk => by
    simp only [List.map_cons, List.nodup_cons] at hn
    unfold bindL
    cases h with
    | head => rw [bindL_not kf r _ _ hn.1, if_pos hk]; simp
    | tail _ h => exact bindL_get kf r _ x v hn.2 h hk
theorem bindC_not (kf : Str → Option NameKind) : ∀ (binds : List (Str × Value)) (m : Str → Option Value) (x : Str), x ∉ binds.map (·.1) → bindC kf binds m x = m x
  | [], _, _, _ => rfl
  | (y, v) :: r, m, x, h => by
    simp only [List.map_cons, List.mem_cons, not_or] at h
    unfold bindC
    rw [bindC_not kf r _ x h.2]
    split
    · rfl
    · exact if_neg h.1
theorem bindC_get (kf : Str → Option NameKind) : ∀ (binds : List (Str × Value)) (m : Str → Option Value) (x : Str) (v : Value), (binds.map (·.1)).Nodup → (x, v) ∈ binds → kf x ≠ some .local → bindC kf binds m x = some v
  | (y, w) :: r, m, x, v, hn, h, hk => by
    simp only [List.map_cons, List.nodup_cons] at hn
    unfold bindC
    cases h with
    | head => rw [bindC_not kf r _ _ hn.1, if_neg hk]; simp
    | tail _ h => exact bindC_get kf r _ x v hn.2 h hk

def ent (names : List Str) (ds : List PV) : Sl := (names.zip ds).map fun x => (x.1, x.2, false)
theorem ent_false : ∀ {names : List Str} {ds : List PV} {x : Str} {d : PV} {b : Bool}, (ent names ds).lookup x = some (d, b) → b = false
  | [], _, _, _, _, h => by simp [ent] at h
  | _ :: _, [], _, _, _, h => by simp [ent] at h
  | n :: names, e :: ds, x, d, b, h => by
    simp only [ent, List.zip_cons_cons, List.map_cons, List.lookup_cons] at h
    split at h
    · cases h; rfl
    · exact ent_false (names := names) (ds := ds) h
theorem ent_get {h : Heap} : ∀ {names : List Str} {ds : List PV} {vs : List Value} {x : Str} {d : PV} {b : Bool}, All2 (PVR h) vs ds → (ent names ds).lookup x = some (d, b) → ∃ v, (x, v) ∈ names.zip vs ∧ (names.zip vs).lookup x = some v ∧ PVR h v d
  | [], _, _, _, _, _, _, h => by simp [ent] at h
  | _ :: _, [], _, _, _, _, _, h => by simp [ent] at h
  | n :: names, e :: ds, _, x, d, b, .cons r y, h => by
    simp only [ent, List.zip_cons_cons, List.map_cons, List.lookup_cons] at h ⊢
    by_cases q : x = n
    · subst q
      simp only [beq_self_eq_true, Option.some.injEq, Prod.mk.injEq] at h
      obtain ⟨rfl, rfl⟩ := h
      exact ⟨_, .head _, by simp, r⟩
    · have q' : (x == n) = false := by simpa using q
      simp only [q'] at h ⊢
      obtain ⟨v, h1, h2, h3⟩ := ent_get y h
      exact ⟨v, .tail _ h1, h2, h3⟩
theorem zip_get {h : Heap} : ∀ {names : List Str} {ds : List PV} {vs : List Value} {x : Str} {v : Value}, All2 (PVR h) vs ds → (names.zip vs).lookup x = some v → ∃ d, (ent names ds).lookup x = some (d, false) ∧ PVR h v d ∧ (x, v) ∈ names.zip vs
  | [], _, _, _, _, _, h => by simp at h
  | _ :: _, _, _, _, _, .nil, h => by simp at h
  | n :: names, e :: ds, _, x, v, .cons r y, h => by
    simp only [ent, List.zip_cons_cons, List.map_cons, List.lookup_cons] at h ⊢
    by_cases q : x = n
    · subst q
      simp only [beq_self_eq_true, Option.some.injEq] at h
      subst h
      exact ⟨e, by simp, r, .head _⟩
    · have q' : (x == n) = false := by simpa using q
      simp only [q'] at h ⊢
      obtain ⟨d, h1, h2, h3⟩ := zip_get y h
      exact ⟨d, h1, h2, .tail _ h3⟩

/-- a def of the text stands at f -/
structure FnAt (W : Wd) (f : Addr) (name : Str) (params : Arguments) (body : List Stmt) (scope : Scope) : Prop where
  ex : ∃ o pm cd doc, W.hB.get? f = some o ∧ o.data = .func (Calls.docDef name params body scope pm cd doc) ∧ W.hB.CodeRec cd name

section
variable {W : Wd} {n : Nat}

theorem OpC.fn {f : Addr} {name : Str} {params : Arguments} {body : List Stmt} {scope : Scope} {names : List Str} {ds : List PV} {d : PV} (F : FnAt W f name params body scope)
    (hbind : ∀ pm cd doc vs, vs.length = ds.length → bindArgs (Calls.docDef name params body scope pm cd doc) ⟨vs, []⟩ = pure (names.zip vs))
    (hnd : names.Nodup) (hkd : ∀ x ∈ names, scope.names.lookup x = some .local ∨ scope.names.lookup x = some .cell) (hlen : names.length = ds.length)
    (hbody : ∀ L a cd, EnvOk (envOfC name scope L a cd) → Tr W n (envOfC name scope L a cd) (ent names ds) (execs body (envOfC name scope L a cd)) (.ret d))
    (hco : scope.isCoroutine = false := by rfl) (hgen : scope.isGenerator = false := by rfl) (hk : scope.kind = .function := by rfl) : OpC W (n + 1) (.ref f) ds d := .mk fun A s vs Q E ro ga r h => by
  obtain ⟨o, pm, cd, doc, ho, hd, hc⟩ := F.ex
  have hvl : vs.length = ds.length := r.length
  have hkind : ∀ x ∈ names.zip vs, scope.names.lookup x.1 = some .local ∨ (scope.names.lookup x.1 = some .cell ∧ ((cellsFrom (s.heap.objs.size + 1) scope.names []).lookup x.1).isSome = true) := fun x hx => by
    have hx' : x.1 ∈ names := (List.of_mem_zip hx).1
    rcases hkd x.1 hx' with e | e
    · exact .inl e
    · exact .inr ⟨e, cells_some _ _ _ _ (.inl e)⟩
  have hmap : (names.zip vs).map (·.1) = names := List.map_fst_zip (by omega)
  refine wpAny_call (call_cells_ret ro.lt (ga.base _ _ ho) hd ga.nolimit (hc.keeps ga.base) (hbind pm cd doc vs hvl) hkind (fun h₁ tk Fh X => ?_) hco hgen hk)
  have kept : Kept s.heap h₁ := Fh.keep
  have hEnv : EnvOk (envOfC name scope s.heap.objs.size f cd) := ⟨hk, rfl, rfl, fun x y c hx hy => name_of_addr X.apart (mem_of_lookup hx) (mem_of_lookup hy)⟩
  have above : ∀ x c, (cellsFrom (s.heap.objs.size + 1) scope.names []).lookup x = some c → s.heap.get? c = none := fun x c e => by
    cases q : s.heap.get? c with
    | none => rfl
    | some o => exact absurd (Heap.lt_size q) (Nat.not_lt.mpr (Nat.le_of_lt (X.above x c (mem_of_lookup e))))
  have kindOf_eq : ∀ x ∈ names, (envOfC name scope s.heap.objs.size f cd).kindOf x = scope.names.lookup x := fun x _ => rfl
  have st : St W (fun a => s.heap.get? a) (envOfC name scope s.heap.objs.size f cd) (ent names ds) h₁ (fun x => (names.zip vs).lookup x) := {
    base := ga.base
    prot := kept
    ns := ⟨_, Fh.ns⟩
    offL := fresh_size _
    cell := fun x e => by
      have e' : scope.names.lookup x = some .cell := e
      obtain ⟨c, hc⟩ := Option.isSome_iff_exists.mp (cells_some scope.names (s.heap.objs.size + 1) [] x (.inl e'))
      exact ⟨c, _, hc, X.cell x c hc, fun _ => above x c hc⟩
    apart := hEnv.apart
    bnd := fun x v e => by
      obtain ⟨_, _, _, hm⟩ := zip_get r e
      have hx' : x ∈ names := (List.of_mem_zip hm).1
      rcases hkd x hx' with q | q
      · exact .inl ⟨q, _, Fh.ns, bindL_get _ _ _ _ _ (by rw [hmap]; exact hnd) hm q⟩
      · obtain ⟨c, hc⟩ := Option.isSome_iff_exists.mp (cells_some scope.names (s.heap.objs.size + 1) [] x (.inl q))
        refine .inr (.inl ⟨q, c, hc, ?_⟩)
        have := X.cell x c hc
        rw [bindC_get _ _ _ _ _ (by rw [hmap]; exact hnd) hm (by show scope.names.lookup x ≠ _; rw [q]; decide)] at this
        exact this
    typ := fun x v e => by
      obtain ⟨d, h1, h2, _⟩ := zip_get r e
      exact ⟨d, false, h1, h2.keeps kept⟩
    has := fun x d b e => let ⟨v, _, h2, _⟩ := ent_get r e; ⟨v, h2⟩
    own := fun x d e => by cases ent_false e }
  refine (hbody s.heap.objs.size f cd hEnv).run (A.deeper _) _ _ _ _ _ (ro.deeper _) st fun fl s' m a => ?_
  obtain ⟨v, rfl, rv, hp, hl⟩ := a
  exact h v s' ⟨(Same.put s h₁ tk).trans m, hp⟩ rv fun l e => hl l e
end
end Mine
end

/-! M13 -/
section
open PySem PySem.Calls PyProof.Rows PySem.W
set_option maxRecDepth 100000
namespace Mine
section
variable {W : Wd} {n : Nat} {fr : Bool} {env : Env} {σ : Sto}

/-- what calling a def of the text gives -/
def Cf (W : Wd) (n : Nat) (name : Str) (ds : List PV) (d : PV) : Prop :=
  ∃ f o fd, W.mg name = some (.ref f) ∧ W.hB.get? f = some o ∧ o.data = .func fd ∧ OpC W n (.ref f) ds d

theorem Ev.callD {id : Str} {p pos : Pos} {e : Expr} {rest : List Expr} {ds : List PV} {d : PV} (hk : EnvOk env) (hx : env.kindOf id = some .globalImplicit) (hf : Cf W n id ds d)
    (h1 : EvL W n env σ (spliced (backTo pos (starEach (e :: rest) env))) ds)
    (he : starEach (e :: rest) env = (false, eval e env) :: starEach rest env := by rfl) (hd : (id == ("__debug__" : Str)) = false := by decide) :
    Ev W n fr env σ (eval (.Call (.Name id p) (e :: rest) [] pos) env) d := by
  obtain ⟨f, o, fd, h2, h3, h4, h5⟩ := hf
  exact Ev.callF hk hx h2 h3 h4 h1 h5 he hd

/-- the defs of a text stand where its top left them -/
structure Defs (P : Program) (W : Wd) : Prop where
  fn : ∀ (k : Nat) name ps body sc b p, P.main.body[k]? = some (Stmt.FunctionDef name ps body [] none [] sc none b p) → ∃ a, W.mg name = some (.ref a) ∧ FnAt W a name ps body sc
theorem Cf.of {P : Program} (T : Defs P W) {k : Nat} {name : Str} {ps : Arguments} {body : List Stmt} {scope : Scope} {b : Str} {p : Pos} (hs : P.main.body[k]? = some (Stmt.FunctionDef name ps body [] none [] scope none b p))
    {names : List Str} {ds : List PV} {d : PV}
    (hbind : ∀ pm cd doc vs, vs.length = ds.length → bindArgs (Calls.docDef name ps body scope pm cd doc) ⟨vs, []⟩ = pure (names.zip vs))
    (hnd : names.Nodup) (hkd : ∀ x ∈ names, scope.names.lookup x = some .local ∨ scope.names.lookup x = some .cell) (hlen : names.length = ds.length)
    (hbody : ∀ L a cd, EnvOk (envOfC name scope L a cd) → Tr W n (envOfC name scope L a cd) (ent names ds) (execs body (envOfC name scope L a cd)) (.ret d))
    (hco : scope.isCoroutine = false := by rfl) (hgen : scope.isGenerator = false := by rfl) (hk : scope.kind = .function := by rfl) : Cf W (n + 1) name ds d := by
  obtain ⟨a, ha, F⟩ := T.fn k name ps body scope b p hs
  obtain ⟨o, pm, cd, doc, h1, h2, h3⟩ := F.ex
  exact ⟨a, o, _, ha, h1, h2, OpC.fn F hbind hnd hkd hlen hbody hco hgen hk⟩
theorem Tr.tup2 {l : Sl} {x y : Str} {px py tpos pos : Pos} {k : Nat} {e : Expr} {a b : Im} (hk : EnvOk env) (h1 : Ev W n false env (lk l) (eval e env) (.it (.tup [a, b]))) (hx : Kd env x) (hy : Kd env y)
    (hs : swapsWithSole [.Tuple [.Name x px, .Name y py] k tpos] e pos.line env = pure false := by rfl)
    (hw : swappedStores [.Tuple [.Name x px, .Name y py] k tpos] e env = pure (some [x, y]) := by rfl) :
    Tr W n env l (exec (.Assign [.Tuple [.Name x px, .Name y py] k tpos] e pos) env) (.next (put x (.it (.im a)) (put y (.it (.im b)) l))) := .mk fun A s B V Q E ro st h => by
  refine Assign_Tuple_swapped (h1.run A s _ E ro st.ga st.sat fun v s1 e1 r1 _ => ?_) hs hw
  obtain ⟨T, vs, m, rfl, g, ra⟩ := r1
  have hsz : vs.size = 2 := by simpa using ra.length
  show wpAny _ A (unpackItems (.ref T) 2 none) _ E s1
  rw [← hsz]
  refine wpAny_unpackItems_tuple ro.hd ⟨_, g, rfl, m, rfl⟩ fun h' he => ?_
  have st1 := (st.ext e1.kept).ext (h' := h') fun b o e => he b o (Nat.ne_of_lt (Heap.lt_size e)) e
  obtain ⟨v, u, e3, r3, r4⟩ : ∃ v u, vs.toList = [v, u] ∧ ImR v a ∧ ImR u b := by
    revert ra
    generalize vs.toList = vl
    intro ra
    cases ra with
    | cons r x => cases x with
      | cons r' x => cases x; exact ⟨_, _, rfl, r, r'⟩
  rw [e3]
  show wpAny _ A (holding [v] (bindName env y u) >>= fun _ => holding [] (bindName env x v) >>= fun _ => pure ()) _ E _
  refine wpAny_bind (wpAny_holding (wpAny_bindName (wp_put st1 hk hy r4 fun h2 t2 V2 st2 => ?_)))
  refine wpAny_bind (wpAny_holding (wpAny_bindName (wp_put st2 hk hx r3 fun h3 t3 V3 st3 => ?_)))
  exact wpAny_pure (h _ _ (e1.same.trans ((Same.heap s1 h').trans ((Same.put _ h2 t2).trans (Same.put _ h3 t3)))) ⟨rfl, _, st3⟩)

theorem le_nil {l : Sl} : le [] l := fun x d b e => by simp at e
theorem le_cons {r r' : Sl} {x : Str} {d : PV} {b b' : Bool} (h : le r' r) (hb : b = true → b' = true) : le ((x, d, b) :: r') ((x, d, b') :: r) := fun y d' q e => by
  simp only [List.lookup_cons] at e ⊢
  split at e
  · cases e; exact ⟨b', rfl, hb⟩
  · exact h y d' q e
theorem eq_one {α : Type} {l : List α} (h : l.length = 1) : ∃ a, l = [a] := List.length_eq_one_iff.mp h
theorem eq_two {α : Type} {l : List α} (h : l.length = 2) : ∃ a b, l = [a, b] := by
  match l, h with
  | [a, b], _ => exact ⟨a, b, rfl⟩
theorem iaddI {a b : Int} : Op2 W n (inplaceOp .Add) (.int a) (.int b) (.int (a + b)) := .mk fun A s x y Q E _ _ r1 r2 h => by
  obtain ⟨t, rfl⟩ := pv_int r1; obtain ⟨u, rfl⟩ := pv_int r2
  exact PyProof.Rows.iadd_int (h _ _ (.tok s _) r_int newL_it)
theorem isubI {a b : Int} : Op2 W n (inplaceOp .Sub) (.int a) (.int b) (.int (a - b)) := .mk fun A s x y Q E _ _ r1 r2 h => by
  obtain ⟨t, rfl⟩ := pv_int r1; obtain ⟨u, rfl⟩ := pv_int r2
  exact PyProof.Rows.isub_int (h _ _ (.tok s _) r_int newL_it)
theorem iaddS {a b : Str} (hs : a.length + b.length ≤ sizeLine) : Op2 W n (inplaceOp .Add) (.str a) (.str b) (.str (a ++ b)) := .mk fun A s x y Q E _ _ r1 r2 h => by
  obtain ⟨t, rfl⟩ := pv_str r1; obtain ⟨u, rfl⟩ := pv_str r2
  exact PyProof.Rows.iadd_str (fun t' tk => h _ _ (.tok s _) r_str newL_it) hs
end
end Mine
end

/-! M14 -/
section
open PySem PySem.Calls PyProof.Rows PySem.W
set_option maxRecDepth 100000
namespace Mine
section
variable {W : Wd} {n : Nat} {fr : Bool} {env : Env} {l : Sl}

theorem Op2.addL' {a b m : List It} (h : m = a ++ b) (hs : a.length + b.length ≤ sizeLine) : Op2 W n (binaryOp .Add) (.list a) (.list b) (.list m) := h ▸ Op2.addL hs

theorem lookup_mem {α : Type} {x : Str} {v : α} : ∀ {l : List (Str × α)}, l.lookup x = some v → (x, v) ∈ l
  | [], h => by simp at h
  | (y, w) :: r, h => by
    simp only [List.lookup_cons] at h
    split at h
    · rename_i q
      have : x = y := by simpa using q
      subst this; cases h; exact .head _
    · exact .tail _ (lookup_mem h)

/-- a comprehension that takes no name from around it -/
theorem Comp.closed {us : List Str} {target iter elt : Expr} {ifs : List Expr} {scope : Scope} {xs : List It} {f : It → Option It}
    (src : Src W n env (lk l) us false iter target xs) (hfree : ∀ y ∈ scope.names, y.2 ≠ .free) (nocell : ∀ y ∈ scope.names, y.2 ≠ .cell) (kind : scope.kind = .function)
    (names : ∀ x ∈ scope.names, x.2 = .local → scope.names.lookup x.1 = some .local)
    (each : ∀ C, EnvOk (compEnvC scope [] C env) → ∀ x ∈ xs, ∃ bs ok, Tgt target x bs ∧ (∀ b ∈ bs, (compEnvC scope [] C env).kindOf b.1 = some .local) ∧ EvIfs W n (compEnvC scope [] C env) (lk (puts bs [])) ifs ok ∧ (ok = false → f x = none) ∧
      (ok = true → ∃ y, f x = some y ∧ Ev W n false (compEnvC scope [] C env) (lk (puts bs [])) (eval elt (compEnvC scope [] C env)) (.it y)))
    (size : xs.length ≤ sizeLine) : Comp W n env l us target iter elt ifs scope [] [] xs f where
  src := src
  clos := closureFor_none hfree
  nocell := nocell
  kind := kind
  names := names
  cl_of := fun x c e => by simp at e
  lc_of := fun C x d b e => by simp at e
  of_cell := fun C x e => by
    have e' : ((scope.names.map fun (n, k) => if (k == NameKind.free && env.scope.kind == .function && env.kindOf n == some .cell) = true then (n, NameKind.cell) else (n, k)).lookup x) = some .cell := e
    have h := lookup_mem e'
    simp only [List.mem_map] at h
    obtain ⟨⟨m, k⟩, hm, h⟩ := h
    have h1 : (k == NameKind.free) = false := by simpa using hfree _ hm
    simp only [h1, Bool.false_and, Bool.false_eq_true, if_false, Prod.mk.injEq] at h
    exact absurd h.2 (nocell _ hm)
  each := each
  size := size

theorem joinOk_of {x : Str} {xs : List Str} (h : (xs.map fun y => y.length + x.length).sum ≤ sizeLine) : JoinOk x xs = true := by
  unfold JoinOk Builtin.Str.tooLong
  have e : ∀ (l : List Str) (a : Nat), l.foldl (fun a y => a + y.length + x.length) a = a + (l.map fun y => y.length + x.length).sum := by
    intro l
    induction l with
    | nil => intro a; simp
    | cons y r ih => intro a; simp only [List.foldl_cons, ih, List.map_cons, List.sum_cons]; omega
  have : xs.toArray.foldl (fun a y => a + y.length + x.length) 0 = (xs.map fun y => y.length + x.length).sum := by
    simp [e]
  simp only [this, Bool.not_eq_true', decide_eq_false_iff_not]
  omega
theorem Ev.to {σ : Sto} {t : Sem Value} {d d' : PV} (x : Ev W n fr env σ t d) (e : d = d') : Ev W n fr env σ t d' := e ▸ x
theorem pk_map {α β : Type} (f : α → β) (lo hi st : Option Int) (l : List α) : pk lo hi st (l.map f) = (pk lo hi st l).map f := by
  unfold pk
  rw [List.length_map, List.map_filterMap]
  congr 1
  funext i
  simp
def S (l : List Nat) : Str := ⟨l.toArray⟩
end
end Mine
end

/-! M15 -/
section
open PySem PySem.Calls PyProof.Rows PySem.W
set_option maxRecDepth 100000
namespace Mine

theorem pick_run {α : Type} (l : List α) (a : Nat) : ∀ c, a + c ≤ l.length → ((List.range c).map (a + ·)).filterMap (l[·]?) = (l.drop a).take c
  | 0, _ => by simp
  | c + 1, h => by
    rw [List.range_succ, List.map_append, List.filterMap_append, pick_run l a c (by omega)]
    have h1 : a + c < l.length := by omega
    have h2 : c < (l.drop a).length := by rw [List.length_drop]; omega
    rw [List.take_succ_eq_append_getElem h2]
    simp [h1]
theorem pk_run {α : Type} (l : List α) (lo hi : Option Int) (a b : Nat) (h : sliceBounds lo hi none l.length = ((a : Int), (b : Int), 1)) (hb : b ≤ l.length) : pk lo hi none l = (l.drop a).take (b - a) := by
  unfold pk
  rw [h]
  show (sliceRange (a : Int) (b : Int) 1).filterMap (l[·]?) = _
  rw [sliceRange_one]
  rcases Nat.lt_or_ge b a with q | q
  · have : b - a = 0 := by omega
    rw [this]; simp
  · exact pick_run l a (b - a) (by omega)
theorem pk_pos {α : Type} (a b : Nat) (l : List α) : pk (some (a : Int)) (some (b : Int)) none l = (l.take b).drop a := by
  rw [pk_run l _ _ (min a l.length) (min b l.length) ?_ (by omega)]
  · rw [List.drop_take]
    rcases Nat.lt_or_ge a l.length with h | h
    · have e : min a l.length = a := by omega
      rw [e]
      rcases Nat.lt_or_ge b l.length with h' | h'
      · have e2 : min b l.length = b := by omega
        rw [e2]
      · have e2 : min b l.length = l.length := by omega
        rw [e2, List.take_of_length_le (by rw [List.length_drop]; omega), List.take_of_length_le (by rw [List.length_drop]; omega)]
    · have e : min a l.length = l.length := by omega
      rw [e, List.drop_of_length_le (Nat.le_refl _), List.drop_of_length_le h]; simp
  · simp only [sliceBounds, Option.getD_none, show (1 : Int) > 0 by decide, if_true, Prod.mk.injEq, and_true]
    constructor
    · rw [if_neg (by omega)]; omega
    · rw [if_neg (by omega)]; omega
theorem pk_to {α : Type} (b : Nat) (l : List α) : pk none (some (b : Int)) none l = l.take b := by
  rw [pk_run l _ _ 0 (min b l.length) ?_ (by omega)]
  · simp only [List.drop_zero, Nat.sub_zero]
    rcases Nat.lt_or_ge b l.length with h' | h'
    · have e2 : min b l.length = b := by omega
      rw [e2]
    · have e2 : min b l.length = l.length := by omega
      rw [e2, List.take_of_length_le (Nat.le_refl _), List.take_of_length_le h']
  · simp only [sliceBounds, Option.getD_none, show (1 : Int) > 0 by decide, if_true, Prod.mk.injEq, and_true]
    constructor
    · rfl
    · rw [if_neg (by omega)]; omega
theorem pk_from {α : Type} (a : Nat) (l : List α) : pk (some (a : Int)) none none l = l.drop a := by
  rw [pk_run l _ _ (min a l.length) l.length ?_ (by omega)]
  · rcases Nat.lt_or_ge a l.length with h | h
    · have e : min a l.length = a := by omega
      rw [e, List.take_of_length_le (by rw [List.length_drop]; omega)]
    · have e : min a l.length = l.length := by omega
      rw [e, List.drop_of_length_le (Nat.le_refl _), List.drop_of_length_le h]; simp
  · simp only [sliceBounds, Option.getD_none, show (1 : Int) > 0 by decide, if_true, Prod.mk.injEq, and_true]
    rw [if_neg (by omega)]; omega
theorem pk_mid {α : Type} (l : List α) : pk (some 1) (some (-1)) none l = (l.drop 1).take (l.length - 2) := by
  rw [pk_run l _ _ (min 1 l.length) (l.length - 1) ?_ (by omega)]
  · cases l with
    | nil => rfl
    | cons x r =>
      have e : min 1 (x :: r).length = 1 := by simp
      have e2 : (x :: r).length - 1 - 1 = (x :: r).length - 2 := by omega
      rw [e, e2]
  · simp only [sliceBounds, Option.getD_none, show (1 : Int) > 0 by decide, if_true, Prod.mk.injEq, and_true, show ¬ (1 : Int) < 0 by decide, if_false, show (-1 : Int) < 0 by decide]
    constructor <;> omega
theorem range_all {α : Type} (l : List α) : (List.range l.length).filterMap (l[·]?) = l := by
  have := pick_run l 0 l.length (by omega)
  simpa using this
theorem fm_congr {α β : Type} {f g : α → Option β} : ∀ {l : List α}, (∀ a ∈ l, f a = g a) → l.filterMap f = l.filterMap g
  | [], _ => rfl
  | a :: r, h => by
    rw [List.filterMap_cons, List.filterMap_cons, h a (.head _), fm_congr fun b hb => h b (.tail _ hb)]
theorem pk_rev {α : Type} (l : List α) : pk none none (some (-1)) l = l.reverse := by
  unfold pk
  simp only [sliceBounds, Option.getD_some, show ¬ (-1 : Int) > 0 by decide, if_false]
  unfold sliceRange
  simp only [show ¬ (-1 : Int) > 0 by decide, if_false]
  have hc : (if (l.length : Int) - 1 > -1 then ((l.length : Int) - 1 - (-1) - (-1) - 1) / (- (-1)) else 0).toNat = l.length := by
    split
    · have : ((l.length : Int) - 1 - (-1) - (-1) - 1) / (- (-1)) = l.length := by
        have e : - (-1 : Int) = 1 := by decide
        rw [e, Int.ediv_one]; omega
      rw [this]; simp
    · omega
  rw [hc, List.filterMap_map]
  have key : ∀ k, k < l.length → (fun x => l[x]?) (((l.length : Int) - 1 + (-1) * (k : Int)).toNat) = l.reverse[k]? := by
    intro k hk
    have e : ((l.length : Int) - 1 + (-1) * (k : Int)).toNat = l.length - 1 - k := by omega
    simp only [e]
    rw [List.getElem?_reverse hk]
  have : (List.range l.length).filterMap ((fun x => l[x]?) ∘ fun k : Nat => ((l.length : Int) - 1 + (-1) * (k : Int)).toNat) = (List.range l.length).filterMap (l.reverse[·]?) := by
    refine fm_congr fun k hk => ?_
    exact key k (List.mem_range.mp hk)
  rw [this]
  have := range_all l.reverse
  rwa [List.length_reverse] at this

def L (x : Str) : List Nat := x.cps.toList
theorem S_L (x : Str) : S (L x) = x := by obtain ⟨a⟩ := x; simp [S, L]
theorem L_S (l : List Nat) : L (S l) = l := by simp [S, L]
theorem len_S (l : List Nat) : (S l).length = l.length := by simp [S, Str.length]
theorem pkS_S (lo hi st : Option Int) (l : List Nat) : pkS lo hi st (S l) = S (pk lo hi st l) := by simp [pkS, S]
theorem S_add (a b : List Nat) : S a ++ S b = S (a ++ b) := by
  show Str.mk (a.toArray ++ b.toArray) = Str.mk (a ++ b).toArray
  simp
theorem S_inj {a b : List Nat} : S a = S b ↔ a = b := by
  constructor
  · intro h
    have := congrArg L h
    rwa [L_S, L_S] at this
  · rintro rfl; rfl
theorem S_beq (a b : List Nat) : (S a == S b) = (a == b) := by
  by_cases h : a = b
  · subst h; simp
  · have : S a ≠ S b := fun e => h (S_inj.mp e)
    rw [beq_eq_false_iff_ne.mpr this, beq_eq_false_iff_ne.mpr h]
theorem repS_S (k : Int) (l : List Nat) : repS k (S l) = S (rep k l) := by simp [repS, S]
def joinL (sep : List Nat) : List (List Nat) → List Nat
  | [] => []
  | x :: r => x ++ r.flatMap (sep ++ ·)
theorem join_S (sep : List Nat) (xs : List (List Nat)) : Txt.join (S sep) (xs.map S) = S (joinL sep xs) := by
  have key : ∀ (r : List (List Nat)) (a : List Nat), (r.map S).foldl (fun acc p => acc ++ (S sep).cps ++ p.cps) a.toArray = (a ++ r.flatMap (sep ++ ·)).toArray := by
    intro r
    induction r with
    | nil => intro a; simp
    | cons x r ih =>
      intro a
      simp only [List.map_cons, List.foldl_cons, List.flatMap_cons]
      have e : a.toArray ++ (S sep).cps ++ (S x).cps = (a ++ sep ++ x).toArray := by simp [S]
      rw [e, ih]
      simp
  cases xs with
  | nil => rfl
  | cons x r =>
    show Str.mk ((r.map S).foldl (fun acc p => acc ++ (S sep).cps ++ p.cps) (S x).cps) = S (joinL sep (x :: r))
    have e : (S x).cps = x.toArray := rfl
    rw [e, key]
    rfl
theorem joinL_nil : ∀ xs : List (List Nat), joinL [] xs = xs.flatten
  | [] => rfl
  | x :: r => by
    show x ++ r.flatMap ([] ++ ·) = x ++ r.flatten
    simp [List.flatMap, Function.comp_def]
theorem join_E (xs : List (List Nat)) : Txt.join "" (xs.map S) = S xs.flatten := by
  have := join_S [] xs
  rw [joinL_nil] at this
  exact this
end Mine
end

/-! M16 -/
section
open PySem PySem.Calls PyProof.Rows PySem.W
set_option maxRecDepth 100000
namespace Mine
open PySem.Builtin.Str PySem.StrLaws

def at? (x y : List Nat) (i : Nat) : Bool := (x.drop i).take y.length == y
def occs (x y : List Nat) (hi lim : Nat) : List Nat → Nat → Nat → List Nat
  | [], _, _ => []
  | i :: l, free, cnt => if ((cnt < lim ∧ free ≤ i) ∧ i + y.length ≤ hi) ∧ at? x y i = true then i :: occs x y hi lim l (i + y.length) (cnt + 1) else occs x y hi lim l free cnt
theorem subAt_S (x y : List Nat) (i : Nat) : subAt (S x) (S y) i = at? x y i := by
  rw [subAt_eq]; simp [at?, S, Str.length]
theorem occ_list (x y : List Nat) (hi lim : Nat) : ∀ (l : List Nat) (f : Array Nat) (fr : Nat), (forIn l (f, fr) (occBody (S x) (S y) hi lim)).run.fst.toList = f.toList ++ occs x y hi lim l fr f.size
  | [], f, fr => by simp [occs]
  | i :: l, f, fr => by
    rw [List.forIn_cons]
    unfold occBody occs
    rw [subAt_S, len_S]
    split
    · have := occ_list x y hi lim l (f.push i) (i + y.length)
      rw [Array.size_push, Array.toList_push, List.append_assoc] at this
      exact this
    · exact occ_list x y hi lim l f fr
theorem occurrences_S (x y : List Nat) (lo hi lim : Nat) : occurrences (S x) (S y) lo hi lim = occs x y hi lim (List.range' lo (hi + 1 - lo)) lo 0 := by
  rw [occ_eq, occ_list]; simp

/-- the first place -/
def fndL (x y : List Nat) (lo hi : Nat) : Option Nat := (List.range' lo (hi + 1 - lo)).find? fun i => decide (i + y.length ≤ hi) && at? x y i
theorem occs_one (x y : List Nat) (hi : Nat) : ∀ (l : List Nat) (fr : Nat), (∀ i ∈ l, fr ≤ i) → occs x y hi 1 l fr 0 = (l.find? fun i => decide (i + y.length ≤ hi) && at? x y i).toList
  | [], fr, _ => rfl
  | i :: l, fr, h => by
    unfold occs
    rw [List.find?_cons]
    have hi' : fr ≤ i := h i (.head _)
    by_cases hc : i + y.length ≤ hi ∧ at? x y i = true
    · rw [if_pos ⟨⟨⟨by decide, hi'⟩, hc.1⟩, hc.2⟩]
      have hb : (decide (i + y.length ≤ hi) && at? x y i) = true := by simp [hc.1, hc.2]
      rw [hb]
      have none : ∀ (l : List Nat) (fr : Nat), occs x y hi 1 l fr 1 = [] := by
        intro l
        induction l with
        | nil => intro fr; rfl
        | cons j l ih =>
          intro fr
          unfold occs
          rw [if_neg (by omega)]
          exact ih fr
      rw [none]; rfl
    · rw [if_neg (fun q => hc ⟨q.1.2, q.2⟩)]
      have hb : (decide (i + y.length ≤ hi) && at? x y i) = false := by
        cases hq : (decide (i + y.length ≤ hi) && at? x y i) with
        | false => rfl
        | true =>
          simp only [Bool.and_eq_true, decide_eq_true_eq] at hq
          exact absurd hq hc
      rw [hb]
      exact occs_one x y hi l fr fun j hj => h j (.tail _ hj)
theorem fnd_S (x y : List Nat) (lo hi : Nat) : fnd (S x) (S y) lo hi = match fndL x y lo hi with | some k => (k : Int) | none => -1 := by
  unfold fnd fndL
  rw [occurrences_S, occs_one]
  · cases (List.range' lo (hi + 1 - lo)).find? fun i => decide (i + y.length ≤ hi) && at? x y i <;> rfl
  · intro i hi'
    exact (List.mem_range'_1.mp hi').1
theorem contains_S (x y : List Nat) : Txt.contains (S x) (S y) = (fndL x y 0 x.length).isSome := by
  unfold Txt.contains
  rw [len_S, occurrences_S, occs_one]
  · unfold fndL
    cases (List.range' 0 (x.length + 1 - 0)).find? fun i => decide (i + y.length ≤ x.length) && at? x y i <;> rfl
  · intro i _; exact Nat.zero_le _

/-- the text cut at "..." from the left -/
def splitD : List Nat → List (List Nat)
  | [] => [[]]
  | 46 :: 46 :: 46 :: r => [] :: splitD r
  | c :: r => match splitD r with | [] => [[c]] | p :: ps => (c :: p) :: ps
end Mine
end

/-! M17 -/
section
open PySem PySem.Calls PyProof.Rows PySem.W
set_option maxRecDepth 100000
namespace Mine
open PySem.Builtin.Str PySem.StrLaws

abbrev dotsL : List Nat := [46, 46, 46]
theorem splitD_ne : ∀ x : List Nat, splitD x ≠ []
  | [] => by simp [splitD]
  | c :: r => by
    unfold splitD
    split
    · simp
    · simp
    · split <;> simp
theorem splitD_dots (r : List Nat) : splitD (46 :: 46 :: 46 :: r) = [] :: splitD r := by rw [splitD]
theorem splitD_cons {c : Nat} {r : List Nat} (h : ¬ (c :: r).take 3 = dotsL) : ∃ p ps, splitD r = p :: ps ∧ splitD (c :: r) = (c :: p) :: ps := by
  obtain ⟨p, ps, hp⟩ := List.exists_cons_of_ne_nil (splitD_ne r)
  refine ⟨p, ps, hp, ?_⟩
  rw [splitD]
  · rw [hp]
  · intro r' hc hr
    subst hc hr
    exact h rfl
def partsFrom (x : List Nat) (p : Nat) : List Nat → List (List Nat)
  | [] => [x.drop p]
  | c :: cs => ((x.drop p).take (c - p)) :: partsFrom x (c + 3) cs
theorem zip_parts (x : List Nat) : ∀ (cuts : List Nat) (p : Nat), ((p :: cuts.map (· + 3)).zip (cuts ++ [x.length])).map (fun q => strSub (S x) q.1 q.2) = (partsFrom x p cuts).map S
  | [], p => by
    have : strSub (S x) p x.length = S (x.drop p) := by
      rw [← S_L (strSub (S x) p x.length)]
      congr 1
      show (strSub (S x) p x.length).cps.toList = _
      rw [strSub_toList]
      show (x.drop p).take (x.length - p) = _
      rw [List.take_of_length_le (by rw [List.length_drop]; exact Nat.le_refl _)]
    simp [partsFrom, this]
  | c :: cs, p => by
    have : strSub (S x) p c = S ((x.drop p).take (c - p)) := by
      rw [← S_L (strSub (S x) p c)]
      congr 1
      show (strSub (S x) p c).cps.toList = _
      rw [strSub_toList]; rfl
    have ih := zip_parts x cs (c + 3)
    simp only [List.map_cons, List.cons_append, List.zip_cons_cons, partsFrom, this, ih]
theorem parts_S (x cuts : List Nat) : partsBetween (S x) cuts 3 = (partsFrom x 0 cuts).map S := by
  unfold partsBetween
  rw [len_S]
  exact zip_parts x cuts 0

theorem occs_free {x y : List Nat} {hi lim : Nat} : ∀ {l : List Nat} {f g c : Nat}, (∀ i ∈ l, f ≤ i ∧ g ≤ i) → occs x y hi lim l f c = occs x y hi lim l g c
  | [], _, _, _, _ => rfl
  | i :: l, f, g, c, h => by
    unfold occs
    obtain ⟨h1, h2⟩ := h i (.head _)
    by_cases hc : ((c < lim ∧ f ≤ i) ∧ i + y.length ≤ hi) ∧ at? x y i = true
    · rw [if_pos hc, if_pos ⟨⟨⟨hc.1.1.1, h2⟩, hc.1.2⟩, hc.2⟩]
    · rw [if_neg hc, if_neg (fun q => hc ⟨⟨⟨q.1.1.1, h1⟩, q.1.2⟩, q.2⟩)]
      exact occs_free fun j hj => h j (.tail _ hj)
theorem occs_skip {x y : List Nat} {hi lim c : Nat} : ∀ (k a n : Nat), occs x y hi lim (List.range' a (k + n)) (a + k) c = occs x y hi lim (List.range' (a + k) n) (a + k) c
  | 0, a, n => by simp
  | k + 1, a, n => by
    have e : k + 1 + n = (k + n) + 1 := by omega
    rw [e, List.range'_succ]
    rw [occs, if_neg (by omega)]
    have := occs_skip (x := x) (y := y) (hi := hi) (lim := lim) (c := c) k (a + 1) n
    have e2 : a + 1 + k = a + (k + 1) := by omega
    rw [e2] at this
    exact this
theorem at_dots {x : List Nat} {p : Nat} : at? x dotsL p = true ↔ (x.drop p).take 3 = dotsL := by simp [at?]

theorem parts_split (x : List Nat) (lim : Nat) : ∀ (m p q c : Nat), x.length - p = m → p ≤ x.length → q ≤ p → c + m < lim →
    ∃ h t, splitD (x.drop p) = h :: t ∧ partsFrom x q (occs x dotsL x.length lim (List.range' p (x.length + 1 - p)) p c) = ((x.drop q).take (p - q) ++ h) :: t := by
  intro m
  induction m using Nat.strongRecOn with
  | ind m ih =>
    intro p q c hm hp hq hc
    rcases Nat.eq_or_lt_of_le hp with e | hlt
    · refine ⟨[], [], by rw [e, List.drop_length]; rfl, ?_⟩
      have e1 : x.length + 1 - p = 1 := by omega
      rw [e1, show List.range' p 1 = [p] from rfl, occs, if_neg (fun z => by have := z.1.2; simp at this; omega)]
      show partsFrom x q [] = _
      simp only [partsFrom, List.append_nil]
      rw [List.take_of_length_le (by rw [List.length_drop]; omega)]
    · have er : List.range' p (x.length + 1 - p) = p :: List.range' (p + 1) (x.length - p) := by
        have : x.length + 1 - p = (x.length - p) + 1 := by omega
        rw [this, List.range'_succ]
      obtain ⟨d, r, hdr⟩ := List.exists_cons_of_ne_nil (l := x.drop p) (by intro hnil; have := congrArg List.length hnil; rw [List.length_drop] at this; simp at this; omega)
      have hr : x.drop (p + 1) = r := by
        have := congrArg (List.drop 1) hdr
        rw [List.drop_drop] at this; simpa using this
      by_cases ha : (x.drop p).take 3 = dotsL
      · have h3 : p + 3 ≤ x.length := by
          have := congrArg List.length ha
          rw [List.length_take, List.length_drop] at this
          simp at this; omega
        have hd3 : x.drop p = 46 :: 46 :: 46 :: x.drop (p + 3) := by
          have h4 := List.take_append_drop 3 (x.drop p)
          rw [ha, List.drop_drop] at h4
          exact h4.symm
        rw [er, occs, if_pos ⟨⟨⟨by omega, Nat.le_refl _⟩, h3⟩, at_dots.mpr ha⟩]
        have e5 : x.length - p = 2 + (x.length + 1 - (p + 3)) := by omega
        have e6 : p + dotsL.length = p + 1 + 2 := rfl
        rw [e6, e5, occs_skip]
        obtain ⟨h, t, h1, h2⟩ := ih (x.length - (p + 3)) (by omega) (p + 3) (p + 3) (c + 1) rfl h3 (Nat.le_refl _) (by omega)
        refine ⟨[], h :: t, by rw [hd3, splitD_dots, h1], ?_⟩
        simp only [partsFrom, List.append_nil]
        rw [show p + 1 + 2 = p + 3 from rfl, h2]
        simp
      · rw [er, occs, if_neg (fun z => ha (at_dots.mp z.2))]
        obtain ⟨h, t, h1, h2⟩ := ih (x.length - (p + 1)) (by omega) (p + 1) q c rfl (by omega) (by omega) (by omega)
        rw [hr] at h1
        rw [hdr] at ha
        obtain ⟨p', ps, h3, h4⟩ := splitD_cons ha
        rw [h1] at h3; cases h3
        refine ⟨d :: h, t, by rw [hdr, h4], ?_⟩
        have e7 : x.length - p = x.length + 1 - (p + 1) := by omega
        rw [e7, occs_free (g := p + 1) (fun i hi => by have := (List.mem_range'_1.mp hi).1; omega), h2]
        congr 1
        have e8 : p + 1 - q = (p - q) + 1 := by omega
        rw [e8]
        have hget : (x.drop q)[p - q]? = some d := by
          rw [List.getElem?_drop, show q + (p - q) = p by omega]
          have := congrArg (fun l => l[0]?) hdr
          simpa [List.getElem?_drop] using this
        rw [List.take_add_one, hget]
        simp
theorem split_S (x : List Nat) : Txt.split (S x) (S dotsL) = (splitD x).map S := by
  obtain ⟨h, t, h1, h2⟩ := parts_split x (x.length + 1) x.length 0 0 0 rfl (Nat.zero_le _) (Nat.le_refl _) (by omega)
  rw [List.drop_zero] at h1
  simp only [List.drop_zero, Nat.sub_zero, List.take_zero, List.nil_append] at h2
  have e0 : occurrences (S x) (S dotsL) 0 x.length (x.length + 1) = occs x dotsL x.length (x.length + 1) (List.range' 0 (x.length + 1)) 0 0 := by rw [occurrences_S]; rfl
  have one : occs x dotsL x.length (x.length + 1) (List.range' 0 (x.length + 1)) 0 0 = [] → [S x] = (splitD x).map S := fun q => by
    rw [q] at h2
    simp only [partsFrom, List.drop_zero, List.cons.injEq] at h2
    rw [h1, ← h2.1, ← h2.2]; rfl
  unfold Txt.split
  rw [len_S, len_S, e0]
  split
  · rename_i hq
    refine one ?_
    simp only [Bool.or_eq_true, decide_eq_true_eq] at hq
    have hk : Builtin.Str.strKind (S dotsL) = 1 := by decide +kernel
    have hk2 : 1 ≤ Builtin.Str.strKind (S x) := by unfold Builtin.Str.strKind; split; omega; split <;> omega
    have hlen : x.length < 3 := by
      rcases hq with q | q
      · exact q
      · omega
    have none : ∀ (l : List Nat) (f c : Nat), occs x dotsL x.length (x.length + 1) l f c = [] := by
      intro l
      induction l with
      | nil => intro f c; rfl
      | cons i l ih =>
        intro f c
        rw [occs, if_neg (fun z => by have := z.1.2; simp at this; omega)]
        exact ih f c
    exact none _ _ _
  · split
    · rename_i hq
      exact one (by simpa using hq)
    · rw [show (dotsL : List Nat).length = 3 from rfl, parts_S, h2, h1]
end Mine
end

/-! M18 -/
section
open PySem PySem.Calls PyProof.Rows PySem.W
set_option maxRecDepth 100000
namespace Mine
open PySem.Builtin.Str PySem.StrLaws

theorem occs_nil_iff {x y : List Nat} {hi lim : Nat} : ∀ {l : List Nat} {f c : Nat}, (∀ i ∈ l, f ≤ i) → c < lim → (occs x y hi lim l f c = [] ↔ l.find? (fun i => decide (i + y.length ≤ hi) && at? x y i) = none)
  | [], _, _, _, _ => by simp [occs]
  | i :: l, f, c, h, hc => by
    unfold occs
    rw [List.find?_cons]
    by_cases q : i + y.length ≤ hi ∧ at? x y i = true
    · rw [if_pos ⟨⟨⟨hc, h i (.head _)⟩, q.1⟩, q.2⟩]
      have hb : (decide (i + y.length ≤ hi) && at? x y i) = true := by simp [q.1, q.2]
      rw [hb]; simp
    · rw [if_neg (fun z => q ⟨z.1.2, z.2⟩)]
      have hb : (decide (i + y.length ≤ hi) && at? x y i) = false := by
        cases hq : (decide (i + y.length ≤ hi) && at? x y i) with
        | false => rfl
        | true => simp only [Bool.and_eq_true, decide_eq_true_eq] at hq; exact absurd hq q
      rw [hb]
      exact occs_nil_iff (fun j hj => h j (.tail _ hj)) hc
theorem partsFrom_len (x : List Nat) : ∀ (cuts : List Nat) (p : Nat), (partsFrom x p cuts).length = cuts.length + 1
  | [], _ => rfl
  | c :: cs, p => by simp [partsFrom, partsFrom_len x cs]
theorem contains_dots (x : List Nat) : Txt.contains (S x) (S dotsL) = decide (2 ≤ (splitD x).length) := by
  obtain ⟨h, t, h1, h2⟩ := parts_split x (x.length + 1) x.length 0 0 0 rfl (Nat.zero_le _) (Nat.le_refl _) (by omega)
  rw [List.drop_zero] at h1
  simp only [List.drop_zero, Nat.sub_zero, List.take_zero, List.nil_append] at h2
  have hl := congrArg List.length h2
  rw [partsFrom_len, ← h1] at hl
  have hn := occs_nil_iff (x := x) (y := dotsL) (hi := x.length) (lim := x.length + 1) (l := List.range' 0 (x.length + 1)) (f := 0) (c := 0) (fun i _ => Nat.zero_le _) (by omega)
  rw [contains_S]
  unfold fndL
  rw [show x.length + 1 - 0 = x.length + 1 from rfl]
  cases hf : (List.range' 0 (x.length + 1)).find? fun i => decide (i + dotsL.length ≤ x.length) && at? x dotsL i with
  | none =>
    rw [hn.mpr hf] at hl
    have : ¬ 2 ≤ (splitD x).length := by simp at hl; omega
    simp only [Option.isSome_none]
    exact (decide_eq_false this).symm
  | some k =>
    have : occs x dotsL x.length (x.length + 1) (List.range' 0 (x.length + 1)) 0 0 ≠ [] := fun q => by rw [hn.mp q] at hf; cases hf
    have : 2 ≤ (splitD x).length := by have := List.length_pos_iff.mpr this; omega
    simp only [Option.isSome_some]
    exact (decide_eq_true this).symm
theorem splitD_len : ∀ x : List Nat, (splitD x).length ≤ x.length + 1 ∧ ∀ p ∈ splitD x, p.length ≤ x.length := by
  intro x
  obtain ⟨h, t, h1, h2⟩ := parts_split x (x.length + 1) x.length 0 0 0 rfl (Nat.zero_le _) (Nat.le_refl _) (by omega)
  rw [List.drop_zero] at h1
  simp only [List.drop_zero, Nat.sub_zero, List.take_zero, List.nil_append] at h2
  rw [← h1] at h2
  have key : ∀ (m : Nat) (y : List Nat), y.length = m → (splitD y).length ≤ y.length + 1 ∧ ∀ p ∈ splitD y, p.length ≤ y.length := by
    intro m
    induction m using Nat.strongRecOn with
    | ind m ih =>
      intro y hy
      cases y with
      | nil => simp [splitD]
      | cons c r =>
        by_cases hc : (c :: r).take 3 = dotsL
        · have h4 := List.take_append_drop 3 (c :: r)
          rw [hc] at h4
          have hlen := congrArg List.length h4
          rw [← h4]
          show (splitD (46 :: 46 :: 46 :: (c :: r).drop 3)).length ≤ _ ∧ _
          rw [show dotsL ++ (c :: r).drop 3 = 46 :: 46 :: 46 :: (c :: r).drop 3 from rfl, splitD_dots]
          obtain ⟨i1, i2⟩ := ih ((c :: r).drop 3).length (by rw [List.length_append] at hlen; simp at hlen hy ⊢; omega) _ rfl
          refine ⟨by simp only [List.length_cons]; omega, fun p hp => ?_⟩
          cases hp with
          | head => simp
          | tail _ hp => have := i2 p hp; simp only [List.length_cons]; omega
        · obtain ⟨p, ps, h3, h4⟩ := splitD_cons hc
          obtain ⟨i1, i2⟩ := ih r.length (by simp at hy; omega) r rfl
          rw [h3] at i1 i2
          rw [h4]
          refine ⟨by simp only [List.length_cons] at i1 ⊢; omega, fun q hq => ?_⟩
          cases hq with
          | head => have := i2 p (.head _); simp only [List.length_cons]; omega
          | tail _ hq => have := i2 q (.tail _ hq); simp only [List.length_cons]; omega
  exact key _ x rfl
end Mine
end

/-! M19 -/
section
open PySem PySem.Calls PyProof.Rows PySem.W
set_option maxRecDepth 100000
namespace Mine
section
variable {W : Wd} {n : Nat} {fr : Bool} {env : Env} {l : Sl}

/-- the names that a comprehension takes from around it: name, cell, datum -/
abbrev Caps := List (Str × Addr × PV)
def clOf (c : Caps) : List (Str × Addr) := c.map fun p => (p.1, p.2.1)
def lcOf (c : Caps) : Sl := c.map fun p => (p.1, p.2.2, false)
def CapsOk (env : Env) (l : Sl) (scope : Scope) (cl : List (Str × Addr)) : Caps → Prop
  | [] => True
  | p :: r => env.kindOf p.1 = some .cell ∧ env.cells.lookup p.1 = some p.2.1 ∧ lk l p.1 = some p.2.2 ∧ (∀ C, (compEnvC scope cl C env).kindOf p.1 = some .cell) ∧ CapsOk env l scope cl r
theorem CapsOk.mem {env : Env} {l : Sl} {scope : Scope} {cl : List (Str × Addr)} : ∀ {c : Caps}, CapsOk env l scope cl c → ∀ p ∈ c, env.kindOf p.1 = some .cell ∧ env.cells.lookup p.1 = some p.2.1 ∧ lk l p.1 = some p.2.2 ∧ ∀ C, (compEnvC scope cl C env).kindOf p.1 = some .cell
  | _ :: _, h, p, hp => by
    cases hp with
    | head => exact ⟨h.1, h.2.1, h.2.2.1, h.2.2.2.1⟩
    | tail _ hp => exact CapsOk.mem h.2.2.2.2 p hp
theorem Comp.cap {us : List Str} {target iter elt : Expr} {ifs : List Expr} {scope : Scope} {xs : List It} {f : It → Option It} (caps : Caps) (ns : List Str)
    (src : Src W n env (lk l) us false iter target xs) (clos : closureFor scope env = pure (clOf caps)) (ok : CapsOk env l scope (clOf caps) caps) (nocell : ∀ y ∈ scope.names, y.2 ≠ .cell) (kind : scope.kind = .function)
    (names : ∀ x ∈ scope.names, x.2 = .local → scope.names.lookup x.1 = some .local) (hns : caps.map (·.1) = ns) (hfree : ∀ y ∈ scope.names, y.2 = .free → y.1 ∈ ns)
    (each : ∀ C, EnvOk (compEnvC scope (clOf caps) C env) → ∀ x ∈ xs, ∃ bs ok, Tgt target x bs ∧ (∀ b ∈ bs, (compEnvC scope (clOf caps) C env).kindOf b.1 = some .local) ∧ EvIfs W n (compEnvC scope (clOf caps) C env) (lk (puts bs (lcOf caps))) ifs ok ∧ (ok = false → f x = none) ∧
      (ok = true → ∃ y, f x = some y ∧ Ev W n false (compEnvC scope (clOf caps) C env) (lk (puts bs (lcOf caps))) (eval elt (compEnvC scope (clOf caps) C env)) (.it y)))
    (size : xs.length ≤ sizeLine) : Comp W n env l us target iter elt ifs scope (clOf caps) (lcOf caps) xs f where
  src := src
  clos := clos
  nocell := nocell
  kind := kind
  names := names
  cl_of := fun x c e => by
    have h := lookup_mem e
    simp only [clOf, List.mem_map, Prod.mk.injEq] at h
    obtain ⟨p, hp, rfl, rfl⟩ := h
    obtain ⟨h1, h2, _⟩ := ok.mem p hp
    exact ⟨h1, h2⟩
  lc_of := fun C x d b e => by
    have h := lookup_mem e
    simp only [lcOf, List.mem_map, Prod.mk.injEq] at h
    obtain ⟨p, hp, rfl, rfl, rfl⟩ := h
    obtain ⟨h1, h2, h3, h4⟩ := ok.mem p hp
    refine ⟨rfl, h3, h4 C, ?_⟩
    have : ∀ (c : Caps), p ∈ c → ∃ a, (clOf c).lookup p.1 = some a := by
      intro c
      induction c with
      | nil => intro h; cases h
      | cons q r ih =>
        intro h
        by_cases hq : p.1 = q.1
        · exact ⟨q.2.1, by simp [clOf, hq]⟩
        · have hq' : (p.1 == q.1) = false := by simpa using hq
          cases h with
          | head => exact absurd rfl hq
          | tail _ h =>
            obtain ⟨a, ha⟩ := ih h
            exact ⟨a, by simp only [clOf, List.map_cons, List.lookup_cons, hq']; exact ha⟩
    exact this caps hp
  of_cell := fun C x e => by
    have e' : ((scope.names.map fun (n, k) => if (k == NameKind.free && env.scope.kind == .function && env.kindOf n == some .cell) = true then (n, NameKind.cell) else (n, k)).lookup x) = some .cell := e
    have h := lookup_mem e'
    simp only [List.mem_map] at h
    obtain ⟨⟨m, k⟩, hm, h⟩ := h
    have hk : k = .free ∧ m = x := by
      split at h
      · rename_i q
        simp only [Bool.and_eq_true, beq_iff_eq] at q
        simp only [Prod.mk.injEq] at h
        exact ⟨q.1.1, h.1⟩
      · simp only [Prod.mk.injEq] at h
        exact absurd h.2 (nocell _ hm)
    obtain ⟨rfl, rfl⟩ := hk
    have hmem := hns ▸ hfree _ hm rfl
    have : ∀ (c : Caps), m ∈ c.map (·.1) → ∃ d, (lcOf c).lookup m = some (d, false) := by
      intro c
      induction c with
      | nil => intro h; cases h
      | cons q r ih =>
        intro h
        by_cases hq : m = q.1
        · exact ⟨q.2.2, by simp [lcOf, hq]⟩
        · have hq' : (m == q.1) = false := by simpa using hq
          simp only [List.map_cons, List.mem_cons] at h
          rcases h with h | h
          · exact absurd h hq
          · obtain ⟨d, hd⟩ := ih h
            exact ⟨d, by simp only [lcOf, List.map_cons, List.lookup_cons, hq']; exact hd⟩
    exact this caps hmem
  each := each
  size := size
end
end Mine
end

/-! N2 -/
section
open PySem PySem.Calls PyProof.Rows PySem.W
set_option maxRecDepth 100000
namespace Mine
abbrev PW : Program := PySem.Challenge.pw_sn0076_02
def kEll : Nat := 7
def kISEOF : Nat := 62
def bodyOf (P : Program) (k : Nat) : List Stmt := match P.main.body[k]? with | some (.FunctionDef _ _ b _ _ _ _ _ _ _) => b | _ => []
def scopeOf (P : Program) (k : Nat) : Scope := match P.main.body[k]? with | some (.FunctionDef _ _ _ _ _ _ s _ _ _) => s | _ => { kind := .function, names := [], isGenerator := false, isCoroutine := false }
end Mine
end

/-! N2b -/
section
open PySem PySem.Calls PyProof.Rows PySem.W
set_option maxRecDepth 100000
namespace Mine
variable {W : Wd} {n : Nat}

theorem c_ISEOF (T : Defs PW W) {x t} (he : W.mg "ENDMARKER" = some (.int 0 t)) : Cf W (n + 1) "ISEOF" [.int x] (.bool (x == 0)) := by
  refine Cf.of T (k := kISEOF) rfl (names := ["x"]) (fun pm cd doc vs h => ?_) (by decide) (by decide) rfl (fun L a cd hk => ?_)
  · obtain ⟨v, rfl⟩ := eq_one h
    rfl
  · exact Tr.stop (Tr.ret (Ev.cmp (Ev.nameI hk rfl) (Ev.gint hk rfl he) Op2.eqI))

abbrev dots : Str := "..."
def ellLoop (got : Str) (hi : Nat) : List Str → Nat → Bool
  | [], _ => true
  | w :: ws, sp => if fnd got w sp hi < 0 then false else ellLoop got hi ws ((fnd got w sp hi).toNat + w.length)
def ellTail (got : Str) (ws : List Str) (sp ep : Nat) : Bool := if sp > ep then false else ellLoop got ep ws sp
def ellLast (got : Str) (ws : List Str) (sp : Nat) : Bool :=
  if (ws.getLast?.getD Str.empty).length = 0 then ellTail got ws sp got.length
  else if Txt.endswith got (ws.getLast?.getD Str.empty) = false then false
  else ellTail got (ws.eraseIdx (ws.length - 1)) sp (got.length - (ws.getLast?.getD Str.empty).length)
def ellM (want got : Str) : Bool :=
  if Txt.contains want dots = false then want == got
  else if ((Txt.split want dots).head?.getD Str.empty).length = 0 then ellLast got (Txt.split want dots) 0
  else if Txt.startswith got ((Txt.split want dots).head?.getD Str.empty) = false then false
  else ellLast got ((Txt.split want dots).eraseIdx 0) ((Txt.split want dots).head?.getD Str.empty).length

structure TopE (W : Wd) : Prop where
  defs : Defs PW W
  ell : ∃ t, W.mg "ELLIPSIS_MARKER" = some (.str dots t)
  len : GN W "len" (.builtin "len")

abbrev eEnv (L a : Addr) (cd : Value) : Env := envOfC "_ellipsis_match" (scopeOf PW kEll) L a cd
abbrev eSt (want got : Str) (ws : List Str) (ep sp : Nat) (w : Str) (b : Bool) : Sl :=
  [("want", .str want, false), ("got", .str got, false), ("ws", .list (ws.map It.str), b), ("endpos", .int ep, true), ("startpos", .int sp, true), ("w", .str w, true)]

theorem fnd_cases (x y : Str) (lo hi : Nat) : (fnd x y lo hi < 0) ∨ ∃ k : Nat, fnd x y lo hi = k := by
  unfold fnd
  split
  · exact .inr ⟨_, rfl⟩
  · exact .inl (by decide)

theorem e_tail (T : TopE W) {L a : Addr} {cd : Value} (hk : EnvOk (eEnv L a cd)) {want got : Str} {ws : List Str} {ep sp : Nat} {w : Str} {b : Bool} (hg : got.length ≤ 2 ^ 20) (hep : ep ≤ got.length) (hws : ∀ w ∈ ws, w.length ≤ 2 ^ 20) :
    Tr W n (eEnv L a cd) (eSt want got ws ep sp w b) (execs ((bodyOf PW kEll).drop 8) (eEnv L a cd)) (.ret (.bool (ellTail got ws sp ep))) := by
  unfold ellTail
  by_cases h : sp > ep
  · rw [if_pos h]
    have e : decide ((ep : Int) < sp) = true := by simp; omega
    exact Tr.stop (Tr.ite (e ▸ EvT.cmp (Ev.nameI hk rfl) (Ev.nameI hk rfl) Op2.gtI) (fun _ => Tr.stop (Tr.ret Ev.cbool)) (fun h => by cases h))
  · rw [if_neg h]
    have e : decide ((ep : Int) < sp) = false := by simp; omega
    refine Tr.cons (Tr.ite (e ▸ EvT.cmp (Ev.nameI hk rfl) (Ev.nameI hk rfl) Op2.gtI) (fun h => by cases h) (fun _ => Tr.nil)) ?_
    refine Tr.pre (l' := eSt want got ws ep sp w false) ?_ (le_cons (le_cons (le_cons (le_cons (le_cons (le_cons le_nil id) id) id) (fun h => by cases h)) id) id)
    · have key : ∀ (o : Out), (o = if ellLoop got ep ws sp then .next [] else .ret (.bool false)) → Tr W n (eEnv L a cd) (eSt want got ws ep sp w false) (exec (((bodyOf PW kEll)[9]?).getD default) (eEnv L a cd)) o := by
        intro o ho
        refine Tr.for (P := fun rest l o => ∃ ws' sp w, rest = ws'.map It.str ∧ (∀ w ∈ ws', w.length ≤ 2 ^ 20) ∧ l = eSt want got ws ep sp w false ∧ o = if ellLoop got ep ws' sp then .next [] else .ret (.bool false)) hk
          (Src.listName hk (.inl ⟨_, _, rfl⟩) rfl) ⟨ws, sp, w, rfl, hws, rfl, ho⟩ ?_ ?_ ?_
        · intro y hy
          simp only [List.mem_singleton] at hy; subst hy
          exact ⟨_, rfl⟩
        · rintro l' o' ⟨ws', sp, w, h1, _, rfl, rfl⟩
          cases ws' with
          | nil => exact ⟨[], rfl, fun x d b e => by simp at e⟩
          | cons => simp at h1
        · rintro x rest l' o' ⟨ws', sp, w, h1, h2, rfl, rfl⟩
          cases ws' with
          | nil => simp at h1
          | cons v ws' =>
            simp only [List.map_cons, List.cons.injEq] at h1
            obtain ⟨rfl, rfl⟩ := h1
            refine ⟨_, .name, ?_, ?_⟩
            · intro b hb
              simp only [List.mem_singleton] at hb; subst hb
              exact .inl rfl
            · rcases fnd_cases got v sp ep with hf | ⟨k, hf⟩
              · refine ⟨.ret (.bool false), ?_, rfl, by rw [ellLoop, if_pos hf]; rfl⟩
                refine Tr.cons (Tr.assign hk (Ev.meth (Ev.nameI hk rfl) F.plainAttrs_str F.slot_str_find F.type_str_find str_typed (EvL.cons (Ev.nameI hk rfl) (EvL.cons (Ev.nameI hk rfl) (EvL.cons (Ev.nameI hk rfl) EvL.nil))) (OpM.find hep)) (.inl rfl)) ?_
                have e : decide (fnd got v sp ep < 0) = true := by simpa using hf
                exact Tr.stop (Tr.ite (e ▸ EvT.cmp (Ev.nameI hk rfl) Ev.cint Op2.ltI) (fun _ => Tr.stop (Tr.ret Ev.cbool)) (fun h => by cases h))
              · refine ⟨.next (eSt want got ws ep (k + v.length) v false), ?_, _, le.refl _, ws', k + v.length, v, rfl, fun w hw => h2 w (.tail _ hw), rfl, ?_⟩
                · refine Tr.cons (Tr.assign hk (Ev.meth (Ev.nameI hk rfl) F.plainAttrs_str F.slot_str_find F.type_str_find str_typed (EvL.cons (Ev.nameI hk rfl) (EvL.cons (Ev.nameI hk rfl) (EvL.cons (Ev.nameI hk rfl) EvL.nil))) (OpM.find hep)) (.inl rfl)) ?_
                  rw [hf]
                  have e : decide (((k : Nat) : Int) < 0) = false := by simp
                  refine Tr.cons (Tr.ite (e ▸ EvT.cmp (Ev.nameI hk rfl) Ev.cint Op2.ltI) (fun h => by cases h) (fun _ => Tr.nil)) ?_
                  have := h2 v (.head _)
                  exact Tr.cons (Tr.aug hk (.inl rfl) rfl (Ev.callB hk rfl T.len (EvL.cons (Ev.nameI hk rfl) EvL.nil) (OpC.lenS (by omega))) iaddI) Tr.nil
                · have e2 : ellLoop got ep (v :: ws') sp = ellLoop got ep ws' (k + v.length) := by rw [ellLoop, if_neg (by rw [hf]; omega), hf]; rfl
                  rw [e2]
      cases h : ellLoop got ep ws sp with
      | true => exact Tr.cons (key (.next []) (by rw [h]; rfl)) (Tr.stop (Tr.ret Ev.cbool))
      | false => exact Tr.stop (key (.ret (.bool false)) (by rw [h]; rfl))

theorem last_neg {ws : List Str} (h : ws ≠ []) : (ws.map It.str).getLast? = some (It.str (ws.getLast?.getD Str.empty)) := by
  rw [List.getLast?_map, List.getLast?_eq_some_getLast h]; rfl
theorem seqNeg {m : Nat} (h : 0 < m) : seqIndex? (-1) m = some (m - 1) := by
  unfold seqIndex?
  have e : (-1 : Int) + m = ((m - 1 : Nat) : Int) := by omega
  have q : (-1 : Int) < 0 := by decide
  simp only [q, if_true, e]
  have c : (decide (0 ≤ ((m - 1 : Nat) : Int)) && decide (((m - 1 : Nat) : Int) < m)) = true := by simp; omega
  rw [if_pos c]; simp
theorem seqZero {m : Nat} (h : 0 < m) : seqIndex? 0 m = some 0 := by
  unfold seqIndex?
  have q : ¬ (0 : Int) < 0 := by decide
  simp only [q, if_false]
  have c : (decide (0 ≤ (0 : Int)) && decide ((0 : Int) < m)) = true := by simp; omega
  rw [if_pos c]; simp
theorem map_erase : ∀ (ws : List Str) (k : Nat), (ws.map It.str).eraseIdx k = (ws.eraseIdx k).map It.str
  | [], _ => rfl
  | _ :: _, 0 => rfl
  | w :: ws, k + 1 => by simp [List.eraseIdx_cons_succ, map_erase ws k]
theorem e_last (T : TopE W) {L a : Addr} {cd : Value} (hk : EnvOk (eEnv L a cd)) {want got : Str} {ws : List Str} {sp : Nat} {w : Str} (hne : ws ≠ []) (hlen : ws.length ≤ 2 ^ 20 + 1) (hg : got.length ≤ 2 ^ 20) (hws : ∀ w ∈ ws, w.length ≤ 2 ^ 20) :
    Tr W n (eEnv L a cd) (eSt want got ws got.length sp w true) (execs ((bodyOf PW kEll).drop 6) (eEnv L a cd)) (.ret (.bool (ellLast got ws sp))) := by
  have hmem : ws.getLast?.getD Str.empty ∈ ws := by rw [List.getLast?_eq_some_getLast hne]; exact List.getLast_mem hne
  have hw := hws _ hmem
  refine Tr.cons (Tr.assign hk (Ev.subLneg (Ev.name hk rfl) (Ev.neg Ev.cint) (last_neg hne)) (.inl rfl)) ?_
  unfold ellLast
  generalize hwl : ws.getLast?.getD Str.empty = wl at *
  by_cases h0 : wl.length = 0
  · rw [if_pos h0]
    have e : (((wl.length : Nat) : Int) != 0) = false := by rw [h0]; rfl
    refine Tr.cons (Tr.ite (e ▸ EvT.strv (Ev.nameI hk rfl) (by omega)) (fun h => by cases h) (fun _ => Tr.nil)) ?_
    exact e_tail T hk hg (Nat.le_refl _) hws
  · rw [if_neg h0]
    have e : (((wl.length : Nat) : Int) != 0) = true := by simp; omega
    cases he : Txt.endswith got wl with
    | false =>
      rw [if_pos rfl]
      refine Tr.stop (Tr.ite (e ▸ EvT.strv (Ev.nameI hk rfl) (by omega)) (fun _ => Tr.stop (Tr.ite (he ▸ EvT.boolv (Ev.meth (Ev.nameI hk rfl) F.plainAttrs_str F.slot_str_endswith F.type_str_endswith str_typed (EvL.cons (Ev.nameI hk rfl) EvL.nil) OpM.ends)) (fun h => by cases h) (fun _ => Tr.stop (Tr.ret Ev.cbool)))) (fun h => by cases h))
    | true =>
      rw [if_neg (by decide)]
      have hle : wl.length ≤ got.length := by
        unfold Txt.endswith at he
        simp only [Bool.and_eq_true, decide_eq_true_eq] at he
        omega
      have hi : seqIndex? (-1) (ws.map It.str).length = some (ws.length - 1) := by rw [List.length_map]; exact seqNeg (List.length_pos_iff.mpr hne)
      refine Tr.cons (l1 := eSt want got (ws.eraseIdx (ws.length - 1)) (got.length - wl.length) sp wl true) (Tr.ite (e ▸ EvT.strv (Ev.nameI hk rfl) (by omega)) (fun _ => Tr.cons (Tr.ite (he ▸ EvT.boolv (Ev.meth (Ev.nameI hk rfl) F.plainAttrs_str F.slot_str_endswith F.type_str_endswith str_typed (EvL.cons (Ev.nameI hk rfl) EvL.nil) OpM.ends)) (fun _ =>
          Tr.cons (Tr.aug hk (.inl rfl) rfl (Ev.callB hk rfl T.len (EvL.cons (Ev.nameI hk rfl) EvL.nil) (OpC.lenS (by omega))) isubI) (Tr.cons (Tr.del hk rfl (Ev.neg Ev.cint) (by rw [sizeLine, List.length_map]; omega) (by decide) hi) Tr.nil)) (fun h => by cases h)) ?_) (fun h => by cases h)) ?_
      · rw [map_erase]
        have e3 : ((got.length : Nat) : Int) - (wl.length : Nat) = ((got.length - wl.length : Nat) : Int) := by omega
        rw [e3]
        exact Tr.nil
      · exact e_tail T hk hg (by omega) fun w hw => hws w (List.mem_of_mem_eraseIdx hw)

theorem c_ell (T : TopE W) {want got : Str} (hw : want.length ≤ 2 ^ 20) (hg : got.length ≤ 2 ^ 20) (hs2 : Txt.contains want dots = true → 2 ≤ (Txt.split want dots).length ∧ (Txt.split want dots).length ≤ 2 ^ 20 + 1 ∧ ∀ w ∈ Txt.split want dots, w.length ≤ 2 ^ 20) :
    Cf W (n + 1) "_ellipsis_match" [.str want, .str got] (.bool (ellM want got)) := by
  obtain ⟨t, hE⟩ := T.ell
  refine Cf.of T.defs (k := kEll) rfl (names := ["want", "got"]) (fun pm cd doc vs h => ?_) (by decide) (by decide) rfl (fun L a cd hk => ?_)
  · obtain ⟨v, u, rfl⟩ := eq_two h
    rfl
  · unfold ellM
    cases hc : Txt.contains want dots with
    | false =>
      rw [if_pos rfl]
      refine Tr.stop (Tr.ite (EvT.cmp (Ev.gstr hk rfl hE) (Ev.nameI hk rfl) Op2.ninS) (fun _ => Tr.stop (Tr.ret (Ev.cmp (Ev.nameI hk rfl) (Ev.nameI hk rfl) Op2.eqS))) (fun h => ?_))
      rw [hc] at h; cases h
    | true =>
      rw [if_neg (by decide)]
      obtain ⟨h2, h3, h4⟩ := hs2 hc
      refine Tr.cons (Tr.ite (EvT.cmp (Ev.gstr hk rfl hE) (Ev.nameI hk rfl) Op2.ninS) (fun h => by rw [hc] at h; cases h) (fun _ => Tr.nil)) ?_
      refine Tr.cons (Tr.assign hk (Ev.meth (Ev.nameI hk rfl) F.plainAttrs_str F.slot_str_split F.type_str_split str_typed (EvL.cons (Ev.gstr hk rfl hE) EvL.nil) (OpM.split (by decide) (by rw [sizeLine]; omega) (by rw [sizeLine]; omega))) (.inl rfl)) ?_
      generalize hws : Txt.split want dots = ws at *
      have tl : (decide ((2 : Int) ≤ (ws.map It.str).length)) = true := by simp; omega
      refine Tr.cons (Tr.assert (tl ▸ EvT.cmp (Ev.callB hk rfl T.len (EvL.cons (Ev.name hk rfl) EvL.nil) (OpC.lenL (by simp; omega))) Ev.cint Op2.geI)) ?_
      have hne : ws ≠ [] := by rintro rfl; simp at h2
      obtain ⟨w0, wr, rfl⟩ := List.exists_cons_of_ne_nil hne
      refine Tr.cons (Tr.tup2 hk (Ev.tupD (ds := [.int 0, .int got.length]) (EvL.cons Ev.cint (EvL.cons (Ev.callB hk rfl T.len (EvL.cons (Ev.nameI hk rfl) EvL.nil) (OpC.lenS (by omega))) EvL.nil)) (by show (2 : Nat) ≤ sizeLine; decide)) (.inl rfl) (.inl rfl)) ?_
      refine Tr.cons (Tr.assign hk (Ev.subL (Ev.name hk rfl) Ev.cint (by decide) (by decide) rfl) (.inl rfl)) ?_
      have hw0 := h4 w0 (.head _)
      show Tr W n _ (eSt want got (w0 :: wr) got.length 0 w0 true) _ _
      simp only [List.head?_cons, Option.getD_some, List.eraseIdx_zero, List.tail_cons]
      by_cases h0 : w0.length = 0
      · rw [if_pos h0]
        have e : (((w0.length : Nat) : Int) != 0) = false := by rw [h0]; rfl
        refine Tr.cons (Tr.ite (e ▸ EvT.strv (Ev.nameI hk rfl) (by omega)) (fun h => by cases h) (fun _ => Tr.nil)) ?_
        exact e_last T hk hne h3 hg h4
      · rw [if_neg h0]
        have e : (((w0.length : Nat) : Int) != 0) = true := by simp; omega
        cases he : Txt.startswith got w0 with
        | false =>
          rw [if_pos rfl]
          exact Tr.stop (Tr.ite (e ▸ EvT.strv (Ev.nameI hk rfl) (by omega)) (fun _ => Tr.stop (Tr.ite (he ▸ EvT.boolv (Ev.meth (Ev.nameI hk rfl) F.plainAttrs_str F.slot_str_startswith F.type_str_startswith str_typed (EvL.cons (Ev.nameI hk rfl) EvL.nil) OpM.starts)) (fun h => by cases h) (fun _ => Tr.stop (Tr.ret Ev.cbool)))) (fun h => by cases h))
        | true =>
          rw [if_neg (by decide)]
          refine Tr.cons (l1 := eSt want got wr got.length w0.length w0 true) (Tr.ite (e ▸ EvT.strv (Ev.nameI hk rfl) (by omega)) (fun _ => Tr.cons (Tr.ite (he ▸ EvT.boolv (Ev.meth (Ev.nameI hk rfl) F.plainAttrs_str F.slot_str_startswith F.type_str_startswith str_typed (EvL.cons (Ev.nameI hk rfl) EvL.nil) OpM.starts)) (fun _ =>
              Tr.cons (Tr.assign hk (Ev.callB hk rfl T.len (EvL.cons (Ev.nameI hk rfl) EvL.nil) (OpC.lenS (by omega))) (.inl rfl)) (Tr.cons (Tr.del (k := 0) hk rfl Ev.cint (by rw [sizeLine, List.length_map]; omega) (by decide) (seqZero (by simp))) Tr.nil)) (fun h => by cases h)) Tr.nil) (fun h => by cases h)) ?_
          exact e_last T hk (by rintro rfl; simp at h2) (by simp at h3; omega) hg fun w hw => h4 w (.tail _ hw)
end Mine
end

/-! N2c -/
section
open PySem PySem.Calls PyProof.Rows PySem.W
set_option maxRecDepth 100000
namespace Mine
variable {W : Wd} {n : Nat}

def kB1 : Nat := 2
def kB3 : Nat := 4
def kUnseen : Nat := 64
def kPrep : Nat := 66
def kWord : Nat := 67

structure TopT (W : Wd) (b1 : Int → Bool) (b3 : Int → Option Im) (ett : Str → Option Im) : Prop where
  defs : Defs PW W
  ell : ∃ t, W.mg "ELLIPSIS_MARKER" = some (.str dots t)
  eof : ∃ t, W.mg "ENDMARKER" = some (.int 0 t)
  b1s : ∃ a S m, W.mg "b1_set" = some (.ref a) ∧ W.hB.SetOf (intKind W.prog W.w) a S m ∧ ∀ k, S k = b1 k
  b3s : ∃ a f, W.mg "b3_exceptions" = some (.ref a) ∧ W.hB.MapOf (intKind W.prog W.w) a f ∧ (∀ k, OptR (f k) (b3 k)) ∧ (a == sysModules) = false
  etts : ∃ a f, W.mg "EXACT_TOKEN_TYPES" = some (.ref a) ∧ W.hB.MapOf (PySem.strKind W.prog W.w) a f ∧ (∀ k, OptR (f k) (ett k)) ∧ (a == sysModules) = false
  len : GN W "len" (.builtin "len")
  chr : GN W "chr" (.builtin "chr")
  ord : GN W "ord" (.builtin "ord")
  sum : GN W "sum" (.builtin "sum")
  range : GN W "range" (.type "range")
  list : GN W "list" (.type "list")
  enumerate : GN W "enumerate" (.type "enumerate")

variable {b1 : Int → Bool} {b3 : Int → Option Im} {ett : Str → Option Im}

theorem c_b1 (T : TopT W b1 b3 ett) {c : Nat} : Cf W (n + 1) "in_table_b1" [.str ⟨#[c]⟩] (.bool (b1 c)) := by
  obtain ⟨a, S, m, h1, h2, h3⟩ := T.b1s
  refine Cf.of T.defs (k := kB1) rfl (names := ["code"]) (fun pm cd doc vs h => ?_) (by decide) (by decide) rfl (fun L a cd hk => ?_)
  · obtain ⟨v, rfl⟩ := eq_one h
    rfl
  · rw [← h3]
    exact Tr.stop (Tr.ret (EvT.inSet hk rfl h1 h2 (Ev.callB hk rfl T.ord (EvL.cons (Ev.nameI hk rfl) EvL.nil) OpC.ord) rfl))

def mapB3 (b3 : Int → Option Im) (c : Nat) : Im := match b3 c with | some a => a | none => .str (Txt.lower ⟨#[c]⟩)
theorem c_b3 (T : TopT W b1 b3 ett) {c : Nat} (hb : ∀ a, b3 c = some a → a.isNone = false) : Cf W (n + 1) "map_table_b3" [.str ⟨#[c]⟩] (.it (.im (mapB3 b3 c))) := by
  obtain ⟨a, f, h1, h2, h3, h4⟩ := T.b3s
  refine Cf.of T.defs (k := kB3) rfl (names := ["code"]) (fun pm cd doc vs h => ?_) (by decide) (by decide) rfl (fun L a cd hk => ?_)
  · obtain ⟨v, rfl⟩ := eq_one h
    rfl
  · refine Tr.cons (Tr.assign hk (Ev.get1 hk rfl h1 h2 h3 (keyI (c : Int)) h4 (Ev.callB hk rfl T.ord (EvL.cons (Ev.nameI hk rfl) EvL.nil) OpC.ord)) (.inl rfl)) ?_
    unfold mapB3
    cases hc : b3 c with
    | none =>
      refine Tr.cons (Tr.ite (b := false) (EvT.cmp (Ev.nameI hk rfl) Ev.cnone Op2.isnN) (fun h => by cases h) (fun _ => Tr.nil)) ?_
      exact Tr.stop (Tr.ret (Ev.meth0 (Ev.nameI hk rfl) F.plainAttrs_str F.slot_str_lower F.type_str_lower str_typed (OpM.lower (by show (1 : Nat) ≤ _; decide))))
    | some b =>
      have e : (!b.isNone) = true := by rw [hb b hc]; rfl
      refine Tr.stop (Tr.ite (e ▸ EvT.cmp (Ev.nameI hk rfl) Ev.cnone Op2.isnN) (fun _ => Tr.stop (Tr.ret (Ev.nameI hk rfl))) (fun h => by cases h))

/-- the table of unseen signs, as the text spells it -/
def codesL : List Int := [173, 847, 6150, 6155, 6156, 6157, 8203, 8204, 8205, 8288, 65279] ++ rngL 65024 65040
def uns (k : Nat) : List Nat := match codesL[k]? with | some c => [c.toNat] | none => []
theorem uns_eq : ∀ k : Fin 28, (pk (some (k : Int)) (some ((k : Int) + 1)) none codesL).map (fun i => (⟨#[i.toNat]⟩ : Str)) = (uns k).map fun c => (⟨#[c]⟩ : Str) := by decide +kernel
theorem uns_range : ∀ k : Fin 28, ∀ i ∈ pk (some (k : Int)) (some ((k : Int) + 1)) none codesL, 0 ≤ i ∧ i ≤ 0x10FFFF := by decide +kernel
theorem c_unseen (T : TopT W b1 b3 ett) {k : Nat} (hk28 : k < 28) : Cf W (n + 1) "_law_unseen" [.int k] (.str (Txt.join "" ((uns k).map fun c => (⟨#[c]⟩ : Str)))) := by
  refine Cf.of T.defs (k := kUnseen) rfl (names := ["k"]) (fun pm cd doc vs h => ?_) (by decide) (by decide) rfl (fun L a cd hk => ?_)
  · obtain ⟨v, rfl⟩ := eq_one h
    rfl
  · have e1 : Ev W n true (envOfC "_law_unseen" (scopeOf PW kUnseen) L a cd) (lk (ent ["k"] [.int k])) (eval (match (bodyOf PW kUnseen)[0]? with | some (Stmt.Assign _ v _) => v | _ => default) (envOfC "_law_unseen" (scopeOf PW kUnseen) L a cd)) (.list (codesL.map It.int)) :=
      Ev.bin (Ev.listD (ds := ([173, 847, 6150, 6155, 6156, 6157, 8203, 8204, 8205, 8288, 65279] : List Int).map It.int) (EvL.cons Ev.cint (EvL.cons Ev.cint (EvL.cons Ev.cint (EvL.cons Ev.cint (EvL.cons Ev.cint (EvL.cons Ev.cint (EvL.cons Ev.cint (EvL.cons Ev.cint (EvL.cons Ev.cint (EvL.cons Ev.cint (EvL.cons Ev.cint EvL.nil))))))))))) (by decide))
        (Ev.callT hk rfl T.list (EvL.cons (Ev.callT hk rfl T.range (EvL.cons Ev.cint (EvL.cons Ev.cint EvL.nil)) OpC.range2) EvL.nil) (OpC.listR (by decide) (by decide) (by decide) (by decide) (by decide))) (Op2.addL' List.map_append (by decide))
    refine Tr.cons (Tr.assign hk e1 (.inl rfl)) ?_
    have hlen : codesL.length = 27 := by decide +kernel
    have hr := uns_range ⟨k, hk28⟩
    have hu := uns_eq ⟨k, hk28⟩
    have hsl : (pk (some (k : Int)) (some ((k : Int) + 1)) none codesL).length ≤ 1 := by
      have : ((uns k).map fun c => (⟨#[c]⟩ : Str)).length ≤ 1 := by
        rw [List.length_map]; unfold uns; split <;> simp
      rw [← hu, List.length_map] at this; exact this
    simp only at hr hu
    generalize codesL = cl at *
    have hf : ∀ xs : List Int, (xs.map It.int).filterMap (fun x => match x with | .im (.int i) => some (It.str ⟨#[i.toNat]⟩) | _ => none) = (xs.map fun i => (⟨#[i.toNat]⟩ : Str)).map It.str := by
      intro xs
      induction xs with
      | nil => rfl
      | cons x r ih => simp only [List.map_cons, List.filterMap_cons, ih]
    refine Tr.stop (Tr.ret (Ev.meth (Ev.cstr) F.plainAttrs_str F.slot_str_join F.type_str_join str_typed (EvL.cons (Ev.to (Ev.comp hk (Comp.closed (us := []) (xs := (pk (some (k : Int)) (some ((k : Int) + 1)) none cl).map It.int)
      (f := fun x => match x with | .im (.int i) => some (It.str ⟨#[i.toNat]⟩) | _ => none) ?_ (by decide) (by decide) rfl (by decide) ?_ ?_)) (congrArg PV.list ((hf _).trans (congrArg (List.map It.str) hu)))) EvL.nil) (OpM.join ?_)))
    · exact Src.listNew (.inl ⟨_, _, rfl⟩) (Ev.to (Ev.sliceL (Ev.name hk rfl) (EvP.some (Ev.nameI hk rfl)) (EvP.some (Ev.bin (Ev.nameI hk rfl) Ev.cint Op2.addI)) EvP.none (by decide) (by rw [List.length_map, hlen]; decide)) (congrArg PV.list (pk_map _ _ _ _ _)))
    · intro C hk' x hx
      obtain ⟨i, hi, rfl⟩ := List.mem_map.mp hx
      obtain ⟨h1, h2⟩ := hr i hi
      exact ⟨_, true, .name, fun b hb => by simp only [List.mem_singleton] at hb; subst hb; rfl, EvIfs.nil, fun h => (by cases h), fun _ => ⟨_, rfl, Ev.callB hk' rfl T.chr (EvL.cons (Ev.nameI hk' rfl) EvL.nil) (OpC.chr h1 h2)⟩⟩
    · rw [List.length_map]; exact Nat.le_trans hsl (by decide)
    · refine joinOk_of ?_
      unfold uns
      split
      · show 1 + 0 + 0 ≤ 2 ^ 24; decide
      · decide
end Mine
end

/-! N2d -/
section
open PySem PySem.Calls PyProof.Rows PySem.W
set_option maxRecDepth 100000
namespace Mine
variable {W : Wd} {n : Nat} {b1 : Int → Bool} {b3 : Int → Option Im} {ett : Str → Option Im}

/-- the table b3 holds short texts -/
def B3ok (b3 : Int → Option Im) : Prop := ∀ k a, b3 k = some a → ∃ x : Str, a = .str x ∧ x.length ≤ 4
def m3 (b3 : Int → Option Im) (c : Nat) : Str := match b3 c with | some (.str x) => x | _ => Txt.lower ⟨#[c]⟩
theorem m3_eq (h : B3ok b3) (c : Nat) : mapB3 b3 c = .str (m3 b3 c) := by
  unfold mapB3 m3
  cases hc : b3 c with
  | none => rfl
  | some a => obtain ⟨x, rfl, _⟩ := h _ _ hc; rfl
theorem m3_len (h : B3ok b3) (c : Nat) : (m3 b3 c).length ≤ 4 := by
  unfold m3
  cases hc : b3 c with
  | none => exact Nat.le_trans (len_lower _) (by show 3 * 1 ≤ 4; decide)
  | some a => obtain ⟨x, rfl, hx⟩ := h _ _ hc; exact hx
def prep (b1 : Int → Bool) (b3 : Int → Option Im) (x : List Nat) : List Str := (x.filter fun (c : Nat) => !b1 (c : Int)).map (m3 b3)
def prepF (b1 : Int → Bool) (b3 : Int → Option Im) : It → Option It
  | .im (.str x) => match x.cps.toList with | [c] => if b1 c then none else some (.str (m3 b3 c)) | _ => none
  | _ => none
theorem prepF_eq (x : Str) : (chars x).filterMap (prepF b1 b3) = (prep b1 b3 x.cps.toList).map It.str := by
  unfold chars prep
  induction x.cps.toList with
  | nil => rfl
  | cons c r ih =>
    simp only [List.map_cons, List.filterMap_cons, List.filter_cons, prepF]
    cases h : b1 c <;> simp [ih]
theorem c_prep (T : TopT W b1 b3 ett) (h3 : B3ok b3) {x : Str} (hx : x.length ≤ 2 ^ 18) : Cf W (n + 2) "_law_prepared" [.str x] (.str (Txt.join "" (prep b1 b3 x.cps.toList))) := by
  refine Cf.of T.defs (k := kPrep) rfl (names := ["text"]) (fun pm cd doc vs h => ?_) (by decide) (by decide) rfl (fun L a cd hk => ?_)
  · obtain ⟨v, rfl⟩ := eq_one h
    rfl
  · refine Tr.stop (Tr.ret (Ev.meth (Ev.cstr) F.plainAttrs_str F.slot_str_join F.type_str_join str_typed (EvL.cons (Ev.to (Ev.comp hk (Comp.closed (us := []) (xs := chars x) (f := prepF b1 b3)
      ?_ (by decide) (by decide) rfl (by decide) ?_ ?_)) (congrArg PV.list (prepF_eq x))) EvL.nil) (OpM.join ?_)))
    · exact Src.str ⟨_, _, rfl⟩ (Ev.nameI hk rfl)
    · intro C hk' y hy
      obtain ⟨c, hc, rfl⟩ := List.mem_map.mp hy
      refine ⟨_, !b1 c, .name, fun b hb => by simp only [List.mem_singleton] at hb; subst hb; rfl, EvIfs.one (EvT.not (EvT.boolv (Ev.callD hk' rfl (c_b1 T) (EvL.cons (Ev.nameI hk' rfl) EvL.nil)))), fun h => ?_, fun h => ⟨.str (m3 b3 c), ?_, Ev.to (Ev.callD hk' rfl (c_b3 T ?_) (EvL.cons (Ev.nameI hk' rfl) EvL.nil)) ?_⟩⟩
      · have : b1 c = true := by simpa using h
        simp [prepF, this]
      · have : b1 c = false := by simpa using h
        simp [prepF, this]
      · intro a ha
        obtain ⟨z, rfl, _⟩ := h3 _ _ ha
        rfl
      · rw [m3_eq h3]
    · have : (chars x).length = x.length := by simp [chars, Str.length]
      rw [this, sizeLine]; omega
    · refine joinOk_of ?_
      have key : ∀ l : List Nat, ((prep b1 b3 l).map fun y => y.length + ("" : Str).length).sum ≤ 4 * l.length := by
        intro l
        unfold prep
        induction l with
        | nil => simp
        | cons c r ih =>
          simp only [List.filter_cons]
          split
          · simp only [List.map_cons, List.sum_cons, List.length_cons]
            have := m3_len h3 c
            have e : ("" : Str).length = 0 := rfl
            omega
          · simp only [List.length_cons]; omega
      have := key x.cps.toList
      have e : x.cps.toList.length = x.length := by simp [Str.length]
      rw [e] at this
      rw [sizeLine]; omega
end Mine
end

/-! N2e -/
section
open PySem PySem.Calls PyProof.Rows PySem.W
set_option maxRecDepth 100000
namespace Mine
variable {W : Wd} {n : Nat} {b1 : Int → Bool} {b3 : Int → Option Im} {ett : Str → Option Im}

/-- the table of signs holds numbers -/
def EttOk (ett : Str → Option Im) : Prop := ∀ k a, ett k = some a → ∃ i : Int, a = .int i ∧ 0 < i ∧ i < 100
def num (ett : Str → Option Im) (x : List Nat) : Int := match ett (S x) with | some (.int i) => i | _ => 0
theorem num_eq (h : EttOk ett) (x : List Nat) : (ett (S x)).getD (.int 0) = .int (num ett x) := by
  unfold num
  cases hc : ett (S x) with
  | none => rfl
  | some a => obtain ⟨i, rfl, _⟩ := h _ _ hc; rfl
theorem num_rng (h : EttOk ett) (x : List Nat) : 0 ≤ num ett x ∧ num ett x < 100 := by
  unfold num
  cases hc : ett (S x) with
  | none => exact ⟨by decide, by decide⟩
  | some a => obtain ⟨i, rfl, h1, h2⟩ := h _ _ hc; exact ⟨by show 0 ≤ i; omega, h2⟩
/-- the longest sign of the table in front, else one letter -/
def tokSize (ett : Str → Option Im) (x : List Nat) : Nat := if num ett (x.take 3) ≠ 0 then 3 else if num ett (x.take 2) ≠ 0 then 2 else 1
def wordL (ett : Str → Option Im) : Nat → List Nat → List Nat
  | 0, _ => []
  | f + 1, x => if x = [] then [] else
    (if num ett (x.take (tokSize ett x)) = 0 then x.take (tokSize ett x) else [(256 + num ett (x.take (tokSize ett x))).toNat]) ++ wordL ett f (x.drop (tokSize ett x))

abbrev wEnv (L a : Addr) (cd : Value) : Env := envOfC "_law_word" (scopeOf PW kWord) L a cd
theorem ev_num {env : Env} {σ : Sto} {fr : Bool} (T : TopT W b1 b3 ett) (he : EttOk ett) (hk : EnvOk env) {p apos pos : Pos} {e1 : Expr} {k2 : Nat} {p2 : Pos} {x : List Nat} (hx : env.kindOf "EXACT_TOKEN_TYPES" = some .globalImplicit)
    (h1 : Ev W n false env σ (eval e1 env) (.str (S x)))
    (hbase : attributeBase (.Name "EXACT_TOKEN_TYPES" p) "get" env (eval (.Name "EXACT_TOKEN_TYPES" p) env) = eval (.Name "EXACT_TOKEN_TYPES" p) env := by with_unfolding_all rfl)
    (hfew : ((backTo pos (starEach [e1, .Constant (.int 0) k2 p2] env)).all (fun x => !x.1) && (backToKw pos (keywordEach [] env)).all (fun x => x.1.isSome) && decide ([e1, .Constant (.int 0) k2 p2].length + ([] : List Keyword).length + (if ([] : List Keyword).isEmpty then 0 else 1) < 30)) = true := by rfl)
    (hline : (apos.endLine == pos.line) = true := by rfl)
    (htr : backTo pos (starEach [e1, .Constant (.int 0) k2 p2] env) = [(false, eval e1 env), (false, eval (.Constant (.int 0) k2 p2) env)] := by rfl) :
    Ev W n fr env σ (eval (.Call (.Attribute (.Name "EXACT_TOKEN_TYPES" p) "get" apos) [e1, .Constant (.int 0) k2 p2] [] pos) env) (.int (num ett x)) := by
  obtain ⟨a, f, h2, h3, h4, h5⟩ := T.etts
  exact Ev.to (Ev.get2 hk hx h2 h3 h4 (keyS (S x)) h5 h1 Ev.cint hbase hfew hline htr) (by rw [num_eq he])
abbrev wSt (x w : List Nat) (sz : Nat) : Sl := [("text", .str (S x), false), ("word", .str (S w), false), ("size", .int (sz : Nat), false)]
abbrev wSt0 (x w : List Nat) : Sl := [("text", .str (S x), false), ("word", .str (S w), false)]
theorem tok_of {x : List Nat} {sz : Nat} (h1 : 1 ≤ sz) (h3 : sz ≤ 3) (h4 : sz < 3 → num ett (x.take 3) = 0) (h5 : sz < 2 → num ett (x.take 2) = 0) (h6 : 1 < sz → num ett (x.take sz) ≠ 0) : tokSize ett x = sz := by
  unfold tokSize
  have : sz = 1 ∨ sz = 2 ∨ sz = 3 := by omega
  rcases this with rfl | rfl | rfl
  · rw [if_neg (by simpa using h4 (by omega)), if_neg (by simpa using h5 (by omega))]
  · rw [if_neg (by simpa using h4 (by omega)), if_pos (h6 (by omega))]
  · rw [if_pos (h6 (by omega))]
theorem tok_rng (x : List Nat) : 1 ≤ tokSize ett x ∧ tokSize ett x ≤ 3 := by
  unfold tokSize
  split
  · omega
  · split <;> omega
theorem wordL_len (he : EttOk ett) : ∀ (f : Nat) (x : List Nat), (wordL ett f x).length ≤ x.length
  | 0, _ => by simp [wordL]
  | f + 1, x => by
    unfold wordL
    split
    · simp
    · rename_i h
      have h1 := wordL_len he f (x.drop (tokSize ett x))
      obtain ⟨h2, h3⟩ := tok_rng (ett := ett) x
      have h4 : 0 < x.length := List.length_pos_iff.mpr h
      rw [List.length_append, List.length_drop] at *
      split
      · rw [List.length_take]; omega
      · simp only [List.length_singleton]; omega
theorem wordL_fuel : ∀ (f g : Nat) (x : List Nat), x.length ≤ f → x.length ≤ g → wordL ett f x = wordL ett g x
  | 0, 0, _, _, _ => rfl
  | 0, g + 1, x, h, _ => by
    have : x = [] := List.length_eq_zero_iff.mp (by omega)
    subst this; simp [wordL]
  | f + 1, 0, x, _, h => by
    have : x = [] := List.length_eq_zero_iff.mp (by omega)
    subst this; simp [wordL]
  | f + 1, g + 1, x, h, h' => by
    unfold wordL
    split
    · rfl
    · rename_i hne
      obtain ⟨h2, h3⟩ := tok_rng (ett := ett) x
      have h4 : 0 < x.length := List.length_pos_iff.mpr hne
      rw [wordL_fuel f g (x.drop (tokSize ett x)) (by rw [List.length_drop]; omega) (by rw [List.length_drop]; omega)]
theorem wordL_step {y : List Nat} (hne : y ≠ []) : wordL ett y.length y = (if num ett (y.take (tokSize ett y)) = 0 then y.take (tokSize ett y) else [(256 + num ett (y.take (tokSize ett y))).toNat]) ++ wordL ett (y.drop (tokSize ett y)).length (y.drop (tokSize ett y)) := by
  have hpos : 0 < y.length := List.length_pos_iff.mpr hne
  obtain ⟨h2, h3⟩ := tok_rng (ett := ett) y
  obtain ⟨f, hf⟩ : ∃ f, y.length = f + 1 := ⟨y.length - 1, by omega⟩
  have : wordL ett y.length y = wordL ett (f + 1) y := by rw [hf]
  rw [this]
  show (if y = [] then [] else _) = _
  rw [if_neg hne]
  congr 1
  exact wordL_fuel _ _ _ (by rw [List.length_drop]; omega) (Nat.le_refl _)
theorem lk_le {l l' : Sl} {x : Str} {d : PV} (h : le l' l) (e : lk l' x = some d) : lk l x = some d := by
  simp only [lk, Option.map_eq_some_iff] at e ⊢
  obtain ⟨⟨d', b⟩, e, rfl⟩ := e
  obtain ⟨b', e', _⟩ := h x d' b e
  exact ⟨(d', b'), e', rfl⟩
theorem c_word (T : TopT W b1 b3 ett) (he : EttOk ett) {x : List Nat} (hx : x.length ≤ 2 ^ 20) : Cf W (n + 2) "_law_word" [.str (S x)] (.str (S (wordL ett x.length x))) := by
  obtain ⟨t, hE⟩ := T.eof
  refine Cf.of T.defs (k := kWord) rfl (names := ["text"]) (fun pm cd doc vs h => ?_) (by decide) (by decide) rfl (fun L a cd hk => ?_)
  · obtain ⟨v, rfl⟩ := eq_one h
    rfl
  · refine Tr.cons (Tr.assign hk Ev.cstr (.inl rfl)) (Tr.cons (l1 := [("word", .str (S (wordL ett x.length x)), false)]) ?_ (Tr.stop (Tr.ret (Ev.nameI hk rfl))))
    refine Tr.while (k := x.length) (P := fun k l o => ∃ y w, k = y.length ∧ y.length ≤ x.length ∧ w.length + y.length ≤ x.length ∧ le (wSt0 y w) l ∧ o = .next [("word", .str (S (w ++ wordL ett y.length y)), false)]) ⟨x, [], rfl, Nat.le_refl _, by simp, le_cons (le_cons le_nil (by simp)) id, rfl⟩ ?_
    rintro k l' o' ⟨y, w, rfl, hy, hwy, hle, rfl⟩
    have e0 : (S y != ("" : Str)) = !(y == []) := by
      have : ("" : Str) = S [] := rfl
      rw [this, bne, S_beq]
    have hlx : lk l' "text" = some (.str (S y)) := by
      obtain ⟨b, e, _⟩ := hle "text" _ _ rfl
      simp only [lk, e]; rfl
    refine ⟨_, EvT.cmp (Ev.nameI hk hlx) Ev.cstr Op2.neS, fun h => ?_, fun h => ?_⟩
    · rw [e0] at h
      have : y = [] := by simpa using h
      subst this
      refine ⟨_, rfl, fun z d b e => ?_⟩
      have e2 : wordL ett ([] : List Nat).length [] = [] := rfl
      rw [e2, List.append_nil] at e
      simp only [List.lookup_cons] at e
      split at e
      · rename_i hz
        have : z = "word" := by simpa using hz
        subst this
        cases e
        exact hle "word" _ _ rfl
      · simp at e
    · rw [e0] at h
      have hne : y ≠ [] := by simpa using h
      have hpos : 0 < y.length := List.length_pos_iff.mpr hne
      obtain ⟨ht1, ht2⟩ := tok_rng (ett := ett) y
      have step := wordL_step (ett := ett) hne
      refine ⟨.next (wSt (y.drop (tokSize ett y)) (w ++ (if num ett (y.take (tokSize ett y)) = 0 then y.take (tokSize ett y) else [(256 + num ett (y.take (tokSize ett y))).toNat])) (tokSize ett y)), Tr.pre ?_ hle, ?_⟩
      · refine Tr.cons (Tr.assign hk Ev.cint (.inl rfl)) (Tr.cons (l1 := wSt y w (tokSize ett y)) ?_ ?_)
        · refine Tr.while (k := 3) (P := fun k l o => ∃ sz : Nat, k = sz ∧ 1 ≤ sz ∧ le (wSt y w sz) l ∧ sz ≤ 3 ∧ (sz < 3 → num ett (y.take 3) = 0) ∧ (sz < 2 → num ett (y.take 2) = 0) ∧
            o = .next (wSt y w (tokSize ett y))) ⟨3, rfl, by omega, le_cons (le_cons (le_cons le_nil (by simp)) id) id, by omega, by omega, by omega, rfl⟩ ?_
          rintro sz l' o' ⟨_, rfl, h1, hle, h3, h4, h5, rfl⟩
          refine ⟨decide ((1 : Int) < sz) && (num ett (y.take sz) == 0), ?_, fun h => ?_, fun h => ?_⟩
          · refine (Bool.and_true (num ett (y.take sz) == 0)) ▸ EvT.and (EvT.cmp (Ev.nameI hk (lk_le hle rfl)) Ev.cint Op2.gtI) (fun _ => EvT.and (EvT.boolv (Ev.callD hk rfl (c_ISEOF T.defs hE) (EvL.cons (ev_num (x := y.take sz) T he hk rfl (Ev.to (Ev.sliceS (Ev.nameI hk (lk_le hle rfl)) EvP.none (EvP.some (Ev.nameI hk (lk_le hle rfl))) EvP.none (by decide) (by rw [len_S, sizeLine]; omega)) (by rw [pkS_S, pk_to]))) EvL.nil))) (fun _ => EvT.and_nil))
          · have : tokSize ett y = sz := tok_of h1 h3 h4 h5 fun h6 => by
              have : decide ((1 : Int) < sz) = true := by simp; omega
              rw [this] at h
              simpa using h
            exact ⟨_, rfl, this ▸ hle⟩
          · simp only [Bool.and_eq_true, decide_eq_true_eq, beq_iff_eq] at h
            refine ⟨.next (wSt y w (sz - 1)), Tr.pre (Tr.post (Tr.cons (Tr.aug hk (.inl rfl) rfl Ev.cint isubI) Tr.nil) ?_) hle, sz - 1, _, by omega, le.refl _, sz - 1, rfl, by omega, le.refl _, by omega, fun q => ?_, fun q => ?_, rfl⟩
            · have e : ((sz : Nat) : Int) - 1 = ((sz - 1 : Nat) : Int) := by omega
              rw [e]
              exact le_cons (le_cons (le_cons le_nil (by simp)) id) id
            · have : sz = 3 ∨ sz < 3 := by omega
              rcases this with rfl | q
              · exact h.2
              · exact h4 q
            · have : sz = 2 := by omega
              subst this; exact h.2
        · generalize htk : tokSize ett y = sz at *
          have hnum := num_rng he (y.take sz)
          refine Tr.cons (Tr.assign hk (ev_num (x := y.take sz) T he hk rfl (Ev.to (Ev.sliceS (Ev.nameI hk rfl) EvP.none (EvP.some (Ev.nameI hk rfl)) EvP.none (by decide) (by rw [len_S, sizeLine]; omega)) (by rw [pkS_S, pk_to]))) (.inl rfl)) ?_
          refine Tr.cons (Tr.aug (d2 := .str (S (if num ett (y.take sz) = 0 then y.take sz else [(256 + num ett (y.take sz)).toNat]))) (d := .str (S (w ++ (if num ett (y.take sz) = 0 then y.take sz else [(256 + num ett (y.take sz)).toNat])))) hk (.inl rfl) rfl
            (Ev.ifexp (b := num ett (y.take sz) == 0) (EvT.boolv (Ev.callD hk rfl (c_ISEOF T.defs hE) (EvL.cons (Ev.nameI hk rfl) EvL.nil))) (fun h => Ev.to (Ev.sliceS (Ev.nameI hk rfl) EvP.none (EvP.some (Ev.nameI hk rfl)) EvP.none (by decide) (by rw [len_S, sizeLine]; omega)) (by
                rw [pkS_S, pk_to, if_pos (by simpa using h)]))
              (fun h => Ev.to (Ev.callB hk rfl T.chr (EvL.cons (Ev.bin Ev.cint (Ev.nameI hk rfl) Op2.addI) EvL.nil) (OpC.chr (by omega) (by omega))) (by rw [if_neg (by simpa using h)]; rfl)))
            (by rw [← S_add]; exact iaddS (by
                  rw [len_S, len_S, sizeLine]
                  split
                  · rw [List.length_take]; omega
                  · simp only [List.length_singleton]; omega))) ?_
          refine Tr.post (Tr.cons (Tr.assign hk (Ev.to (d' := .str (S (y.drop sz))) (Ev.sliceS (Ev.nameI hk rfl) (EvP.some (Ev.nameI hk rfl)) EvP.none EvP.none (by decide) (by rw [len_S, sizeLine]; omega)) (by rw [pkS_S, pk_from])) (.inl rfl)) Tr.nil) ?_
          exact le_cons (le_cons (le_cons le_nil id) (by simp)) (by simp)
      · refine ⟨_, _, ?_, le.refl _, y.drop (tokSize ett y), _, rfl, ?_, ?_, le_cons (le_cons le_nil id) id, ?_⟩
        · rw [List.length_drop]; omega
        · rw [List.length_drop]; omega
        · rw [List.length_append, List.length_drop]
          split
          · rw [List.length_take]; omega
          · simp only [List.length_singleton]; omega
        · rw [step, List.append_assoc]
end Mine
end

/-! N2f -/
section
open PySem PySem.Calls PyProof.Rows PySem.W
set_option maxRecDepth 100000
namespace Mine
variable {W : Wd} {n : Nat} {b1 : Int → Bool} {b3 : Int → Option Im} {ett : Str → Option Im}
def kPlain : Nat := 68

def runN (x : List Nat) : Nat := match x with | [] => 0 | c :: r => 1 + (r.takeWhile (· == c)).length
def plainHd (x : List Nat) : List Nat :=
  if x.head? = some 42 then List.replicate (runN x / 2) 291 ++ List.replicate (runN x % 2) 272
  else if x.head? = some 47 then List.replicate (runN x / 2) 303 ++ List.replicate (runN x % 2) 273
  else x.take (runN x)
def plainL : Nat → List Nat → List Nat
  | 0, _ => []
  | f + 1, x => if x = [] then [] else plainHd x ++ plainL f (x.drop (runN x))
theorem run_rng {x : List Nat} (h : x ≠ []) : 1 ≤ runN x ∧ runN x ≤ x.length := by
  cases x with
  | nil => exact absurd rfl h
  | cons c r =>
    have := (List.takeWhile_sublist (· == c) (l := r)).length_le
    simp only [runN, List.length_cons]; omega
theorem plainHd_len {x : List Nat} : (plainHd x).length ≤ runN x := by
  unfold plainHd
  split
  · simp only [List.length_append, List.length_replicate]; omega
  · split
    · simp only [List.length_append, List.length_replicate]; omega
    · rw [List.length_take]; omega
theorem plainL_fuel : ∀ (f g : Nat) (x : List Nat), x.length ≤ f → x.length ≤ g → plainL f x = plainL g x
  | 0, 0, _, _, _ => rfl
  | 0, g + 1, x, h, _ => by
    have : x = [] := List.length_eq_zero_iff.mp (by omega)
    subst this; simp [plainL]
  | f + 1, 0, x, _, h => by
    have : x = [] := List.length_eq_zero_iff.mp (by omega)
    subst this; simp [plainL]
  | f + 1, g + 1, x, h, h' => by
    unfold plainL
    split
    · rfl
    · rename_i hne
      obtain ⟨h2, h3⟩ := run_rng hne
      rw [plainL_fuel f g (x.drop (runN x)) (by rw [List.length_drop]; omega) (by rw [List.length_drop]; omega)]
theorem plainL_step {y : List Nat} (hne : y ≠ []) : plainL y.length y = plainHd y ++ plainL (y.drop (runN y)).length (y.drop (runN y)) := by
  have hpos : 0 < y.length := List.length_pos_iff.mpr hne
  obtain ⟨h2, h3⟩ := run_rng hne
  obtain ⟨f, hf⟩ : ∃ f, y.length = f + 1 := ⟨y.length - 1, by omega⟩
  have : plainL y.length y = plainL (f + 1) y := by rw [hf]
  rw [this]
  show (if y = [] then [] else _) = _
  rw [if_neg hne]
  congr 1
  exact plainL_fuel _ _ _ (by rw [List.length_drop]; omega) (Nat.le_refl _)
theorem tw_get (p : Nat → Bool) : ∀ (r : List Nat) (i : Nat), i < (r.takeWhile p).length → ∃ d, r[i]? = some d ∧ p d = true
  | [], i, h => by simp at h
  | c :: r, i, h => by
    rw [List.takeWhile_cons] at h
    split at h
    · rename_i hp
      cases i with
      | zero => exact ⟨c, rfl, hp⟩
      | succ i => exact tw_get p r i (by simpa using h)
    · simp at h
theorem tw_end (p : Nat → Bool) : ∀ (r : List Nat) (d : Nat), r[(r.takeWhile p).length]? = some d → p d = false
  | [], d, h => by simp at h
  | c :: r, d, h => by
    rw [List.takeWhile_cons] at h
    split at h
    · exact tw_end p r d (by simpa using h)
    · rename_i hp
      simp at h; subst h; simpa using hp
theorem one_at (x : List Nat) (i : Nat) : (x.take (i + 1)).drop i = (x[i]?).toList := by
  rw [List.take_add_one, List.drop_append]
  cases h : x[i]? with
  | none =>
    have := List.getElem?_eq_none_iff.mp h
    simp; try omega
  | some d =>
    have : i < x.length := by
      rcases Nat.lt_or_ge i x.length with q | q
      · exact q
      · rw [List.getElem?_eq_none q] at h; cases h
    have e : (x.take i).length = i := by rw [List.length_take]; omega
    rw [List.drop_of_length_le (by omega), e]; simp
theorem run_test {c : Nat} {r : List Nat} {sz : Nat} (h1 : 1 ≤ sz) (h2 : sz ≤ runN (c :: r)) : ((((c :: r).take (sz + 1)).drop sz) == [c]) = decide (sz < runN (c :: r)) := by
  rw [one_at, Bool.eq_iff_iff]
  simp only [beq_iff_eq, decide_eq_true_eq]
  obtain ⟨i, rfl⟩ : ∃ i, sz = i + 1 := ⟨sz - 1, by omega⟩
  have e : runN (c :: r) = 1 + (r.takeWhile (· == c)).length := rfl
  rw [e] at h2 ⊢
  simp only [List.getElem?_cons_succ]
  by_cases h : i < (r.takeWhile (· == c)).length
  · obtain ⟨d, hd, hp⟩ := tw_get _ _ _ h
    have : d = c := by simpa using hp
    rw [hd, this]
    exact ⟨fun _ => by omega, fun _ => rfl⟩
  · have hi : i = (r.takeWhile (· == c)).length := by omega
    refine ⟨fun q => ?_, fun q => by omega⟩
    exfalso
    cases hd : r[i]? with
    | none => rw [hd] at q; simp at q
    | some d =>
      rw [hd] at q
      have q' : d = c := by simpa using q
      rw [hi] at hd
      have := tw_end _ _ _ hd
      rw [q'] at this
      simp at this
theorem rep_one (k : Nat) (c : Nat) : rep (k : Int) [c] = List.replicate k c := by
  unfold rep
  simp only [Int.toNat_natCast]
  induction k with
  | zero => rfl
  | succ k ih => rw [List.replicate_succ, List.flatten_cons, ih, List.replicate_succ]; rfl

abbrev plEnv (L a : Addr) (cd : Value) : Env := envOfC "_law_plain" (scopeOf PW kPlain) L a cd
theorem c_plain (T : TopT W b1 b3 ett) {x : List Nat} (hx : x.length ≤ 2 ^ 20) : Cf W (n + 1) "_law_plain" [.str (S x)] (.str (S (plainL x.length x))) := by
  refine Cf.of T.defs (k := kPlain) rfl (names := ["text"]) (fun pm cd doc vs h => ?_) (by decide) (by decide) rfl (fun L a cd hk => ?_)
  · obtain ⟨v, rfl⟩ := eq_one h
    rfl
  · refine Tr.cons (Tr.assign hk Ev.cstr (.inl rfl)) (Tr.cons (l1 := [("word", .str (S (plainL x.length x)), false)]) ?_ (Tr.stop (Tr.ret (Ev.nameI hk rfl))))
    refine Tr.while (k := x.length) (P := fun k l o => ∃ y w, k = y.length ∧ y.length ≤ x.length ∧ w.length + y.length ≤ x.length ∧ le (wSt0 y w) l ∧ o = .next [("word", .str (S (w ++ plainL y.length y)), false)]) ⟨x, [], rfl, Nat.le_refl _, by simp, le_cons (le_cons le_nil (by simp)) id, rfl⟩ ?_
    rintro k l' o' ⟨y, w, rfl, hy, hwy, hle, rfl⟩
    have e0 : (S y != ("" : Str)) = !(y == []) := by
      have : ("" : Str) = S [] := rfl
      rw [this, bne, S_beq]
    refine ⟨_, EvT.cmp (Ev.nameI hk (lk_le hle rfl)) Ev.cstr Op2.neS, fun h => ?_, fun h => ?_⟩
    · rw [e0] at h
      have : y = [] := by simpa using h
      subst this
      refine ⟨_, rfl, fun z d b e => ?_⟩
      have e2 : plainL ([] : List Nat).length [] = [] := rfl
      rw [e2, List.append_nil] at e
      simp only [List.lookup_cons] at e
      split at e
      · rename_i hz
        have : z = "word" := by simpa using hz
        subst this
        cases e
        exact hle "word" _ _ rfl
      · simp at e
    · rw [e0] at h
      have hne : y ≠ [] := by simpa using h
      obtain ⟨ht1, ht2⟩ := run_rng hne
      have step := plainL_step hne
      have hlen := plainHd_len (x := y)
      obtain ⟨c, r, hcr⟩ := List.exists_cons_of_ne_nil hne
      refine ⟨.next (wSt (y.drop (runN y)) (w ++ plainHd y) (runN y)), Tr.pre ?_ hle, ?_⟩
      · refine Tr.cons (Tr.assign hk Ev.cint (.inl rfl)) (Tr.cons (l1 := wSt y w (runN y)) ?_ ?_)
        · refine Tr.while (k := runN y - 1) (P := fun k l o => ∃ sz : Nat, k = runN y - sz ∧ 1 ≤ sz ∧ sz ≤ runN y ∧ le (wSt y w sz) l ∧ o = .next (wSt y w (runN y))) ⟨1, rfl, by omega, ht1, le_cons (le_cons (le_cons le_nil (by simp)) id) id, rfl⟩ ?_
          rintro k l' o' ⟨sz, rfl, h1, h3, hle, rfl⟩
          have et : (S (((y.take (sz + 1)).drop sz)) == (S [c])) = decide (sz < runN y) := by
            rw [S_beq]; subst hcr; exact run_test h1 h3
          refine ⟨decide (sz < runN y), et ▸ EvT.cmp (d2 := .str (S [c])) (Ev.to (Ev.sliceS (Ev.nameI hk (lk_le hle rfl)) (EvP.some (Ev.nameI hk (lk_le hle rfl))) (EvP.some (Ev.bin (Ev.nameI hk (lk_le hle rfl)) Ev.cint Op2.addI)) EvP.none (by decide) (by rw [len_S, sizeLine]; omega)) (by
              rw [pkS_S, show ((sz : Nat) : Int) + 1 = ((sz + 1 : Nat) : Int) by omega, pk_pos])) (Ev.subS (Ev.nameI hk (lk_le hle rfl)) Ev.cint (by decide) (by decide) (by subst hcr; rfl)) Op2.eqS, fun h => ?_, fun h => ?_⟩
          · have : sz = runN y := by simp at h; omega
            exact ⟨_, rfl, this ▸ hle⟩
          · have h' : sz < runN y := by simpa using h
            refine ⟨.next (wSt y w (sz + 1)), Tr.pre (Tr.post (Tr.cons (Tr.aug hk (.inl rfl) rfl Ev.cint iaddI) Tr.nil) ?_) hle, runN y - (sz + 1), _, by omega, le.refl _, sz + 1, rfl, by omega, h', le.refl _, rfl⟩
            exact le_cons (le_cons (le_cons le_nil (by simp)) id) id
        · have esz : ∀ k : Nat, ((k : Nat) : Int).fdiv 2 = ((k / 2 : Nat) : Int) := fun k => by rw [Int.fdiv_eq_ediv_of_nonneg _ (by decide)]; rfl
          have emd : ∀ k : Nat, ((k : Nat) : Int).fmod 2 = ((k % 2 : Nat) : Int) := fun k => by rw [Int.fmod_eq_emod_of_nonneg _ (by decide)]; rfl
          have mulrule : ∀ (l : Sl) (c k : Nat), c ≤ 0x10FFFF → k ≤ 2 ^ 20 → ∀ (e1 e2 : Expr) (p : Pos), Ev W n false (plEnv L a cd) (lk l) (eval e1 (plEnv L a cd)) (.str ⟨#[c]⟩) → Ev W n false (plEnv L a cd) (lk l) (eval e2 (plEnv L a cd)) (.int (k : Nat)) →
              Ev W n false (plEnv L a cd) (lk l) (eval (.BinOp e1 .Mult e2 p) (plEnv L a cd)) (.str (S (List.replicate k c))) := fun l c k _ hk2 e1 e2 p h1 h2 => by
            refine Ev.to (Ev.bin h1 h2 (Op2.mulS (by omega) (by omega) ?_)) ?_
            · show 1 * ((k : Nat) : Int).toNat ≤ 2 ^ 24
              rw [Int.toNat_natCast]; omega
            · have : (⟨#[c]⟩ : Str) = S [c] := rfl
              rw [this, repS_S, rep_one]
          refine Tr.cons (l1 := wSt y (w ++ plainHd y) (runN y)) ?_ ?_
          · have hsub : ∀ (l : Sl), lk l "text" = some (.str (S y)) → ∀ (p p2 p3 : Pos) (k : Nat), Ev W n false (plEnv L a cd) (lk l) (eval (.Subscript (.Name "text" p) (.Constant (.int 0) k p2) p3) (plEnv L a cd)) (.str (S [c])) := fun l hl p p2 p3 k =>
              Ev.subS (Ev.nameI hk hl) Ev.cint (by decide) (by decide) (by subst hcr; rfl)
            have hw : w.length + (plainHd y).length ≤ 2 ^ 20 := by omega
            have hd : plainHd y = if c = 42 then List.replicate (runN y / 2) 291 ++ List.replicate (runN y % 2) 272 else if c = 47 then List.replicate (runN y / 2) 303 ++ List.replicate (runN y % 2) 273 else y.take (runN y) := by
              unfold plainHd
              have eh : ∀ z : Nat, (y.head? = some z) ↔ c = z := fun z => by rw [hcr]; simp
              by_cases h1 : c = 42
              · rw [if_pos ((eh 42).mpr h1), if_pos h1]
              · rw [if_neg (fun q => h1 ((eh 42).mp q)), if_neg h1]
                by_cases h2 : c = 47
                · rw [if_pos ((eh 47).mpr h2), if_pos h2]
                · rw [if_neg (fun q => h2 ((eh 47).mp q)), if_neg h2]
            have b1 : ∀ z : Nat, (S [c] == S [z]) = decide (c = z) := fun z => by rw [S_beq]; by_cases q : c = z <;> simp [q]
            refine Tr.ite (EvT.cmp (d2 := .str (S [42])) (hsub _ rfl _ _ _ _) Ev.cstr Op2.eqS) (fun h => ?_) (fun h => ?_)
            · rw [b1] at h
              have hc : c = 42 := by simpa using h
              rw [hd, if_pos hc] at hw ⊢
              rw [List.length_append] at hw
              refine Tr.post (Tr.cons (Tr.aug (d := .str (S (w ++ (List.replicate (runN y / 2) 291 ++ List.replicate (runN y % 2) 272)))) hk (.inl rfl) rfl
                (Ev.bin (mulrule _ 291 (runN y / 2) (by decide) (by omega) _ _ _ (Ev.callB hk rfl T.chr (EvL.cons Ev.cint EvL.nil) (OpC.chr (by decide) (by decide))) (Ev.to (Ev.bin (Ev.nameI hk rfl) Ev.cint (Op2.divI (by decide) (by decide))) (by rw [esz])))
                  (mulrule _ 272 (runN y % 2) (by decide) (by omega) _ _ _ (Ev.callB hk rfl T.chr (EvL.cons Ev.cint EvL.nil) (OpC.chr (by decide) (by decide))) (Ev.to (Ev.bin (Ev.nameI hk rfl) Ev.cint (Op2.modI (by decide))) (by rw [emd])))
                  (Op2.addS (by rw [len_S, len_S, sizeLine]; omega))) (by rw [← S_add, ← S_add]; exact iaddS (by rw [S_add, len_S, len_S, sizeLine, List.length_append]; omega))) Tr.nil) (le_cons (le_cons (le_cons le_nil id) (by simp)) id)
            · rw [b1] at h
              have hc : ¬ c = 42 := by simpa using h
              rw [hd, if_neg hc] at hw ⊢
              refine Tr.post (l1 := [("text", .str (S y), false), ("word", .str (S (w ++ if c = 47 then List.replicate (runN y / 2) 303 ++ List.replicate (runN y % 2) 273 else y.take (runN y))), true), ("size", .int (runN y : Nat), false)]) (Tr.cons (Tr.ite (EvT.cmp (d2 := .str (S [47])) (hsub _ rfl _ _ _ _) Ev.cstr Op2.eqS) (fun h => ?_) (fun h => ?_)) Tr.nil) (le_cons (le_cons (le_cons le_nil id) (by simp)) id)
              · rw [b1] at h
                have hc : c = 47 := by simpa using h
                rw [if_pos hc] at hw ⊢
                rw [List.length_append] at hw
                exact Tr.cons (Tr.aug (d := .str (S (w ++ (List.replicate (runN y / 2) 303 ++ List.replicate (runN y % 2) 273)))) hk (.inl rfl) rfl
                  (Ev.bin (mulrule _ 303 (runN y / 2) (by decide) (by omega) _ _ _ (Ev.callB hk rfl T.chr (EvL.cons Ev.cint EvL.nil) (OpC.chr (by decide) (by decide))) (Ev.to (Ev.bin (Ev.nameI hk rfl) Ev.cint (Op2.divI (by decide) (by decide))) (by rw [esz])))
                    (mulrule _ 273 (runN y % 2) (by decide) (by omega) _ _ _ (Ev.callB hk rfl T.chr (EvL.cons Ev.cint EvL.nil) (OpC.chr (by decide) (by decide))) (Ev.to (Ev.bin (Ev.nameI hk rfl) Ev.cint (Op2.modI (by decide))) (by rw [emd])))
                    (Op2.addS (by rw [len_S, len_S, sizeLine]; omega))) (by rw [← S_add, ← S_add]; exact iaddS (by rw [S_add, len_S, len_S, sizeLine, List.length_append]; omega))) Tr.nil
              · rw [b1] at h
                have hc : ¬ c = 47 := by simpa using h
                rw [if_neg hc] at hw ⊢
                exact Tr.cons (Tr.aug (d := .str (S (w ++ y.take (runN y)))) hk (.inl rfl) rfl (Ev.to (d' := .str (S (y.take (runN y)))) (Ev.sliceS (Ev.nameI hk rfl) EvP.none (EvP.some (Ev.nameI hk rfl)) EvP.none (by decide) (by rw [len_S, sizeLine]; omega)) (by rw [pkS_S, pk_to]))
                  (by rw [← S_add]; exact iaddS (by rw [len_S, len_S, sizeLine]; omega))) Tr.nil
          · refine Tr.post (Tr.cons (Tr.assign hk (Ev.to (d' := .str (S (y.drop (runN y)))) (Ev.sliceS (Ev.nameI hk rfl) (EvP.some (Ev.nameI hk rfl)) EvP.none EvP.none (by decide) (by rw [len_S, sizeLine]; omega)) (by rw [pkS_S, pk_from])) (.inl rfl)) Tr.nil) ?_
            exact le_cons (le_cons (le_cons le_nil id) id) (by simp)
      · refine ⟨_, _, ?_, le.refl _, y.drop (runN y), _, rfl, ?_, ?_, le_cons (le_cons le_nil id) id, ?_⟩
        · rw [List.length_drop]; omega
        · rw [List.length_drop]; omega
        · rw [List.length_append, List.length_drop]; omega
        · rw [step, List.append_assoc]
end Mine
end

/-! N2g -/
section
open PySem PySem.Calls PyProof.Rows PySem.W
set_option maxRecDepth 100000
namespace Mine
variable {W : Wd} {n : Nat} {b1 : Int → Bool} {b3 : Int → Option Im} {ett : Str → Option Im}

theorem dots_S : dots = S dotsL := by decide +kernel
theorem TopT.topE (T : TopT W b1 b3 ett) : TopE W := ⟨T.defs, T.ell, T.len⟩
/-- the answer of _ellipsis_match, on lists -/
def em (want got : List Nat) : Bool := ellM (S want) (S got)
theorem c_em (T : TopT W b1 b3 ett) {want got : List Nat} (hw : want.length + 1 ≤ 2 ^ 20) (hg : got.length ≤ 2 ^ 20) : Cf W (n + 1) "_ellipsis_match" [.str (S want), .str (S got)] (.bool (em want got)) := by
  refine c_ell T.topE (by rw [len_S]; omega) (by rw [len_S]; exact hg) fun hc => ?_
  rw [dots_S, contains_dots] at hc
  rw [dots_S, split_S]
  have h2 : 2 ≤ (splitD want).length := by simpa using hc
  obtain ⟨h3, h4⟩ := splitD_len want
  refine ⟨by rw [List.length_map]; exact h2, by rw [List.length_map]; omega, fun w hw' => ?_⟩
  obtain ⟨p, hp, rfl⟩ := List.mem_map.mp hw'
  rw [len_S]
  have := h4 p hp
  omega

def kRet : Nat := 69
/-- the returns that _law_returns looks for: the piece [at, end) and the stretch [at, last) -/
def retTest (x : List Nat) (i j k : Nat) : Bool :=
  em (((x.take j).drop i ++ dotsL) ++ (x.take j).drop i) ((x.take k).drop i) && !em ((dotsL ++ (x.take j).drop i) ++ dotsL) ((((x.take k).drop i).drop 1).take (((x.take k).drop i).length - 2))
def isPal (x : List Nat) : Bool := x == x.reverse
abbrev pairI (x : List Nat) (i j k : Nat) : It := .tup [.str (S ((x.take j).drop i)), .str (S ((x.take k).drop i))]
def ret3 (x : List Nat) (i j : Nat) : List It := ((List.range' (j + 1) (x.length - j)).filter (retTest x i j)).map (pairI x i j)
def ret2 (x : List Nat) (i : Nat) : List It := (List.range' (i + 1) (x.length - (i + 1))).flatMap fun j => if isPal ((x.take j).drop i) then ret3 x i j else []
def ret1 (x : List Nat) : List It := (List.range x.length).flatMap (ret2 x)
theorem addSL {a b : List Nat} (h : a.length + b.length ≤ 2 ^ 24) : Op2 W n (binaryOp .Add) (.str (S a)) (.str (S b)) (.str (S (a ++ b))) := by
  rw [← S_add]; exact Op2.addS (by rw [len_S, len_S]; exact h)
theorem EvT.to {env : Env} {σ : Sto} {t : Sem Bool} {b b' : Bool} (x : EvT W n env σ t b) (e : b = b') : EvT W n env σ t b' := e ▸ x
theorem le_put {a l : Sl} {z : Str} {d : PV} (h : a.lookup z = none) (hl : le a l) : le (a ++ [(z, d, false)]) (put z d l) := fun y d' b e => by
  rw [lookup_put]
  by_cases hy : y = z
  · subst hy
    rw [List.lookup_append, h] at e
    simp at e
    obtain ⟨rfl, rfl⟩ := e
    exact ⟨true, by simp, by simp⟩
  · rw [if_neg hy]
    have hy' : (y == z) = false := by simpa using hy
    rw [List.lookup_append] at e
    have : List.lookup y [(z, d, false)] = none := by simp [List.lookup_cons, hy']
    rw [this, Option.or_none] at e
    exact hl y d' b e
theorem Src.to {env : Env} {σ : Sto} {us : List Str} {gn : Bool} {iter target : Expr} {xs ys : List It} (s : Src W n env σ us gn iter target xs) (e : xs = ys) : Src W n env σ us gn iter target ys := e ▸ s
theorem rngL_nat (a b : Nat) : rngL (a : Int) (b : Int) = (List.range' a (b - a)).map fun k => ((k : Nat) : Int) := by
  unfold rngL
  have e : ((b : Int) - (a : Int)).toNat = b - a := by omega
  rw [e, List.range'_eq_map_range, List.map_map]
  refine List.map_congr_left fun k _ => ?_
  simp
abbrev nI (l : List Nat) : List It := l.map fun k => It.int (k : Nat)
theorem rng_nI (a b : Nat) : (rngL (a : Int) (b : Int)).map It.int = nI (List.range' a (b - a)) := by rw [rngL_nat, List.map_map]; rfl

abbrev r0 (x : List Nat) (f : List It) : Sl := [("word", .str (S x), false), ("found", .list f, true)]
abbrev r1 (x : List Nat) (f : List It) (i : Nat) : Sl := [("word", .str (S x), false), ("found", .list f, true), ("at", .int (i : Nat), false)]
abbrev r2 (x : List Nat) (f : List It) (i j : Nat) : Sl := [("word", .str (S x), false), ("found", .list f, true), ("at", .int (i : Nat), false), ("end", .int (j : Nat), false), ("piece", .str (S ((x.take j).drop i)), false)]
abbrev rEnv (L a : Addr) (cd : Value) : Env := envOfC "_law_returns" (scopeOf PW kRet) L a cd
theorem ret_in (T : TopT W b1 b3 ett) {L a : Addr} {cd : Value} (hk : EnvOk (rEnv L a cd)) {x : List Nat} (hx : x.length ≤ 2 ^ 16) {i j : Nat} (hi : i < x.length) (hj : i < j ∧ j < x.length) {f : List It} (hf : f.length + x.length ≤ 2 ^ 22)
    {l : Sl} (hl : le (r2 x f i j) l) :
    Tr W (n + 1) (rEnv L a cd) l (execs (match (bodyOf PW kRet)[1]? with | some (Stmt.For _ _ [.For _ _ [_, .If _ b _ _] _ _] _ _) => b | _ => []) (rEnv L a cd)) (.next (r1 x (f ++ ret3 x i j) i)) := by
  refine Tr.pre (Tr.cons ?_ Tr.nil) hl
  refine Tr.for (us := []) (gn := false) (xs := nI (List.range' (j + 1) (x.length - j)))
    (P := fun rest l o => ∃ (ks : List Nat) (g : List It), rest = nI ks ∧ (∀ k ∈ ks, k ≤ x.length) ∧ g.length + ks.length ≤ 2 ^ 23 ∧ le (r2 x g i j) l ∧ o = .next (r1 x (g ++ (ks.filter (retTest x i j)).map (pairI x i j)) i)) hk
    (Src.to (Src.range (a := ((j + 1 : Nat) : Int)) (b := ((x.length + 1 : Nat) : Int)) ⟨_, _, rfl⟩ (Ev.callT hk rfl T.range (EvL.cons (Ev.bin (Ev.nameI hk rfl) Ev.cint Op2.addI) (EvL.cons (Ev.bin (Ev.callB hk rfl T.len (EvL.cons (Ev.nameI hk rfl) EvL.nil) (OpC.lenS (by rw [len_S]; omega))) Ev.cint Op2.addI) EvL.nil)) (by rw [len_S]; exact OpC.range2)) (by omega) (by omega) (by omega) (by omega))
      (by rw [rng_nI]; congr 2; omega)) ⟨_, f, rfl, ?_, ?_, le.refl _, rfl⟩ (fun y hy => by simp at hy) ?_ ?_
  · intro k hk'
    have := List.mem_range'_1.mp hk'
    omega
  · rw [List.length_range']; omega
  · rintro l' o' ⟨ks, g, h1, _, _, hle, rfl⟩
    cases ks with
    | nil => exact ⟨_, rfl, by simpa using le.trans (le_cons (le_cons (le_cons le_nil id) id) id) hle⟩
    | cons => simp [nI] at h1
  · rintro y rest l' o' ⟨ks, g, h1, h2, h3, hle, rfl⟩
    cases ks with
    | nil => simp [nI] at h1
    | cons k ks =>
      simp only [nI, List.map_cons, List.cons.injEq] at h1
      obtain ⟨rfl, rfl⟩ := h1
      have hkx := h2 k (.head _)
      refine ⟨_, .name, fun b hb => by simp only [List.mem_singleton] at hb; subst hb; exact .inl rfl, .next (r2 x (g ++ if retTest x i j k then [pairI x i j k] else []) i j), Tr.pre ?_ (le_put rfl hle), _, le.refl _, ks, _, rfl, fun k hk => h2 k (.tail _ hk), ?_, le.refl _, ?_⟩
      · have hp : ((x.take j).drop i).length ≤ 2 ^ 16 := by rw [List.length_drop, List.length_take]; omega
        have hst : ((x.take k).drop i).length ≤ 2 ^ 16 := by rw [List.length_drop, List.length_take]; omega
        have hg : g.length ≤ sizeLine := by rw [sizeLine]; simp at h3; omega
        refine Tr.cons (Tr.assign hk (Ev.to (d' := .str (S ((x.take k).drop i))) (Ev.sliceS (Ev.nameI hk rfl) (EvP.some (Ev.nameI hk rfl)) (EvP.some (Ev.nameI hk rfl)) EvP.none (by decide) (by rw [len_S, sizeLine]; omega)) (by rw [pkS_S, pk_pos])) (.inl rfl)) ?_
        have hrt : retTest x i j k = (em ((((x.take j).drop i) ++ dotsL) ++ ((x.take j).drop i)) ((x.take k).drop i) && !em ((dotsL ++ ((x.take j).drop i)) ++ dotsL) ((((x.take k).drop i).drop 1).take (((x.take k).drop i).length - 2))) := rfl
        have dE : ("..." : Str) = S dotsL := dots_S
        have lw1 : ((((x.take j).drop i) ++ dotsL) ++ ((x.take j).drop i)).length = ((x.take j).drop i).length + 3 + ((x.take j).drop i).length := by simp; omega
        have lw2 : ((dotsL ++ ((x.take j).drop i)) ++ dotsL).length = 3 + ((x.take j).drop i).length + 3 := by simp; omega
        rw [hrt]
        have d3 : dotsL.length = 3 := rfl
        cases h1 : em ((((x.take j).drop i) ++ dotsL) ++ ((x.take j).drop i)) ((x.take k).drop i) with
        | false =>
          refine Tr.cons (Tr.ite (b := false) (EvT.to (EvT.cmp (Ev.callD hk rfl (c_em T (want := (((x.take j).drop i) ++ dotsL) ++ ((x.take j).drop i)) (got := ((x.take k).drop i)) (by rw [lw1]; omega) (by omega)) (EvL.cons (Ev.bin (Ev.bin (Ev.nameI hk rfl) (Ev.to Ev.cstr (congrArg PV.str dE)) (addSL (by omega))) (Ev.nameI hk rfl) (addSL (by rw [List.length_append]; omega))) (EvL.cons (Ev.nameI hk rfl) EvL.nil))) Ev.cbool Op2.isnB) (by rw [h1]; rfl)) (fun h => by cases h) (fun _ => Tr.nil)) (Tr.post Tr.nil ?_)
          rw [if_neg (by simp), List.append_nil]
          exact le_cons (le_cons (le_cons (le_cons (le_cons le_nil id) id) id) id) id
        | true =>
          refine Tr.cons (Tr.ite (b := true) (EvT.to (EvT.cmp (Ev.callD hk rfl (c_em T (want := (((x.take j).drop i) ++ dotsL) ++ ((x.take j).drop i)) (got := ((x.take k).drop i)) (by rw [lw1]; omega) (by omega)) (EvL.cons (Ev.bin (Ev.bin (Ev.nameI hk rfl) (Ev.to Ev.cstr (congrArg PV.str dE)) (addSL (by omega))) (Ev.nameI hk rfl) (addSL (by rw [List.length_append]; omega))) (EvL.cons (Ev.nameI hk rfl) EvL.nil))) Ev.cbool Op2.isnB) (by rw [h1]; rfl)) (fun _ => ?_) (fun h => by cases h)) Tr.nil
          have ev : ∀ e : Bool, em ((dotsL ++ ((x.take j).drop i)) ++ dotsL) ((((x.take k).drop i).drop 1).take (((x.take k).drop i).length - 2)) = e → (e == false) = (!e) := fun e _ => by cases e <;> rfl
          refine Tr.cons (Tr.ite (EvT.cmp (Ev.callD hk rfl (c_em T (want := (dotsL ++ ((x.take j).drop i)) ++ dotsL) (got := (((x.take k).drop i).drop 1).take (((x.take k).drop i).length - 2)) (by rw [lw2]; omega) (by rw [List.length_take]; omega)) (EvL.cons (Ev.bin (Ev.bin (Ev.to Ev.cstr (congrArg PV.str dE)) (Ev.nameI hk rfl) (addSL (by omega))) (Ev.to Ev.cstr (congrArg PV.str dE)) (addSL (by rw [List.length_append]; omega)))
            (EvL.cons (Ev.to (Ev.sliceS (Ev.nameI hk rfl) (EvP.some Ev.cint) (EvP.some (Ev.neg Ev.cint)) EvP.none (by decide) (by rw [len_S, sizeLine]; omega)) (by rw [pkS_S, pk_mid])) EvL.nil))) Ev.cbool Op2.isB) (fun h => ?_) (fun h => ?_)) Tr.nil
          · rw [ev _ rfl] at h
            rw [h]
            refine Tr.post (Tr.cons (Tr.append (d := pairI x i j k) hk rfl (Ev.to (Ev.tupD (ds := [.str (S ((x.take j).drop i)), .str (S ((x.take k).drop i))]) (EvL.cons (Ev.nameI hk rfl) (EvL.cons (Ev.nameI hk rfl) EvL.nil)) (by show (2 : Nat) ≤ sizeLine; decide)) rfl) hg) Tr.nil) ?_
            exact le_cons (le_cons (le_cons (le_cons (le_cons le_nil id) id) id) id) id
          · rw [ev _ rfl] at h
            rw [h]
            refine Tr.post Tr.nil ?_
            rw [if_neg (by simp), List.append_nil]
            exact le_cons (le_cons (le_cons (le_cons (le_cons le_nil id) id) id) id) id
      · simp only [List.length_append, List.length_cons] at h3 ⊢
        split <;> simp <;> omega
      · rw [List.filter_cons]
        split <;> simp
end Mine
end

/-! N2h -/
section
open PySem PySem.Calls PyProof.Rows PySem.W
set_option maxRecDepth 100000
namespace Mine
variable {W : Wd} {n : Nat} {b1 : Int → Bool} {b3 : Int → Option Im} {ett : Str → Option Im}

theorem ret3_len (x : List Nat) (i j : Nat) : (ret3 x i j).length ≤ x.length := by
  unfold ret3
  rw [List.length_map]
  refine Nat.le_trans (List.length_filter_le _ _) ?_
  rw [List.length_range']; omega
def retB (x : List Nat) (i j : Nat) : List It := if isPal ((x.take j).drop i) then ret3 x i j else []
theorem retB_len (x : List Nat) (i j : Nat) : (retB x i j).length ≤ x.length := by
  unfold retB; split
  · exact ret3_len x i j
  · simp
theorem ret2_eq (x : List Nat) (i : Nat) : ret2 x i = (List.range' (i + 1) (x.length - (i + 1))).flatMap (retB x i) := rfl
theorem ret2_len (x : List Nat) (i : Nat) : (ret2 x i).length ≤ x.length * x.length := by
  rw [ret2_eq]
  have : ∀ l : List Nat, (l.flatMap (retB x i)).length ≤ l.length * x.length := by
    intro l
    induction l with
    | nil => simp
    | cons j l ih =>
      rw [List.flatMap_cons, List.length_append, List.length_cons, Nat.add_mul, Nat.one_mul]
      have := retB_len x i j
      omega
  refine Nat.le_trans (this _) (Nat.mul_le_mul_right _ ?_)
  rw [List.length_range']; omega

theorem ret_mid (T : TopT W b1 b3 ett) {L a : Addr} {cd : Value} (hk : EnvOk (rEnv L a cd)) {x : List Nat} (hx : x.length ≤ 128) {i : Nat} (hi : i < x.length) {f : List It} (hf : f.length ≤ 2 ^ 21)
    {l : Sl} (hl : le (r1 x f i) l) :
    Tr W (n + 1) (rEnv L a cd) l (execs (match (bodyOf PW kRet)[1]? with | some (Stmt.For _ _ b _ _) => b | _ => []) (rEnv L a cd)) (.next (r0 x (f ++ ret2 x i))) := by
  refine Tr.pre (Tr.cons ?_ Tr.nil) hl
  refine Tr.for (us := []) (gn := false) (xs := nI (List.range' (i + 1) (x.length - (i + 1))))
    (P := fun rest l o => ∃ (js : List Nat) (g : List It), rest = nI js ∧ (∀ j ∈ js, i < j ∧ j < x.length) ∧ g.length + js.length * 128 ≤ 2 ^ 22 - 128 ∧ le (r1 x g i) l ∧ o = .next (r0 x (g ++ js.flatMap (retB x i)))) hk
    (Src.to (Src.range (a := ((i + 1 : Nat) : Int)) (b := ((x.length : Nat) : Int)) ⟨_, _, rfl⟩ (Ev.callT hk rfl T.range (EvL.cons (Ev.bin (Ev.nameI hk rfl) Ev.cint Op2.addI) (EvL.cons (Ev.callB hk rfl T.len (EvL.cons (Ev.nameI hk rfl) EvL.nil) (OpC.lenS (by rw [len_S]; omega))) EvL.nil)) (by rw [len_S]; exact OpC.range2)) (by omega) (by omega) (by omega) (by omega))
      (by rw [rng_nI])) ⟨_, f, rfl, ?_, ?_, le.refl _, rfl⟩ (fun y hy => by simp at hy) ?_ ?_
  · intro j hj
    have := List.mem_range'_1.mp hj
    omega
  · rw [List.length_range']
    have : (x.length - (i + 1)) * 128 ≤ 128 * 128 := Nat.mul_le_mul_right _ (by omega)
    omega
  · rintro l' o' ⟨js, g, h1, _, _, hle, rfl⟩
    cases js with
    | nil => exact ⟨_, rfl, by simpa using le.trans (le_cons (le_cons le_nil id) id) hle⟩
    | cons => simp [nI] at h1
  · rintro y rest l' o' ⟨js, g, h1, h2, h3, hle, rfl⟩
    cases js with
    | nil => simp [nI] at h1
    | cons j js =>
      simp only [nI, List.map_cons, List.cons.injEq] at h1
      obtain ⟨rfl, rfl⟩ := h1
      obtain ⟨hij, hjx⟩ := h2 j (.head _)
      have hb := retB_len x i j
      rw [List.length_cons, Nat.add_mul] at h3
      refine ⟨_, .name, fun b hb => by simp only [List.mem_singleton] at hb; subst hb; exact .inl rfl, .next (r1 x (g ++ retB x i j) i), Tr.pre ?_ (le_put rfl hle), _, le.refl _, js, _, rfl, fun k hk => h2 k (.tail _ hk), ?_, le.refl _, ?_⟩
      · have hp : ((x.take j).drop i).length ≤ 128 := by rw [List.length_drop, List.length_take]; omega
        refine Tr.cons (Tr.assign hk (Ev.to (d' := .str (S ((x.take j).drop i))) (Ev.sliceS (Ev.nameI hk rfl) (EvP.some (Ev.nameI hk rfl)) (EvP.some (Ev.nameI hk rfl)) EvP.none (by decide) (by rw [len_S, sizeLine]; omega)) (by rw [pkS_S, pk_pos])) (.inl rfl)) ?_
        have et : (S ((x.take j).drop i) == S ((x.take j).drop i).reverse) = isPal ((x.take j).drop i) := by rw [S_beq]; rfl
        refine Tr.cons (Tr.ite (EvT.to (EvT.cmp (d2 := .str (S ((x.take j).drop i).reverse)) (Ev.nameI hk rfl) (Ev.to (Ev.sliceS (Ev.nameI hk rfl) EvP.none EvP.none (EvP.some (Ev.neg Ev.cint)) (by decide) (by rw [len_S, sizeLine]; omega)) (by rw [pkS_S, pk_rev])) Op2.eqS) et) (fun h => ?_) (fun h => ?_)) Tr.nil
        · have e : retB x i j = ret3 x i j := by unfold retB; rw [if_pos h]
          rw [e]
          exact ret_in T hk (by omega) hi ⟨hij, hjx⟩ (by omega) (le_cons (le_cons (le_cons (le_cons (le_cons le_nil (by simp)) (by simp)) id) id) id)
        · have e : retB x i j = [] := by unfold retB; rw [if_neg (by rw [h]; decide)]
          rw [e, List.append_nil]
          exact Tr.post Tr.nil (le_cons (le_cons (le_cons le_nil id) id) id)
      · rw [List.length_append]; omega
      · rw [List.flatMap_cons, List.append_assoc]
def retAll (x : List Nat) : List It := ret1 x
theorem c_ret (T : TopT W b1 b3 ett) {x : List Nat} (hx : x.length ≤ 128) : Cf W (n + 2) "_law_returns" [.str (S x)] (.list (ret1 x)) := by
  refine Cf.of T.defs (k := kRet) rfl (names := ["word"]) (fun pm cd doc vs h => ?_) (by decide) (by decide) rfl (fun L a cd hk => ?_)
  · obtain ⟨v, rfl⟩ := eq_one h
    rfl
  · refine Tr.cons (Tr.assign hk (Ev.listD (ds := []) EvL.nil (by decide)) (.inl rfl)) (Tr.cons (l1 := r0 x (ret1 x)) ?_ (Tr.stop (Tr.retName hk rfl)))
    refine Tr.for (us := []) (gn := false) (xs := nI (List.range' 0 x.length))
      (P := fun rest l o => ∃ (js : List Nat) (g : List It), rest = nI js ∧ (∀ j ∈ js, j < x.length) ∧ g.length + js.length * 16384 ≤ 2 ^ 21 ∧ le (r0 x g) l ∧ o = .next (r0 x (g ++ js.flatMap (ret2 x)))) hk
      (Src.to (Src.range (a := ((0 : Nat) : Int)) (b := ((x.length : Nat) : Int)) ⟨_, _, rfl⟩ (Ev.callT hk rfl T.range (EvL.cons (Ev.callB hk rfl T.len (EvL.cons (Ev.nameI hk rfl) EvL.nil) (OpC.lenS (by rw [len_S]; omega))) EvL.nil) (by rw [len_S]; exact OpC.range1)) (by omega) (by omega) (by omega) (by omega))
        (by rw [rng_nI]; rfl)) ⟨_, [], rfl, ?_, ?_, le_cons (le_cons le_nil id) (by simp), ?_⟩ (fun y hy => by simp at hy) ?_ ?_
    · intro j hj
      have := List.mem_range'_1.mp hj
      omega
    · rw [List.length_range', List.length_nil]; omega
    · unfold ret1; rw [List.range_eq_range']; simp
    · rintro l' o' ⟨js, g, h1, _, _, hle, rfl⟩
      cases js with
      | nil => exact ⟨_, rfl, by simpa using hle⟩
      | cons => simp [nI] at h1
    · rintro y rest l' o' ⟨js, g, h1, h2, h3, hle, rfl⟩
      cases js with
      | nil => simp [nI] at h1
      | cons j js =>
        simp only [nI, List.map_cons, List.cons.injEq] at h1
        obtain ⟨rfl, rfl⟩ := h1
        have hjx := h2 j (.head _)
        have hb := ret2_len x j
        have hb' : x.length * x.length ≤ 128 * 128 := Nat.mul_le_mul hx hx
        rw [List.length_cons, Nat.add_mul] at h3
        refine ⟨_, .name, fun b hb => by simp only [List.mem_singleton] at hb; subst hb; exact .inl rfl, .next (r0 x (g ++ ret2 x j)), ret_mid T hk hx hjx (by omega) (le_put rfl hle), _, le.refl _, js, _, rfl, fun k hk => h2 k (.tail _ hk), ?_, le.refl _, ?_⟩
        · rw [List.length_append]; omega
        · rw [List.flatMap_cons, List.append_assoc]
end Mine
end

/-! N2i -/
section
open PySem PySem.Calls PyProof.Rows PySem.W
set_option maxRecDepth 100000
namespace Mine
variable {W : Wd} {n : Nat} {b1 : Int → Bool} {b3 : Int → Option Im} {ett : Str → Option Im} {env : Env} {σ : Sto} {fr : Bool}

def dm (x : Int) (c d : Nat) : Nat := ((x.fdiv (c : Nat)).fmod (d : Nat)).toNat
def md (x : Int) (d : Nat) : Nat := (x.fmod (d : Nat)).toNat
theorem fmod_nat (x : Int) {d : Nat} (hd : 0 < d) : ((x.fmod (d : Nat)).toNat : Int) = x.fmod (d : Nat) ∧ (x.fmod (d : Nat)).toNat < d := by
  have h1 : 0 ≤ x.fmod (d : Nat) := Int.fmod_nonneg_of_pos x (by omega)
  have h2 : x.fmod (d : Nat) < (d : Nat) := Int.fmod_lt_of_pos x (by omega)
  omega
theorem dm_lt (x : Int) (c : Nat) {d : Nat} (hd : 0 < d) : dm x c d < d := (fmod_nat _ hd).2
theorem ev_md {e : Expr} {x : Int} (c : Nat) (hc : 0 < c) {k : Nat} {p q : Pos} (h : Ev W n false env σ (eval e env) (.int x)) :
    Ev W n fr env σ (eval (.BinOp e .Mod (.Constant (.int (c : Nat)) k p) q) env) (.int ((md x c : Nat))) := Ev.to (Ev.bin h Ev.cint (Op2.modI (by omega))) (by unfold md; rw [(fmod_nat x hc).1])
theorem ev_dm {e : Expr} {x : Int} (c d : Nat) (hc : 0 < c ∧ c < 1073741824) (hd : 0 < d) {k k' : Nat} {p p' q q' : Pos} (h : Ev W n false env σ (eval e env) (.int x)) :
    Ev W n fr env σ (eval (.BinOp (.BinOp e .FloorDiv (.Constant (.int (c : Nat)) k p) q) .Mod (.Constant (.int (d : Nat)) k' p') q') env) (.int ((dm x c d : Nat))) :=
  Ev.to (Ev.bin (Ev.bin h Ev.cint (Op2.divI (by omega) (by omega))) Ev.cint (Op2.modI (by omega))) (by unfold dm; rw [(fmod_nat _ hd).1])
theorem ev_pick {e i : Expr} {p : Pos} (ls : List (List Nat)) {m : Nat} (h1 : Ev W n false env σ (eval e env) (.list (ls.map fun y => It.str (S y)))) (h2 : Ev W n false env σ (eval i env) (.int (m : Nat))) (hm : m < ls.length) (hl : ls.length < 2 ^ 60) :
    Ev W n fr env σ (eval (.Subscript e i p) env) (.str (S (ls.getD m []))) := by
  refine Ev.to (Ev.subL (d := It.str (S (ls.getD m []))) h1 h2 (by omega) (by omega) ?_) rfl
  rw [Int.toNat_natCast, List.getElem?_map, List.getElem?_eq_getElem hm]
  simp [List.getD, hm]
theorem ev_pickI {e i : Expr} {p : Pos} (ls : List Int) {m : Nat} (h1 : Ev W n false env σ (eval e env) (.list (ls.map It.int))) (h2 : Ev W n false env σ (eval i env) (.int (m : Nat))) (hm : m < ls.length) (hl : ls.length < 2 ^ 60) :
    Ev W n fr env σ (eval (.Subscript e i p) env) (.int (ls.getD m 0)) := by
  refine Ev.to (Ev.subL (d := It.int (ls.getD m 0)) h1 h2 (by omega) (by omega) ?_) rfl
  rw [Int.toNat_natCast, List.getElem?_map, List.getElem?_eq_getElem hm]
  simp [List.getD, hm]
theorem ev_pickS {e i : Expr} {p : Pos} (l : List Nat) {m : Nat} (h1 : Ev W n false env σ (eval e env) (.str (S l))) (h2 : Ev W n false env σ (eval i env) (.int (m : Nat))) (hm : m < l.length) (hl : l.length < 2 ^ 60) :
    Ev W n fr env σ (eval (.Subscript e i p) env) (.str (S [l.getD m 0])) := by
  refine Ev.subS h1 h2 (by omega) (by omega) ?_
  rw [Int.toNat_natCast]
  simp [S, List.getD, hm]
theorem uns_len (k : Nat) : (uns k).length ≤ 1 := by unfold uns; split <;> simp
theorem c_uns (T : TopT W b1 b3 ett) {k : Nat} (hk28 : k < 28) : Cf W (n + 1) "_law_unseen" [.int (k : Nat)] (.str (S (uns k))) := by
  have := c_unseen (n := n) T hk28
  have e : (uns k).map (fun c => (⟨#[c]⟩ : Str)) = ((uns k).map fun c => [c]).map S := by simp [S]
  rw [e, join_E] at this
  have e2 : ((uns k).map fun c => [c]).flatten = uns k := by
    induction uns k with
    | nil => rfl
    | cons a r ih => simp [ih]
  rw [e2] at this
  exact this

theorem ev_s {l : List Nat} {x : Str} {k : Nat} {p : Pos} (h : x = S l := by decide +kernel) : Ev W n fr env σ (eval (.Constant (.str x) k p) env) (.str (S l)) := Ev.to Ev.cstr (congrArg PV.str h)
theorem ev_chr {env : Env} {σ : Sto} (T : TopT W b1 b3 ett) (hk : EnvOk env) (hx : env.kindOf "chr" = some .globalImplicit) {e : Expr} (c : Nat) (hc : c ≤ 0x10FFFF) {p q : Pos} (h : Ev W n false env σ (eval e env) (.int (c : Nat))) (he : starEach [e] env = [(false, eval e env)] := by rfl) :
    Ev W n fr env σ (eval (.Call (.Name "chr" p) [e] [] q) env) (.str (S [c])) := Ev.to (Ev.callB hk hx T.chr (EvL.cons h EvL.nil he) (OpC.chr (by omega) (by omega)) he rfl) (by rw [Int.toNat_natCast]; rfl)
theorem ev_add {a b : List Nat} {e1 e2 : Expr} {p : Pos} (h1 : Ev W n false env σ (eval e1 env) (.str (S a))) (h2 : Ev W n false env σ (eval e2 env) (.str (S b))) (h : a.length + b.length ≤ 2 ^ 24) : Ev W n fr env σ (eval (.BinOp e1 .Add e2 p) env) (.str (S (a ++ b))) := Ev.bin h1 h2 (addSL h)
theorem lig : ∀ m : Fin 4, ([64256, 64257, 64259, 64261] : List Int).getD m 0 = ((([64256, 64257, 64259, 64261] : List Nat).getD m 0 : Nat) : Int) ∧ ([64256, 64257, 64259, 64261] : List Nat).getD m 0 ≤ 0x10FFFF := by decide
theorem rep_any {α : Type} (k : Nat) (c : α) : rep (k : Int) [c] = List.replicate k c := by
  unfold rep
  simp only [Int.toNat_natCast]
  induction k with
  | zero => rfl
  | succ k ih => rw [List.replicate_succ, List.flatten_cons, ih, List.replicate_succ]; rfl
theorem joinL_len (sep : List Nat) (c k : Nat) : (joinL sep (List.replicate k [c])).length ≤ k * (1 + sep.length) := by
  cases k with
  | zero => simp [joinL]
  | succ k =>
    rw [List.replicate_succ]
    show ([c] ++ (List.replicate k [c]).flatMap (sep ++ ·)).length ≤ _
    have : ((List.replicate k [c]).flatMap (sep ++ ·)).length = k * (sep.length + 1) := by
      induction k with
      | zero => simp
      | succ k ih => rw [List.replicate_succ, List.flatMap_cons, List.length_append, ih, Nat.add_mul]; simp; omega
    rw [List.length_append, this, Nat.add_mul, Nat.add_comm sep.length 1]; simp; omega
def kItem : Nat := 65
def itemL (x : Int) : List Nat × List Nat :=
  if md x 4 = 0 then
    (joinL ([uns (dm x 4 28), [34] ++ [[42, 47].getD (dm x 112 2) 0] ++ [34], [34, 92] ++ uns (dm x 4 28) ++ [34, 34]].getD (dm x 672 3) []) (List.replicate (1 + dm x 224 3) [[42, 47].getD (dm x 112 2) 0]) ++ uns (dm x 4 28),
      List.replicate (1 + dm x 224 3) ([42, 47].getD (dm x 112 2) 0))
  else if md x 4 = 1 then ([[64256, 64257, 64259, 64261].getD (dm x 112 4) 0] ++ uns (dm x 4 28), [[102, 102], [102, 105], [102, 102, 105], [115, 116]].getD (dm x 112 4) [])
  else if md x 4 = 2 then
    ([[105], [70], [119813], [119868], [7838], [304], [8119], [962], [1040], [223]].getD (dm x 112 10) [] ++ uns (dm x 4 28),
      [[105], [102], [102], [105], [223], [105, 775], [945, 834, 953], [963], [1072], [115, 115]].getD (dm x 112 10) [])
  else
    ([34] ++ [[], [102], [92] ++ uns (dm x 4 28) ++ [34], [92, 92]].getD (dm x 224 4) [] ++ [34] ++ [[102, 105].getD (dm x 112 2) 0] ++ uns (dm x 4 28), [[102, 105].getD (dm x 112 2) 0])
abbrev pairL (p : List Nat × List Nat) : It := .tup [.str (S p.1), .str (S p.2)]
abbrev iEnv (L a : Addr) (cd : Value) : Env := envOfC "_law_item" (scopeOf PW kItem) L a cd
theorem c_item (T : TopT W b1 b3 ett) {x : Int} : Cf W (n + 2) "_law_item" [.int x] (.it (pairL (itemL x))) := by
  refine Cf.of T.defs (k := kItem) rfl (names := ["x"]) (fun pm cd doc vs h => ?_) (by decide) (by decide) rfl (fun L a cd hk => ?_)
  · obtain ⟨v, rfl⟩ := eq_one h
    rfl
  · have hu28 : dm x 4 28 < 28 := dm_lt x 4 (by decide)
    have hul := uns_len (dm x 4 28)
    refine Tr.cons (Tr.assign hk (Ev.callD hk rfl (c_uns T hu28) (EvL.cons (ev_dm 4 28 (by decide) (by decide) (Ev.nameI hk rfl)) EvL.nil)) (.inl rfl)) ?_
    have test : ∀ (m : Nat), (((md x 4 : Nat) : Int) == (m : Nat)) = decide (md x 4 = m) := fun m => by
      by_cases h : md x 4 = m
      · rw [h]; simp
      · have : ((md x 4 : Nat) : Int) ≠ (m : Nat) := by omega
        rw [beq_eq_false_iff_ne.mpr this]; simp [h]
    unfold itemL
    by_cases h0 : md x 4 = 0
    · rw [if_pos h0]
      have m2 : dm x 112 2 < 2 := dm_lt x 112 (by decide)
      have m3 : dm x 224 3 < 3 := dm_lt x 224 (by decide)
      have m3' : dm x 672 3 < 3 := dm_lt x 672 (by decide)
      generalize uns (dm x 4 28) = u at *
      refine Tr.stop (Tr.ite (b := true) (EvT.to (EvT.cmp (ev_md 4 (by decide) (Ev.nameI hk rfl)) Ev.cint Op2.eqI) ((test 0).trans (decide_eq_true h0))) (fun _ => ?_) (fun h => by cases h))
      refine Tr.cons (Tr.assign hk (ev_pickS [42, 47] ev_s (ev_dm 112 2 (by decide) (by decide) (Ev.nameI hk rfl)) m2 (by decide)) (.inl rfl)) ?_
      generalize ([42, 47] : List Nat).getD (dm x 112 2) 0 = sg at *
      refine Tr.cons (Tr.assign (d := .int ((1 + dm x 224 3 : Nat))) hk (Ev.to (Ev.bin Ev.cint (ev_dm 224 3 (by decide) (by decide) (Ev.nameI hk rfl)) Op2.addI) (by congr 3)) (.inl rfl)) ?_
      refine Tr.cons (Tr.assign hk (ev_pick [u, [34] ++ [sg] ++ [34], [34, 92] ++ u ++ [34, 34]] (Ev.listD (ds := [.str (S u), .str (S ([34] ++ [sg] ++ [34])), .str (S ([34, 92] ++ u ++ [34, 34]))]) (EvL.cons (Ev.nameI hk rfl) (EvL.cons (ev_add (ev_add ev_s (Ev.nameI hk rfl) (by simp)) ev_s (by simp)) (EvL.cons (ev_add (ev_add ev_s (Ev.nameI hk rfl) (by simp; omega)) ev_s (by simp; omega)) EvL.nil))) (by show (3 : Nat) ≤ sizeLine; decide)) (ev_dm 672 3 (by decide) (by decide) (Ev.nameI hk rfl)) m3' (by show 3 < 2 ^ 60; decide)) (.inl rfl)) ?_
      have hb : (([u, [34] ++ [sg] ++ [34], [34, 92] ++ u ++ [34, 34]] : List (List Nat)).getD (dm x 672 3) []).length ≤ 8 := by
        have : ∀ m : Fin 3, (([u, [34] ++ [sg] ++ [34], [34, 92] ++ u ++ [34, 34]] : List (List Nat)).getD m []).length ≤ 8 := by
          intro m
          match m with
          | 0 => show u.length ≤ 8; omega
          | 1 => show ([34] ++ [sg] ++ [34]).length ≤ 8; simp
          | 2 => show ([34, 92] ++ u ++ [34, 34]).length ≤ 8; simp; omega
        exact this ⟨dm x 672 3, m3'⟩
      generalize ([u, [34] ++ [sg] ++ [34], [34, 92] ++ u ++ [34, 34]] : List (List Nat)).getD (dm x 672 3) [] = bt at *
      have hcnt : 1 + dm x 224 3 ≤ 3 := by omega
      generalize 1 + dm x 224 3 = cnt at *
      have hj := joinL_len bt sg cnt
      have hj2 : cnt * (1 + bt.length) ≤ 3 * 9 := Nat.mul_le_mul hcnt (by omega)
      have e1 : rep (cnt : Int) [It.str (S [sg])] = ((List.replicate cnt [sg]).map S).map It.str := by rw [rep_any]; simp
      refine Tr.stop (Tr.ret (Ev.tupD (ds := [.str _, .str _]) (EvL.cons (ev_add (a := joinL bt (List.replicate cnt [sg])) (Ev.to (Ev.meth (Ev.nameI hk rfl) F.plainAttrs_str F.slot_str_join F.type_str_join str_typed (EvL.cons (Ev.to (Ev.bin (Ev.listD (ds := [.str (S [sg])]) (EvL.cons (Ev.nameI hk rfl) EvL.nil) (by show (1 : Nat) ≤ sizeLine; decide)) (Ev.nameI hk rfl) (Op2.mulL (by omega) (by omega) (by rw [Int.toNat_natCast]; show 1 * cnt ≤ _; omega))) (congrArg PV.list e1)) EvL.nil) (OpM.join (joinOk_of ?_))) (by rw [join_S])) (Ev.nameI hk rfl) (by omega))
        (EvL.cons (Ev.to (Ev.bin (Ev.nameI hk rfl) (Ev.nameI hk rfl) (Op2.mulS (by omega) (by omega) (by rw [len_S, Int.toNat_natCast]; show 1 * cnt ≤ _; omega))) (by rw [repS_S, rep_one])) EvL.nil)) (by show (2 : Nat) ≤ sizeLine; decide)))
      simp [len_S, sizeLine]; omega
    · rw [if_neg h0]
      refine Tr.cons (Tr.ite (b := false) (EvT.to (EvT.cmp (ev_md 4 (by decide) (Ev.nameI hk rfl)) Ev.cint Op2.eqI) ((test 0).trans (decide_eq_false h0))) (fun h => by cases h) (fun _ => Tr.nil)) ?_
      by_cases h1 : md x 4 = 1
      · rw [if_pos h1]
        have m4 : dm x 112 4 < 4 := dm_lt x 112 (by decide)
        refine Tr.stop (Tr.ite (b := true) (EvT.to (EvT.cmp (ev_md 4 (by decide) (Ev.nameI hk rfl)) Ev.cint Op2.eqI) ((test 1).trans (decide_eq_true h1))) (fun _ => ?_) (fun h => by cases h))
        obtain ⟨g1, g2⟩ := lig ⟨dm x 112 4, m4⟩
        simp only at g1 g2
        refine Tr.cons (Tr.assign hk (Ev.to (ev_pickI (fr := true) [64256, 64257, 64259, 64261] (Ev.listD (ds := ([64256, 64257, 64259, 64261] : List Int).map It.int) (EvL.cons Ev.cint (EvL.cons Ev.cint (EvL.cons Ev.cint (EvL.cons Ev.cint EvL.nil)))) (by decide)) (ev_dm 112 4 (by decide) (by decide) (Ev.nameI hk rfl)) m4 (by decide)) (congrArg PV.int g1)) (.inl rfl)) ?_
        generalize ([64256, 64257, 64259, 64261] : List Nat).getD (dm x 112 4) 0 = lg at *
        exact Tr.stop (Tr.ret (Ev.tupD (ds := [.str _, .str _]) (EvL.cons (ev_add (ev_chr T hk rfl lg g2 (Ev.nameI hk rfl)) (Ev.nameI hk rfl) (by simp; omega)) (EvL.cons (ev_pick [[102, 102], [102, 105], [102, 102, 105], [115, 116]] (Ev.listD (ds := [.str (S [102, 102]), .str (S [102, 105]), .str (S [102, 102, 105]), .str (S [115, 116])]) (EvL.cons ev_s (EvL.cons ev_s (EvL.cons ev_s (EvL.cons ev_s EvL.nil)))) (by show (4 : Nat) ≤ sizeLine; decide)) (ev_dm 112 4 (by decide) (by decide) (Ev.nameI hk rfl)) m4 (by decide)) EvL.nil)) (by show (2 : Nat) ≤ sizeLine; decide)))
      · rw [if_neg h1]
        refine Tr.cons (Tr.ite (b := false) (EvT.to (EvT.cmp (ev_md 4 (by decide) (Ev.nameI hk rfl)) Ev.cint Op2.eqI) ((test 1).trans (decide_eq_false h1))) (fun h => by cases h) (fun _ => Tr.nil)) ?_
        by_cases h2 : md x 4 = 2
        · rw [if_pos h2]
          have m10 : dm x 112 10 < 10 := dm_lt x 112 (by decide)
          refine Tr.stop (Tr.ite (b := true) (EvT.to (EvT.cmp (ev_md 4 (by decide) (Ev.nameI hk rfl)) Ev.cint Op2.eqI) ((test 2).trans (decide_eq_true h2))) (fun _ => ?_) (fun h => by cases h))
          have sl : ∀ m : Fin 10, (([[105], [70], [119813], [119868], [7838], [304], [8119], [962], [1040], [223]] : List (List Nat)).getD m []).length ≤ 3 := by decide
          have sl' := sl ⟨dm x 112 10, m10⟩
          simp only at sl'
          refine Tr.cons (Tr.assign (d := .list (([[105], [70], [119813], [119868], [7838], [304], [8119], [962], [1040], [223]] : List (List Nat)).map fun y => It.str (S y))) hk (Ev.listD (ds := [.str (S [105]), .str (S [70]), .str (S [119813]), .str (S [119868]), .str (S [7838]), .str (S [304]), .str (S [8119]), .str (S [962]), .str (S [1040]), .str (S [223])]) (EvL.cons ev_s (EvL.cons ev_s (EvL.cons (ev_chr T hk rfl 119813 (by decide) Ev.cint) (EvL.cons (ev_chr T hk rfl 119868 (by decide) Ev.cint) (EvL.cons (ev_chr T hk rfl 7838 (by decide) Ev.cint) (EvL.cons (ev_chr T hk rfl 304 (by decide) Ev.cint) (EvL.cons (ev_chr T hk rfl 8119 (by decide) Ev.cint) (EvL.cons (ev_chr T hk rfl 962 (by decide) Ev.cint) (EvL.cons (ev_chr T hk rfl 1040 (by decide) Ev.cint) (EvL.cons (ev_chr T hk rfl 223 (by decide) Ev.cint) EvL.nil)))))))))) (by decide)) (.inl rfl)) ?_
          refine Tr.cons (Tr.assign (d := .str (S [945, 834, 953])) hk (ev_add (ev_add (ev_chr T hk rfl 945 (by decide) Ev.cint) (ev_chr T hk rfl 834 (by decide) Ev.cint) (by decide)) (ev_chr T hk rfl 953 (by decide) Ev.cint) (by decide)) (.inl rfl)) ?_
          refine Tr.cons (Tr.assign (d := .list (([[105], [102], [102], [105], [223], [105, 775], [945, 834, 953], [963], [1072], [115, 115]] : List (List Nat)).map fun y => It.str (S y))) hk (Ev.listD (ds := [.str (S [105]), .str (S [102]), .str (S [102]), .str (S [105]), .str (S [223]), .str (S [105, 775]), .str (S [945, 834, 953]), .str (S [963]), .str (S [1072]), .str (S [115, 115])]) (EvL.cons ev_s (EvL.cons ev_s (EvL.cons ev_s (EvL.cons ev_s (EvL.cons (ev_chr T hk rfl 223 (by decide) Ev.cint) (EvL.cons (ev_add (a := [105]) (b := [775]) ev_s (ev_chr T hk rfl 775 (by decide) Ev.cint) (by decide)) (EvL.cons (Ev.nameI hk rfl) (EvL.cons (ev_chr T hk rfl 963 (by decide) Ev.cint) (EvL.cons (ev_chr T hk rfl 1072 (by decide) Ev.cint) (EvL.cons ev_s EvL.nil)))))))))) (by decide)) (.inl rfl)) ?_
          have a1 : ([[105], [70], [119813], [119868], [7838], [304], [8119], [962], [1040], [223]] : List (List Nat)).length = 10 := rfl
          have a2 : ([[105], [102], [102], [105], [223], [105, 775], [945, 834, 953], [963], [1072], [115, 115]] : List (List Nat)).length = 10 := rfl
          generalize ([[105], [70], [119813], [119868], [7838], [304], [8119], [962], [1040], [223]] : List (List Nat)) = spl at *
          generalize ([[105], [102], [102], [105], [223], [105, 775], [945, 834, 953], [963], [1072], [115, 115]] : List (List Nat)) = pll at *
          exact Tr.stop (Tr.ret (Ev.tupD (ds := [.str _, .str _]) (EvL.cons (ev_add (ev_pick spl (Ev.name hk rfl) (ev_dm 112 10 (by decide) (by decide) (Ev.nameI hk rfl)) (by omega) (by omega)) (Ev.nameI hk rfl) (by omega)) (EvL.cons (ev_pick pll (Ev.name hk rfl) (ev_dm 112 10 (by decide) (by decide) (Ev.nameI hk rfl)) (by omega) (by omega)) EvL.nil)) (by show (2 : Nat) ≤ sizeLine; decide)))
        · rw [if_neg h2]
          refine Tr.cons (Tr.ite (b := false) (EvT.to (EvT.cmp (ev_md 4 (by decide) (Ev.nameI hk rfl)) Ev.cint Op2.eqI) ((test 2).trans (decide_eq_false h2))) (fun h => by cases h) (fun _ => Tr.nil)) ?_
          have m4 : dm x 224 4 < 4 := dm_lt x 224 (by decide)
          have m2 : dm x 112 2 < 2 := dm_lt x 112 (by decide)
          generalize uns (dm x 4 28) = u at *
          refine Tr.cons (Tr.assign hk (ev_pick [[], [102], [92] ++ u ++ [34], [92, 92]] (Ev.listD (ds := [.str (S []), .str (S [102]), .str (S ([92] ++ u ++ [34])), .str (S [92, 92])]) (EvL.cons ev_s (EvL.cons ev_s (EvL.cons (ev_add (ev_add ev_s (Ev.nameI hk rfl) (by simp; omega)) ev_s (by simp; omega)) (EvL.cons ev_s EvL.nil)))) (by show (4 : Nat) ≤ sizeLine; decide)) (ev_dm 224 4 (by decide) (by decide) (Ev.nameI hk rfl)) m4 (by show 4 < 2 ^ 60; decide)) (.inl rfl)) ?_
          have hh : ([[], [102], [92] ++ u ++ [34], [92, 92]].getD (dm x 224 4) []).length ≤ 8 := by
            have : ∀ m : Fin 4, (([[], [102], [92] ++ u ++ [34], [92, 92]] : List (List Nat)).getD m []).length ≤ 8 := by
              intro m
              match m with
              | 0 => exact (by decide : ([] : List Nat).length ≤ 8)
              | 1 => exact (by decide : ([102] : List Nat).length ≤ 8)
              | 2 => show ([92] ++ u ++ [34]).length ≤ 8; simp; omega
              | 3 => exact (by decide : ([92, 92] : List Nat).length ≤ 8)
            exact this ⟨dm x 224 4, m4⟩
          generalize ([[], [102], [92] ++ u ++ [34], [92, 92]] : List (List Nat)).getD (dm x 224 4) [] = hid at *
          refine Tr.cons (Tr.assign hk (ev_pickS [102, 105] ev_s (ev_dm 112 2 (by decide) (by decide) (Ev.nameI hk rfl)) m2 (by decide)) (.inl rfl)) ?_
          generalize ([102, 105] : List Nat).getD (dm x 112 2) 0 = lt at *
          exact Tr.stop (Tr.ret (Ev.tupD (ds := [.str _, .str _]) (EvL.cons (ev_add (ev_add (ev_add (ev_add ev_s (Ev.nameI hk rfl) (by simp; omega)) ev_s (by simp; omega)) (Ev.nameI hk rfl) (by simp; omega)) (Ev.nameI hk rfl) (by simp; omega)) (EvL.cons (Ev.nameI hk rfl) EvL.nil)) (by show (2 : Nat) ≤ sizeLine; decide)))
end Mine
end

/-! N2j -/
section
open PySem PySem.Calls PyProof.Rows PySem.W
set_option maxRecDepth 100000
namespace Mine
variable {W : Wd} {n : Nat} {b1 : Int → Bool} {b3 : Int → Option Im} {ett : Str → Option Im}
def kLaw : Nat := 70
abbrev lEnv (L a : Addr) (cd : Value) : Env := envOfC "law" (scopeOf PW kLaw) L a cd
def numSum (s : List Int) (k : Int) : Int := (pk (some k) none (some 4) (pk none (some 63) none s)).sum
def numF (s : List Int) : It → Option It
  | .tup [.int k, .int x] => some (.int (x + numSum s k))
  | _ => none
def numsL (s : List Int) : List Int := [137 + numSum s 0, 1004 + numSum s 1, 490 + numSum s 2, 451 + numSum s 3]
theorem nums_eq (s : List Int) : (enumI [.int 137, .int 1004, .int 490, .int 451]).filterMap (numF s) = (numsL s).map It.int := rfl
theorem pk_len {α : Type} (lo hi st : Option Int) (l : List α) : (pk lo hi st l).length ≤ l.length := by
  have := slicePick_size_le (l.map fun _ => Value.none).toArray lo hi st
  have e := pk_map (fun _ : α => Value.none) lo hi st l
  have e2 : (pk lo hi st l).length = (pk lo hi st (l.map fun _ => Value.none)).length := by rw [e, List.length_map]
  rw [e2]
  have e3 : (pk lo hi st (l.map fun _ => Value.none)).length = (slicePick (l.map fun _ => Value.none).toArray lo hi st).size := by simp [slicePick, pk]
  rw [e3]
  simpa using this
theorem ev_numbers (T : TopT W b1 b3 ett) {L a : Addr} {cd : Value} (hk : EnvOk (lEnv L a cd)) {s : List Int} (hs : s.length ≤ 2 ^ 20) :
    Tr W (n + 1) (lEnv L a cd) (ent ["script"] [.list (s.map It.int)]) (exec (((bodyOf PW kLaw)[0]?).getD default) (lEnv L a cd)) (.next [("script", .list (s.map It.int), false), ("numbers", .list ((numsL s).map It.int), true)]) := by
  rw [← nums_eq]
  refine Tr.assignComp (us := []) (f := numF s) hk (Comp.cap [("script", L + 1, .list (s.map It.int))] ["script"] (xs := enumI [.int 137, .int 1004, .int 490, .int 451]) (Src.enum (fr := true) hk ⟨_, _, _, rfl⟩ (Ev.to (Ev.listD (ds := [.int 137, .int 1004, .int 490, .int 451]) (EvL.cons Ev.cint (EvL.cons Ev.cint (EvL.cons Ev.cint (EvL.cons Ev.cint EvL.nil)))) (by decide)) rfl) rfl T.enumerate (.inl rfl)) rfl ⟨rfl, rfl, rfl, fun _ => rfl, trivial⟩ (by decide) rfl (by decide) rfl (by decide) ?_ (by decide)) (.inl rfl) rfl
  intro C hk' y hy
  have : ∃ k x, y = .tup [.int k, .int x] := by
    simp only [enumI, List.mem_map, List.mem_range] at hy
    obtain ⟨i, hi, rfl⟩ := hy
    have : i < 4 := hi
    match i, this with
    | 0, _ => exact ⟨_, _, rfl⟩
    | 1, _ => exact ⟨_, _, rfl⟩
    | 2, _ => exact ⟨_, _, rfl⟩
    | 3, _ => exact ⟨_, _, rfl⟩
  obtain ⟨k, x, rfl⟩ := this
  refine ⟨_, true, .tup2, ?_, EvIfs.nil, fun h => (by cases h), fun _ => ⟨_, rfl, ?_⟩⟩
  · intro b hb
    simp only [List.mem_cons, List.not_mem_nil, or_false] at hb
    rcases hb with rfl | rfl <;> rfl
  · exact Ev.bin (Ev.nameI hk' rfl) (Ev.callB hk' rfl T.sum (EvL.cons (Ev.to (Ev.sliceL (Ev.sliceL (Ev.name hk' rfl) EvP.none (EvP.some Ev.cint) EvP.none (by decide) (by rw [List.length_map, sizeLine]; omega)) (EvP.some (Ev.nameI hk' rfl)) EvP.none (EvP.some Ev.cint) (by decide) (by
        refine Nat.le_trans (pk_len _ _ _ _) ?_
        rw [List.length_map, sizeLine]; omega)) (by rw [pk_map, pk_map])) EvL.nil) OpC.sum) Op2.addI

def itemF : It → Option It
  | .im (.int x) => some (pairL (itemL x))
  | _ => none
theorem items_eq (ns : List Int) : (ns.map It.int).filterMap itemF = ns.map fun x => pairL (itemL x) := by
  induction ns with
  | nil => rfl
  | cons a r ih => simp only [List.map_cons, List.filterMap_cons, itemF, ih]
theorem ev_items (T : TopT W b1 b3 ett) {L a : Addr} {cd : Value} (hk : EnvOk (lEnv L a cd)) {s ns : List Int} (hn : ns.length ≤ 2 ^ 20) :
    Tr W (n + 2) (lEnv L a cd) [("script", .list (s.map It.int), false), ("numbers", .list (ns.map It.int), true)] (exec (((bodyOf PW kLaw)[1]?).getD default) (lEnv L a cd))
      (.next [("script", .list (s.map It.int), false), ("numbers", .list (ns.map It.int), true), ("items", .list (ns.map fun x => pairL (itemL x)), true)]) := by
  rw [← items_eq]
  refine Tr.assignComp (us := ["numbers"]) (f := itemF) hk (Comp.closed (xs := ns.map It.int) (Src.listName hk (.inl ⟨_, _, rfl⟩) rfl) (by decide) (by decide) rfl (by decide) ?_ (by rw [List.length_map, sizeLine]; omega)) (.inl rfl) rfl
  intro C hk' y hy
  obtain ⟨x, _, rfl⟩ := List.mem_map.mp hy
  exact ⟨_, true, .name, fun b hb => (by simp only [List.mem_singleton] at hb; subst hb; rfl), EvIfs.nil, fun h => (by cases h), fun _ => ⟨_, rfl, Ev.callD hk' rfl (c_item T) (EvL.cons (Ev.nameI hk' rfl) EvL.nil)⟩⟩

/-- what one of a pair's two texts is -/
def fstF : It → Option It
  | .tup [.str a, .str _] => some (.str a)
  | _ => none
def sndF : It → Option It
  | .tup [.str _, .str b] => some (.str b)
  | _ => none
theorem fst_eq (ps : List (List Nat × List Nat)) : (ps.map pairL).filterMap fstF = ((ps.map (·.1)).map S).map It.str := by
  induction ps with
  | nil => rfl
  | cons a r ih => simp only [List.map_cons, List.filterMap_cons, fstF, ih]
theorem snd_eq (ps : List (List Nat × List Nat)) : (ps.map pairL).filterMap sndF = ((ps.map (·.2)).map S).map It.str := by
  induction ps with
  | nil => rfl
  | cons a r ih => simp only [List.map_cons, List.filterMap_cons, sndF, ih]

/-- ''.join over the first (second) texts of the pairs that `items` holds -/
theorem ev_join1 {L a : Addr} {cd : Value} (hk : EnvOk (lEnv L a cd)) {l : Sl} {ps : List (List Nat × List Nat)} (hl : lk l "items" = some (.list (ps.map pairL))) (hp : ps.length ≤ 2 ^ 10) (hs : ∀ p ∈ ps, p.1.length ≤ 2 ^ 10) {k : Nat} {p0 p1 p2 p3 p4 p5 p6 p7 p8 : Pos} {k1 : Nat}
    {scope : Scope} (hsc : scope = { kind := .function, names := [(".0", .local), ("spelled", .local), ("plain", .local)], isGenerator := false, isCoroutine := false })
    (hline : (p1.endLine == p2.line) = true) :
    Ev W n false (lEnv L a cd) (lk l) (eval (.Call (.Attribute (.Constant (.str "") k p0) "join" p1) [.ListComp (.Name "spelled" p3) [⟨.Tuple [.Name "spelled" p4, .Name "plain" p5] k1 p6, .Name "items" p7, [], 0⟩] scope p8] [] p2) (lEnv L a cd)) (.str (S (ps.map (·.1)).flatten)) := by
  subst hsc
  refine Ev.to (Ev.meth (Ev.cstr) F.plainAttrs_str F.slot_str_join F.type_str_join str_typed (EvL.cons (Ev.to (Ev.comp hk (Comp.closed (us := ["items"]) (f := fstF) (Src.listName hk (.inr ⟨_, _, _, rfl⟩) hl) (by decide) (by decide) rfl (by decide) ?_ (by rw [List.length_map, sizeLine]; omega))) (congrArg PV.list (fst_eq ps))) EvL.nil) (OpM.join (joinOk_of ?_)) (hline := hline)) (by rw [join_E])
  · intro C hk' y hy
    obtain ⟨p, _, rfl⟩ := List.mem_map.mp hy
    refine ⟨_, true, .tup2, ?_, EvIfs.nil, fun h => (by cases h), fun _ => ⟨_, rfl, Ev.nameI hk' rfl⟩⟩
    intro b hb
    simp only [List.mem_cons, List.not_mem_nil, or_false] at hb
    rcases hb with rfl | rfl <;> rfl
  · have key : ∀ l : List (List Nat × List Nat), (∀ p ∈ l, p.1.length ≤ 2 ^ 10) → (((l.map (·.1)).map S).map fun y => y.length + ("" : Str).length).sum ≤ l.length * 2 ^ 10 := by
      intro l
      induction l with
      | nil => intro _; simp
      | cons q r ih =>
        intro h
        have h1 := h q (.head _)
        have h2 := ih fun p hp => h p (.tail _ hp)
        simp only [List.map_cons, List.sum_cons, List.length_cons, len_S, Nat.add_mul]
        have e : ("" : Str).length = 0 := rfl
        omega
    have := key ps hs
    have h3 : ps.length * 2 ^ 10 ≤ 2 ^ 10 * 2 ^ 10 := Nat.mul_le_mul_right _ hp
    rw [sizeLine]; omega
theorem ev_join2 {L a : Addr} {cd : Value} (hk : EnvOk (lEnv L a cd)) {l : Sl} {ps : List (List Nat × List Nat)} (hl : lk l "items" = some (.list (ps.map pairL))) (hp : ps.length ≤ 2 ^ 10) (hs : ∀ p ∈ ps, p.2.length ≤ 2 ^ 10) {k : Nat} {p0 p1 p2 p3 p4 p5 p6 p7 p8 : Pos} {k1 : Nat}
    {scope : Scope} (hsc : scope = { kind := .function, names := [(".0", .local), ("spelled", .local), ("plain", .local)], isGenerator := false, isCoroutine := false })
    (hline : (p1.endLine == p2.line) = true) :
    Ev W n false (lEnv L a cd) (lk l) (eval (.Call (.Attribute (.Constant (.str "") k p0) "join" p1) [.ListComp (.Name "plain" p3) [⟨.Tuple [.Name "spelled" p4, .Name "plain" p5] k1 p6, .Name "items" p7, [], 0⟩] scope p8] [] p2) (lEnv L a cd)) (.str (S (ps.map (·.2)).flatten)) := by
  subst hsc
  refine Ev.to (Ev.meth (Ev.cstr) F.plainAttrs_str F.slot_str_join F.type_str_join str_typed (EvL.cons (Ev.to (Ev.comp hk (Comp.closed (us := ["items"]) (f := sndF) (Src.listName hk (.inr ⟨_, _, _, rfl⟩) hl) (by decide) (by decide) rfl (by decide) ?_ (by rw [List.length_map, sizeLine]; omega))) (congrArg PV.list (snd_eq ps))) EvL.nil) (OpM.join (joinOk_of ?_)) (hline := hline)) (by rw [join_E])
  · intro C hk' y hy
    obtain ⟨p, _, rfl⟩ := List.mem_map.mp hy
    refine ⟨_, true, .tup2, ?_, EvIfs.nil, fun h => (by cases h), fun _ => ⟨_, rfl, Ev.nameI hk' rfl⟩⟩
    intro b hb
    simp only [List.mem_cons, List.not_mem_nil, or_false] at hb
    rcases hb with rfl | rfl <;> rfl
  · have key : ∀ l : List (List Nat × List Nat), (∀ p ∈ l, p.2.length ≤ 2 ^ 10) → (((l.map (·.2)).map S).map fun y => y.length + ("" : Str).length).sum ≤ l.length * 2 ^ 10 := by
      intro l
      induction l with
      | nil => intro _; simp
      | cons q r ih =>
        intro h
        have h1 := h q (.head _)
        have h2 := ih fun p hp => h p (.tail _ hp)
        simp only [List.map_cons, List.sum_cons, List.length_cons, len_S, Nat.add_mul]
        have e : ("" : Str).length = 0 := rfl
        omega
    have := key ps hs
    have h3 : ps.length * 2 ^ 10 ≤ 2 ^ 10 * 2 ^ 10 := Nat.mul_le_mul_right _ hp
    rw [sizeLine]; omega

def prepL (b1 : Int → Bool) (b3 : Int → Option Im) (t : List Nat) : List Nat := ((t.filter fun (c : Nat) => !b1 (c : Int)).map fun c => L (m3 b3 c)).flatten
theorem prep_S (t : List Nat) : Txt.join "" (prep b1 b3 t) = S (prepL b1 b3 t) := by
  unfold prepL prep
  rw [← join_E, List.map_map]
  refine congrArg (Txt.join "") (List.map_congr_left fun c _ => ?_)
  simp [S_L]
theorem prepL_len (h : B3ok b3) (t : List Nat) : (prepL b1 b3 t).length ≤ 4 * t.length := by
  unfold prepL
  induction t with
  | nil => simp
  | cons c r ih =>
    simp only [List.filter_cons]
    split
    · simp only [List.map_cons, List.flatten_cons, List.length_append, List.length_cons]
      have : (L (m3 b3 c)).length ≤ 4 := by
        have := m3_len h c
        simpa [L, Str.length] using this
      omega
    · simp only [List.length_cons]; omega
theorem c_prepL (T : TopT W b1 b3 ett) (h3 : B3ok b3) {t : List Nat} (ht : t.length ≤ 2 ^ 18) : Cf W (n + 2) "_law_prepared" [.str (S t)] (.str (S (prepL b1 b3 t))) := by
  have := c_prep (n := n) T h3 (x := S t) (by rw [len_S]; exact ht)
  rw [show (S t).cps.toList = t from L_S t, prep_S] at this
  exact this
end Mine
end

/-! N2k -/
section
open PySem PySem.Calls PyProof.Rows PySem.W
set_option maxRecDepth 100000
namespace Mine
variable {W : Wd} {n : Nat} {b1 : Int → Bool} {b3 : Int → Option Im} {ett : Str → Option Im}

/-- the contract of _strip_quoted_realnames -/
def StripOk (W : Wd) (m : Nat) (sq : List Nat → List Nat) : Prop := ∀ t : List Nat, t.length ≤ 2 ^ 18 → (sq t).length ≤ t.length ∧ Cf W m "_strip_quoted_realnames" [.str (S t)] (.str (S (sq t)))
abbrev lSt (s ns : List Int) (ps : List (List Nat × List Nat)) : Sl := [("script", .list (s.map It.int), false), ("numbers", .list (ns.map It.int), true), ("items", .list (ps.map pairL), true)]
abbrev lSt1 (s ns : List Int) (ps : List (List Nat × List Nat)) (w : List Nat) : Sl := [("script", .list (s.map It.int), false), ("numbers", .list (ns.map It.int), true), ("items", .list (ps.map pairL), true), ("word", .str (S w), true)]
def wordOf (b1 : Int → Bool) (b3 : Int → Option Im) (ett : Str → Option Im) (sq : List Nat → List Nat) (t : List Nat) : List Nat := wordL ett (sq (prepL b1 b3 t)).length (sq (prepL b1 b3 t))
theorem flat_len (ps : List (List Nat)) (h : ∀ p ∈ ps, p.length ≤ 2 ^ 5) : ps.flatten.length ≤ ps.length * 2 ^ 5 := by
  induction ps with
  | nil => simp
  | cons q r ih =>
    have h1 := h q (.head _)
    have h2 := ih fun p hp => h p (.tail _ hp)
    simp only [List.flatten_cons, List.length_append, List.length_cons, Nat.add_mul]
    omega
theorem ev_word (T : TopT W b1 b3 ett) (h3 : B3ok b3) (he : EttOk ett) {sq : List Nat → List Nat} (hq : StripOk W (n + 2) sq) {L a : Addr} {cd : Value} (hk : EnvOk (lEnv L a cd)) {s ns : List Int} {ps : List (List Nat × List Nat)} (hp : ps.length ≤ 2 ^ 4) (hps : ∀ p ∈ ps, p.1.length ≤ 2 ^ 5) :
    Tr W (n + 2) (lEnv L a cd) (lSt s ns ps) (exec (((bodyOf PW kLaw)[2]?).getD default) (lEnv L a cd))
      (.next (lSt1 s ns ps (wordOf b1 b3 ett sq (ps.map (·.1)).flatten))) := by
  have hf := flat_len (ps.map (·.1)) (fun p hp' => by obtain ⟨q, hq', rfl⟩ := List.mem_map.mp hp'; exact hps q hq')
  rw [List.length_map] at hf
  have hf2 : (ps.map (·.1)).flatten.length ≤ 2 ^ 9 := by
    have : ps.length * 2 ^ 5 ≤ 2 ^ 4 * 2 ^ 5 := Nat.mul_le_mul_right _ hp
    omega
  have hpl := prepL_len (b1 := b1) h3 (ps.map (·.1)).flatten
  obtain ⟨hq1, hq2⟩ := hq (prepL b1 b3 (ps.map (·.1)).flatten) (by omega)
  exact Tr.assign hk (Ev.callD hk rfl (c_word T he (x := sq (prepL b1 b3 (ps.map (·.1)).flatten)) (by omega)) (EvL.cons (Ev.callD hk rfl hq2 (EvL.cons (Ev.callD hk rfl (c_prepL T h3 (by omega)) (EvL.cons (ev_join1 hk rfl (by omega) (fun p hp' => Nat.le_trans (hps p hp') (by decide)) rfl rfl) EvL.nil)) EvL.nil)) EvL.nil)) (.inr ⟨rfl, rfl⟩)
theorem ev_same (T : TopT W b1 b3 ett) {L a : Addr} {cd : Value} (hk : EnvOk (lEnv L a cd)) {s ns : List Int} {ps : List (List Nat × List Nat)} (hp : ps.length ≤ 2 ^ 4) (hps : ∀ p ∈ ps, p.2.length ≤ 2 ^ 5) {w : List Nat}
    (hw : w = plainL (ps.map (·.2)).flatten.length (ps.map (·.2)).flatten) :
    Tr W (n + 2) (lEnv L a cd) (lSt1 s ns ps w) (exec (((bodyOf PW kLaw)[3]?).getD default) (lEnv L a cd)) (.next (lSt1 s ns ps w)) := by
  have hf := flat_len (ps.map (·.2)) (fun p hp' => by obtain ⟨q, hq', rfl⟩ := List.mem_map.mp hp'; exact hps q hq')
  rw [List.length_map] at hf
  have hf2 : (ps.map (·.2)).flatten.length ≤ 2 ^ 9 := by
    have : ps.length * 2 ^ 5 ≤ 2 ^ 4 * 2 ^ 5 := Nat.mul_le_mul_right _ hp
    omega
  refine Tr.ite (b := false) (EvT.to (EvT.cmp (Ev.nameI hk rfl) (Ev.callD hk rfl (c_plain T (x := (ps.map (·.2)).flatten) (by omega)) (EvL.cons (ev_join2 hk rfl (by omega) (fun p hp' => Nat.le_trans (hps p hp') (by decide)) rfl rfl) EvL.nil)) Op2.neS) ?_) (fun h => by cases h) (fun _ => Tr.nil)
  rw [← hw]; simp
end Mine
end

/-! N2l -/
section
open PySem PySem.Calls PyProof.Rows PySem.W
set_option maxRecDepth 100000
namespace Mine
variable {W : Wd} {n : Nat} {b1 : Int → Bool} {b3 : Int → Option Im} {ett : Str → Option Im}

def tailF (x : List Nat) (e : Nat) : It → Option It
  | .im (.int i) => if isPal ((x.take e).drop i.toNat) then some (.str (S ((x.take e).drop i.toNat))) else none
  | _ => none
/-- the palindromes that end at e, the longest first -/
def tailsL (x : List Nat) (e : Nat) : List (List Nat) := ((List.range e).map fun i => (x.take e).drop i).filter isPal
theorem tails_eq (x : List Nat) (e : Nat) : (nI (List.range' 0 e)).filterMap (tailF x e) = ((tailsL x e).map S).map It.str := by
  unfold tailsL
  rw [← List.range_eq_range']
  induction List.range e with
  | nil => rfl
  | cons i r ih =>
    simp only [nI, List.map_cons, List.filterMap_cons, List.filter_cons, tailF, Int.toNat_natCast]
    split
    · rename_i h
      split at h
      · cases h
      · rename_i q; rw [if_neg q]; exact ih
    · rename_i h
      split at h
      · rename_i q; rw [if_pos q]; cases h; simp only [List.map_cons]; rw [← ih]
      · cases h
/-- tails = [...] inside the loop of law -/
theorem ev_tails (T : TopT W b1 b3 ett) {L a : Addr} {cd : Value} (hk : EnvOk (lEnv L a cd)) {x : List Nat} (hx : x.length ≤ 128) {e : Nat} (he : e ≤ x.length) {l : Sl} (hw : lk l "word" = some (.str (S x))) (hend : lk l "end" = some (.int (e : Nat)))
    {st : Stmt} (hst : (match (bodyOf PW kLaw)[6]? with | some (Stmt.For _ _ b _ _) => b[0]? | _ => none) = some st) :
    Tr W (n + 1) (lEnv L a cd) l (exec st (lEnv L a cd)) (.next (put "tails" (.list (((tailsL x e).map S).map It.str)) l)) := by
  rw [← tails_eq]
  cases hst
  refine Tr.assignComp (us := []) (f := tailF x e) hk (Comp.cap [("word", L + 2, .str (S x)), ("end", L + 4, .int (e : Nat))] ["word", "end"] (xs := nI (List.range' 0 e))
    (Src.to (Src.range (a := ((0 : Nat) : Int)) (b := ((e : Nat) : Int)) ⟨_, _, rfl⟩ (Ev.callT hk rfl T.range (EvL.cons (Ev.nameI hk hend) EvL.nil) OpC.range1) (by omega) (by omega) (by omega) (by omega)) (by rw [rng_nI]; rfl)) rfl ⟨rfl, rfl, hw, fun _ => rfl, rfl, rfl, hend, fun _ => rfl, trivial⟩ (by decide) rfl (by decide) rfl (by decide) ?_ ?_) (.inl rfl) rfl
  · intro C hk' y hy
    obtain ⟨i, hi, rfl⟩ := List.mem_map.mp hy
    have hp : ((x.take e).drop i).length ≤ 128 := by rw [List.length_drop, List.length_take]; omega
    have et : (S ((x.take e).drop i) == S ((x.take e).drop i).reverse) = isPal ((x.take e).drop i) := by rw [S_beq]; rfl
    refine ⟨_, isPal ((x.take e).drop i), .name, fun b hb => (by simp only [List.mem_singleton] at hb; subst hb; rfl), EvIfs.one (EvT.to (EvT.cmp (d1 := .str (S ((x.take e).drop i))) (d2 := .str (S ((x.take e).drop i).reverse)) (Ev.to (Ev.sliceS (Ev.nameI hk' rfl) (EvP.some (Ev.nameI hk' rfl)) (EvP.some (Ev.nameI hk' rfl)) EvP.none (by decide) (by rw [len_S, sizeLine]; omega)) (by rw [pkS_S, pk_pos]))
      (Ev.to (Ev.sliceS (x := S ((x.take e).drop i)) (Ev.to (Ev.sliceS (Ev.nameI hk' rfl) (EvP.some (Ev.nameI hk' rfl)) (EvP.some (Ev.nameI hk' rfl)) EvP.none (by decide) (by rw [len_S, sizeLine]; omega)) (by rw [pkS_S, pk_pos])) EvP.none EvP.none (EvP.some (Ev.neg Ev.cint)) (by decide) (by rw [len_S, sizeLine]; omega)) (by rw [pkS_S, pk_rev])) Op2.eqS) et),
      fun h => ?_, fun h => ⟨.str (S ((x.take e).drop i)), ?_, Ev.to (Ev.sliceS (Ev.nameI hk' rfl) (EvP.some (Ev.nameI hk' rfl)) (EvP.some (Ev.nameI hk' rfl)) EvP.none (by decide) (by rw [len_S, sizeLine]; omega)) (by rw [pkS_S, pk_pos])⟩⟩
    · simp only [tailF, Int.toNat_natCast, h]; rfl
    · simp only [tailF, Int.toNat_natCast, h]; rfl
  · simp only [List.length_map, List.length_range', sizeLine]; omega

abbrev strL (ks : List (List Nat)) : List It := (ks.map S).map It.str
def hasL (ks : List (List Nat)) (t : List Nat) : Bool := ks.any (· == t)
theorem any_S (ks : List (List Nat)) (t : List Nat) : (ks.map S).any (· == S t) = hasL ks t := by
  unfold hasL
  induction ks with
  | nil => rfl
  | cons k r ih => simp only [List.map_cons, List.any_cons, ih, S_beq]
def newF (ks : List (List Nat)) : It → Option It
  | .im (.str t) => if hasL ks (L t) then none else some (.str t)
  | _ => none
theorem new_eq (ks tl : List (List Nat)) : (strL tl).filterMap (newF ks) = strL (tl.filter fun t => !hasL ks t) := by
  induction tl with
  | nil => rfl
  | cons t r ih =>
    simp only [strL, List.map_cons, List.filterMap_cons, List.filter_cons, newF, L_S]
    cases h : hasL ks t with
    | true => simpa using ih
    | false => simp only [Bool.not_false, if_true, Bool.false_eq_true, if_false, List.map_cons]; exact congrArg (List.cons _) ih
theorem ev_kinds (T : TopT W b1 b3 ett) {L a : Addr} {cd : Value} (hk : EnvOk (lEnv L a cd)) {ks tl : List (List Nat)} (hks : ks.length + tl.length ≤ 2 ^ 20) {l : Sl} (htl : lk l "tails" = some (.list (strL tl))) (hkd : l.lookup ("kinds" : Str) = some (PV.list (strL ks), true))
    {st : Stmt} (hst : (match (bodyOf PW kLaw)[6]? with | some (Stmt.For _ _ b _ _) => b[1]? | _ => none) = some st) :
    Tr W (n + 1) (lEnv L a cd) l (exec st (lEnv L a cd)) (.next (put "kinds" (.list (strL ks ++ strL (tl.filter fun t => !hasL ks t))) l)) := by
  rw [← new_eq]
  cases hst
  have hkd' : lk l "kinds" = some (.list (strL ks)) := by simp only [lk, hkd]; rfl
  have hlen : ((strL tl).filterMap (newF ks)).length ≤ tl.length := by
    have := List.length_filterMap_le (newF ks) (strL tl)
    simpa [strL] using this
  refine Tr.extend hk hkd (Ev.comp hk (Comp.cap [("kinds", L + 3, .list (strL ks))] ["kinds"] (xs := strL tl) (f := newF ks) (us := ["tails"]) (Src.listName hk (.inl ⟨_, _, rfl⟩) htl) rfl ⟨rfl, rfl, hkd', fun _ => rfl, trivial⟩ (by decide) rfl (by decide) rfl (by decide) ?_ ?_)) (by simp only [strL, List.length_map, sizeLine] at *; omega)
  · intro C hk' y hy
    simp only [strL, List.mem_map] at hy
    obtain ⟨_, ⟨t, ht, rfl⟩, rfl⟩ := hy
    refine ⟨_, !hasL ks t, .name, fun b hb => (by simp only [List.mem_singleton] at hb; subst hb; rfl), EvIfs.one (EvT.to (EvT.cmp (d1 := .str (S t)) (Ev.nameI hk' rfl) (Ev.name hk' rfl) (Op2.ninLS (l := ks.map S))) (by rw [any_S])), fun h => ?_, fun h => ⟨.str (S t), ?_, Ev.nameI hk' rfl⟩⟩
    · have : hasL ks t = true := by simpa using h
      simp only [newF, L_S, this]; rfl
    · have : hasL ks t = false := by simpa using h
      simp only [newF, L_S, this]; rfl
  · simp only [strL, List.length_map, sizeLine]; omega

theorem ev_fresh (T : TopT W b1 b3 ett) {L a : Addr} {cd : Value} (hk : EnvOk (lEnv L a cd)) {x t0 : List Nat} {tl : List (List Nat)} {fr : List Bool} {e : Nat} (hx : x.length ≤ 128) (he : 1 ≤ e) (ht : t0.length ≤ 128) (hfr : fr.length ≤ 2 ^ 20) {l : Sl} (htl : lk l "tails" = some (.list (strL (t0 :: tl))))
    (hw : lk l "word" = some (.str (S x))) (hend : lk l "end" = some (.int (e : Nat))) (hfd : l.lookup ("fresh" : Str) = some (PV.list (fr.map fun b => It.im (.bool b)), true))
    {st : Stmt} (hst : (match (bodyOf PW kLaw)[6]? with | some (Stmt.For _ _ b _ _) => b[2]? | _ => none) = some st) :
    Tr W (n + 1) (lEnv L a cd) l (exec st (lEnv L a cd)) (.next (put "fresh" (.list (fr.map (fun b => It.im (.bool b)) ++ [It.im (.bool (em ((dotsL ++ t0) ++ dotsL) (x.take (e - 1))))])) l)) := by
  cases hst
  have d3 : dotsL.length = 3 := rfl
  have dE : ("..." : Str) = S dotsL := dots_S
  exact Tr.append hk hfd (Ev.callD hk rfl (c_em T (want := (dotsL ++ t0) ++ dotsL) (got := x.take (e - 1)) (by simp only [List.length_append, d3]; omega) (by rw [List.length_take]; omega))
    (EvL.cons (ev_add (ev_add (ev_s dE) (Ev.to (d := .str (S t0)) (Ev.subL (l := strL (t0 :: tl)) (d := .str (S t0)) (Ev.name hk htl) Ev.cint (by decide) (by decide) rfl) rfl) (by omega)) (ev_s dE) (by simp only [List.length_append, d3]; omega))
      (EvL.cons (Ev.to (d' := .str (S (x.take (e - 1)))) (Ev.sliceS (Ev.nameI hk hw) EvP.none (EvP.some (Ev.bin (Ev.nameI hk hend) Ev.cint Op2.subI)) EvP.none (by decide) (by rw [len_S, sizeLine]; omega)) (by rw [pkS_S, show ((e : Nat) : Int) - 1 = ((e - 1 : Nat) : Int) by omega, pk_to])) EvL.nil))) (by rw [List.length_map, sizeLine]; omega)
end Mine
end

/-! N2m -/
section
open PySem PySem.Calls PyProof.Rows PySem.W
set_option maxRecDepth 100000
namespace Mine
variable {W : Wd} {n : Nat} {b1 : Int → Bool} {b3 : Int → Option Im} {ett : Str → Option Im}

theorem tails_ne {x : List Nat} {e : Nat} (h1 : 1 ≤ e) (h2 : e ≤ x.length) : tailsL x e ≠ [] := by
  intro h
  have hm : (x.take e).drop (e - 1) ∈ tailsL x e := by
    unfold tailsL
    rw [List.mem_filter]
    refine ⟨List.mem_map.mpr ⟨e - 1, List.mem_range.mpr (by omega), rfl⟩, ?_⟩
    have hl : ((x.take e).drop (e - 1)).length = 1 := by rw [List.length_drop, List.length_take]; omega
    obtain ⟨a, ha⟩ := eq_one hl
    rw [ha]; simp [isPal]
  rw [h] at hm; cases hm
theorem tails_len (x : List Nat) (e : Nat) : (tailsL x e).length ≤ e ∧ ∀ t ∈ tailsL x e, t.length ≤ x.length := by
  unfold tailsL
  refine ⟨Nat.le_trans (List.length_filter_le _ _) (by simp), fun t ht => ?_⟩
  obtain ⟨i, _, rfl⟩ := List.mem_map.mp (List.mem_filter.mp ht).1
  rw [List.length_drop, List.length_take]; omega
def loopKF (x : List Nat) : List Nat → List (List Nat) → List Bool → List (List Nat) × List Bool
  | [], ks, fr => (ks, fr)
  | e :: es, ks, fr => loopKF x es (ks ++ (tailsL x e).filter fun t => !hasL ks t) (fr ++ [em ((dotsL ++ (tailsL x e).headD []) ++ dotsL) (x.take (e - 1))])
abbrev bolL (fr : List Bool) : List It := fr.map fun b => It.im (.bool b)
abbrev lSt2 (s ns : List Int) (ps : List (List Nat × List Nat)) (w : List Nat) (ks : List (List Nat)) (fr : List Bool) : Sl :=
  [("script", .list (s.map It.int), false), ("numbers", .list (ns.map It.int), true), ("items", .list (ps.map pairL), true), ("word", .str (S w), true), ("kinds", .list (strL ks), true), ("fresh", .list (bolL fr), true)]
theorem ev_loop (T : TopT W b1 b3 ett) {L a : Addr} {cd : Value} (hk : EnvOk (lEnv L a cd)) {s ns : List Int} {ps : List (List Nat × List Nat)} {x : List Nat} (hx : x.length ≤ 128) :
    Tr W (n + 1) (lEnv L a cd) (lSt2 s ns ps x [] []) (exec (((bodyOf PW kLaw)[6]?).getD default) (lEnv L a cd)) (.next (lSt2 s ns ps x (loopKF x (List.range' 1 x.length) [] []).1 (loopKF x (List.range' 1 x.length) [] []).2)) := by
  refine Tr.for (us := []) (gn := false) (xs := nI (List.range' 1 x.length))
    (P := fun rest l o => ∃ (es : List Nat) (ks : List (List Nat)) (fr : List Bool), rest = nI es ∧ (∀ e ∈ es, 1 ≤ e ∧ e ≤ x.length) ∧ ks.length + es.length * 128 ≤ 2 ^ 15 ∧ fr.length + es.length ≤ 2 ^ 10 ∧ le (lSt2 s ns ps x ks fr) l ∧ o = .next (lSt2 s ns ps x (loopKF x es ks fr).1 (loopKF x es ks fr).2)) hk
    (Src.to (Src.range (a := ((1 : Nat) : Int)) (b := ((x.length + 1 : Nat) : Int)) ⟨_, _, rfl⟩ (Ev.callT hk rfl T.range (EvL.cons Ev.cint (EvL.cons (Ev.bin (Ev.callB hk rfl T.len (EvL.cons (Ev.nameI hk rfl) EvL.nil) (OpC.lenS (by rw [len_S]; omega))) Ev.cint Op2.addI) EvL.nil)) (by rw [len_S]; exact OpC.range2)) (by omega) (by omega) (by omega) (by omega))
      (by rw [rng_nI]; congr 1)) ⟨_, [], [], rfl, ?_, ?_, ?_, le.refl _, rfl⟩ (fun y hy => by simp at hy) ?_ ?_
  · intro e he
    have := List.mem_range'_1.mp he
    omega
  · rw [List.length_range', List.length_nil]; omega
  · rw [List.length_range', List.length_nil]; omega
  · rintro l' o' ⟨es, ks, fr, h1, _, _, _, hle, rfl⟩
    cases es with
    | nil => exact ⟨_, rfl, hle⟩
    | cons => simp [nI] at h1
  · rintro y rest l' o' ⟨es, ks, fr, h1, h2, h3, h4, hle, rfl⟩
    cases es with
    | nil => simp [nI] at h1
    | cons e es =>
      simp only [nI, List.map_cons, List.cons.injEq] at h1
      obtain ⟨rfl, rfl⟩ := h1
      obtain ⟨he1, he2⟩ := h2 e (.head _)
      obtain ⟨t0, tl, htl⟩ := List.exists_cons_of_ne_nil (tails_ne he1 he2)
      obtain ⟨hl1, hl2⟩ := tails_len x e
      have ht0 : t0.length ≤ 128 := Nat.le_trans (hl2 t0 (by rw [htl]; exact .head _)) hx
      rw [List.length_cons, Nat.add_mul] at h3
      rw [List.length_cons] at h4
      have hnew : ((tailsL x e).filter fun t => !hasL ks t).length ≤ 128 := Nat.le_trans (List.length_filter_le _ _) (by omega)
      refine ⟨_, .name, fun b hb => by simp only [List.mem_singleton] at hb; subst hb; exact .inr ⟨rfl, rfl⟩, .next (lSt2 s ns ps x (ks ++ (tailsL x e).filter fun t => !hasL ks t) (fr ++ [em ((dotsL ++ t0) ++ dotsL) (x.take (e - 1))])), Tr.pre ?_ (le_put rfl hle), _, le.refl _, es, _, _, rfl, fun k hk => h2 k (.tail _ hk), ?_, ?_, le.refl _, ?_⟩
      · refine Tr.cons (ev_tails T hk hx he2 rfl rfl rfl) (Tr.cons (ev_kinds T hk (tl := tailsL x e) (ks := ks) (by omega) rfl rfl rfl) (Tr.post (Tr.cons (ev_fresh T hk (t0 := t0) (tl := tl) (fr := fr) hx he1 ht0 (by omega) (by rw [← htl]; rfl) rfl rfl rfl rfl) Tr.nil) ?_))
        have e1 : strL ks ++ strL ((tailsL x e).filter fun t => !hasL ks t) = strL (ks ++ (tailsL x e).filter fun t => !hasL ks t) := by simp [strL]
        have e2 : bolL fr ++ [It.im (.bool (em ((dotsL ++ t0) ++ dotsL) (x.take (e - 1))))] = bolL (fr ++ [em ((dotsL ++ t0) ++ dotsL) (x.take (e - 1))]) := by simp [bolL]
        rw [e1]
        show le (lSt2 s ns ps x _ _) [_, _, _, _, ("kinds", _, true), ("fresh", .list (bolL fr ++ [It.im (.bool (em ((dotsL ++ t0) ++ dotsL) (x.take (e - 1))))]), true), _, _]
        rw [e2]
        exact le_cons (le_cons (le_cons (le_cons (le_cons (le_cons le_nil id) id) id) id) id) id
      · rw [List.length_append]; omega
      · rw [List.length_append, List.length_singleton]; omega
      · simp only [loopKF, htl, List.headD_cons]
end Mine
end

/-! N2n -/
section
open PySem PySem.Calls PyProof.Rows PySem.W
set_option maxRecDepth 100000
namespace Mine
variable {W : Wd} {n : Nat} {b1 : Int → Bool} {b3 : Int → Option Im} {ett : Str → Option Im}

def falF : It → Option It
  | .im (.bool b) => if b then none else some (.im (.bool b))
  | _ => none
theorem fal_len (fr : List Bool) : ((bolL fr).filterMap falF).length = (fr.filter fun b => !b).length := by
  induction fr with
  | nil => rfl
  | cons b r ih =>
    simp only [bolL, List.map_cons, List.filterMap_cons, List.filter_cons, falF]
    cases b with
    | true => simpa using ih
    | false => simp only [Bool.false_eq_true, if_false, Bool.not_false, if_true, List.length_cons]; exact congrArg (· + 1) ih
theorem ev_count (T : TopT W b1 b3 ett) {L a : Addr} {cd : Value} (hk : EnvOk (lEnv L a cd)) {s ns : List Int} {ps : List (List Nat × List Nat)} {x : List Nat} {ks : List (List Nat)} {fr : List Bool} (hks : ks.length ≤ 2 ^ 16) (hfr : fr.length ≤ 2 ^ 16)
    (h : (fr.filter fun b => !b).length = ks.length) :
    Tr W (n + 1) (lEnv L a cd) (lSt2 s ns ps x ks fr) (exec (((bodyOf PW kLaw)[7]?).getD default) (lEnv L a cd)) (.next (lSt2 s ns ps x ks fr)) := by
  have hl := fal_len fr
  have hle : ((bolL fr).filterMap falF).length ≤ fr.length := by rw [hl]; exact List.length_filter_le _ _
  refine Tr.ite (b := false) (EvT.to (EvT.cmp (Ev.callB hk rfl T.len (EvL.cons (Ev.comp hk (Comp.closed (us := ["fresh"]) (xs := bolL fr) (f := falF) (Src.listName hk (.inl ⟨_, _, rfl⟩) rfl) (by decide) (by decide) rfl (by decide) ?_ ?_)) EvL.nil) (OpC.lenL (by omega))) (Ev.callB hk rfl T.len (EvL.cons (Ev.name hk rfl) EvL.nil) (OpC.lenL (by simp only [strL, List.length_map]; omega))) Op2.neI) ?_) (fun h => by cases h) (fun _ => Tr.nil)
  · intro C hk' y hy
    obtain ⟨b, _, rfl⟩ := List.mem_map.mp hy
    refine ⟨_, !b, .name, fun c hc => (by simp only [List.mem_singleton] at hc; subst hc; rfl), EvIfs.one (EvT.to (EvT.cmp (d1 := .bool b) (Ev.nameI hk' rfl) Ev.cbool Op2.isB) (by cases b <;> rfl)), fun h => ?_, fun h => ⟨.im (.bool b), ?_, Ev.nameI hk' rfl⟩⟩
    · have : b = true := by simpa using h
      subst this; rfl
    · have : b = false := by simpa using h
      subst this; rfl
  · simp only [bolL, List.length_map, sizeLine]; omega
  · rw [hl, h]; simp [strL]
theorem ev_returns (T : TopT W b1 b3 ett) {L a : Addr} {cd : Value} (hk : EnvOk (lEnv L a cd)) {s ns : List Int} {ps : List (List Nat × List Nat)} {x : List Nat} {ks : List (List Nat)} {fr : List Bool} (hx : x.length ≤ 128) :
    Tr W (n + 2) (lEnv L a cd) (lSt2 s ns ps x ks fr) (exec (((bodyOf PW kLaw)[8]?).getD default) (lEnv L a cd)) (.next (lSt2 s ns ps x ks fr ++ ([("returns", PV.list (ret1 x), true)] : Sl))) :=
  Tr.assign hk (Ev.callD hk rfl (c_ret T hx) (EvL.cons (Ev.nameI hk rfl) EvL.nil)) (.inl rfl)
end Mine
end

/-! N2o -/
section
open PySem PySem.Calls PyProof.Rows PySem.W
set_option maxRecDepth 100000
namespace Mine
variable {W : Wd} {n : Nat} {b1 : Int → Bool} {b3 : Int → Option Im} {ett : Str → Option Im}

def retP3 (x : List Nat) (i j : Nat) : List (List Nat × List Nat) := ((List.range' (j + 1) (x.length - j)).filter (retTest x i j)).map fun k => ((x.take j).drop i, (x.take k).drop i)
def retP2 (x : List Nat) (i : Nat) : List (List Nat × List Nat) := (List.range' (i + 1) (x.length - (i + 1))).flatMap fun j => if isPal ((x.take j).drop i) then retP3 x i j else []
def retP (x : List Nat) : List (List Nat × List Nat) := (List.range x.length).flatMap (retP2 x)
theorem retP_eq (x : List Nat) : ret1 x = (retP x).map pairL := by
  unfold ret1 retP
  rw [List.map_flatMap]
  congr 1
  funext i
  unfold ret2 retP2
  rw [List.map_flatMap]
  congr 1
  funext j
  split
  · unfold ret3 retP3; rw [List.map_map]; rfl
  · rfl
theorem retP_len (x : List Nat) (hx : x.length ≤ 128) : (retP x).length ≤ 2 ^ 21 := by
  have h : (retP x).length = (ret1 x).length := by rw [retP_eq, List.length_map]
  rw [h]
  unfold ret1
  have : ∀ l : List Nat, (l.flatMap (ret2 x)).length ≤ l.length * 16384 := by
    intro l
    induction l with
    | nil => simp
    | cons j l ih =>
      rw [List.flatMap_cons, List.length_append, List.length_cons, Nat.add_mul, Nat.one_mul]
      have := ret2_len x j
      have h2 : x.length * x.length ≤ 128 * 128 := Nat.mul_le_mul hx hx
      omega
  have := this (List.range x.length)
  rw [List.length_range] at this
  have h3 : x.length * 16384 ≤ 128 * 16384 := Nat.mul_le_mul_right _ hx
  omega
theorem retP_mem {x : List Nat} {p : List Nat × List Nat} (h : p ∈ retP x) : ∃ i j k, i < j ∧ j < k ∧ k ≤ x.length ∧ p = ((x.take j).drop i, (x.take k).drop i) ∧ isPal ((x.take j).drop i) = true ∧ retTest x i j k = true := by
  unfold retP at h
  obtain ⟨i, hi, h⟩ := List.mem_flatMap.mp h
  unfold retP2 at h
  obtain ⟨j, hj, h⟩ := List.mem_flatMap.mp h
  split at h
  · rename_i hp
    unfold retP3 at h
    obtain ⟨k, hk, rfl⟩ := List.mem_map.mp h
    obtain ⟨hk, ht⟩ := List.mem_filter.mp hk
    have h1 := List.mem_range'_1.mp hj
    have h2 := List.mem_range'_1.mp hk
    exact ⟨i, j, k, by omega, by omega, by omega, rfl, hp, ht⟩
  · cases h
end Mine
end

/-! N2p -/
section
open PySem PySem.Calls PyProof.Rows PySem.W
set_option maxRecDepth 100000
namespace Mine
variable {W : Wd} {n : Nat} {b1 : Int → Bool} {b3 : Int → Option Im} {ett : Str → Option Im}

abbrev lSt3 (s ns : List Int) (ps : List (List Nat × List Nat)) (w : List Nat) (ks : List (List Nat)) (fr : List Bool) (rp : List (List Nat × List Nat)) (b : Bool) : Sl :=
  [("script", .list (s.map It.int), false), ("numbers", .list (ns.map It.int), true), ("items", .list (ps.map pairL), true), ("word", .str (S w), true), ("kinds", .list (strL ks), true), ("fresh", .list (bolL fr), true), ("returns", .list (rp.map pairL), b)]
theorem ev_check (T : TopT W b1 b3 ett) {L a : Addr} {cd : Value} (hk : EnvOk (lEnv L a cd)) {s ns : List Int} {ps rp : List (List Nat × List Nat)} {x : List Nat} {ks : List (List Nat)} {fr : List Bool}
    (h : ∀ p ∈ rp, p.1.length ≤ p.2.length ∧ p.2.length ≤ 128 ∧ (p.1 ++ (p.2.take (p.2.length - p.1.length)).drop p.1.length) ++ p.1 = p.2) :
    Tr W (n + 1) (lEnv L a cd) (lSt3 s ns ps x ks fr rp true) (exec (((bodyOf PW kLaw)[9]?).getD default) (lEnv L a cd)) (.next (lSt3 s ns ps x ks fr rp false)) := by
  refine Tr.pre (l' := lSt3 s ns ps x ks fr rp false) ?_ (le_cons (le_cons (le_cons (le_cons (le_cons (le_cons (le_cons le_nil (by simp)) id) id) id) id) id) id)
  refine Tr.for (us := ["returns"]) (gn := false) (xs := rp.map pairL)
    (P := fun rest l o => ∃ qs : List (List Nat × List Nat), rest = qs.map pairL ∧ (∀ q ∈ qs, q ∈ rp) ∧ le (lSt3 s ns ps x ks fr rp false) l ∧ o = .next (lSt3 s ns ps x ks fr rp false)) hk
    (Src.listName hk (.inr ⟨_, _, _, rfl⟩) rfl) ⟨rp, rfl, fun _ h => h, le.refl _, rfl⟩ (fun y hy => by simp only [List.mem_singleton] at hy; subst hy; exact ⟨_, rfl⟩) ?_ ?_
  · rintro l' o' ⟨qs, h1, _, hle, rfl⟩
    cases qs with
    | nil => exact ⟨_, rfl, hle⟩
    | cons => simp at h1
  · rintro y rest l' o' ⟨qs, h1, h2, hle, rfl⟩
    cases qs with
    | nil => simp at h1
    | cons q qs =>
      simp only [List.map_cons, List.cons.injEq] at h1
      obtain ⟨rfl, rfl⟩ := h1
      obtain ⟨p, t⟩ := q
      obtain ⟨g1, g2, g3⟩ := h _ (h2 _ (.head _))
      simp only at g1 g2 g3
      refine ⟨_, .tup2, ?_, .next (lSt3 s ns ps x ks fr rp false), Tr.pre ?_ (le_put (a := lSt3 s ns ps x ks fr rp false ++ ([(("piece" : Str), PV.it (.im (.str (S p))), false)] : Sl)) rfl (le_put (z := "piece") (d := PV.it (.im (.str (S p)))) rfl hle)), _, le.refl _, qs, rfl, fun q hq => h2 q (.tail _ hq), le.refl _, rfl⟩
      · intro b hb
        simp only [List.mem_cons, List.not_mem_nil, or_false] at hb
        rcases hb with rfl | rfl <;> exact .inl rfl
      · have lenr : ∀ {l : Sl} {nm : Str} {z : List Nat}, z.length ≤ 128 → OpC W (n + 1) (.builtin "len") [.str (S z)] (.int (z.length : Nat)) := fun {l nm z} hz => by
          have := OpC.lenS (W := W) (n := n + 1) (x := S z) (by rw [len_S]; omega)
          rwa [len_S] at this
        refine Tr.cons (l1 := lSt3 s ns ps x ks fr rp false) (Tr.ite (b := false) (EvT.to (EvT.cmp (d1 := .str (S ((p ++ (t.take (t.length - p.length)).drop p.length) ++ p))) (d2 := .str (S t)) (ev_add (ev_add (Ev.nameI hk rfl) (Ev.to (d' := .str (S ((t.take (t.length - p.length)).drop p.length))) (Ev.sliceS (Ev.nameI hk rfl) (EvP.some (Ev.callB hk rfl T.len (EvL.cons (Ev.nameI hk rfl) EvL.nil) (lenr (l := []) (nm := "") (by omega))))
            (EvP.some (Ev.bin (Ev.callB hk rfl T.len (EvL.cons (Ev.nameI hk rfl) EvL.nil) (lenr (l := []) (nm := "") (z := t) (by omega))) (Ev.callB hk rfl T.len (EvL.cons (Ev.nameI hk rfl) EvL.nil) (lenr (l := []) (nm := "") (z := p) (by omega))) Op2.subI)) EvP.none (by decide) (by rw [len_S]; show t.length ≤ 2 ^ 24; omega)) (by
              rw [pkS_S, show ((t.length : Nat) : Int) - (p.length : Nat) = ((t.length - p.length : Nat) : Int) by omega, pk_pos])) (by rw [List.length_drop, List.length_take]; omega)) (Ev.nameI hk rfl) (by rw [List.length_append, List.length_drop, List.length_take]; omega)) (Ev.nameI hk rfl) Op2.neS) (by rw [g3]; simp)) (fun h => by cases h) (fun _ => Tr.post Tr.nil (le_cons (le_cons (le_cons (le_cons (le_cons (le_cons (le_cons le_nil id) id) id) id) id) id) id))) Tr.nil
end Mine
end

/-! N2q -/
section
open PySem PySem.Calls PyProof.Rows PySem.W
set_option maxRecDepth 100000
namespace Mine
variable {W : Wd} {n : Nat} {b1 : Int → Bool} {b3 : Int → Option Im} {ett : Str → Option Im}

def sameF : It → Option It
  | .tup [.str _, .str t] => if isPal (L t) then some (.str t) else none
  | _ => none
theorem same_eq (rp : List (List Nat × List Nat)) : (rp.map pairL).filterMap sameF = strL ((rp.filter fun p => isPal p.2).map (·.2)) := by
  induction rp with
  | nil => rfl
  | cons q r ih =>
    simp only [List.map_cons, List.filterMap_cons, List.filter_cons, sameF, L_S]
    cases h : isPal q.2 with
    | true => simp only [if_true, strL, List.map_cons]; exact congrArg (List.cons _) ih
    | false => simpa using ih
theorem ev_sameS (T : TopT W b1 b3 ett) {L a : Addr} {cd : Value} (hk : EnvOk (lEnv L a cd)) {s ns : List Int} {ps rp : List (List Nat × List Nat)} {x : List Nat} {ks : List (List Nat)} {fr : List Bool} (hrp : rp.length ≤ 2 ^ 21) (h : ∀ p ∈ rp, p.2.length ≤ 128) :
    Tr W (n + 1) (lEnv L a cd) (lSt3 s ns ps x ks fr rp false) (exec (((bodyOf PW kLaw)[10]?).getD default) (lEnv L a cd)) (.next (put "same" (.list (strL ((rp.filter fun p => isPal p.2).map (·.2)))) (lSt3 s ns ps x ks fr rp false))) := by
  rw [← same_eq]
  refine Tr.assignComp (us := ["returns"]) (f := sameF) hk (Comp.closed (xs := rp.map pairL) (Src.listName hk (.inr ⟨_, _, _, rfl⟩) rfl) (by decide) (by decide) rfl (by decide) ?_ (by rw [List.length_map, sizeLine]; omega)) (.inl rfl) rfl
  intro C hk' y hy
  obtain ⟨⟨p, t⟩, hq, rfl⟩ := List.mem_map.mp hy
  have ht := h _ hq
  simp only at ht
  have et : (S t == S t.reverse) = isPal t := by rw [S_beq]; rfl
  refine ⟨_, isPal t, .tup2, ?_, EvIfs.one (EvT.to (EvT.cmp (d1 := .str (S t)) (d2 := .str (S t.reverse)) (Ev.nameI hk' rfl) (Ev.to (Ev.sliceS (Ev.nameI hk' rfl) EvP.none EvP.none (EvP.some (Ev.neg Ev.cint)) (by decide) (by rw [len_S]; show t.length ≤ 2 ^ 24; omega)) (by rw [pkS_S, pk_rev])) Op2.eqS) et), fun q => ?_, fun q => ⟨.str (S t), ?_, Ev.nameI hk' rfl⟩⟩
  · intro b hb
    simp only [List.mem_cons, List.not_mem_nil, or_false] at hb
    rcases hb with rfl | rfl <;> rfl
  · simp only [sameF, L_S, q]; rfl
  · simp only [sameF, L_S, q]; rfl
theorem ev_end (T : TopT W b1 b3 ett) {L a : Addr} {cd : Value} (hk : EnvOk (lEnv L a cd)) {s ns : List Int} {ps rp : List (List Nat × List Nat)} {x : List Nat} {ks ss : List (List Nat)} {fr : List Bool} (hrp : rp.length ≤ 2 ^ 21) (hss : ss.length ≤ 2 ^ 21) (hks : ks.length ≤ 2 ^ 16) (hx : x.length ≤ 128)
    (h : (decide (ss.length = rp.length) == decide (ks.length = x.length)) = true) :
    Tr W (n + 1) (lEnv L a cd) (put "same" (.list (strL ss)) (lSt3 s ns ps x ks fr rp false)) (exec (((bodyOf PW kLaw)[11]?).getD default) (lEnv L a cd)) (.ret (.bool true)) := by
  have ie : ∀ a b : Nat, (((a : Nat) : Int) == ((b : Nat) : Int)) = decide (a = b) := fun a b => by
    by_cases q : a = b
    · subst q; simp
    · have : ((a : Nat) : Int) ≠ (b : Nat) := by omega
      rw [beq_eq_false_iff_ne.mpr this]; simp [q]
  refine Tr.ret (Ev.to (Ev.cmp (Ev.cmp (Ev.callB hk rfl T.len (EvL.cons (Ev.name hk rfl) EvL.nil) (OpC.lenL (by simp only [strL, List.length_map]; omega))) (Ev.callB hk rfl T.len (EvL.cons (Ev.name hk rfl) EvL.nil) (OpC.lenL (by simp only [List.length_map]; omega))) Op2.eqI)
    (Ev.cmp (Ev.callB hk rfl T.len (EvL.cons (Ev.name hk rfl) EvL.nil) (OpC.lenL (by simp only [strL, List.length_map]; omega))) (Ev.callB hk rfl T.len (EvL.cons (Ev.nameI hk rfl) EvL.nil) (OpC.lenS (by rw [len_S]; omega))) Op2.eqI) Op2.eqB) ?_)
  rw [ie, ie, len_S]
  simp only [strL, List.length_map]
  rw [h]
end Mine
end

/-! N2r -/
section
open PySem PySem.Calls PyProof.Rows PySem.W
set_option maxRecDepth 100000
namespace Mine
variable {W : Wd} {n : Nat} {b1 : Int → Bool} {b3 : Int → Option Im} {ett : Str → Option Im}

/-- what the plain law has to give, for a word -/
structure Fine (x : List Nat) : Prop where
  short : x.length ≤ 128
  count : ((loopKF x (List.range' 1 x.length) [] []).2.filter fun b => !b).length = (loopKF x (List.range' 1 x.length) [] []).1.length
  few : (loopKF x (List.range' 1 x.length) [] []).1.length ≤ 2 ^ 16 ∧ (loopKF x (List.range' 1 x.length) [] []).2.length ≤ 2 ^ 16
  ends : ∀ p ∈ retP x, p.1.length ≤ p.2.length ∧ p.2.length ≤ 128 ∧ (p.1 ++ (p.2.take (p.2.length - p.1.length)).drop p.1.length) ++ p.1 = p.2
  rich : (decide (((retP x).filter fun p => isPal p.2).length = (retP x).length) == decide ((loopKF x (List.range' 1 x.length) [] []).1.length = x.length)) = true
theorem c_law (T : TopT W b1 b3 ett) (h3 : B3ok b3) (he : EttOk ett) {sq : List Nat → List Nat} (hq : StripOk W (n + 2) sq) {s : List Int} (hs : s.length ≤ 2 ^ 20)
    (hi1 : ∀ x : Int, (itemL x).1.length ≤ 2 ^ 5 ∧ (itemL x).2.length ≤ 2 ^ 5)
    (hw : wordOf b1 b3 ett sq (((numsL s).map itemL).map (·.1)).flatten = plainL (((numsL s).map itemL).map (·.2)).flatten.length (((numsL s).map itemL).map (·.2)).flatten)
    (hF : Fine (wordOf b1 b3 ett sq (((numsL s).map itemL).map (·.1)).flatten)) :
    Cf W (n + 3) "law" [.list (s.map It.int)] (.bool true) := by
  refine Cf.of T.defs (k := kLaw) rfl (names := ["script"]) (fun pm cd doc vs h => ?_) (by decide) (by decide) rfl (fun L a cd hk => ?_)
  · obtain ⟨v, rfl⟩ := eq_one h
    rfl
  · have hit : ((numsL s).map fun x => pairL (itemL x)) = ((numsL s).map itemL).map pairL := by rw [List.map_map]; rfl
    have hp1 : ∀ p ∈ (numsL s).map itemL, p.1.length ≤ 2 ^ 5 := fun p hp => by obtain ⟨x, _, rfl⟩ := List.mem_map.mp hp; exact (hi1 x).1
    have hp2 : ∀ p ∈ (numsL s).map itemL, p.2.length ≤ 2 ^ 5 := fun p hp => by obtain ⟨x, _, rfl⟩ := List.mem_map.mp hp; exact (hi1 x).2
    have hpl : ((numsL s).map itemL).length ≤ 2 ^ 4 := by rw [List.length_map]; show 4 ≤ 16; decide
    have hnl : (numsL s).length ≤ 2 ^ 20 := by show 4 ≤ _; decide
    have i2 := ev_items (n := n) T hk (s := s) (ns := numsL s) hnl
    rw [hit] at i2
    have hrl := retP_len _ hF.short
    refine Tr.cons (ev_numbers T hk hs) (Tr.cons i2 (Tr.cons (ev_word T h3 he hq hk hpl hp1) ?_))
    generalize hwx : wordOf b1 b3 ett sq (((numsL s).map itemL).map (·.1)).flatten = x at *
    refine Tr.cons (ev_same T hk hpl hp2 hw) (Tr.cons (Tr.assign hk (Ev.listD (ds := []) EvL.nil (by decide)) (.inr ⟨rfl, rfl⟩)) (Tr.cons (Tr.assign hk (Ev.listD (ds := []) EvL.nil (by decide)) (.inl rfl)) ?_))
    have hl := ev_loop (n := n + 1) T hk (s := s) (ns := numsL s) (ps := (numsL s).map itemL) hF.short
    refine Tr.cons hl (Tr.cons (ev_count T hk hF.few.1 hF.few.2 hF.count) (Tr.cons (ev_returns T hk hF.short) ?_))
    rw [retP_eq]
    refine Tr.cons (ev_check T hk (rp := retP x) hF.ends) (Tr.cons (ev_sameS T hk (rp := retP x) hrl fun p hp => (hF.ends p hp).2.1) (Tr.stop (ev_end T hk hrl (by rw [List.length_map]; exact Nat.le_trans (List.length_filter_le _ _) hrl) hF.few.1 hF.short ?_)))
    rw [List.length_map]
    exact hF.rich
end Mine
end

/-! G1 -/
section
open PySem PySem.Calls PyProof.Rows PySem.W
set_option maxRecDepth 100000
namespace Mine
section
variable {M : Model} {A : Around} {R : GenEnd} {Y : Protocol} {n : Nat} {s₀ : Shared} {c : Code} {fs : List Frame} {s : Shared} {env : Env}
  {K : Flow → Sem Fin} {H : Value → Sem Fin} {gd : Bool → Bool} {lv : List Value → List Value}

theorem seg_If {test : Expr} {body orelse : List Stmt} {pos : Pos}
    (h : wpAny M (A.over c fs) (isTrue test env (eval test env)) (fun b s' => if b = true then Seg M A R Y n s₀ c ((execs body env).wrap K H gd lv) fs s' else Seg M A R Y n s₀ c ((execs orelse env).wrap K H gd lv) fs s')
      (fun x s' => Seg M A R Y n s₀ c (H x) fs s') s) : Seg M A R Y n s₀ c ((exec (.If test body orelse pos) env).wrap K H gd lv) fs s := by
  rw [exec_If]
  show Seg M A R Y n s₀ c (.at pos fun _ => (isTrue test env (eval test env) >>= fun b => if b = true then execs body env else execs orelse env).wrap K H gd lv) fs s
  refine seg_at ?_
  rw [Sem.bind_eq_wrap', Sem.wrap_wrap]
  refine seg_wrap (wpAny_mono h (fun b s' hb => ?_) fun _ _ x => x)
  cases b with
  | true => exact hb
  | false => exact hb
theorem seg_st {m : Sem Flow} (h : wpAny M (A.over c fs) m (fun f s' => Seg M A R Y n s₀ c (K f) fs s') (fun x s' => Seg M A R Y n s₀ c (H x) fs s') s) : Seg M A R Y n s₀ c (m.wrap K H gd lv) fs s := seg_wrap h
theorem seg_For {target iter : Expr} {body orelse : List Stmt} {pos : Pos}
    (h : wpAny M (A.over c fs) (eval iter env) (fun x s1 => wpAny M (A.over c fs) (pyIter x) (fun it s2 => ∀ p, Seg M A R Y n s₀ (.forLoop target it body orelse env) (M.den (.forLoop target it body orelse env))
      (.ret (fun r => ((match r with | .ok f => (.pure f : Sem Flow) | .error e => .raise e).onRaise fun (x : Value) => do
        if (← field x 1) == Value.none then unsupported "frame.own-activation:exception-without-traceback"
        setFlight x env.frame).wrap K H gd lv) none (gd false) (lv []) c p [] :: fs) s2) (fun x s' => Seg M A R Y n s₀ c (H x) fs s') s1) (fun x s' => Seg M A R Y n s₀ c (H x) fs s') s)
    (hs : ∀ x, foldedSetIterable iter env x = pure x := by intro _; rfl) :
    Seg M A R Y n s₀ c ((exec (.For target iter body orelse pos) env).wrap K H gd lv) fs s := by
  rw [exec_For]
  show Seg M A R Y n s₀ c (.at pos fun _ => (eval iter env >>= fun y => foldedSetIterable iter env y >>= fun x => standAt iter.pos >>= fun _ => holding [x] (pyIter x) >>= fun it => runOwn (.forLoop target it body orelse env) env).wrap K H gd lv) fs s
  refine seg_at ?_
  rw [Sem.bind_eq_wrap', Sem.wrap_wrap]
  refine seg_wrap (wpAny_mono h (fun x s1 h1 => ?_) fun _ _ x => x)
  rw [hs]
  show Seg M A R Y n s₀ c (.at iter.pos fun _ => (holding [x] (pyIter x) >>= fun it => runOwn (.forLoop target it body orelse env) env).wrap K H _ _) fs s1
  refine seg_at ?_
  rw [Sem.bind_eq_wrap', Sem.wrap_wrap]
  refine seg_wrap (wpAny_holding (wpAny_mono h1 (fun it s2 h2 => ?_) fun _ _ x => x))
  exact seg_call h2
end
section
variable {prog : Program} {w : World} {A : Around} {R : GenEnd} {Y : Protocol} {n : Nat} {s₀ : Shared} {fs : List Frame} {s : Shared} {env : Env}
abbrev noF : Value → Shared → Prop := fun _ _ => False
theorem seg_forLoop {target it} {body orelse : List Stmt}
    (h : wpAny (model prog w) (A.over (.forLoop target it body orelse env) fs) (pyNext it) (fun r s1 => match r with
      | none => Seg (model prog w) A R Y n s₀ (.forLoop target it body orelse env) (.pure (.again (.block orelse env))) fs s1
      | some v => wpAny (model prog w) (A.over (.forLoop target it body orelse env) fs) (letOwnedTupleGo target it v) (fun _ s2 => wpAny (model prog w) (A.over (.forLoop target it body orelse env) fs) (assign target env v) (fun _ s3 =>
          Seg (model prog w) A R Y n s₀ (.forLoop target it body orelse env) ((execs body env).wrap (fun f => match f with
            | .next | .cont => .pure (.again (.forLoop target it body orelse env))
            | .brk => .pure (.done .next)
            | .ret v => .pure (.done (.ret v))) (fun e => (do noteFrame e env; theTreesLotGoes e : Sem Unit).wrap (fun _ => .raise e) .raise id id) id id) fs s3) noF s2) noF s1) noF s) :
    Seg (model prog w) A R Y n s₀ (.forLoop target it body orelse env) ((model prog w).den (.forLoop target it body orelse env)) fs s := by
  show Seg _ A R Y n s₀ _ ((forTurn target it body orelse env).onRaise (fun x => do noteFrame x env; theTreesLotGoes x)) fs s
  unfold forTurn
  rw [Sem.onRaise_eq_wrap]
  show Seg _ A R Y n s₀ _ (.at target.pos fun _ => Sem.wrap _ _ _ _ _) fs s
  refine seg_at ?_
  show Seg _ A R Y n s₀ _ (Sem.wrap _ _ _ _ (((pyNext it).onRaise fun _ => standAt { target.pos with line := 0 }) >>= _)) fs s
  rw [Sem.bind_eq_wrap' ((pyNext it).onRaise fun _ => standAt { target.pos with line := 0 }), Sem.wrap_wrap]
  refine seg_wrap (wpAny_onRaise (wpAny_mono h (fun r s1 h1 => ?_) fun _ _ x => x.elim))
  cases r with
  | none => exact h1
  | some v =>
    show Seg _ A R Y n s₀ _ (Sem.wrap _ _ _ _ (letOwnedTupleGo target it v >>= _)) fs s1
    rw [Sem.bind_eq_wrap', Sem.wrap_wrap]
    refine seg_wrap (wpAny_mono h1 (fun _ s2 h2 => ?_) fun _ _ x => x.elim)
    show Seg _ A R Y n s₀ _ (Sem.wrap _ _ _ _ (assign target env v >>= _)) fs s2
    rw [Sem.bind_eq_wrap', Sem.wrap_wrap]
    refine seg_wrap (wpAny_mono h2 (fun _ s3 h3 => ?_) fun _ _ x => x.elim)
    show Seg _ A R Y n s₀ _ (Sem.wrap _ _ _ _ (execs body env >>= _)) fs s3
    rw [Sem.bind_eq_wrap', Sem.wrap_wrap]
    rw [Sem.wrap_congr (execs body env) _ _ (K' := fun f => match f with
            | .next | .cont => .pure (.again (.forLoop target it body orelse env))
            | .brk => .pure (.done .next)
            | .ret v => .pure (.done (.ret v))) (H' := (fun e => (do noteFrame e env; theTreesLotGoes e : Sem Unit).wrap (fun _ => .raise e) .raise id id))
        (fun f => by cases f <;> rfl)
        (fun e => by first | exact Sem.bind_eq_wrap _ _ | (show (do noteFrame e env; theTreesLotGoes e : Sem Unit).bind (fun _ => .raise e) = _; rw [Sem.bind_eq_wrap]))]
    exact h3
end
end Mine
end

/-! G2 -/
section
open PySem PySem.Calls PyProof.Rows PySem.W
set_option maxRecDepth 100000
namespace Mine
section
variable {W : Wd} {n : Nat} {env : Env} {l : Sl} {B : Bm} {V : Str → Option Value}

/-- no datum -/
def Nd (o : Obj) : Prop := (o.cls ≠ .type "list" ∧ o.cls ≠ .type "tuple" ∧ o.cls ≠ .type "range") ∨ ((∀ vs n, o.data ≠ .seq vs n) ∧ ∀ vs, o.data ≠ .fields vs)
def KeptD (F : List Addr) (h h' : Heap) : Prop := ∀ b o, h.get? b = some o → (b ∈ F → ¬ Nd o) → h'.get? b = some o
def KeptN (F : List Addr) (h h' : Heap) : Prop := ∀ b ∈ F, ∀ o, Nd o → h.get? b = some o → h'.get? b = some o
theorem nd_list {vs : Array Value} {n : Nat} : ¬ Nd { cls := .type "list", data := .seq vs n } := fun x => x.elim (fun q => q.1 rfl) (fun q => q.1 _ _ rfl)
theorem nd_tup {vs : Array Value} {n : Nat} : ¬ Nd { cls := .type "tuple", data := .seq vs n } := fun x => x.elim (fun q => q.2.1 rfl) (fun q => q.1 _ _ rfl)
theorem nd_rng {vs : Array Value} : ¬ Nd { cls := .type "range", data := .fields vs } := fun x => x.elim (fun q => q.2.2 rfl) (fun q => q.2 _ rfl)
theorem ItR.butW {h h' : Heap} {F : List Addr} (k : KeptD F h h') {v : Value} {x : It} (r : ItR h v x) : ItR h' v x := by
  cases x with
  | im a => exact r
  | tup l =>
    obtain ⟨b, vs, n, e, g, r⟩ := r
    exact ⟨b, vs, n, e, k b _ g (fun _ => nd_tup), r⟩
theorem PVR.butW {h h' : Heap} {F : List Addr} (k : KeptD F h h') {v : Value} {d : PV} (r : PVR h v d) : PVR h' v d := by
  cases d with
  | it x => exact ItR.butW k r
  | list l =>
    obtain ⟨b, vs, n, e, g, r⟩ := r
    exact ⟨b, vs, n, e, k b _ g (fun _ => nd_list), r.imp fun _ _ q => q.butW k⟩
  | rng lo hi =>
    obtain ⟨r, t1, t2, t3, e, g⟩ := r
    exact ⟨r, t1, t2, t3, e, k r _ g (fun _ => nd_rng)⟩
open Classical in
noncomputable def overD (F : List Addr) (h : Heap) (B : Bm) : Bm := fun a => if a ∈ F ∧ ∃ o, h.get? a = some o ∧ Nd o then h.get? a else B a
theorem overD_in {F : List Addr} {h : Heap} {B : Bm} {a : Addr} {o : Obj} (e : a ∈ F) (ho : h.get? a = some o) (hn : Nd o) : overD F h B a = some o := by
  unfold overD; rw [if_pos ⟨e, o, ho, hn⟩]; exact ho
theorem overD_out {F : List Addr} {h : Heap} {B : Bm} {a : Addr} (e : a ∉ F) : overD F h B a = B a := by unfold overD; rw [if_neg fun q => e q.1]
theorem overD_dat {F : List Addr} {h : Heap} {B : Bm} {a : Addr} {o : Obj} (ho : h.get? a = some o) (hn : ¬ Nd o) : overD F h B a = B a := by
  unfold overD; rw [if_neg fun q => by obtain ⟨_, o', e, n⟩ := q; rw [ho] at e; cases e; exact hn n]
theorem overD_or (F : List Addr) (h : Heap) (B : Bm) (a : Addr) : overD F h B a = h.get? a ∨ overD F h B a = B a := by
  unfold overD; split
  · exact .inl rfl
  · exact .inr rfl
theorem go_gen {M : Model} {A : Around} {s : Shared} {target : Expr} {I : Addr} {g : Nat} {v : Value} {Q : Unit → Shared → Prop} {E : Value → Shared → Prop} (ht : TupT target) (hg : s.heap.IsGen I g) (h : Q () s) : wpAny M A (letOwnedTupleGo target (.ref I) v) Q E s := by
  obtain ⟨e, k, r, rfl⟩ := ht
  cases v with
  | ref T =>
    obtain ⟨o, nm, qn, ho, hc, hd, _⟩ := hg
    unfold letOwnedTupleGo
    refine wpAny_bind (wpAny_load ho ?_)
    rw [hc, hd]
    show wpAny _ A (if (["enumerate", "zip", "dict_itemiterator", "dict_reverseitemiterator", "odict_iterator", "itertools.zip_longest", "itertools.pairwise"].contains "generator" && _) = true then _ else _) Q E s
    rw [if_neg (by simp)]
    exact wpAny_pure h
  | _ => exact wpAny_pure h

/-- the turns of a generator; its own objects F grow -/
structure TurnsG (W : Wd) (A : Around) (I : Addr) (xs : List It) (g0 : Array GenState) (S : Nat → List Addr → Shared → Prop) : Prop where
  frame : ∀ i F s s', S i F s → Same s s' → KeptN F s.heap s'.heap → GA W s'.heap → S i F s'
  gen : ∀ i F s, S i F s → ∃ g, s.heap.IsGen I g
  item : ∀ i F x (s : Shared) (Q : Value → Shared → Prop) (E : Value → Shared → Prop), xs[i]? = some x → S i F s → GA W s.heap →
    (∀ v s' F', Upd s s' → ItAt s'.heap v x → S (i + 1) F' s' → KeptD F s.heap s'.heap → (∀ b ∈ F', b ∈ F ∨ s.heap.get? b = none) → Q v s') →
    wpAny (model W.prog W.w) A (pyNext (.ref I)) (fun r s1 => match r with | none => False | some v => Q v s1) E s
  done : ∀ F (s : Shared) (Q : Option Value → Shared → Prop) (E : Value → Shared → Prop), S xs.length F s → GA W s.heap →
    (∀ s', Upd s s' → FinGens g0 s'.gens → KeptD F s.heap s'.heap → Q none s') → wpAny (model W.prog W.w) A (pyNext (.ref I)) Q E s

structure SrcG (W : Wd) (n : Nat) (env : Env) (σ : Sto) (iter : Expr) (xs : List It) : Prop where
  run : ∀ (A : Around) (s : Shared) (Q : Value → Shared → Prop) (E : Value → Shared → Prop), Room A n → GA W s.heap → SAt env s.heap σ →
    (∀ I F S s', Upd s s' → Kept s.heap s'.heap → TurnsG W A I xs s.gens S → S 0 F s' → (∀ b ∈ F, s.heap.get? b = none) → Q (.ref I) s') →
    wpAny (model W.prog W.w) A (eval iter env) (fun x s1 => wpAny (model W.prog W.w) A (pyIter x) Q E s1) E s

theorem St.stepG {h h' : Heap} {F : List Addr} (x : St W B env l h V) (k : KeptD F h h') (hB : ∀ b ∈ F, B b = none) (hL : env.locals ∉ F) (hc : env.cells = []) : St W B env l h' V where
  base := x.base
  prot := fun a o e => k a o (x.prot a o e) (fun hb => by rw [hB a hb] at e; cases e)
  ns := let ⟨m, n⟩ := x.ns; ⟨m, n.at' fun o e => k _ o e (fun q => absurd q hL)⟩
  offL := x.offL
  cell := fun y e => by
    obtain ⟨c, v, h1, _⟩ := x.cell y e
    rw [hc] at h1; cases h1
  apart := x.apart
  bnd := fun y w e => by
    rcases x.bnd y w e with ⟨e, m', n', hm⟩ | ⟨e, c', h1, q⟩ | ⟨e, c', h1, q⟩
    · exact .inl ⟨e, m', n'.at' fun o e => k _ o e (fun q => absurd q hL), hm⟩
    · rw [hc] at h1; cases h1
    · rw [hc] at h1; cases h1
  typ := fun y v e => let ⟨d, b, h1, h2⟩ := x.typ y v e; ⟨d, b, h1, h2.butW k⟩
  has := x.has
  own := x.own
theorem St.overG {h : Heap} {F : List Addr} (x : St W B env l h V) (hL : env.locals ∉ F) (hc : env.cells = []) : St W (overD F h B) env l h V where
  base := fun a o e => by
    rcases overD_or F h B a with q | q
    · rw [q]; exact x.prot a o (x.base a o e)
    · rw [q]; exact x.base a o e
  prot := fun a o e => by
    rcases overD_or F h B a with q | q
    · rw [q] at e; exact e
    · rw [q] at e; exact x.prot a o e
  ns := x.ns
  offL := by rw [overD_out hL]; exact x.offL
  cell := fun y e => by
    obtain ⟨c, v, h1, _⟩ := x.cell y e
    rw [hc] at h1; cases h1
  apart := x.apart
  bnd := x.bnd
  typ := x.typ
  has := x.has
  own := fun y d e => by
    obtain ⟨a, h1, h2, h3⟩ := x.own y d e
    refine ⟨a, h1, ?_, h3⟩
    obtain ⟨v, hv, r⟩ := x.at e
    rw [h1] at hv; cases hv
    obtain ⟨b, vs, k, e2, g, _⟩ := r
    cases e2
    rw [overD_dat g nd_list]
    exact h2
theorem St.unoverG {h h0 : Heap} {F : List Addr} (x : St W (overD F h0 B) env l h V) (hb : ∀ a o, W.hB.get? a = some o → B a = some o) (hp : ∀ a o, B a = some o → h0.get? a = some o) : St W B env l h V :=
  x.less hb fun a o e => by
    rcases overD_or F h0 B a with q | q
    · rw [q]; exact hp a o e
    · rw [q]; exact e
theorem St.protN {h h0 : Heap} {F : List Addr} (x : St W (overD F h0 B) env l h V) : KeptN F h0 h := fun b hb o hn e => x.prot b o (overD_in hb e hn)

/-- a loop over a generator -/
theorem Tr.forG {target iter : Expr} {body : List Stmt} {pos : Pos} {xs : List It} {o : Out} (P : List It → Sl → Out → Prop) (hk : EnvOk env) (hc : env.cells = []) (htt : TupT target) (hsrc : SrcG W n env (lk l) iter xs) (h0 : P xs l o)
    (hnil : ∀ l' o', P [] l' o' → ∃ l2, o' = .next l2 ∧ le l2 l')
    (hstep : ∀ x rest l' o', P (x :: rest) l' o' → ∃ bs, Tgt target x bs ∧ (∀ b ∈ bs, Kd env b.1) ∧ ∃ l1, Tr W n env (puts bs l') (execs body env) (.next l1) ∧ ∃ l2, le l2 l1 ∧ P rest l2 o')
    (hs : ∀ x, foldedSetIterable iter env x = pure x := by intro _; rfl) :
    Tr W n env l (exec (.For target iter body [] pos) env) o := .mk fun A s B V Q E ro st h => by
  refine wpAny_For (hsrc.run A s _ E ro st.ga st.sat fun I F0 S s1 hu hkept T hS hF0 => ?_) hs
  have st1 := st.ext hkept
  have new : ∀ {F : List Addr} {l' : Sl} {h : Heap} {V' : Str → Option Value}, St W B env l' h V' → (∀ b ∈ F, h.get? b = none) → (∀ b ∈ F, B b = none) ∧ env.locals ∉ F := fun {F l' h V'} st hF =>
    ⟨fun b hb => (by
      cases e : B b with
      | none => rfl
      | some o => have := st.prot b o e; rw [hF b hb] at this; cases this), fun hb => (by
      obtain ⟨m, o, es, ep, e, _⟩ := st.ns
      rw [hF _ hb] at e; cases e)⟩
  refine codeAny_forLoop_any (fun k s' => ∃ i F l' V', k = xs.length - i ∧ i ≤ xs.length ∧ Upd s s' ∧ S i F s' ∧ St W B env l' s'.heap V' ∧ P (xs.drop i) l' o ∧
    (∀ b ∈ F, B b = none) ∧ env.locals ∉ F) ?_ (xs.length - 0) ⟨0, F0, l, V, rfl, Nat.zero_le _, hu, hS, st1, by simpa using h0, (new st hF0).1, (new st hF0).2⟩
  rintro k s' ⟨i, F, l', V', rfl, hi, hup, hSi, st', hP, hB, hL⟩
  rcases Nat.lt_or_ge i xs.length with hlt | hge
  · have hx : xs[i]? = some xs[i] := List.getElem?_eq_getElem hlt
    rw [List.drop_eq_getElem_cons hlt] at hP
    obtain ⟨bs, ht, hkd, l1, hbody, l2, hle, hP2⟩ := hstep _ _ _ _ hP
    refine wpAny_mono (T.item i F _ s' (fun v s2 => Upd s' s2 ∧ ItAt s2.heap v xs[i] ∧ ∃ F', S (i + 1) F' s2 ∧ KeptD F s'.heap s2.heap ∧ ∀ b ∈ F', b ∈ F ∨ s'.heap.get? b = none) _ hx hSi st'.ga fun v s2 F' a b c d e => ⟨a, b, F', c, d, e⟩) (fun r s2 h2 => ?_) (fun _ _ e => e)
    cases r with
    | none => exact h2.elim
    | some v =>
    obtain ⟨hu2, hv, F', hS2, hk2, hF'⟩ := h2
    have st2 := st'.stepG hk2 hB hL hc
    have hB' : ∀ b ∈ F', B b = none := fun b hb => by
      rcases hF' b hb with q | q
      · exact hB b q
      · exact (new st' (F := [b]) (fun c hc => by simp at hc; subst hc; exact q)).1 b (by simp)
    have hL' : env.locals ∉ F' := fun hb => by
      rcases hF' _ hb with q | q
      · exact hL q
      · exact (new st' (F := [env.locals]) (fun c hc => by simp at hc; subst hc; exact q)).2 (by simp)
    have st3 := st2.overG hL' hc
    obtain ⟨g, hg⟩ := T.gen _ _ s2 hS2
    refine go_gen htt hg ?_
    refine wp_target ro.hd ht hkd hk st3 hv fun h' t V3 st4 => ?_
    refine hbody.run A _ _ V3 _ _ ro st4 fun f s5 m5 a5 => ?_
    obtain ⟨rfl, V5, st5⟩ := a5
    have stm := st5.mono hle
    have m25 : Same s2 s5 := (Same.put s2 h' t).trans m5
    exact ⟨xs.length - (i + 1), by omega, i + 1, F', l2, _, rfl, hlt, (hup.trans hu2).trans m25.upd, T.frame _ _ s2 s5 hS2 m25 st5.protN st5.ga,
      stm.unoverG st.base st2.prot, hP2, hB', hL'⟩
  · have hi' : i = xs.length := by omega
    subst hi'
    rw [List.drop_of_length_le (Nat.le_refl _)] at hP
    obtain ⟨l2, rfl, hle⟩ := hnil _ _ hP
    refine T.done F s' _ _ hSi st'.ga fun s2 hu2 hf2 hk2 => ?_
    have st2 := st'.stepG hk2 hB hL hc
    exact wpAny_execs_nil (h _ s2 ((hup.trans hu2).same hf2) ⟨rfl, _, st2.mono hle⟩)
end
end Mine
end

/-! G3 -/
section
open PySem PySem.Calls PyProof.Rows PySem.W
set_option maxRecDepth 100000
namespace Mine
section
variable {W : Wd} {n : Nat} {A : Around}

/-- what a yield tells -/
def Yp (W : Wd) (xs : List It) (F : List Addr) : Protocol := fun m s₀ v s κ =>
  (∃ x, xs[xs.length - 1 - m]? = some x ∧ ItAt s.heap v x) ∧ Same s₀ s ∧ KeptD F s₀.heap s.heap ∧ GA W s.heap ∧
    ∀ s'', Same s s'' → KeptN F s.heap s''.heap → GA W s''.heap → κ (.send .none) s''
def Pp (F : List Addr) : Nat → Shared → Shared → Prop := fun m s₀ s₁ => m = 0 ∧ Same s₀ s₁ ∧ KeptD F s₀.heap s₁.heap
abbrev Rp (F : List Addr) : GenEnd := fun m s₀ r s₁ => r = .ok (.ret .none) ∧ Pp F m s₀ s₁
theorem KeptN.trans {F : List Addr} {a b c : Heap} (x : KeptN F a b) (y : KeptN F b c) : KeptN F a c := fun d hd o n e => y d hd o n (x d hd o n e)
theorem KeptN.refl {F : List Addr} {a : Heap} : KeptN F a a := fun _ _ _ _ e => e

def GS (W : Wd) (A : Around) (I : Addr) (g : Nat) (xs : List It) (g0 : Array GenState) (i : Nat) (F : List Addr) (s : Shared) : Prop :=
  s.heap.IsGen I g ∧ ∃ gs F0 s1, F = I :: F0 ∧ s.gens[g]? = some gs ∧ FinGens g0 (s.setGen g .finished).gens ∧ I ∉ F0 ∧
    Same s1 (s.setGen g .running) ∧ KeptN F0 s1.heap s.heap ∧
    ∀ s'', Same s1 s'' → KeptN F0 s1.heap s''.heap → GA W s''.heap →
      ∃ F1, (∀ b ∈ F1, b ∈ F0 ∨ s''.heap.get? b = none) ∧ gs.Goes (model W.prog W.w) A.in1 (Rp F1) (Yp W xs F1) (xs.length - i) (.send .none) s''

theorem FinGens.set {a b : Array GenState} (x : FinGens a b) {g : Nat} (hg : g < a.size) (v : GenState) : FinGens (a.setIfInBounds g v) (b.setIfInBounds g v) := by
  obtain ⟨l, rfl, hl⟩ := x
  refine ⟨l, ?_, hl⟩
  apply Array.ext'
  simp [List.set_append, hg]
theorem Same.setGen {s s' : Shared} (x : Same s s') {g : Nat} {gs : GenState} (hg : s.gens[g]? = some gs) (v : GenState) : Same (s.setGen g v) (s'.setGen g v) := by
  obtain ⟨h, t, g', rfl, f⟩ := x
  exact ⟨h, t, _, rfl, f.set (Array.getElem?_eq_some_iff.mp hg).1 v⟩
theorem setGen_set (s : Shared) (g : Nat) (x y : GenState) : (s.setGen g x).setGen g y = s.setGen g y := by simp [Shared.setGen]
theorem setGen_back {s : Shared} {g : Nat} {x : GenState} (h : s.gens[g]? = some x) : s.setGen g x = s := by
  have : s.gens.setIfInBounds g x = s.gens := by
    apply Array.ext'
    simp only [Array.toList_setIfInBounds]
    have h' : s.gens.toList[g]? = some x := by simpa using h
    obtain ⟨hlt, he⟩ := List.getElem?_eq_some_iff.mp h'
    rw [← he]; exact List.set_getElem_self hlt
  simp [Shared.setGen, this]
theorem Same.gen {s s' : Shared} (x : Same s s') {g : Nat} {gs : GenState} (hg : s.gens[g]? = some gs) : s'.gens[g]? = some gs := by
  obtain ⟨h, t, g', rfl, l, rfl, _⟩ := x
  have hlt := (Array.getElem?_eq_some_iff.mp hg).1
  simp only [Array.getElem?_append_left hlt]
  exact hg
theorem nd_gen {o : Obj} (h : o.cls = .type "generator") : Nd o := .inl (by rw [h]; exact ⟨by decide, by decide, by decide⟩)

theorem TurnsG.make (ro : Room A n) (I : Addr) (g : Nat) (xs : List It) (g0 : Array GenState) : TurnsG W A I xs g0 (GS W A I g xs g0) where
  frame := fun i F s s' st m k ga => by
    obtain ⟨hg, gs, F0, s1, rfl, h1, h2, h3, h5, h6, h7⟩ := st
    have hF : KeptN F0 s.heap s'.heap := fun b hb => k b (.tail _ hb)
    exact ⟨let ⟨o, nm, qn, ho, hc, r⟩ := hg; ⟨o, nm, qn, k I (.head _) _ (nd_gen hc) ho, hc, r⟩, gs, F0, s1, rfl, m.gen h1, h2.trans (m.setGen h1 .finished).fin, h3, h5.trans (m.setGen h1 .running), h6.trans hF, h7⟩
  gen := fun i F s st => ⟨g, st.1⟩
  item := fun i F x s Q E hx st ga hQ => by
    obtain ⟨hg, gs, F0, s1, rfl, h1, h2, h3, h5, h6, h7⟩ := st
    obtain ⟨F1, hF1, hgo⟩ := h7 (s.setGen g .running) h5 h6 ga
    have hlt : i < xs.length := by
      rcases Nat.lt_or_ge i xs.length with h | h
      · exact h
      · rw [List.getElem?_eq_none h] at hx; cases hx
    obtain ⟨m, hm⟩ : ∃ m, xs.length - i = m + 1 := ⟨xs.length - i - 1, by omega⟩
    rw [hm] at hgo
    have hI : I ∉ F1 := fun hb => by
      rcases hF1 I hb with q | q
      · exact h3 q
      · obtain ⟨o, _, _, e, _⟩ := hg
        have : s.heap.get? I = none := q
        rw [e] at this; cases this
    refine wpAny_pyNext_gen (P := Pp F1) ro.hd ga.nolimit ro.lt hg h1 hgo (fun v s₁ gs' hy => ?_) (fun s₁ hp => by cases hp.1)
    obtain ⟨⟨x', hx', rv⟩, sm, kb, ga1, hκ⟩ := hy
    have hi : xs.length - 1 - (m + 1 - 1) = i := by omega
    rw [hi, hx] at hx'; cases hx'
    have hrun : s₁.gens[g]? = some .running := sm.gen (setGen_self h1)
    have kb' : KeptD F1 s.heap s₁.heap := kb
    refine hQ v (s₁.setGen g gs') (I :: F1) ?_ rv ⟨?_, gs', F1, s₁, rfl, setGen_self hrun, ?_, hI, ?_, .refl, fun s'' hs hk hga => ⟨F1, fun b hb => .inl hb, ?_⟩⟩ ?_ ?_
    · obtain ⟨h', t', g', rfl, _⟩ := sm
      exact ⟨h', t', _, rfl⟩
    · obtain ⟨o, nm, qn, e, r⟩ := hg
      exact ⟨o, nm, qn, kb' I o e (fun q => absurd q hI), r⟩
    · rw [setGen_set]
      refine h2.trans ?_
      have := (sm.setGen (setGen_self h1) .finished).fin
      rw [setGen_set] at this
      exact this
    · rw [setGen_set, setGen_back hrun]; exact .refl _
    · have := hκ s'' hs hk hga
      have e : xs.length - (i + 1) = m := by omega
      rw [e]; exact this
    · intro b o e hb
      refine kb' b o e fun q => ?_
      rcases hF1 b q with q | q
      · exact hb (List.mem_cons_of_mem _ q)
      · have : s.heap.get? b = none := q
        rw [e] at this; cases this
    · intro b hb
      cases hb with
      | head => exact .inl (.head _)
      | tail _ hb =>
        rcases hF1 b hb with q | q
        · exact .inl (.tail _ q)
        · exact .inr q
  done := fun F s Q E st ga hQ => by
    obtain ⟨hg, gs, F0, s1, rfl, h1, h2, h3, h5, h6, h7⟩ := st
    obtain ⟨F1, hF1, hgo⟩ := h7 (s.setGen g .running) h5 h6 ga
    rw [Nat.sub_self] at hgo
    refine wpAny_pyNext_gen (P := Pp F1) ro.hd ga.nolimit ro.lt hg h1 hgo (fun v s₁ gs' hy => ?_) (fun s₁ hp h' hk => ?_)
    · obtain ⟨_, sm, kb, ga1, hκ⟩ := hy
      exact (hκ s₁ (.refl _) .refl ga1).elim
    · obtain ⟨_, sm, kb⟩ := hp
      have kb' : KeptD F1 s.heap s₁.heap := kb
      refine hQ _ ?_ ?_ ?_
      · obtain ⟨h', t', g', rfl, _⟩ := sm
        exact ⟨_, t', _, rfl⟩
      · refine h2.trans ?_
        have := (sm.setGen (setGen_self h1) .finished).fin
        rw [setGen_set] at this
        exact this
      · intro b o e hb
        refine hk b o (kb' b o e fun q => ?_)
        rcases hF1 b q with q | q
        · exact hb (List.mem_cons_of_mem _ q)
        · have : s.heap.get? b = none := q
          rw [e] at this; cases this
end
end Mine
end

/-! G4 -/
section
open PySem PySem.Calls PyProof.Rows PySem.W
set_option maxRecDepth 100000
namespace Mine
section
variable {W : Wd} {n : Nat} {env : Env} {l : Sl} {B : Bm} {V : Str → Option Value}

structure RoomG (A : Around) (n : Nat) : Prop where
  hd : A.handled = none
  depth : A.depth + 1 + n < recursionLimit
  units : A.units + 3 + 10 * n < cLine
theorem Room.toG {A : Around} (x : Room A (n + 1)) : RoomG A.in1 n := ⟨x.hd, by have := x.depth; show A.depth + 1 + n < _; omega, by have := x.units; show A.units + 1 + 3 + 10 * n < _; omega⟩
theorem RoomG.func {A : Around} (x : RoomG A n) (body : List Stmt) (env : Env) : Room (A.over (.func body env) []) n :=
  ⟨x.hd, by have := x.depth; show A.depth + 0 + 1 + n < _; omega, by have := x.units; show A.units + 0 + 3 + 10 * n < _; omega⟩
theorem RoomG.loop {A : Around} (x : RoomG A n) {body : List Stmt} {env : Env} {t : Expr} {it : Value} {b o : List Stmt} {k : Result → Sem Fin} {g : Bool} {lv : List Value} {p : Pos} {kp : List Value} : Room (A.over (.forLoop t it b o env) [.ret k none g lv (.func body env) p kp]) n :=
  ⟨x.hd, by have := x.depth; show A.depth + (1 + 0) + 0 + n < _; omega, by have := x.units; show A.units + (3 + 0) + 0 + 10 * n < _; omega⟩
open Classical in
noncomputable def offB (F : List Addr) (h : Heap) : Bm := fun a => if a ∈ F ∧ ∃ o, h.get? a = some o ∧ Nd o then none else h.get? a
theorem offB_in {F : List Addr} {h : Heap} {a : Addr} {o : Obj} (e : a ∈ F) (ho : h.get? a = some o) (hn : Nd o) : offB F h a = none := by
  unfold offB; rw [if_pos ⟨e, o, ho, hn⟩]
theorem offB_or (F : List Addr) (h : Heap) (a : Addr) : offB F h a = none ∨ offB F h a = h.get? a := by
  unfold offB; split
  · exact .inl rfl
  · exact .inr rfl
theorem offB_get {F : List Addr} {h : Heap} {a : Addr} {o : Obj} (ho : h.get? a = some o) (hn : a ∈ F → ¬ Nd o) : offB F h a = some o := by
  unfold offB; rw [if_neg fun q => by obtain ⟨q, o', e, n⟩ := q; rw [ho] at e; cases e; exact hn q n]; exact ho
theorem nd_ns {h : Heap} {a : Addr} {m : Str → Option Value} (x : h.Ns a m) : ∃ o, h.get? a = some o ∧ Nd o := by
  obtain ⟨o, es, ep, e, d, _⟩ := x
  exact ⟨o, e, .inr (by rw [d]; exact ⟨fun _ _ => Data.noConfusion, fun _ => Data.noConfusion⟩)⟩

theorem St.imm {h h' : Heap} {F : List Addr} (x : St W B env l h V) (hi : ∀ y d b, l.lookup y = some (d, b) → ∃ a, d = .it (.im a)) (hc : env.cells = [])
    (hk : KeptN F h h') (ga : GA W h') (hF : env.locals ∈ F) (hFb : ∀ b ∈ F, W.hB.get? b = none) : St W (offB F h') env l h' V := by
  obtain ⟨m, hns⟩ := x.ns
  have hL : ∀ o, h.get? env.locals = some o → h'.get? env.locals = some o := fun o e => by
    obtain ⟨o', e', nd⟩ := nd_ns hns
    rw [e] at e'; cases e'
    exact hk _ hF _ nd e
  exact {
  base := fun a o e => offB_get (ga.base a o e) fun hb => by rw [hFb a hb] at e; cases e
  prot := fun a o e => by
    rcases offB_or F h' a with q | q
    · rw [q] at e; cases e
    · rw [q] at e; exact e
  ns := ⟨m, hns.at' hL⟩
  offL := by
    obtain ⟨o', e', nd⟩ := nd_ns hns
    exact offB_in hF (hL _ e') nd
  cell := fun y e => by
    obtain ⟨c, v, h1, _⟩ := x.cell y e
    rw [hc] at h1; cases h1
  apart := x.apart
  bnd := fun y w e => by
    rcases x.bnd y w e with ⟨e, m', n', hm⟩ | ⟨e, c', h1, q⟩ | ⟨e, c', h1, q⟩
    · exact .inl ⟨e, m', n'.at' hL, hm⟩
    · rw [hc] at h1; cases h1
    · rw [hc] at h1; cases h1
  typ := fun y v e => by
    obtain ⟨d, b, h1, h2⟩ := x.typ y v e
    obtain ⟨a, rfl⟩ := hi y d b h1
    exact ⟨_, b, h1, h2⟩
  has := x.has
  own := fun y d e => by
    obtain ⟨a, h⟩ := hi y _ _ e
    cases h }

theorem seg_tr {A : Around} {R : GenEnd} {Y : Protocol} {m : Nat} {s₀ : Shared} {c : Code} {fs : List Frame} {s : Shared} {K : Flow → Sem Fin} {H : Value → Sem Fin} {gd : Bool → Bool} {lv : List Value → List Value} {t : Sem Flow} {l1 : Sl}
    (h1 : Tr W n env l t (.next l1)) (ro : Room (A.over c fs) n) (st : St W B env l s.heap V) (h : ∀ s' V', Same s s' → St W B env l1 s'.heap V' → Seg (model W.prog W.w) A R Y m s₀ c (K .next) fs s') : Seg (model W.prog W.w) A R Y m s₀ c (t.wrap K H gd lv) fs s :=
  seg_st (h1.run _ s B V _ _ ro st fun f s' sm a => by obtain ⟨rfl, V', st'⟩ := a; exact h s' V' sm st')

/-- what a suspended frame is when it goes on -/
structure Fr2 (W : Wd) (F : List Addr) (s₀ s : Shared) (B : Bm) : Prop where
  same : Same s₀ s
  keep : ∀ a o, s₀.heap.get? a = some o → (a ∈ F → ¬ Nd o) → B a = some o
theorem Fr2.kept {F : List Addr} {s₀ s : Shared} (x : Fr2 W F s₀ s B) (st : St W B env l s.heap V) : KeptD F s₀.heap s.heap := fun b o e hb => st.prot b o (x.keep b o e hb)
theorem Fr2.next {F : List Addr} {s₀ s s' : Shared} (x : Fr2 W F s₀ s B) (m : Same s s') : Fr2 W F s₀ s' B := ⟨x.same.trans m, x.keep⟩
theorem Fr2.new {F : List Addr} {s : Shared} : Fr2 W F s s (offB F s.heap) := ⟨.refl _, fun a o e ha => offB_get e ha⟩

/-- a yield -/
theorem seg_yieldI {A : Around} {xs : List It} {F : List Addr} {m : Nat} {s₀ : Shared} {c : Code} {fs : List Frame} {s : Shared} {K : Flow → Sem Fin} {H : Value → Sem Fin} {gd : Bool → Bool} {lv : List Value → List Value} {e : Expr} {ypos pos : Pos} {x : It}
    (h1 : Ev W n true env (lk l) (eval e env) (.it x)) (ro : Room (A.over c fs) n) (st : St W B env l s.heap V) (fr : Fr2 W F s₀ s B) (hx : xs[xs.length - 1 - m]? = some x)
    (hi : ∀ y d b, l.lookup y = some (d, b) → ∃ a, d = .it (.im a)) (hc : env.cells = []) (hF : env.locals ∈ F) (hFb : ∀ b ∈ F, W.hB.get? b = none)
    (h : ∀ s1 s2, Ext s s1 → Same s1 s2 → KeptN F s1.heap s2.heap → St W (offB F s2.heap) env l s2.heap V → Seg (model W.prog W.w) A (Rp F) (Yp W xs F) m s2 c (K .next) fs s2)
    (hfs : splitAtGen fs = none) (hgd : gd false = false) (hfg : fs.any Frame.guarded = false)
    (hco : env.scope.isCoroutine = false := by rfl) (hin : interactive env = false := by rfl) :
    Seg (model W.prog W.w) A (Rp F) (Yp W xs F) (m + 1) s₀ c ((exec (.Expr (.Yield (some e) ypos) pos) env).wrap K H gd lv) fs s := by
  refine seg_Expr_Yield hfs hgd hfg (h1.run _ s _ _ ro st.ga st.sat fun v s1 e1 r1 _ κ hκ => ?_) hco hin
  have st1 := st.ext e1.kept
  have ra : ItR s1.heap v x := r1
  exact ⟨⟨x, hx, ra.itAt⟩, fr.same.trans e1.same, (fr.next e1.same).kept st1, st1.ga, fun s2 sm k2 ga2 => hκ .none s2 (h s1 s2 e1 sm k2 (st1.imm hi hc k2 ga2 hF hFb))⟩

/-- a call of a def that is a generator, as a source -/
theorem SrcG.fn {id : Str} {p pos : Pos} {e : Expr} {rest : List Expr} {f : Addr} {params : Arguments} {body : List Stmt} {scope : Scope} {names : List Str} {ds : List PV} {xs : List It} {σ : Sto}
    (hk : EnvOk env) (hx : env.kindOf id = some .globalImplicit) (hf : W.mg id = some (.ref f)) (F : FnAt W f id params body scope)
    (hbind : ∀ pm cd doc vs, vs.length = ds.length → bindArgs (Calls.docDef id params body scope pm cd doc) ⟨vs, []⟩ = pure (names.zip vs))
    (hnd : names.Nodup) (hkd : ∀ x ∈ names, scope.names.lookup x = some .local) (hcell : ∀ k, cellsFrom k scope.names [] = []) (hnc : ∀ y, scope.names.lookup y ≠ some .cell) (hlen : names.length = ds.length) (him : ∀ d ∈ ds, ∃ a, d = .it (.im a))
    (h1 : EvL W n env σ (spliced (backTo pos (starEach (e :: rest) env))) ds)
    (hseg : ∀ L a cd, EnvOk (envOfC id scope L a cd) → ∀ A s V, RoomG A n → s.heap.NoLimit → St W (offB [L] s.heap) (envOfC id scope L a cd) (ent names ds) s.heap V →
      ∃ F1, (∀ b ∈ F1, b ∈ [L] ∨ s.heap.get? b = none) ∧ Seg (model W.prog W.w) A (Rp F1) (Yp W xs F1) xs.length s (.func body (envOfC id scope L a cd)) ((model W.prog W.w).den (.func body (envOfC id scope L a cd))) [] s)
    (he : starEach (e :: rest) env = (false, eval e env) :: starEach rest env := by rfl) (hd : (id == ("__debug__" : Str)) = false := by decide)
    (hco : scope.isCoroutine = false := by rfl) (hgen : scope.isGenerator = true := by rfl) (hkk : scope.kind = .function := by rfl) :
    SrcG W (n + 1) env σ (.Call (.Name id p) (e :: rest) [] pos) xs := .mk fun A s Q E ro ga sa hQ => by
  obtain ⟨o, pm, cd, doc, ho, hdd, hcd⟩ := F.ex
  refine wpAny_Call_NameR (load_global hk ga hx (.inl hf) (PyProof.Rows.callWith_def hdd (h1.run A s _ E (ro.le (Nat.le_succ _)) ga sa fun vs s1 e1 r1 =>
    ⟨(ga.keeps e1.kept).base _ _ ho, wpAny_call ?_⟩) he) hd)
  have ga1 := ga.keeps e1.kept
  have hvl : vs.length = ds.length := r1.length
  refine codeAny_call_generator (fd := Calls.docDef id params body scope pm cd doc) ro.lt (ga1.base _ _ ho) hdd hco hgen rfl (hcd.keeps ga1.base) ?_
  rw [hbind pm cd doc vs hvl]
  refine wpAny_pure (wpAny_newFunctionEnv_cells hkk (fun x hx => .inl (hkd x.1 (List.of_mem_zip hx).1)) fun genv hge s2 X => ?_)
  obtain ⟨h₁, tk, rfl, kept⟩ := X.done
  have hmap : (names.zip vs).map (·.1) = names := List.map_fst_zip (by omega)
  have hge' : genv = envOfC id scope s1.heap.objs.size f cd := hge
  have hns : h₁.Ns s1.heap.objs.size (bindL genv.kindOf (names.zip vs) fun _ => none) := by
    have := X.toInCall.ns
    rw [hge] at this ⊢
    exact this
  clear X hge
  subst hge'
  have hEnv : EnvOk (envOfC id scope s1.heap.objs.size f cd) := ⟨hkk, rfl, rfl, fun x y c hx hy => by
    have : (envOfC id scope s1.heap.objs.size f cd).cells = [] := hcell _
    rw [this] at hx; cases hx⟩
  have hcl : (envOfC id scope s1.heap.objs.size f cd).cells = [] := hcell _
  have st : St W (fun a => s1.heap.get? a) (envOfC id scope s1.heap.objs.size f cd) (ent names ds) h₁ (fun x => (names.zip vs).lookup x) := {
    base := ga1.base
    prot := kept
    ns := ⟨_, hns⟩
    offL := fresh_size _
    cell := fun x e => absurd e (hnc x)
    apart := hEnv.apart
    bnd := fun x v e => by
      obtain ⟨_, _, _, hm⟩ := zip_get r1 e
      have hx' : x ∈ names := (List.of_mem_zip hm).1
      have q := hkd x hx'
      exact .inl ⟨q, _, hns, bindL_get _ _ _ _ _ (by rw [hmap]; exact hnd) hm q⟩
    typ := fun x v e => by
      obtain ⟨d, h1, h2, _⟩ := zip_get r1 e
      exact ⟨d, false, h1, h2.keeps kept⟩
    has := fun x d b e => let ⟨v, _, h2, _⟩ := ent_get r1 e; ⟨v, h2⟩
    own := fun x d e => by cases ent_false e }
  have himm : ∀ y d b, (ent names ds).lookup y = some (d, b) → ∃ a, d = .it (.im a) := fun y d b e => by
    have hm := mem_of_lookup e
    simp only [ent, List.mem_map] at hm
    obtain ⟨⟨z, d'⟩, hz, hq⟩ := hm
    cases hq
    exact him _ (List.of_mem_zip hz).2
  refine ⟨(ga1.keeps kept).nolimit, ?_⟩
  have hg : (h₁.push { cls := .type "generator", data := .fields #[.int s1.gens.size 0, .str id tk, .str id (tk + 1)] }).IsGen h₁.objs.size s1.gens.size := ⟨_, _, _, Heap.get?_push_size _ rfl, rfl, rfl, rfl⟩
  have kp : Kept h₁ (h₁.push { cls := .type "generator", data := .fields #[.int s1.gens.size 0, .str id tk, .str id (tk + 1)] }) := fun _ _ e => Heap.get?_push_of_some _ e
  have hLlt : s1.heap.objs.size < h₁.objs.size := by obtain ⟨o, _, _, e, _⟩ := hns; exact Heap.lt_size e
  refine wpAny_pyIter_gen hg ?_
  have hLn : W.hB.get? s1.heap.objs.size = none := by
    cases q : W.hB.get? s1.heap.objs.size with
    | none => rfl
    | some o => have := ga1.base _ _ q; rw [fresh_size] at this; cases this
  refine hQ h₁.objs.size [h₁.objs.size, s1.heap.objs.size] (GS W A h₁.objs.size s1.gens.size xs s.gens) _ ?_ ?_ (TurnsG.make ro h₁.objs.size s1.gens.size xs s.gens) ?_ ?_
  · obtain ⟨h', t', g', rfl, _⟩ := e1.same
    exact ⟨_, _, _, rfl⟩
  · exact e1.kept.trans (Kept.trans (show Kept s1.heap h₁ from kept) kp)
  · refine ⟨hg, .fresh (.func body (envOfC id scope s1.heap.objs.size f cd)), [s1.heap.objs.size], _, rfl, Array.getElem?_push_size .., ?_, ?_, .refl _, .refl, fun s'' sm k2 ga2 => ?_⟩
    · refine e1.same.fin.trans ⟨[.finished], ?_, by simp⟩
      apply Array.ext'
      simp [Shared.setGen, List.set_append]
    · simp only [List.mem_singleton]; exact Nat.ne_of_gt hLlt
    · have st2 := st.imm (F := [s1.heap.objs.size]) (h' := s''.heap) himm hcl (fun b hb o nd eo => k2 b hb o nd (kp _ _ eo)) ga2 (by show s1.heap.objs.size ∈ _; simp) (fun b hb => by simp at hb; subst hb; exact hLn)
      obtain ⟨F1, hF1, hs⟩ := hseg _ f cd hEnv A.in1 s'' _ ro.toG ga2.nolimit st2
      exact ⟨F1, hF1, rfl, hs⟩
  · intro b hb
    simp only [List.mem_cons, List.not_mem_nil, or_false] at hb
    rcases hb with rfl | rfl
    · refine e1.kept.none ((show Kept s1.heap h₁ from kept).none (fresh_size _))
    · exact e1.kept.none (fresh_size _)
end
end Mine
end

/-! G5 -/
section
open PySem PySem.Calls PyProof.Rows PySem.W
set_option maxRecDepth 100000
namespace Mine
section
variable {W : Wd} {n : Nat} {env : Env} {l : Sl} {B : Bm} {V : Str → Option Value}

def enumS (t : List Nat) : List It := (List.range t.length).map fun i => .tup [.int (i : Nat), .str (S [t.getD i 0])]
theorem enumS_len (t : List Nat) : (enumS t).length = t.length := by simp [enumS]

def EnS (t : List Nat) (tk : Tok) (N : Addr) (i : Nat) (h : Heap) : Prop := (∃ old, IsEnum h (N + 1) N i old) ∧ h.IsStrIter N (strIterType (S t)) (S t) tk i

theorem turns_enumS {target : Expr} (ht : TupT target) (t : List Nat) (tk : Tok) (N : Addr) (g0 : Array GenState) :
    Turns W n target (N + 1) (enumS t) g0 [N + 1, N] [N + 1, N] (fun i s => EnS t tk N i s.heap ∧ FinGens g0 s.gens) := by
  have D : ∀ A : Around, A.handled = none → Draws W.prog W.w A.in1 N [N] (S t).cps.size (fun i v => ∃ c u, (S t).cps[i]? = some c ∧ v = .str ⟨#[c]⟩ u) (fun i h => h.IsStrIter N (strIterType (S t)) (S t) tk i) := fun A hh => by
    unfold strIterType
    cases ha : (S t).cps.all (· < 128)
    · simp only [Bool.false_eq_true, if_false]
      exact Draws.strWide (A := A.in1) hh N (S t) tk
    · simp only [if_true]
      exact Draws.strAscii (A := A.in1) hh N (S t) tk
  have hW := fun (A : Around) (hh : A.handled = none) => WalksT.enumerateD (D A hh) (N + 1) (Nat.succ_ne_self _) (by simp) (by simp)
  have hsz : (S t).cps.size = (enumS t).length := by rw [enumS_len]; simp [S]
  have nd : ∀ {h : Heap} {i : Nat}, EnS t tk N i h → ∀ b ∈ [N + 1, N], NoDat h b := fun {h i} st b hb => by
    simp only [List.mem_cons, List.not_mem_nil, or_false] at hb
    obtain ⟨⟨old, e1⟩, o, e2, hc, _⟩ := st
    rcases hb with rfl | rfl
    · intro o' e'
      rw [e1] at e'; cases e'
      exact ⟨show Value.type "enumerate" ≠ _ by decide, show Value.type "enumerate" ≠ _ by decide, show Value.type "enumerate" ≠ _ by decide⟩
    · intro o' e'
      rw [e2] at e'; cases e'
      rw [hc]; unfold strIterType
      split <;> exact ⟨by decide, by decide, by decide⟩
  have pts : ∀ {h : Heap} {i : Nat}, EnS t tk N i h → ∀ b ∈ [N + 1, N], Pt h b := fun {h i} st b hb => by
    simp only [List.mem_cons, List.not_mem_nil, or_false] at hb
    obtain ⟨⟨old, e1⟩, o, e2, _, hd⟩ := st
    rcases hb with rfl | rfl
    · exact ⟨_, e1, fun _ _ => Data.noConfusion, fun _ => Data.noConfusion⟩
    · exact ⟨o, e2, by rw [hd]; exact fun _ _ => Data.noConfusion, by rw [hd]; exact fun _ => Data.noConfusion⟩
  exact {
    sub := fun b hb => hb
    frame := fun i s s' st m k => ⟨(hW callerA rfl).frame i _ _ st.1 k, st.2.trans m.fin⟩
    nodat := fun i s st => nd st.1
    pt := fun i s st => pts st.1
    item := fun A i x s2 Q E ro hx st hQ => by
      have hlt : i < (enumS t).length := by
        rcases Nat.lt_or_ge i (enumS t).length with h | h
        · exact h
        · rw [List.getElem?_eq_none h] at hx; cases hx
      refine (hW A ro.hd).item i s2 _ _ (by rw [hsz]; exact hlt) st.1 fun T vals h2 tk hp _ hT hm hk => ?_
      obtain ⟨e', k', r', rfl⟩ := ht
      refine (hW A ro.hd).go e' k' r' i T _ _ _ hm fun h3 st3 hk3 => ?_
      obtain ⟨t', y, ⟨c, u, hy, rfl⟩, rfl⟩ := hp
      have hT3 : h3.IsTuple T #[.int i t', .str ⟨#[c]⟩ u] := by
        obtain ⟨o, e, r⟩ := hT
        exact ⟨o, hk3 T o ((hW A ro.hd).apart i T h2 hm) e, r⟩
      rw [enumS_len] at hlt
      have hx' : x = .tup [.int (i : Nat), .str (S [t.getD i 0])] := by
        simp only [enumS, List.getElem?_map, List.getElem?_range hlt, Option.map_some, Option.some.injEq] at hx
        exact hx.symm
      subst hx'
      have hc : c = t.getD i 0 := by
        simp only [S] at hy
        have : t[i]? = some c := by simpa using hy
        simp [List.getD, this]
      subst hc
      exact hQ _ _ ⟨h3, tk, s2.gens, rfl⟩ ⟨T, _, rfl, hT3, .cons rfl (.cons rfl .nil)⟩ ⟨st3, st.2⟩ fun b o hb e => hk3 b o hb (hk b o hb e)
    done := fun A s2 Q E ro st hQ => (hW A ro.hd).done s2 Q E (by rw [hsz]; exact st.1) fun h2 tk hk => hQ _ ⟨h2, tk, s2.gens, rfl⟩ st.2 hk }

theorem wp_storeS {A : Around} {s : Shared} {E : Value → Shared → Prop} {M : Model} {Q : Unit → Shared → Prop} {z : Str} {v : Value} {d : PV} (x : St W B env l s.heap V) (hk : EnvOk env)
    (hx : env.kindOf z = some .local) (r : PVR s.heap v d) (hf : ∀ ds, d = .list ds → ∃ a, v = .ref a ∧ B a = none ∧ ∀ y, V y ≠ some (.ref a))
    (h : ∀ h' t, h'.objs.size = s.heap.objs.size → St W B env (put z d l) h' (upd V z v) → Q () { s with heap := h', toks := t }) : wpAny M A (storeName env z v) Q E s := by
  obtain ⟨m, n⟩ := x.ns
  refine wpAny_storeName_local hx n (fun h' hn hs => h h' _ hs.1 (x.store hs (ns_odd n) x.offL ⟨_, hn⟩ ?_ ?_ (.inl ⟨hx, _, hn, by simp⟩) r hf)) ?_
  · intro y hy
    obtain ⟨c, w, h1, h2, _⟩ := x.cell y hy
    exact ⟨c, w, h1, h2.sameBut hs (by rintro rfl; exact ns_not_cell n h2)⟩
  · rintro y w hy (⟨e, m', n', hm⟩ | ⟨e, c, hc, hv⟩ | ⟨e, c, hc, hv⟩)
    · rw [← nsFun n n'] at hm
      exact .inl ⟨e, _, hn, by simpa [hy] using hm⟩
    · exact .inr (.inl ⟨e, c, hc, hv.sameBut hs (by rintro rfl; exact ns_not_cell n hv)⟩)
    · exact .inr (.inr ⟨e, c, hc, hv.sameBut hs (by rintro rfl; exact ns_not_cell n hv)⟩)
  · rw [hk.kind]; rfl

/-- x = constant -/
theorem seg_const {A : Around} {R : GenEnd} {Y : Protocol} {m : Nat} {s₀ : Shared} {c : Code} {fs : List Frame} {s : Shared} {K : Flow → Sem Fin} {H : Value → Sem Fin} {gd : Bool → Bool} {lv : List Value → List Value} {x : Str} {p pos : Pos} {e : Expr} {a : Im}
    (st : St W B env l s.heap V) (hk : EnvOk env) (hx : env.kindOf x = some .local)
    (hev : ∀ (Q : Value → Shared → Prop) (E : Value → Shared → Prop), (∀ v t, ImR v a → Q v { s with toks := t }) → wpAny (model W.prog W.w) (A.over c fs) (eval e env) Q E s)
    (h : ∀ h' t V', h'.objs.size = s.heap.objs.size → St W B env (put x (.it (.im a)) l) h' V' → Seg (model W.prog W.w) A R Y m s₀ c (K .next) fs { s with heap := h', toks := t })
    (hs : swapsWith e (some (.Name x p)) pos.line env = pure false := by rfl) :
    Seg (model W.prog W.w) A R Y m s₀ c ((exec (.Assign [.Name x p] e pos) env).wrap K H gd lv) fs s :=
  seg_st (wpAny_Assign_Name (hev _ _ fun v t r => wp_storeS (d := .it (.im a)) (s := { s with toks := t }) st hk hx r (fun _ e => by cases e) fun h' t' hsz st' => h h' t' _ hsz st') hs)

/-- what the characters give, escapes seen -/
def esc : Bool → Nat → Nat → List Nat → List (Nat × List Nat)
  | true, p, _, [] => [(p, [92])]
  | false, _, _, [] => []
  | true, _, i, c :: r => (i, [92, c]) :: esc false i (i + 1) r
  | false, _, i, c :: r => if c = 92 then esc true i (i + 1) r else (i, [c]) :: esc false i (i + 1) r
def escI (l : List (Nat × List Nat)) : List It := l.map fun x => .tup [.int (x.1 : Nat), .str (S x.2)]
end
end Mine
end

/-! G6 -/
section
open PySem PySem.Calls PyProof.Rows PySem.W
set_option maxRecDepth 100000
namespace Mine
variable {W : Wd} {n : Nat}

def kEsc : Nat := 9
def kStrip : Nat := 10
abbrev escEnv (L a : Addr) (cd : Value) : Env := envOfC "_iter_escaped_chars" (scopeOf PW kEsc) L a cd
def escL (t : List Nat) (p : Nat) (e : Bool) : Sl := [("addr", .str (S t), false), ("pos", .int (p : Nat), true), ("escape", .bool e, true)]
def escL2 (t : List Nat) (p : Nat) (e : Bool) (c : Nat) : Sl := [("addr", .str (S t), false), ("pos", .int (p : Nat), true), ("escape", .bool e, true), ("ch", .str (S [c]), true)]
def forT : Stmt → Expr | .For t _ _ _ _ => t | _ => default
def forI : Stmt → Expr | .For _ i _ _ _ => i | _ => default
def forB : Stmt → List Stmt | .For _ _ b _ _ => b | _ => []
def escFor : Stmt := ((bodyOf PW kEsc)[2]?).getD default

theorem EnS.at {t : List Nat} {tk : Tok} {N : Addr} {i : Nat} {h h' : Heap} (x : EnS t tk N i h) (k : ∀ b ∈ [N + 1, N], ∀ o, h.get? b = some o → h'.get? b = some o) : EnS t tk N i h' := by
  obtain ⟨⟨old, e1⟩, o, e2, r⟩ := x
  exact ⟨⟨old, k _ (by simp) _ e1⟩, o, k _ (by simp) _ e2, r⟩
theorem EnS.nd {t : List Nat} {tk : Tok} {N : Addr} {i : Nat} {h : Heap} (x : EnS t tk N i h) : ∀ b ∈ [N + 1, N], ∃ o, h.get? b = some o ∧ Nd o := fun b hb => by
  simp only [List.mem_cons, List.not_mem_nil, or_false] at hb
  obtain ⟨⟨old, e1⟩, o, e2, hc, _⟩ := x
  rcases hb with rfl | rfl
  · exact ⟨_, e1, .inl ⟨show Value.type "enumerate" ≠ _ by decide, show Value.type "enumerate" ≠ _ by decide, show Value.type "enumerate" ≠ _ by decide⟩⟩
  · refine ⟨_, e2, ?_⟩
    unfold Nd; rw [hc]; unfold strIterType
    split <;> exact .inl ⟨by decide, by decide, by decide⟩
theorem EnS.atN {t : List Nat} {tk : Tok} {N : Addr} {i : Nat} {h h' : Heap} (x : EnS t tk N i h) (k : KeptN [N + 1, N] h h') : EnS t tk N i h' := x.at fun b hb o e => by
  obtain ⟨o', e', nd⟩ := x.nd b hb
  rw [e] at e'; cases e'
  exact k b hb o nd e
theorem keptD_of {t : List Nat} {tk : Tok} {N : Addr} {i : Nat} {h h' : Heap} (x : EnS t tk N i h) (k : KeptBut [N + 1, N] h h') : KeptD [N + 1, N] h h' := fun b o e hn => by
  refine k b o (fun hb => ?_) e
  obtain ⟨o', e', nd⟩ := x.nd b hb
  rw [e] at e'; cases e'
  exact hn hb nd
theorem KeptN.sub {F F' : List Addr} {h h' : Heap} (k : KeptN F h h') (hs : ∀ b ∈ F', b ∈ F) : KeptN F' h h' := fun b hb => k b (hs b hb)
theorem offB_en {t : List Nat} {tk : Tok} {N L : Addr} {i : Nat} {h : Heap} (x : EnS t tk N i h) : ∀ b ∈ [N + 1, N], offB [L, N + 1, N] h b = none := fun b hb => by
  obtain ⟨o', e', nd⟩ := x.nd b hb
  exact offB_in (List.mem_cons_of_mem _ hb) e' nd

section
variable {B : Bm} {env : Env} {l : Sl} {V : Str → Option Value} {A : Around} {R : GenEnd} {Y : Protocol} {m : Nat} {s₀ : Shared} {c : Code} {fs : List Frame} {s : Shared} {K : Flow → Sem Fin} {H : Value → Sem Fin} {gd : Bool → Bool} {lv : List Value → List Value}
theorem seg_trE {t : List Nat} {tk : Tok} {N : Addr} {i : Nat} {u : Sem Flow} {l1 : Sl} (en : EnS t tk N i s.heap) (hL : env.locals ∉ [N + 1, N]) (hc : env.cells = [])
    (h1 : Tr W n env l u (.next l1)) (ro : Room (A.over c fs) n) (st : St W B env l s.heap V) (h : ∀ s' V', Same s s' → St W B env l1 s'.heap V' → EnS t tk N i s'.heap → Seg (model W.prog W.w) A R Y m s₀ c (K .next) fs s') : Seg (model W.prog W.w) A R Y m s₀ c (u.wrap K H gd lv) fs s :=
  seg_tr h1 ro (st.overG hL hc) fun s' V' sm st' => h s' V' sm (st'.unoverG st.base st.prot) (en.atN st'.protN)
end

theorem escL2_imm (t : List Nat) (p : Nat) (e : Bool) (c : Nat) : ∀ y d b, (escL2 t p e c).lookup y = some (d, b) → ∃ a, d = .it (.im a) := fun y d b h => by
  have hm := mem_of_lookup h
  simp only [escL2, List.mem_cons, List.not_mem_nil, or_false, Prod.mk.injEq] at hm
  rcases hm with ⟨_, rfl, _⟩ | ⟨_, rfl, _⟩ | ⟨_, rfl, _⟩ | ⟨_, rfl, _⟩ <;> exact ⟨_, rfl⟩
theorem escL2_le (t : List Nat) (p : Nat) (e : Bool) (c : Nat) : le (escL t p e) (escL2 t p e c) := le_cons (le_cons (le_cons le_nil id) id) id

theorem seg_escLoop {A : Around} (ro : RoomG A n) {L a : Addr} {cd : Value} (hk : EnvOk (escEnv L a cd)) {t : List Nat} {tk : Tok} {N : Addr} (hL : L ∉ [N + 1, N]) {xs : List It} (hFb : ∀ b ∈ [L, N + 1, N], W.hB.get? b = none)
    {k : Result → Sem Fin} {lv : List Value} {p : Pos} {kp : List Value}
    (hend : ∀ q e s₀ s B V, Fr2 W [L, N + 1, N] s₀ s B → St W B (escEnv L a cd) (escL t q e) s.heap V →
      (esc e q t.length []).length ≤ xs.length → xs.drop (xs.length - (esc e q t.length []).length) = escI (esc e q t.length []) →
      Seg (model W.prog W.w) A (Rp [L, N + 1, N]) (Yp W xs [L, N + 1, N]) (esc e q t.length []).length s₀ (.forLoop (forT escFor) (.ref (N + 1)) (forB escFor) [] (escEnv L a cd)) (.pure (.again (.block [] (escEnv L a cd)))) [.ret k none false lv (.func (bodyOf PW kEsc) (escEnv L a cd)) p kp] s) :
    ∀ (rest : List Nat) (i q : Nat) (e : Bool) (s₀ s : Shared) (B : Bm) (V : Str → Option Value), t.drop i = rest → i ≤ t.length →
      (esc e q i rest).length ≤ xs.length → xs.drop (xs.length - (esc e q i rest).length) = escI (esc e q i rest) →
      Fr2 W [L, N + 1, N] s₀ s B → (∀ b ∈ [N + 1, N], B b = none) → St W B (escEnv L a cd) (escL t q e) s.heap V → EnS t tk N i s.heap →
      Seg (model W.prog W.w) A (Rp [L, N + 1, N]) (Yp W xs [L, N + 1, N]) (esc e q i rest).length s₀ (.forLoop (forT escFor) (.ref (N + 1)) (forB escFor) [] (escEnv L a cd)) ((model W.prog W.w).den (.forLoop (forT escFor) (.ref (N + 1)) (forB escFor) [] (escEnv L a cd))) [.ret k none false lv (.func (bodyOf PW kEsc) (escEnv L a cd)) p kp] s := by
  have hcl : (escEnv L a cd).cells = [] := rfl
  intro rest
  induction rest with
  | nil =>
    intro i q e s₀ s B V hd hi hle hx fr hoff st en
    have hi' : i = t.length := by
      have : (t.drop i).length = 0 := by rw [hd]; rfl
      rw [List.length_drop] at this; omega
    subst hi'
    refine seg_forLoop ((turns_enumS (W := W) (n := n) (target := forT escFor) ⟨_, _, _, rfl⟩ t tk N s.gens).done _ s _ _ ro.loop (by rw [enumS_len]; exact ⟨en, .refl _⟩) fun s2 hu hf hkb => ?_)
    exact hend q e s₀ s2 B V (fr.next (hu.same hf)) (st.stepG (keptD_of en hkb) hoff hL hcl) hle hx
  | cons c r ih =>
    intro i q e s₀ s B V hd hi hle hx fr hoff st en
    have hlt : i < t.length := by
      have : (t.drop i).length = r.length + 1 := by rw [hd]; rfl
      rw [List.length_drop] at this; omega
    have hc : t.getD i 0 = c := by
      have : t[i]? = some c := by
        have := congrArg (fun l => l[0]?) hd
        simpa using this
      simp [List.getD, this]
    have hd1 : t.drop (i + 1) = r := by rw [← List.drop_drop (i := 1) (j := i), hd]; rfl
    have hxi : (enumS t)[i]? = some (.tup [.int (i : Nat), .str (S [c])]) := by
      simp only [enumS, List.getElem?_map, List.getElem?_range hlt, Option.map_some, hc]
    refine seg_forLoop (wpAny_mono ((turns_enumS (W := W) (n := n) (target := forT escFor) ⟨_, _, _, rfl⟩ t tk N s.gens).item _ i _ s ?Q noF ro.loop hxi ⟨en, .refl _⟩ ?hA) (fun rr s1 h => ?hB) (fun _ _ e => e))
    case hB =>
      cases rr with
      | none => exact h.elim
      | some v => exact h
    intro v s2 hu hv hS hkb
    have st2 := st.stepG (keptD_of en hkb) hoff hL hcl
    have fr2 := fr.next (hu.same hS.2)
    have en2 := hS.1
    refine wp_target (ro.loop).hd (.tup2 (x := ("pos" : Str)) (y := ("ch" : Str)) (a := .int (i : Nat)) (b := .str (S [c]))) (by intro b hb; simp only [List.mem_cons, List.not_mem_nil, or_false] at hb; rcases hb with rfl | rfl <;> exact .inl rfl) hk (st2.overG hL hcl) hv fun h' t' V3 st3' => ?_
    have en3 : EnS t tk N (i + 1) h' := en2.atN st3'.protN
    have st3 : St W B (escEnv L a cd) (escL2 t i e c) h' V3 := st3'.unoverG st2.base st2.prot
    clear st3'
    have fr3 : Fr2 W [L, N + 1, N] s₀ { s2 with heap := h', toks := t' } B := fr2.next (.put s2 h' t')
    have hag : ∀ {e' : Bool} {q' : Nat} {s₀ s : Shared} {B : Bm} {V : Str → Option Value}, (esc e' q' (i + 1) r).length ≤ xs.length → xs.drop (xs.length - (esc e' q' (i + 1) r).length) = escI (esc e' q' (i + 1) r) → Fr2 W [L, N + 1, N] s₀ s B → (∀ b ∈ [N + 1, N], B b = none) → St W B (escEnv L a cd) (escL2 t q' e' c) s.heap V → EnS t tk N (i + 1) s.heap →
      Seg (model W.prog W.w) A (Rp [L, N + 1, N]) (Yp W xs [L, N + 1, N]) (esc e' q' (i + 1) r).length s₀ (.forLoop (forT escFor) (.ref (N + 1)) (forB escFor) [] (escEnv L a cd)) (.pure (.again (.forLoop (forT escFor) (.ref (N + 1)) (forB escFor) [] (escEnv L a cd)))) [.ret k none false lv (.func (bodyOf PW kEsc) (escEnv L a cd)) p kp] s :=
      fun {e' q' s₀ s B V} h1 h2 h3 h4 h5 h6 => seg_again rfl (ih (i + 1) q' e' s₀ s B _ hd1 hlt h1 h2 h3 h4 (h5.mono (escL2_le t q' e' c)) h6)
    have hpop : ∀ {o : Nat × List Nat} {tl : List (Nat × List Nat)}, (o :: tl).length ≤ xs.length → xs.drop (xs.length - (o :: tl).length) = escI (o :: tl) → xs[xs.length - 1 - tl.length]? = some (.tup [.int (o.1 : Nat), .str (S o.2)]) ∧ tl.length ≤ xs.length ∧ xs.drop (xs.length - tl.length) = escI tl := fun {o tl} h1 h2 => by
      simp only [List.length_cons] at h1 h2
      have e1 : xs.length - (tl.length + 1) = xs.length - 1 - tl.length := by omega
      have e2 : xs.length - tl.length = xs.length - 1 - tl.length + 1 := by omega
      rw [e1] at h2
      refine ⟨?_, by omega, ?_⟩
      · have := congrArg (fun l => l[0]?) h2
        simpa [escI] using this
      · rw [e2, ← List.drop_drop, h2]; rfl
    have roL : Room (A.over (.forLoop (forT escFor) (.ref (N + 1)) (forB escFor) [] (escEnv L a cd)) [.ret k none false lv (.func (bodyOf PW kEsc) (escEnv L a cd)) p kp]) n := ro.loop
    cases e with
    | true =>
      obtain ⟨hx1, hle1, hx2⟩ := hpop (o := (i, [92, c])) (tl := esc false i (i + 1) r) hle hx
      show Seg _ _ _ _ ((esc false i (i + 1) r).length + 1) _ _ _ _ _
      refine seg_execs_cons (seg_If ((EvT.boolv (Ev.nameI hk rfl)).run _ _ _ _ roL st3.ga st3.sat fun s4 e4 => ?_))
      rw [if_pos rfl]
      have st4 := st3.ext e4.kept
      refine seg_execs_cons (seg_yieldI (x := .tup [.int (i : Nat), .str (S [92, c])]) (Ev.tupD (EvL.cons (Ev.nameI hk rfl) (EvL.cons (Ev.bin Ev.cstr (Ev.nameI hk rfl) (Op2.addS (by show 1 + 1 ≤ sizeLine; decide))) EvL.nil)) (by show 2 ≤ sizeLine; decide)) roL st4 (fr3.next e4.same) hx1 (escL2_imm t i true c) hcl (.head _) hFb (fun s5 s6 e5 sm6 k6 st6 => ?_) rfl rfl rfl)
      have en6 : EnS t tk N (i + 1) s6.heap := ((en3.at fun b _ o e => e4.kept b o e).at fun b _ o e => e5.kept b o e).atN (k6.sub fun b hb => List.mem_cons_of_mem _ hb)
      refine seg_execs_cons (seg_trE en6 hL hcl (Tr.assign hk Ev.cbool (.inl rfl)) roL st6 fun s7 V7 sm7 st7 en7 => ?_)
      exact seg_execs_nil (seg_execs_nil (hag hle1 hx2 (Fr2.new.next sm7) (offB_en en6) st7 en7))
    | false =>
      refine seg_execs_cons (seg_If ((EvT.boolv (Ev.nameI hk rfl)).run _ _ _ _ roL st3.ga st3.sat fun s4 e4 => ?_))
      rw [if_neg (by decide)]
      have st4 := st3.ext e4.kept
      refine seg_execs_cons (seg_If ((EvT.cmp (Ev.nameI hk rfl) Ev.cstr Op2.eqS).run _ _ _ _ roL st4.ga st4.sat fun s5 e5 => ?_))
      have st5 := st4.ext e5.kept
      have en5 : EnS t tk N (i + 1) s5.heap := (en3.at fun b _ o e => e4.kept b o e).at fun b _ o e => e5.kept b o e
      have hcc : ((S [c] : Str) == ("\\" : Str)) = (c == 92) := by
        have : ("\\" : Str) = S [92] := by decide +kernel
        rw [this, S_beq]
        by_cases q : c = 92
        · subst q; decide
        · have h1 : (c == 92) = false := by simpa using q
          rw [h1]; simpa using q
      rw [hcc]
      by_cases q92 : c = 92
      · have e0 : esc false q i (c :: r) = esc true i (i + 1) r := by simp [esc, q92]
        rw [e0] at hle hx ⊢
        rw [if_pos (by simpa using q92)]
        refine seg_execs_cons (seg_trE en5 hL hcl (Tr.assign hk Ev.cbool (.inl rfl)) roL st5 fun s6 V6 sm6 st6 en6 => ?_)
        exact seg_execs_nil (seg_execs_nil (seg_execs_nil (hag hle hx (((fr3.next e4.same).next e5.same).next sm6) hoff st6 en6)))
      · have e0 : esc false q i (c :: r) = (i, [c]) :: esc false i (i + 1) r := by simp [esc, q92]
        rw [e0] at hle hx ⊢
        rw [if_neg (by simpa using q92)]
        obtain ⟨hx1, hle1, hx2⟩ := hpop (o := (i, [c])) (tl := esc false i (i + 1) r) hle hx
        show Seg _ _ _ _ ((esc false i (i + 1) r).length + 1) _ _ _ _ _
        refine seg_execs_cons (seg_yieldI (x := .tup [.int (i : Nat), .str (S [c])]) (Ev.tupD (EvL.cons (Ev.nameI hk rfl) (EvL.cons (Ev.nameI hk rfl) EvL.nil)) (by show 2 ≤ sizeLine; decide)) roL st5 ((fr3.next e4.same).next e5.same) hx1 (escL2_imm t i false c) hcl (.head _) hFb (fun s6 s7 e6 sm7 k7 st7 => ?_) rfl rfl rfl)
        have en7 : EnS t tk N (i + 1) s7.heap := (en5.at fun b _ o e => e6.kept b o e).atN (k7.sub fun b hb => List.mem_cons_of_mem _ hb)
        exact seg_execs_nil (seg_execs_nil (seg_execs_nil (hag hle1 hx2 Fr2.new (offB_en en7) st7 en7)))
end Mine
end

/-! G7 -/
section
open PySem PySem.Calls PyProof.Rows PySem.W
set_option maxRecDepth 100000
namespace Mine
variable {W : Wd} {n : Nat}

theorem seg_esc {A : Around} (ro : RoomG A n) (hen : GN W "enumerate" (.type "enumerate")) {L a : Addr} {cd : Value} (hk : EnvOk (escEnv L a cd)) {t : List Nat} {s : Shared} {V : Str → Option Value}
    (st : St W (offB [L] s.heap) (escEnv L a cd) (ent ["addr"] [.str (S t)]) s.heap V) :
    ∃ F1, (∀ b ∈ F1, b ∈ [L] ∨ s.heap.get? b = none) ∧ Seg (model W.prog W.w) A (Rp F1) (Yp W (escI (esc false 0 0 t)) F1) (escI (esc false 0 0 t)).length s (.func (bodyOf PW kEsc) (escEnv L a cd)) ((model W.prog W.w).den (.func (bodyOf PW kEsc) (escEnv L a cd))) [] s := by
  have hcl : (escEnv L a cd).cells = [] := rfl
  have hLs : L < s.heap.objs.size := by
    obtain ⟨m, o, _, _, e, _⟩ := st.ns
    exact Heap.lt_size e
  have hLn : L ∉ [s.heap.objs.size + 1, s.heap.objs.size] := by
    simp only [List.mem_cons, List.not_mem_nil, or_false, not_or]
    exact ⟨Nat.ne_of_lt (Nat.lt_succ_of_lt hLs), Nat.ne_of_lt hLs⟩
  have hfresh : ∀ b ∈ [s.heap.objs.size + 1, s.heap.objs.size], s.heap.get? b = none := fun b hb => by
    cases q : s.heap.get? b with
    | none => rfl
    | some o =>
      have := Heap.lt_size q
      simp only [List.mem_cons, List.not_mem_nil, or_false] at hb
      rcases hb with rfl | rfl
      · exact absurd this (Nat.not_lt.mpr (Nat.le_succ _))
      · exact absurd this (Nat.lt_irrefl _)
  refine ⟨[L, s.heap.objs.size + 1, s.heap.objs.size], fun b hb => ?_, ?_⟩
  · cases hb with
    | head => exact .inl (.head _)
    | tail _ hb => exact .inr (hfresh b hb)
  have hFb : ∀ b ∈ [L, s.heap.objs.size + 1, s.heap.objs.size], W.hB.get? b = none := fun b hb => by
    cases e : W.hB.get? b with
    | none => rfl
    | some o =>
      cases hb with
      | head => have h1 := st.base _ _ e; have h2 := st.offL; exact absurd (h2.symm.trans h1) (by simp)
      | tail _ hb => have h1 := st.prot _ _ (st.base _ _ e); rw [hfresh b hb] at h1; cases h1
  have hoff : ∀ b ∈ [s.heap.objs.size + 1, s.heap.objs.size], offB [L] s.heap b = none := fun b hb => by
    rcases offB_or [L] s.heap b with q | q
    · exact q
    · rw [q]; exact hfresh b hb
  have hlen : (escI (esc false 0 0 t)).length = (esc false 0 0 t).length := by simp [escI]
  refine seg_func (seg_execs_cons (seg_const (a := .int 0) st hk rfl (fun Q E h => wpAny_Constant_int (h _ _ rfl)) fun h1 t1 V1 z1 st1 => ?_))
  refine seg_execs_cons (seg_const (a := .bool false) (s := { s with heap := h1, toks := t1 }) st1 hk rfl (fun Q E h => wpAny_pure (h _ _ rfl)) fun h2 t2 V2 z2 st2 => ?_)
  have hz : h2.objs.size = s.heap.objs.size := z2.trans z1
  refine seg_execs_cons (seg_For ?_)
  obtain ⟨v, hv, r⟩ := st2.at (y := "addr") rfl
  obtain ⟨tk, rfl⟩ := pv_str r
  refine wpAny_Call_NameR (load_global hk st2.ga rfl hen ?_ (by decide))
  rw [show starEach [_] (escEnv L a cd) = [(false, eval _ (escEnv L a cd))] from rfl]
  refine PySem.callWith_type rfl (evalArgs_plain (spliced_cons (wpAny_Name (load_bound hk (st2.bnd _ _ hv) (spliced_nil ?_) (by decide)) (by decide))))
  show wpAny _ _ (call (.type "enumerate") [.str (S t) tk]) _ _ _
  refine call_enumerate_str fun h3 hE hI hsz up => wpAny_pyIter_enum hE fun p => ?_
  have hN : ({ s with heap := h2, toks := t2 } : Shared).heap.objs.size = s.heap.objs.size := hz
  rw [hN] at hE hI ⊢
  have st3 := st2.ext (h' := h3) up
  rw [hlen]
  refine seg_escLoop (W := W) (n := n) ro hk hLn hFb (fun q e s₀ s' B V' fr st' hle hx => ?_) t 0 0 false s _ (offB [L] s.heap) V2 rfl (Nat.zero_le _) ?_ ?_ ⟨⟨_, _, _, rfl, .refl _⟩, fun a o e ha => ?_⟩ hoff st3 ⟨⟨_, hE⟩, hI⟩
  · refine seg_again rfl ?_
    show Seg _ _ _ _ _ _ _ (((execs [] (escEnv L a cd)).onRaise _) >>= _) _ _
    refine seg_leaf (.ok .next) ?_
    show Seg _ _ _ _ _ _ _ ((execs _ (escEnv L a cd)).wrap _ _ _ _) _ _
    refine seg_execs_cons (seg_If ((EvT.boolv (Ev.nameI hk rfl)).run _ _ _ _ (ro.func _ _) st'.ga st'.sat fun s4 e4 => ?_))
    have st4 := st'.ext e4.kept
    have him : ∀ y d b, (escL t q e).lookup y = some (d, b) → ∃ a, d = .it (.im a) := fun y d b h => by
      have hm := mem_of_lookup h
      simp only [escL, List.mem_cons, List.not_mem_nil, or_false, Prod.mk.injEq] at hm
      rcases hm with ⟨_, rfl, _⟩ | ⟨_, rfl, _⟩ | ⟨_, rfl, _⟩ <;> exact ⟨_, rfl⟩
    cases e with
    | true =>
      rw [if_pos rfl]
      have hx0 : (escI (esc false 0 0 t))[(escI (esc false 0 0 t)).length - 1 - 0]? = some (.tup [.int (q : Nat), .str (S [92])]) := by
        have h0 := congrArg (fun l => l[0]?) hx
        simp only [List.getElem?_drop] at h0
        exact h0
      show Seg _ _ _ _ (0 + 1) _ _ _ _ _
      refine seg_execs_cons (seg_yieldI (x := .tup [.int (q : Nat), .str (S [92])]) (Ev.tupD (EvL.cons (Ev.nameI hk rfl) (EvL.cons Ev.cstr EvL.nil)) (by show 2 ≤ sizeLine; decide)) (ro.func _ _) st4 (fr.next e4.same) hx0 him hcl (.head _) hFb (fun s5 s6 e5 sm6 k6 st6 => ?_) rfl rfl rfl)
      exact seg_execs_nil (seg_execs_nil (seg_end (.ok (.ret .none)) ⟨rfl, rfl, .refl _, fun _ _ e _ => e⟩))
    | false =>
      rw [if_neg (by decide)]
      exact seg_execs_nil (seg_execs_nil (seg_end (.ok (.ret .none)) ⟨rfl, rfl, fr.same.trans e4.same, (fr.next e4.same).kept st4⟩))
  · rw [hlen]; exact Nat.le_refl _
  · rw [hlen, Nat.sub_self]; rfl
  · exact offB_get e fun hb => ha (by simp only [List.mem_singleton] at hb; subst hb; exact .head _)

/-- for .. in _iter_escaped_chars(addr) -/
theorem srcG_esc (D : Defs PW W) (hen : GN W "enumerate" (.type "enumerate")) {env : Env} {σ : Sto} {t : List Nat} {p pos : Pos} {e : Expr} (hk : EnvOk env) (hx : env.kindOf ("_iter_escaped_chars" : Str) = some .globalImplicit)
    (h1 : Ev W n false env σ (eval e env) (.str (S t))) (he : starEach [e] env = (false, eval e env) :: starEach [] env := by rfl) :
    SrcG W (n + 1) env σ (.Call (.Name "_iter_escaped_chars" p) [e] [] pos) (escI (esc false 0 0 t)) := by
  obtain ⟨f, hf, F⟩ := D.fn kEsc _ _ _ _ _ _ rfl
  have hall : ∀ x ∈ (scopeOf PW kEsc).names, x.2 ≠ NameKind.cell := by decide
  exact SrcG.fn (names := ["addr"]) (ds := [.str (S t)]) hk hx hf F (fun pm cd doc vs h => by obtain ⟨v, rfl⟩ := eq_one h; rfl) (by decide) (by decide) (fun k => rfl) (fun y h => absurd rfl (hall _ (mem_of_lookup h))) rfl
    (fun d hd => by simp only [List.mem_singleton] at hd; subst hd; exact ⟨_, rfl⟩) (EvL.cons h1 EvL.nil he) (fun L a cd hk A s V ro _ st => seg_esc ro hen hk st) he
end Mine
end

/-! G8 -/
section
open PySem PySem.Calls PyProof.Rows PySem.W
set_option maxRecDepth 100000
namespace Mine
variable {W : Wd} {n : Nat} {b1 : Int → Bool} {b3 : Int → Option Im} {ett : Str → Option Im}

def sqLoop (t : List Nat) : List (Nat × List Nat) → Nat → Option Nat → List (List Nat) → Nat × List (List Nat)
  | [], st, _, acc => (st, acc)
  | (p, ch) :: r, st, op, acc => if ch = [34] then (match op with | none => sqLoop t r st (some p) acc | some o => sqLoop t r (p + 1) none (if st = o then acc else acc ++ [(t.take o).drop st])) else sqLoop t r st op acc
def sqEnd (t : List Nat) (r : Nat × List (List Nat)) : List (List Nat) := if r.1 < t.length then r.2 ++ [t.drop r.1] else r.2
def sq (t : List Nat) : List Nat := if 34 ∈ t then (sqEnd t (sqLoop t (esc false 0 0 t) 0 none [])).flatten else t

def posOk : Nat → Nat → List (Nat × List Nat) → Prop
  | _, _, [] => True
  | lo, hi, (p, _) :: r => lo ≤ p ∧ p < hi ∧ posOk (p + 1) hi r
theorem esc_pos : ∀ (r : List Nat) (e : Bool) (q i : Nat), (e = true → q + 1 = i) → posOk (if e then q else i) (i + r.length) (esc e q i r)
  | [], true, q, i, h => ⟨Nat.le_refl _, by have := h rfl; simp; omega, trivial⟩
  | [], false, q, i, h => trivial
  | c :: r, true, q, i, h => by
    have := h rfl
    have ih := esc_pos r false i (i + 1) (fun h => by cases h)
    refine ⟨by simp; omega, by simp, ?_⟩
    simp only [List.length_cons] at ih ⊢
    rw [show i + (r.length + 1) = i + 1 + r.length by omega]
    exact ih
  | c :: r, false, q, i, h => by
    unfold esc
    by_cases hc : c = 92
    · rw [if_pos hc]
      have ih := esc_pos r true i (i + 1) (fun _ => rfl)
      rw [show i + (c :: r).length = i + 1 + r.length by simp; omega]
      exact ih
    · rw [if_neg hc]
      have ih := esc_pos r false i (i + 1) (fun h => by cases h)
      refine ⟨Nat.le_refl _, by simp, ?_⟩
      rw [show i + (c :: r).length = i + 1 + r.length by simp; omega]
      exact ih

theorem contains_34 (t : List Nat) : Txt.contains (S t) (S [34]) = decide (34 ∈ t) := by
  rw [contains_S]
  unfold fndL
  rw [Bool.eq_iff_iff, List.find?_isSome]
  simp only [List.mem_range'_1, Bool.and_eq_true, decide_eq_true_eq, List.length_singleton, at?, beq_iff_eq]
  constructor
  · rintro ⟨i, _, h1, h2⟩
    have : 34 ∈ (t.drop i).take 1 := by rw [h2]; simp
    exact List.mem_of_mem_drop (List.mem_of_mem_take this)
  · intro h
    obtain ⟨i, hi, e⟩ := List.getElem_of_mem h
    refine ⟨i, by omega, by omega, ?_⟩
    rw [List.drop_eq_getElem_cons hi, e]; rfl

abbrev qEnv (L a : Addr) (cd : Value) : Env := envOfC "_strip_quoted_realnames" (scopeOf PW kStrip) L a cd
def opI : Option Nat → PV | none => .none | some o => .int (o : Nat)
def accI (acc : List (List Nat)) : List It := acc.map fun p => .str (S p)
abbrev qSt (t : List Nat) (st : Nat) (op : Option Nat) (acc : List (List Nat)) : Sl := [("addr", .str (S t), false), ("start", .int (st : Nat), true), ("open_pos", opI op, true), ("result", .list (accI acc), true)]
abbrev qSt1 (t : List Nat) (st : Nat) (op : Option Nat) (acc : List (List Nat)) (p : Nat) : Sl := [("addr", .str (S t), false), ("start", .int (st : Nat), true), ("open_pos", opI op, true), ("result", .list (accI acc), true), ("pos", .int (p : Nat), false)]
abbrev qSt2 (t : List Nat) (st : Nat) (op : Option Nat) (acc : List (List Nat)) (p : Nat) (ch : List Nat) : Sl := [("addr", .str (S t), false), ("start", .int (st : Nat), true), ("open_pos", opI op, true), ("result", .list (accI acc), true), ("pos", .int (p : Nat), false), ("ch", .str (S ch), false)]
abbrev qEnd (t : List Nat) (r : Nat × List (List Nat)) : Sl := [("addr", .str (S t), false), ("start", .int (r.1 : Nat), true), ("result", .list (accI r.2), true)]

theorem sqLoop_len (t : List Nat) : ∀ (es : List (Nat × List Nat)) (st : Nat) (op : Option Nat) (acc : List (List Nat)) (lo : Nat), posOk lo t.length es → lo ≤ t.length → acc.flatten.length ≤ st → acc.length ≤ st → st ≤ lo → (∀ o, op = some o → st ≤ o ∧ o < lo) →
    (sqLoop t es st op acc).2.flatten.length ≤ (sqLoop t es st op acc).1 ∧ (sqLoop t es st op acc).2.length ≤ (sqLoop t es st op acc).1 ∧ (sqLoop t es st op acc).1 ≤ t.length
  | [], st, op, acc, lo, _, h1, h2, h3, h4, _ => ⟨h2, h3, Nat.le_trans h4 h1⟩
  | (p, ch) :: r, st, op, acc, lo, ⟨k1, k2, k3⟩, h1, h2, h3, h4, h5 => by
    unfold sqLoop
    by_cases hc : ch = [34]
    · rw [if_pos hc]
      cases op with
      | none => exact sqLoop_len t r st (some p) acc (p + 1) k3 k2 h2 h3 (by omega) (fun o e => by cases e; omega)
      | some o =>
        obtain ⟨h6, h7⟩ := h5 o rfl
        refine sqLoop_len t r (p + 1) none _ (p + 1) k3 k2 ?_ ?_ (Nat.le_refl _) (fun o e => by cases e)
        · split
          · omega
          · simp only [List.flatten_append, List.flatten_cons, List.flatten_nil, List.append_nil, List.length_append, List.length_drop, List.length_take]; omega
        · split
          · omega
          · simp only [List.length_append, List.length_singleton]; omega
    · rw [if_neg hc]
      exact sqLoop_len t r st op acc (p + 1) k3 k2 h2 h3 (by omega) (fun o e => by have := h5 o e; omega)
theorem sq_len (t : List Nat) : (sq t).length ≤ t.length := by
  unfold sq
  split
  · have h := sqLoop_len t (esc false 0 0 t) 0 none [] 0 (by have := esc_pos t false 0 0 (fun h => by cases h); simpa using this) (Nat.zero_le _) (by simp) (by simp) (Nat.le_refl _) (fun o e => by cases e)
    unfold sqEnd
    split
    · simp only [List.flatten_append, List.flatten_cons, List.flatten_nil, List.append_nil, List.length_append, List.length_drop]; omega
    · omega
  · exact Nat.le_refl _

theorem le_skip {r r' : Sl} {z : Str} {d : PV} {b : Bool} (h : le r' r) (hz : r'.lookup z = none) : le r' ((z, d, b) :: r) := fun y d' b' e => by
  simp only [List.lookup_cons]
  by_cases q : y = z
  · subst q; rw [hz] at e; cases e
  · have : (y == z) = false := by simpa using q
    rw [this]; exact h y d' b' e
theorem q_loop (T : TopT W b1 b3 ett) {L a : Addr} {cd : Value} (hk : EnvOk (qEnv L a cd)) {t : List Nat} (ht : t.length ≤ 2 ^ 18) :
    Tr W (n + 1) (qEnv L a cd) (qSt t 0 none []) (exec (((bodyOf PW kStrip)[4]?).getD default) (qEnv L a cd)) (.next (qEnd t (sqLoop t (esc false 0 0 t) 0 none []))) := by
  refine Tr.forG (xs := escI (esc false 0 0 t)) (P := fun rest l o => ∃ es st op acc lo, rest = escI es ∧ posOk lo t.length es ∧ lo ≤ t.length ∧ acc.length ≤ st ∧ st ≤ lo ∧ (∀ o, op = some o → st ≤ o ∧ o < lo) ∧ le (qSt t st op acc) l ∧ o = .next (qEnd t (sqLoop t es st op acc)))
    hk rfl ⟨_, _, _, rfl⟩ (srcG_esc T.defs T.enumerate hk rfl (Ev.nameI hk rfl)) ⟨_, 0, none, [], 0, rfl, by have := esc_pos t false 0 0 (fun h => by cases h); simpa using this, Nat.zero_le _, by simp, Nat.le_refl _, fun o e => (by cases e), le.refl _, rfl⟩ ?_ ?_
  · rintro l' o' ⟨es, st, op, acc, lo, h1, _, _, _, _, _, hle, rfl⟩
    cases es with
    | nil => exact ⟨_, rfl, le.trans (le_cons (le_cons (le_skip (le_cons le_nil id) rfl) id) id) hle⟩
    | cons => simp [escI] at h1
  · rintro y rest l' o' ⟨es, st, op, acc, lo, h1, h2, h3, h4, h5, h6, hle, rfl⟩
    cases es with
    | nil => simp [escI] at h1
    | cons x es =>
      obtain ⟨p, ch⟩ := x
      simp only [escI, List.map_cons, List.cons.injEq] at h1
      obtain ⟨rfl, rfl⟩ := h1
      obtain ⟨k1, k2, k3⟩ := h2
      have hcc : ((S ch : Str) == ("\"" : Str)) = (ch == [34]) := by
        have : ("\"" : Str) = S [34] := by decide +kernel
        rw [this, S_beq]
      have hpl1 : le (qSt1 t st op acc p) (put "pos" (.int (p : Nat)) l') := le_put (a := qSt t st op acc) (z := "pos") rfl hle
      have hpl : le (qSt2 t st op acc p ch) (puts [("pos", .int (p : Nat)), ("ch", .str (S ch))] l') := le_put (a := qSt1 t st op acc p) (z := "ch") rfl hpl1
      have hfin : ∀ {u op2 acc2}, (le (qSt t u op2 acc2) (qSt2 t u op2 acc2 p ch)) := fun {u op2 acc2} => le_cons (le_cons (le_cons (le_cons le_nil id) id) id) id
      refine ⟨_, .tup2 (x := ("pos" : Str)) (y := ("ch" : Str)) (a := .int (p : Nat)) (b := .str (S ch)), by intro b hb; simp only [List.mem_cons, List.not_mem_nil, or_false] at hb; rcases hb with rfl | rfl <;> exact .inl rfl, ?_⟩
      by_cases hc : ch = [34]
      · have hct : (S ch == ("\"" : Str)) = true := by rw [hcc]; simpa using hc
        cases op with
        | none =>
          refine ⟨qSt t st (some p) acc, Tr.pre (Tr.cons (Tr.ite (b := true) (EvT.to (EvT.cmp (Ev.nameI hk rfl) Ev.cstr Op2.eqS) hct) (fun _ => ?_) (fun h => by cases h)) Tr.nil) hpl, _, le.refl _, es, st, some p, acc, p + 1, rfl, k3, k2, h4, by omega, fun o e => (by cases e; omega), le.refl _, ?_⟩
          · refine Tr.cons (Tr.ite (b := true) (EvT.cmp (Ev.nameI hk rfl) Ev.cnone Op2.isN) (fun _ => ?_) (fun h => by cases h)) Tr.nil
            exact Tr.cons (Tr.post (Tr.assign hk (Ev.nameI hk rfl) (.inl rfl)) (hfin (u := st) (op2 := some p) (acc2 := acc))) Tr.nil
          · rw [show sqLoop t ((p, ch) :: es) st none acc = sqLoop t es st (some p) acc by rw [sqLoop, if_pos hc]]
        | some o =>
          obtain ⟨h7, h8⟩ := h6 o rfl
          refine ⟨qSt t (p + 1) none (if st = o then acc else acc ++ [(t.take o).drop st]), Tr.pre (Tr.cons (Tr.ite (b := true) (EvT.to (EvT.cmp (Ev.nameI hk rfl) Ev.cstr Op2.eqS) hct) (fun _ => ?_) (fun h => by cases h)) Tr.nil) hpl, _, le.refl _, es, p + 1, none, _, p + 1, rfl, k3, k2, ?_, Nat.le_refl _, fun o e => (by cases e), le.refl _, ?_⟩
          · refine Tr.cons (Tr.ite (b := false) (EvT.cmp (Ev.nameI hk rfl) Ev.cnone Op2.isN) (fun h => by cases h) (fun _ => ?_)) Tr.nil
            have h1 : Tr W (n + 1) (qEnv L a cd) (qSt2 t st (some o) acc p ch) (exec (((match (match (forB (((bodyOf PW kStrip)[4]?).getD default))[0]? with | some (Stmt.If _ b _ _) => b | _ => [])[0]? with | some (Stmt.If _ _ b _) => b | _ => [])[0]?).getD default) (qEnv L a cd)) (.next (qSt2 t st (some o) (if st = o then acc else acc ++ [(t.take o).drop st]) p ch)) := by
              by_cases hso : st = o
              · rw [if_pos hso]
                refine Tr.ite (b := false) (EvT.to (EvT.cmp (Ev.nameI hk rfl) (Ev.nameI hk rfl) Op2.neI) ?_) (fun h => by cases h) (fun _ => Tr.nil)
                rw [hso]; simp
              · rw [if_neg hso]
                have ea : accI (acc ++ [(t.take o).drop st]) = accI acc ++ [.str (S ((t.take o).drop st))] := by simp [accI]
                have hal : (accI acc).length ≤ sizeLine := by simp only [accI, List.length_map, sizeLine]; omega
                refine Tr.ite (b := true) (EvT.to (EvT.cmp (Ev.nameI hk rfl) (Ev.nameI hk rfl) Op2.neI) ?_) (fun _ => Tr.cons (Tr.post (l2 := qSt2 t st (some o) (acc ++ [(t.take o).drop st]) p ch) (Tr.append hk rfl (Ev.to (d' := .str (S ((t.take o).drop st))) (Ev.sliceS (Ev.nameI hk rfl) (EvP.some (Ev.nameI hk rfl)) (EvP.some (Ev.nameI hk rfl)) EvP.none (by decide) (by rw [len_S, sizeLine]; omega)) (by rw [pkS_S, pk_pos])) hal) (by simp only [qSt2, ea]; exact le.refl _)) Tr.nil) (fun h => by cases h)
                simp; omega
            exact Tr.cons h1 (Tr.cons (Tr.assign hk (d := .int ((p + 1 : Nat) : Int)) (Ev.to (Ev.bin (Ev.nameI hk rfl) Ev.cint Op2.addI) (by rw [Int.natCast_add]; rfl)) (.inl rfl)) (Tr.cons (Tr.post (Tr.assign hk Ev.cnone (.inl rfl)) (hfin (u := p + 1) (op2 := none))) Tr.nil))
          · split
            · omega
            · rw [List.length_append, List.length_singleton]; omega
          · rw [show sqLoop t ((p, ch) :: es) st (some o) acc = sqLoop t es (p + 1) none (if st = o then acc else acc ++ [(t.take o).drop st]) by simp only [sqLoop, if_pos hc]]
      · have hct : (S ch == ("\"" : Str)) = false := by rw [hcc]; simpa using hc
        refine ⟨qSt t st op acc, Tr.pre (Tr.cons (Tr.ite (b := false) (EvT.to (EvT.cmp (Ev.nameI hk rfl) Ev.cstr Op2.eqS) hct) (fun h => by cases h) (fun _ => Tr.post Tr.nil hfin)) Tr.nil) hpl, _, le.refl _, es, st, op, acc, p + 1, rfl, k3, k2, h4, by omega, fun o e => (by have := h6 o e; omega), le.refl _, ?_⟩
        rw [show sqLoop t ((p, ch) :: es) st op acc = sqLoop t es st op acc from if_neg hc]
end Mine
end

/-! G9 -/
section
open PySem PySem.Calls PyProof.Rows PySem.W
set_option maxRecDepth 100000
namespace Mine
variable {W : Wd} {n : Nat} {b1 : Int → Bool} {b3 : Int → Option Im} {ett : Str → Option Im}

theorem sum_S (l : List (List Nat)) : ((l.map S).map fun y => y.length + ("" : Str).length).sum = l.flatten.length := by
  induction l with
  | nil => rfl
  | cons a l ih =>
    simp only [List.map_cons, List.sum_cons, List.flatten_cons, List.length_append, ih, len_S]
    have : ("" : Str).length = 0 := rfl
    omega

theorem c_strip (T : TopT W b1 b3 ett) {t : List Nat} (ht : t.length ≤ 2 ^ 18) : Cf W (n + 2) "_strip_quoted_realnames" [.str (S t)] (.str (S (sq t))) := by
  refine Cf.of T.defs (k := kStrip) rfl (names := ["addr"]) (fun pm cd doc vs h => ?_) (by decide) (by decide) rfl (fun L a cd hk => ?_)
  · obtain ⟨v, rfl⟩ := eq_one h
    rfl
  · have hq : Txt.contains (S t) ("\"" : Str) = decide (34 ∈ t) := by
      have : ("\"" : Str) = S [34] := by decide +kernel
      rw [this, contains_34]
    by_cases hm : 34 ∈ t
    · have hsq : sq t = (sqEnd t (sqLoop t (esc false 0 0 t) 0 none [])).flatten := by unfold sq; rw [if_pos hm]
      obtain ⟨l1, l2, l3⟩ := sqLoop_len t (esc false 0 0 t) 0 none [] 0 (by have := esc_pos t false 0 0 (fun h => by cases h); simpa using this) (Nat.zero_le _) (by simp) (by simp) (Nat.le_refl _) (fun o e => by cases e)
      refine Tr.cons (Tr.ite (b := false) (EvT.to (EvT.cmp Ev.cstr (Ev.nameI hk rfl) Op2.ninS) (by rw [hq]; simp [hm])) (fun h => by cases h) (fun _ => Tr.nil)) ?_
      refine Tr.cons (Tr.assign hk Ev.cint (.inl rfl)) (Tr.cons (Tr.assign hk Ev.cnone (.inl rfl)) (Tr.cons (Tr.assign hk (Ev.listD (ds := []) EvL.nil (by decide)) (.inl rfl)) ?_))
      refine Tr.cons (Tr.pre (q_loop T hk ht) (le_cons (le_cons (le_cons (le_cons le_nil id) id) id) id)) ?_
      rw [hsq]
      generalize sqLoop t (esc false 0 0 t) 0 none [] = r at l1 l2 l3 ⊢
      have hlen : OpC W (n + 1) (.builtin "len") [.str (S t)] (.int (t.length : Nat)) := by
        have := OpC.lenS (W := W) (n := n + 1) (x := S t) (by rw [len_S]; omega)
        rw [len_S] at this; exact this
      have hif : Tr W (n + 1) (qEnv L a cd) (qEnd t r) (exec (((bodyOf PW kStrip)[5]?).getD default) (qEnv L a cd)) (.next [("addr", .str (S t), false), ("start", .int (r.1 : Nat), true), ("result", .list (accI (sqEnd t r)), true)]) := by
        by_cases hlt : r.1 < t.length
        · have ea : accI (sqEnd t r) = accI r.2 ++ [.str (S (t.drop r.1))] := by unfold sqEnd; rw [if_pos hlt]; simp [accI]
          rw [ea]
          have hal : (accI r.2).length ≤ sizeLine := by simp only [accI, List.length_map, sizeLine]; omega
          refine Tr.ite (b := true) (EvT.to (EvT.cmp (Ev.nameI hk rfl) (Ev.callB hk rfl T.len (EvL.cons (Ev.nameI hk rfl) EvL.nil) hlen) Op2.ltI) (by simpa using hlt)) (fun _ => Tr.cons (Tr.append hk rfl (Ev.to (d' := .str (S (t.drop r.1))) (Ev.sliceS (Ev.nameI hk rfl) (EvP.some (Ev.nameI hk rfl)) EvP.none EvP.none (by decide) (by rw [len_S, sizeLine]; omega)) (by rw [pkS_S, pk_from])) hal) Tr.nil) (fun h => by cases h)
        · have ea : accI (sqEnd t r) = accI r.2 := by unfold sqEnd; rw [if_neg hlt]
          rw [ea]
          exact Tr.ite (b := false) (EvT.to (EvT.cmp (Ev.nameI hk rfl) (Ev.callB hk rfl T.len (EvL.cons (Ev.nameI hk rfl) EvL.nil) hlen) Op2.ltI) (by simpa using hlt)) (fun h => by cases h) (fun _ => Tr.nil)
      have hfl : (sqEnd t r).flatten.length ≤ t.length := by
        unfold sqEnd
        split
        · simp only [List.flatten_append, List.flatten_cons, List.flatten_nil, List.append_nil, List.length_append, List.length_drop]; omega
        · omega
      refine Tr.cons hif (Tr.stop (Tr.ret (Ev.to (Ev.meth Ev.cstr F.plainAttrs_str F.slot_str_join F.type_str_join str_typed (EvL.cons (Ev.to (d' := .list (((sqEnd t r).map S).map It.str)) (Ev.name hk rfl) (by simp [accI])) EvL.nil) (OpM.join (joinOk_of ?_))) (by rw [join_E]))))
      rw [sum_S, sizeLine]; omega
    · have hsq : sq t = t := by unfold sq; rw [if_neg hm]
      rw [hsq]
      exact Tr.stop (Tr.ite (b := true) (EvT.to (EvT.cmp Ev.cstr (Ev.nameI hk rfl) Op2.ninS) (by rw [hq]; simp [hm])) (fun _ => Tr.stop (Tr.ret (Ev.nameI hk rfl))) (fun h => by cases h))
theorem stripOk (T : TopT W b1 b3 ett) : StripOk W (n + 2) sq := fun t ht => ⟨sq_len t, c_strip T ht⟩
end Mine
end

/-! H0 -/
section
open PySem PySem.Calls PyProof.Rows PySem.W
set_option maxRecDepth 100000
namespace Mine

theorem step_done {den : Code → Sem PySem.Fin} {p : Program} {w : World} {s s' : Shared} {t : Thread} {f : Flow} (hc : t.calm = true) (h : step den p w s t = .halt (.done f) s') : through t = true := by
  have h1 : PySem.runN den p w 1 s t = .halted (.done f) s' := by
    simp only [PySem.runN, h]
  have h2 := runN_calm_runNI den p w h1 (fun k s₁ t₁ q => by
    match k with
    | 0 => simp only [PySem.runN] at q; cases q; exact hc
    | k + 1 => simp only [PySem.runN, h] at q; cases q)
  obtain ⟨s₁, h3, _⟩ := h2
  obtain ⟨cur, code, pos, stack⟩ := t
  cases hs : stepI den p w s ⟨cur, code, pos, stack⟩ with
  | go s₂ t₂ => simp only [runNI, hs] at h3; cases h3
  | halt o s₂ =>
    simp only [runNI, hs] at h3
    cases h3
    obtain ⟨rfl, rfl, _⟩ := step_halt_result (M := ⟨den, p, w⟩) (r := .ok f) hs
    rfl
theorem through_of {den : Code → Sem Fin} {p : Program} {w : World} : ∀ {n : Nat} {s s' : Shared} {t : Thread} {f : Flow}, PySem.runN den p w n s t = .halted (.done f) s' →
    (∀ k s₁ t₁, PySem.runN den p w k s t = .running s₁ t₁ → t₁.calm = true) → s.asleep → ∃ m t₁, schedN den p w m (.single s t) = .running (.single s' t₁) ∧ through t₁ = true
  | 0, _, _, _, _, h, _, _ => by cases h
  | n + 1, s, s', t, f, h, hc, hz => by
    have e := sstep_single den p w s t (hc 0 s t rfl) hz
    simp only [PySem.runN] at h
    cases hs : step den p w s t with
    | go s₂ t₂ =>
      rw [hs] at h e
      obtain ⟨m, t₁, h1, h2⟩ := through_of h (fun k s₁ t₁ q => hc (k + 1) s₁ t₁ (by simp only [PySem.runN, hs]; exact q)) (Shared.asleep_of_life (step_life den p w s s₂ t t₂ hs) hz)
      rcases e with e | e
      · exact ⟨m + 1, t₁, by simp only [schedN, e, Step.lift]; exact h1, h2⟩
      · cases e
    | halt o₂ s₂ =>
      rw [hs] at h
      cases h
      have e2 := step_halt_same den p w s s' t _ hs
      subst e2
      exact ⟨0, t, rfl, step_done (hc 0 _ t rfl) hs⟩

theorem top_thread {p : Program} {w : World} {t : Sem Fin} {s : Shared} {R : Shared → Prop} (hz : s.asleep)
    (h : wpAny (model p w) callerA t (fun fin s' => ∃ f, fin = .done f ∧ R s' ∧ s'.gens = #[]) (fun _ _ => False) s) :
    ∃ s', (∃ n t₁, schedN (denote table) p w n (.single s ⟨t, .builtin "claim.caller" {}, default, []⟩) = .running (.single s' t₁) ∧ through t₁ = true) ∧ s'.heap.life = s.heap.life ∧ R s' ∧ s'.gens = #[] := by
  have h' := wp_of_wpAny_done (R := fun r s' => ((∃ f, r = .ok f) ∧ R s' ∧ s'.gens = #[]) ∧ leftWithCleanup s'.gens = false) caller_in
    (wpAny_mono h (fun _ _ ⟨f, e, a, b⟩ => ⟨f, e, ⟨⟨f, rfl⟩, a, b⟩, by rw [b]; simp [leftWithCleanup]⟩) fun _ _ x => x.elim) default
  obtain ⟨n, r, s₁, hn, ⟨f, rfl⟩, hR, hg⟩ := (wp_iff_halts (M := model p w) (R := fun r s' => (∃ f, r = .ok f) ∧ R s' ∧ s'.gens = #[]) ..).mp h'
  obtain ⟨s₂, hr, hf, hc⟩ := runNI_real _ _ _ hn (outcomeOf_ends (.ok f))
  obtain rfl : s₂ = s₁ := Shared.eq_of_forget_eq hf hg
  obtain ⟨m, t₁, h1, h2⟩ := through_of hr hc hz
  exact ⟨s₂, ⟨m, t₁, h1, h2⟩, runN_life _ _ _ hr, hR, hg⟩
end Mine
end

/-! H1 -/
section
open PySem PySem.Calls PyProof.Rows PySem.W
set_option maxRecDepth 100000
namespace Mine

theorem globalOf_ns {h : Heap} {m : Str → Option Value} (hn : h.Ns mainGlobals m) (name : Str) : globalOf h name = m name := by
  obtain ⟨o, es, ep, ho, hd, _, hf⟩ := hn
  have ho' : h.get? mainNs = some o := ho
  simp only [globalOf, ho', hd]
  exact hf name
/-- what the boot left -/
structure Bt (h : Heap) (mg mb : Str → Option Value) : Prop where
  g : h.Ns mainGlobals mg
  b : h.Ns builtinsNs mb
  mb : ∀ x : Str, x ≠ "__name__" → mb x = bootBuiltins x
  st : h.Ns cStatics (fun _ => none)
  none : ∀ x, x ∉ bootMainNames → mg x = none
  bm : BMain h mg

theorem boot_left {p : Program} {w : World} (hmore : (opening p).main.more = []) (hb : (opening p).main.body = []) :
    (∃ s, AfterRun (opening p) w s) ∧ ∀ s, AfterRun (opening p) w s → s.gens = #[] ∧ ∃ mg mb, Bt s.heap mg mb := by
  have h : BodyOk (opening p) w (Ready [] [] [] []) := body_ok_of (by rw [hb]; rfl) (by rw [hb]; rfl) fun s mg c Pl F A Q X k => by
    rw [hb]; exact wpAny_execs_nil (k s.heap mg #[] s.toks X)
  obtain ⟨h1, h2⟩ := AfterImport.of_body h hmore
  refine ⟨h1, fun s hs => ?_⟩
  obtain ⟨N, mg, mb, g1, g2, g3, g4, g5, g6, g7, g8, g9, g10, g11, g12, g13⟩ := h2 s hs
  exact ⟨g5, mg, mb, g1, g2, g3, g9, fun x hx => g8 x (by simp) hx, g12⟩

abbrev Walks0 (p : Program) (w : World) (defs : List DefItem) (consts : List (Str × PyData)) (objs : List (Str × (Obj → Prop))) (names : List Str) : Prop :=
  ∀ (s : Shared) (mg mb : Str → Option Value) (c Pl F : Addr) (A : Around) (Q : Flow → Shared → Prop), Room A 20 → s.gens = #[] → Bt s.heap mg mb → Mod s.heap mg c Pl s.heap mg #[] [] [] [] [] →
    (∀ h' mg' ps' tk, Mod s.heap mg c Pl h' mg' ps' defs consts objs names → Q .next { s with heap := h', toks := tk }) →
    wpAny (model p w) A (execs p.main.body (mainEnv p c F)) Q (fun _ _ => False) s

/-- the top ran -/
structure TopEnd (p : Program) (s₁ : Shared) (defs : List DefItem) (consts : List (Str × PyData)) (objs : List (Str × (Obj → Prop))) (names : List Str) : Prop where
  gens : s₁.gens = #[]
  z : s₁.asleep
  ex : ∃ h₀ mg₀ c Pl mg mb ps, Mod h₀ mg₀ c Pl s₁.heap mg ps defs consts objs names ∧ s₁.heap.Ns builtinsNs mb ∧ (∀ x : Str, x ≠ "__name__" → mb x = bootBuiltins x) ∧ (∀ x, x ∉ bootMainNames → mg₀ x = none) ∧ s₁.heap.NoLimit ∧ mainGlobals < h₀.objs.size

theorem top_ran {p : Program} {w : World} {defs : List DefItem} {consts : List (Str × PyData)} {objs : List (Str × (Obj → Prop))} {names : List Str}
    (hb : behindTheImports p = p.main.body) (hann : hasAnns p.main.body = false) (hdoc : docOf p.main.body = none) (hnames : ∀ x ∈ names, x ∈ p.boundNames) (hlaid : ∀ x ∈ laidNames, x ∉ names)
    (walk : Walks0 p w defs consts objs names) {s₀ : Shared} {mg mb : Str → Option Value} (B : Bt s₀.heap mg mb) (hg : s₀.gens = #[]) (hz : s₀.asleep) :
    ∃ s₁, TopRan p w s₀ s₁ ∧ TopEnd p s₁ defs consts objs names := by
  have hbm : ∃ bm o, mg "__builtins__" = some (.ref bm) ∧ bm ≠ builtinsNs ∧ bm ≠ mainGlobals ∧ s₀.heap.get? bm = some o ∧ o.cls = .type "module" ∧ o.dict = some builtinsNs ∧ o.data = .plain := by
    obtain ⟨bm, ob, h1, h2, h3, h4, h5, h6⟩ := B.bm
    refine ⟨bm, ob, h1, h2, ?_, h3, h4, h5, h6⟩
    rintro rfl
    obtain ⟨o, es, ep, e, d, _⟩ := B.g
    rw [h3] at e; cases e
    rw [h6] at d; cases d
  have key : wpAny (model p w) callerA (topStub p).cur (fun fin s' => ∃ f, fin = PySem.Fin.done f ∧ ((∃ h₀ c Pl mg' ps, Mod h₀ mg c Pl s'.heap mg' ps defs consts objs names ∧ s₀.heap.objs.size ≤ Pl ∧ mainGlobals < h₀.objs.size ∧ ∀ b o, s₀.heap.get? b = some o → h₀.get? b = some o) ∧ s'.os = s₀.os) ∧ s'.gens = #[]) (fun _ _ => False) s₀ := by
    show wpAny (model p w) callerA (moduleCode p.main >>= _) _ _ s₀
    refine wpAny_bind (wpAny_moduleCode fun c Pl h1 tk1 hk1 hc hP hcode => ?_)
    show wpAny _ _ (newBodyFrame (.ref c) mainNs mainNs >>= _) _ _ _
    unfold newBodyFrame
    refine wpAny_bind (wpAny_bind (wpAny_nsGet (show Heap.Ns ({ s₀ with heap := h1, toks := tk1 } : Shared).heap mainNs mg from B.g.keeps hk1) (wpAny_alloc ?_)))
    rw [hb]
    generalize hfr : (Obj.mk _ _ _ _) = fr
    have k2 : ∀ b o, s₀.heap.get? b = some o → (h1.push fr).get? b = some o := fun b o e => Heap.get?_push_of_some _ (hk1 b o e)
    have B2 : Bt (h1.push fr) mg mb := ⟨B.g.keeps k2, B.b.keeps k2, B.mb, B.st.keeps k2, B.none, let ⟨bm, ob, x1, x2, x3, r⟩ := B.bm; ⟨bm, ob, x1, x2, k2 _ _ x3, r⟩⟩
    have glt := B.g.lt
    have X0 : Mod (h1.push fr) mg c Pl (h1.push fr) mg #[] [] [] [] [] := by
      obtain ⟨bm, o, y1, y2, y3, y4, y5, y6, y7⟩ := hbm
      have hcd := hcode.push fr
      refine ⟨⟨B2.g, hcd, ⟨Nat.lt_of_lt_of_le glt hc, Nat.lt_of_lt_of_le glt hP⟩, ⟨bm, o, y1, y2, y3, Nat.ne_of_lt (Nat.lt_of_lt_of_le (Heap.lt_size y4) hP), k2 _ _ y4, y5, y6, y7⟩⟩, fun _ _ _ _ e => e, (fun _ hd => nomatch hd), (fun _ hp => nomatch hp), fun _ _ => rfl, (fun _ hd => nomatch hd), (fun _ hp => nomatch hp), (fun _ hp => nomatch hp), (fun _ hp => nomatch hp), Nat.le_refl _, hcd.lt.2, B2.g.lt, (fun _ hd => nomatch hd)⟩
    refine wpAny_bind (wpAny_run (codeAny_body hann hdoc (wpAny_mono (E := fun _ _ => False) (walk { s₀ with heap := h1.push fr, toks := tk1 } mg mb c Pl _ _ _ ⟨rfl, show 301 + 1 + 20 < 1000 by decide, show 4 + 3 + 10 * 20 < 9900 by decide⟩ hg B2 X0 fun h' mg' ps' tk' X => ?_) (fun _ _ x => x) fun _ _ x => x.elim)))
    exact wpAny_pure ⟨_, rfl, ⟨⟨_, c, Pl, mg', ps', X, hP, B2.g.lt, k2⟩, rfl⟩, hg⟩
  obtain ⟨s₁, hrun, hlife, ⟨⟨h₀, c, Pl, mg', ps, X, hP, hlt, hk⟩, hos⟩, hg1⟩ := top_thread hz key
  have kept : ∀ b o, b ≠ mainGlobals → s₀.heap.get? b = some o → s₁.heap.get? b = some o := fun b o hb e => X.keep b o (Nat.ne_of_lt (Nat.lt_of_lt_of_le (Heap.lt_size e) hP)) hb (hk b o e)
  have hst : s₁.heap.Ns cStatics (fun _ => none) := B.st.at fun o => kept _ o (by decide)
  have hbb : s₁.heap.Ns builtinsNs mb := B.b.at fun o => kept _ o (by decide)
  have stOf : ∀ key, staticOf s₁.heap key = none := fun key => by
    obtain ⟨o, es, ep, e, d, _, f⟩ := hst
    simp only [staticOf, e, d]; exact f key
  have stOf0 : ∀ key, staticOf s₀.heap key = none := fun key => by
    obtain ⟨o, es, ep, e, d, _, f⟩ := B.st
    simp only [staticOf, e, d]; exact f key
  refine ⟨s₁, ⟨hrun, hlife, Shared.rest_eq hos, fun b o e hn => kept b o (fun q => hn (.inl q)) e, fun key v e => ?_, fun key => .inl ((stOf key).trans (stOf0 key).symm), ?_, fun x hx => ?_, ?_, fun g hg => ?_, fun x v hx => ?_, fun x hx => ?_⟩, hg1, Shared.asleep_of_life hlife hz, h₀, mg, c, Pl, mg', mb, ps, X, hbb, B.mb, B.none, ⟨_, hst, rfl⟩, hlt⟩
  · rw [stOf key] at e; cases e
  · obtain ⟨o, es, ep, e, d, ks, _⟩ := X.main.g
    exact ⟨o, es, ep, e, d, ks⟩
  · obtain ⟨o, es, ep, e, d, _, f⟩ := hbb
    simp only [builtinOf, e, d]
    exact (f x).trans (B.mb x hx)
  · obtain ⟨bm, o, y1, _, _, _, y4, y5, y6, _⟩ := X.main.bmod
    exact ⟨bm, o, (globalOf_ns X.main.g _).trans y1, y4, y5, y6⟩
  · rw [hg1] at hg; simp at hg
  · rw [globalOf_ns X.main.g] at hx
    by_cases q : x ∈ names
    · exact .inr (hnames x q)
    · rw [X.others x q] at hx
      by_cases q2 : x ∈ bootMainNames
      · exact .inl q2
      · rw [B.none x q2] at hx; cases hx
  · rw [globalOf_ns X.main.g, globalOf_ns B.g, X.others x (hlaid x hx)]
end Mine
end

/-! H2 -/
section
open PySem PySem.Calls PyProof.Rows PySem.W
set_option maxRecDepth 100000
namespace Mine
section
variable {prog : Program} {w : World} {K : Type} [DecidableEq K] {knd : KeyKind prog w K} {A : Around} {E : Value → Shared → Prop} {s : Shared}

theorem wp_dictPut {d : Addr} {kvs : List (K × Value)} {k : K} {key v : Value} {Q : Unit → Shared → Prop} (hkey : knd.is k key = true) (hm : s.heap.DictOf knd d kvs) (hnew : k ∉ kvs.map (·.1)) (hsz : kvs.length ≤ sizeLine)
    (hQ : ∀ h', h'.DictOf knd d (kvs ++ [(k, v)]) → Heap.SameBut d s.heap h' → Q () { s with heap := h' }) : wpAny (model prog w) A (dictPut d (knd.hash k) key v) Q E s := by
  obtain ⟨o, es, ep, ho, hc, hd, hk, hp, hn⟩ := hm
  have hes : es.size ≤ sizeLine := by
    have e1 := hp.length
    have e2 : es.toList.length = es.size := by simp
    omega
  unfold dictPut
  refine wpAny_bind (wpAny_dictFind_of hkey ho hd hk ?_)
  have hidx : (es.findIdx? fun e => knd.is k e.key) = kvs.findIdx? fun kv => decide (kv.1 = k) := by
    rw [← hp.findIdx k]; obtain ⟨l⟩ := es; simp
  have hnone : (es.findIdx? fun e => knd.is k e.key) = none := by
    rw [hidx, List.findIdx?_eq_none_iff]
    intro x hx
    simp only [decide_eq_false_iff_not]
    rintro rfl
    exact hnew (List.mem_map.mpr ⟨x, hx, rfl⟩)
  rw [hnone]
  refine wpAny_updateDictKeys (hz := hes) ho hd (hQ _ ⟨_, _, ep + 1, Heap.get?_update_self _ ho (Obj.isFreed_of_dict (Obj.data_mapDictKeys hd _)), hc.mapDictKeys _, Obj.data_mapDictKeys hd _, hk.push hkey _, ?_, ?_⟩ (Heap.SameBut.update ..))
  · have := hp.append hkey (knd.hash k) v
    obtain ⟨l⟩ := es
    simpa using this
  · rw [List.map_append, List.nodup_append]
    refine ⟨hn, by simp, ?_⟩
    intro a ha b hb
    simp only [List.map_cons, List.map_nil, List.mem_singleton] at hb
    subst hb
    exact fun e => hnew (e ▸ ha)

theorem wp_merge {d o : Addr} {kvs more : List (K × Value)} {Q : Unit → Shared → Prop} (hdo : d ≠ o) (hoS : (o == sysModules) = false) (hd : s.heap.DictOf knd d kvs) (hne : kvs ≠ []) (ho : s.heap.DictOf knd o more)
    (hnd : ((kvs ++ more).map (·.1)).Nodup) (hsz : kvs.length + more.length ≤ sizeLine)
    (hQ : ∀ h', h'.DictOf knd d (kvs ++ more) → Heap.SameBut d s.heap h' → Q () { s with heap := h' }) : wpAny (model prog w) A (mergeMapping d (.ref o) false) Q E s := by
  obtain ⟨od, esd, epd, hod, hcd, hdd, hkd, hpd, hnd'⟩ := id hd
  obtain ⟨oo, eso, epo, hoo, hco, hdo', hko, hpo, hno⟩ := id ho
  have hlen : more.length = eso.size := by rw [← hpo.length]; simp
  have hned : esd.isEmpty = false := by
    have := hpd.length
    cases q : esd.isEmpty with
    | false => rfl
    | true =>
      rw [Array.isEmpty_iff.mp q] at this
      exact absurd (List.length_eq_zero_iff.mp (by simpa using this.symm)) hne
  unfold mergeMapping
  refine wpAny_bind (wpAny_isInstance ho.typeIs isSubtype_dict_dict ?_)
  simp only [if_true]
  refine wpAny_bind (wpAny_specialOf ho.typeIs F.slot_dict_iter.lookup ?_)
  simp only [beq_self_eq_true, pure_bind]
  rw [if_neg (by rw [hoS]; exact Bool.false_ne_true)]
  refine wpAny_bind (wpAny_dictEntries hod hdd ?_)
  rw [if_neg (by rw [hned]; exact Bool.false_ne_true)]
  refine wpAny_bind (wpAny_dictEntries hoo hdo' ?_)
  refine wpAny_bind (wpAny_dictEpoch hoo hdo' ?_)
  refine wpAny_bind ?_
  refine wpAny_forIn_list _
    (fun rest _ s' => ∃ h' i, s' = { s with heap := h' } ∧ rest = (List.range eso.size).drop i ∧ i ≤ eso.size ∧ h'.DictOf knd d (kvs ++ more.take i) ∧ h'.get? o = some oo ∧ Heap.SameBut d s.heap h')
    _ ?_ ?_ _ _ ⟨s.heap, 0, rfl, by simp, Nat.zero_le _, by simpa using hd, hoo, Heap.SameBut.refl _ _⟩
  · rintro x rest b s' ⟨h', i, rfl, hr, hi, hd', hoo', hs'⟩
    have hlt : i < eso.size := by
      rcases Nat.lt_or_ge i eso.size with h | h
      · exact h
      · rw [List.drop_of_length_le (by simpa using h)] at hr; cases hr
    have hdr : (List.range eso.size).drop i = i :: (List.range eso.size).drop (i + 1) := by
      rw [List.drop_eq_getElem_cons (by simpa using hlt)]; simp
    rw [hdr] at hr
    injection hr with h1 h2
    subst h1 h2
    refine wpAny_bind (wpAny_dictEntries hoo' hdo' ?_)
    rw [Array.getElem?_eq_getElem hlt]
    obtain ⟨kv, hkv⟩ : ∃ kv, more[x]? = some kv := ⟨more[x]'(by rw [hlen]; exact hlt), List.getElem?_eq_getElem _⟩
    obtain ⟨k, v⟩ := kv
    obtain ⟨hkey, hval⟩ := hpo.get? (e := eso[x]) (by simp [hlt]) hkv
    obtain ⟨k', hkey', hhash⟩ := hko eso[x] (Array.getElem_mem hlt)
    obtain rfl : k' = k := knd.inj _ _ _ hkey' hkey
    have htk : more.take (x + 1) = more.take x ++ [(k', v)] := by simp [List.take_add_one, hkv]
    have hsub : ((kvs ++ more.take (x + 1)).map (·.1)).Nodup := by
      refine List.Nodup.sublist ?_ hnd
      rw [List.map_append, List.map_append]
      exact (List.Sublist.refl _).append ((List.take_sublist _ _).map _)
    have hnew : k' ∉ (kvs ++ more.take x).map (·.1) := by
      rw [htk, ← List.append_assoc, List.map_append, List.nodup_append] at hsub
      exact fun hm => hsub.2.2 k' hm k' (by simp) rfl
    have hl : (kvs ++ more.take x).length ≤ sizeLine := by
      rw [List.length_append, List.length_take]; omega
    refine wpAny_bind (wpAny_holding ?_)
    rw [if_neg Bool.false_ne_true, hhash, hval]
    refine wp_dictPut hkey hd' hnew hl fun h'' hd'' hs'' => ?_
    have hoo'' : h''.get? o = some oo := (hs''.2 o (Ne.symm hdo)).trans hoo'
    refine wpAny_bind (wpAny_dictEpoch hoo'' hdo' ?_)
    rw [if_neg (by simp)]
    exact wpAny_pure ⟨h'', x + 1, rfl, rfl, hlt, by rw [htk, ← List.append_assoc]; exact hd'', hoo'', hs'.trans hs''⟩
  · rintro b s' ⟨h', i, rfl, hr, hi, hd', hoo', hs'⟩
    have hin : i = eso.size := by
      rcases Nat.lt_or_ge i eso.size with h | h
      · have := congrArg List.length hr
        simp at this
        omega
      · exact Nat.le_antisymm hi h
    refine wpAny_pure (hQ h' ?_ hs')
    rw [hin, ← hlen, List.take_length] at hd'; exact hd'
end
end Mine
end

/-! H3 -/
section
open PySem PySem.Calls PyProof.Rows PySem.W
set_option maxRecDepth 100000
namespace Mine
section
variable {prog : Program} {w : World} {K : Type} [DecidableEq K] {knd : KeyKind prog w K} {A : Around} {h₀ : Heap}

/-- an expression that gives a value and changes nothing, where h₀ stands -/
def Leaf (prog : Program) (w : World) (A : Around) (h₀ : Heap) (m : Sem Value) (P : Value → Prop) : Prop :=
  ∀ (s : Shared) (Q : Value → Shared → Prop) (E : Value → Shared → Prop), Kept h₀ s.heap → (∀ v t, P v → Q v { s with toks := t }) → wpAny (model prog w) A m Q E s
def Leaves (knd : KeyKind prog w K) (A : Around) (h₀ : Heap) (pairs : List (Sem Value × Sem Value)) (kds : List (K × Im)) : Prop :=
  All2 (fun p q => Leaf prog w A h₀ p.1 (fun v => knd.is q.1 v = true) ∧ Leaf prog w A h₀ p.2 (fun v => ImR v q.2)) pairs kds
def RelKV (kvs : List (K × Value)) (kds : List (K × Im)) : Prop := All2 (fun p q => p.1 = q.1 ∧ ImR p.2 q.2) kvs kds
theorem RelKV.keys {kvs : List (K × Value)} {kds : List (K × Im)} (x : RelKV kvs kds) : kvs.map (·.1) = kds.map (·.1) := by
  induction x with
  | nil => rfl
  | cons r _ ih => simp only [List.map_cons, r.1, ih]

theorem wp_evalPairs {pairs : List (Sem Value × Sem Value)} {kds : List (K × Im)} (hl : Leaves knd A h₀ pairs kds) : ∀ {s : Shared} {Q : List (Value × Value) → Shared → Prop} {E : Value → Shared → Prop}, Kept h₀ s.heap →
    (∀ vs kvs t, Carries knd vs kvs → RelKV kvs kds → Q vs { s with toks := t }) → wpAny (model prog w) A (evalPairs pairs) Q E s := by
  induction hl with
  | nil => intro s Q E _ h; exact evalPairs_nil (h [] [] s.toks trivial .nil)
  | @cons p q pairs kds r x ih =>
    intro s Q E hk h
    obtain ⟨k, v⟩ := p
    obtain ⟨kk, d⟩ := q
    refine evalPairs_cons (r.1 s _ _ hk fun kv t1 hkv => r.2 { s with toks := t1 } _ _ hk fun vv t2 hvv => ?_)
    exact ih (s := { s with toks := t2 }) hk fun vs kvs t3 hc hr => h ((kv, vv) :: vs) ((kk, vv) :: kvs) t3 ⟨hkv, rfl, hc⟩ (.cons ⟨rfl, hvv⟩ hr)

theorem stored_new {acc : List (K × Value)} {k : K} {v : Value} (h : k ∉ acc.map (·.1)) : stored acc k v = acc ++ [(k, v)] := by
  unfold stored
  rw [if_neg]
  rw [List.any_eq_true]
  rintro ⟨x, hx, he⟩
  exact h (List.mem_map.mpr ⟨x, hx, of_decide_eq_true he⟩)

theorem wp_storeLong {d : Addr} (hd : h₀.get? d = none) {pairs : List (Sem Value × Sem Value)} {kds : List (K × Im)} (hl : Leaves knd A h₀ pairs kds) : ∀ {acc : List (K × Value)} {s : Shared} {Q : PUnit → Shared → Prop} {E : Value → Shared → Prop},
    Kept h₀ s.heap → s.heap.DictOf knd d acc → (acc.map (·.1) ++ kds.map (·.1)).Nodup → acc.length + kds.length ≤ sizeLine →
    (∀ h' t kvs, h'.DictOf knd d (acc ++ kvs) → RelKV kvs kds → Heap.SameBut d s.heap h' → Q PUnit.unit { s with heap := h', toks := t }) →
    wpAny (model prog w) A (forIn pairs PUnit.unit fun (x : Sem Value × Sem Value) (_ : PUnit) => (do
      let kv ← x.1
      let vv ← holding [kv] x.2
      holding [kv, vv] (dictSet d kv vv)
      pure (ForInStep.yield PUnit.unit) : Sem (ForInStep PUnit))) Q E s := by
  induction hl with
  | nil =>
    intro acc s Q E _ hm _ _ h
    rw [List.forIn_nil]
    exact wpAny_pure (h s.heap s.toks [] (by simpa using hm) .nil (.refl _ _))
  | @cons p q pairs kds r x ih =>
    intro acc s Q E hk hm hn hsz h
    obtain ⟨k, v⟩ := p
    obtain ⟨kk, dd⟩ := q
    rw [List.forIn_cons]
    rw [List.length_cons] at hsz
    rw [List.map_cons] at hn
    have hnew : kk ∉ acc.map (·.1) := fun hmm => (List.nodup_append.mp hn).2.2 kk hmm kk (.head _) rfl
    refine wpAny_bind (wpAny_bind (r.1 s _ _ hk fun kv t1 hkv => wpAny_bind (wpAny_holding (r.2 { s with toks := t1 } _ _ hk fun vv t2 hvv => wpAny_bind (wpAny_holding ?_)))))
    refine wpAny_dictSet_pairs (hsz := by omega) (s := { s with toks := t2 }) hkv hm fun h1 hm1 hs1 => wpAny_pure ?_
    rw [stored_new hnew] at hm1
    have hk1 : Kept h₀ h1 := fun b o e => (hs1.2 b (by rintro rfl; rw [hd] at e; cases e)).trans (hk b o e)
    refine ih (s := { s with heap := h1, toks := _ }) hk1 hm1 ?_ ?_ fun h' t kvs hm2 hr hs2 => ?_
    · rw [List.map_append, List.append_assoc]; exact hn
    · rw [List.length_append, List.length_singleton]; omega
    · exact h h' t ((kk, vv) :: kvs) (by simpa using hm2) (.cons ⟨rfl, hvv⟩ hr) (hs1.trans hs2)

theorem wp_subDict {pairs : List (Sem Value × Sem Value)} {kds : List (K × Im)} {s : Shared} {Q : Addr → Shared → Prop} {E : Value → Shared → Prop} (hl : Leaves knd A h₀ pairs kds) (hk : Kept h₀ s.heap) (hsz0 : h₀.objs.size ≤ s.heap.objs.size)
    (hn : (kds.map (·.1)).Nodup) (hsz : kds.length ≤ sizeLine)
    (h : ∀ h' t kvs, h'.DictOf knd s.heap.objs.size kvs → RelKV kvs kds → Kept s.heap h' → Q s.heap.objs.size { s with heap := h', toks := t }) :
    wpAny (model prog w) A (subDict pairs) Q E s := by
  have hd : h₀.get? s.heap.objs.size = none := by
    cases q : h₀.get? s.heap.objs.size with
    | none => rfl
    | some o => exact absurd (Heap.lt_size q) (Nat.not_lt.mpr hsz0)
  have hup : Kept s.heap (s.heap.push { cls := .type "dict", data := .dict #[] }) := fun _ _ e => Heap.get?_push_of_some _ e
  have hnil : (s.heap.push { cls := .type "dict", data := .dict #[] }).DictOf knd s.heap.objs.size [] :=
    ⟨_, #[], 0, Heap.get?_push_size _ rfl, ⟨rfl, rfl, rfl⟩, rfl, fun e he => by simp at he, .nil, .nil⟩
  have fin : ∀ {h' : Heap}, Heap.SameBut s.heap.objs.size (s.heap.push { cls := .type "dict", data := .dict #[] }) h' → Kept s.heap h' := fun {h'} hs b o e => (hs.2 b (Nat.ne_of_lt (Heap.lt_size e))).trans (hup b o e)
  unfold subDict
  refine wpAny_bind (wpAny_alloc (wpAny_bind (wpAny_holding ?_)))
  split
  · refine wpAny_bind (wp_evalPairs hl (hk.trans hup) fun vs kvs t hc hr => wpAny_holding (wpAny_bind ?_))
    have hlen : kvs.length = kds.length := by have := congrArg List.length hr.keys; simpa using this
    have hn' : (kvs.map (·.1)).Nodup := by rw [hr.keys]; exact hn
    refine wpAny_storeAll (knd := knd) vs kvs [] _ _ hc hnil (by simp; omega) fun h' hm hs => wpAny_pure (wpAny_pure (h h' _ kvs ?_ hr (fin hs)))
    rw [merged_nil_of_nodup _ hn'] at hm; exact hm
  · refine wpAny_bind (wpAny_rule (wpAny_bind (wp_storeLong hd hl (hk.trans hup) hnil (by simpa using hn) (by simpa using hsz) fun h' t kvs hm hr hs => wpAny_pure (wpAny_pure ?_))))
    exact h h' t kvs (by simpa using hm) hr (fin hs)
end
end Mine
end

/-! H4 -/
section
open PySem PySem.Calls PyProof.Rows PySem.W
set_option maxRecDepth 100000
namespace Mine
section
variable {prog : Program} {w : World} {K : Type} [DecidableEq K] {knd : KeyKind prog w K} {A : Around} {h₀ : Heap}

def DInv (knd : KeyKind prog w K) (h₀ : Heap) (main : Option Addr) (done : List (K × Im)) (h : Heap) : Prop :=
  Kept h₀ h ∧ h₀.objs.size ≤ h.objs.size ∧ match main with
    | none => done = []
    | some d => done ≠ [] ∧ h₀.objs.size ≤ d ∧ ∃ kvs, RelKV kvs done ∧ h.DictOf knd d kvs

theorem RelKV.append {a b : List (K × Value)} {c d : List (K × Im)} (x : RelKV a c) (y : RelKV b d) : RelKV (a ++ b) (c ++ d) := All2.append x y

theorem wp_flush {run : List (Sem Value × Sem Value)} {runk done : List (K × Im)} {main : Option Addr} {s : Shared} {Q : Option Addr → Shared → Prop} {E : Value → Shared → Prop} (hsm : sysModules < h₀.objs.size)
    (hl : Leaves knd A h₀ run runk) (hne : runk ≠ []) (inv : DInv knd h₀ main done s.heap) (hn : ((done ++ runk).map (·.1)).Nodup) (hsz : done.length + runk.length ≤ sizeLine)
    (h : ∀ d h' t, DInv knd h₀ (some d) (done ++ runk) h' → Q (some d) { s with heap := h', toks := t }) :
    wpAny (model prog w) A (match main with
      | none => do
        let __do_lift ← subDict run
        pure (some __do_lift)
      | some d => do
        let sub ← holding [Value.ref d] (subDict run)
        (holding [Value.ref d, Value.ref sub] (mergeMapping d (Value.ref sub) false)).onRaise fun x => do
            let _ ← holding [Value.ref d, x] (runValue (Code.builtin "proto.let_go" { }))
            pure ()
        pure (some d)) Q E s := by
  obtain ⟨hk, hsz0, hm⟩ := inv
  have hn2 : (runk.map (·.1)).Nodup := by
    rw [List.map_append, List.nodup_append] at hn; exact hn.2.1
  cases main with
  | none =>
    have hm' : done = [] := hm
    subst hm'
    refine wpAny_bind (wp_subDict hl hk hsz0 hn2 (by omega) fun h' t kvs hd hr hkk => wpAny_pure (h _ h' t ⟨hk.trans hkk, ?_, by simpa using hne, hsz0, kvs, by simpa using hr, hd⟩))
    obtain ⟨o, _, _, e, _⟩ := hd
    exact Nat.le_trans hsz0 (Nat.le_of_lt (Heap.lt_size e))
  | some d =>
    obtain ⟨hdn, hdl, kvs, hr, hd⟩ := hm
    refine wpAny_bind (wpAny_holding (wp_subDict hl hk hsz0 hn2 (by omega) fun h' t more hd2 hr2 hkk => ?_))
    have hdlt : d < s.heap.objs.size := by obtain ⟨o, _, _, e, _⟩ := hd; exact Heap.lt_size e
    have hd' : h'.DictOf knd d kvs := by
      obtain ⟨o, es, ep, e, r⟩ := hd
      exact ⟨o, es, ep, hkk d o e, r⟩
    have hlk : kvs.length = done.length := by have := congrArg List.length hr.keys; simpa using this
    have hlm : more.length = runk.length := by have := congrArg List.length hr2.keys; simpa using this
    refine wpAny_bind (wpAny_onRaise (wpAny_holding (wp_merge (s := { s with heap := h', toks := t }) (Nat.ne_of_lt hdlt) ?_ hd' ?_ hd2 ?_ (by omega) fun h2 hm2 hs2 => ?_)))
    · exact beq_eq_false_iff_ne.mpr fun e => by rw [e] at hsz0; exact absurd hsm (Nat.not_lt.mpr hsz0)
    · intro e
      rw [e] at hlk
      exact hdn (List.length_eq_zero_iff.mp hlk.symm)
    · rw [List.map_append, hr.keys, hr2.keys, ← List.map_append]; exact hn
    · refine wpAny_pure (h d h2 t ⟨fun b o e => ?_, ?_, ?_, hdl, _, hr.append hr2, hm2⟩)
      · have hbd : b ≠ d := by
          rintro rfl
          exact absurd (Heap.lt_size e) (Nat.not_lt.mpr hdl)
        exact (hs2.2 b hbd).trans (hkk b o (hk b o e))
      · have := hs2.1
        have h3 : s.heap.objs.size < h'.objs.size := by obtain ⟨o, _, _, e, _⟩ := hd2; exact Heap.lt_size e
        rw [this]
        exact Nat.le_trans hsz0 (Nat.le_of_lt h3)
      · intro e
        have := congrArg List.length e
        rw [List.length_append, List.length_nil] at this
        exact hne (List.length_eq_zero_iff.mp (by omega))

abbrev flT (run : List (Sem Value × Sem Value)) (main : Option Addr) : Sem (Option Addr) :=
  if run.isEmpty = true then pure main
  else match main with
      | none => do
        let __do_lift ← subDict run
        pure (some __do_lift)
      | some d => do
        let sub ← holding [Value.ref d] (subDict run)
        (holding [Value.ref d, Value.ref sub] (mergeMapping d (Value.ref sub) false)).onRaise fun x => do
            let _ ← holding [Value.ref d, x] (runValue (Code.builtin "proto.let_go" { }))
            pure ()
        pure (some d)

theorem wp_loopD (hsm : sysModules < h₀.objs.size) {kds : List (K × Im)} (hn : (kds.map (·.1)).Nodup) (hsz : kds.length ≤ sizeLine)
    (f : (Option (Sem Value) × Sem Value) → (Option Addr × List (Sem Value × Sem Value)) → Sem (ForInStep (Option Addr × List (Sem Value × Sem Value))))
    (hf : ∀ (p : Sem Value × Sem Value) (main : Option Addr) (run : List (Sem Value × Sem Value)), f (some p.1, p.2) (main, run) = if ((run ++ [p]).length == 17) = true then (do let m ← flT (run ++ [p]) main; pure (.yield (m, []))) else pure (.yield (main, run ++ [p])))
    {pairs : List (Sem Value × Sem Value)} {rest : List (K × Im)} (hl : Leaves knd A h₀ pairs rest) : ∀ (main : Option Addr) (run : List (Sem Value × Sem Value)) (done runk : List (K × Im)) (s : Shared) (Q : Option Addr × List (Sem Value × Sem Value) → Shared → Prop) (E : Value → Shared → Prop),
    Leaves knd A h₀ run runk → run.length < 17 → DInv knd h₀ main done s.heap → kds = done ++ runk ++ rest →
    (∀ main run done runk h' t, Leaves knd A h₀ run runk → DInv knd h₀ main done h' → kds = done ++ runk → Q (main, run) { s with heap := h', toks := t }) →
    wpAny (model prog w) A (forIn (pairs.map fun p => (some p.1, p.2)) (main, run) f) Q E s := by
  induction hl with
  | nil =>
    intro main run done runk s Q E hr hlt hi hk h
    rw [List.map_nil, List.forIn_nil]
    exact wpAny_pure (h main run done runk s.heap s.toks hr hi (by simpa using hk))
  | @cons p q pairs rest r x ih =>
    intro main run done runk s Q E hr hlt hi hk h
    rw [List.map_cons, List.forIn_cons, hf]
    have hr2 : Leaves knd A h₀ (run ++ [p]) (runk ++ [q]) := All2.append hr (.cons r .nil)
    have hk2 : kds = done ++ (runk ++ [q]) ++ rest := by rw [hk]; simp
    split
    · have hnn : ((done ++ (runk ++ [q])).map (·.1)).Nodup := by
        refine List.Nodup.sublist ?_ hn
        rw [hk2]
        exact (List.sublist_append_left _ _).map _
      have hss : done.length + (runk ++ [q]).length ≤ sizeLine := by
        have := congrArg List.length hk2
        rw [List.length_append, List.length_append] at this
        omega
      refine wpAny_bind (wpAny_bind ?_)
      have e : flT (run ++ [p]) main = _ := if_neg (by simp)
      rw [e]
      refine wp_flush hsm hr2 (by simp) hi hnn hss fun d h' t hi' => wpAny_pure ?_
      exact ih (some d) [] _ [] _ _ _ .nil (by decide) hi' (by simpa using hk2) fun m r' dn rk h2 t2 a b c => h m r' dn rk h2 t2 a b c
    · rename_i hne
      refine wpAny_bind (wpAny_pure ?_)
      refine ih main (run ++ [p]) done (runk ++ [q]) s _ _ hr2 ?_ hi hk2 h
      simp only [List.length_append, List.length_singleton, beq_iff_eq] at hne ⊢
      omega

theorem wp_display {pairs : List (Sem Value × Sem Value)} {kds : List (K × Im)} {s : Shared} {Q : Value → Shared → Prop} {E : Value → Shared → Prop} (hsm : sysModules < h₀.objs.size) (hl : Leaves knd A h₀ pairs kds) (hne : kds ≠ [])
    (hk : Kept h₀ s.heap) (hsz0 : h₀.objs.size ≤ s.heap.objs.size) (hn : (kds.map (·.1)).Nodup) (hsz : kds.length ≤ sizeLine)
    (h : ∀ d h' t kvs, h₀.objs.size ≤ d → h'.DictOf knd d kvs → RelKV kvs kds → Kept h₀ h' → Q (.ref d) { s with heap := h', toks := t }) :
    wpAny (model prog w) A (dictDisplay (pairs.map fun p => (some p.1, p.2))) Q E s := by
  unfold dictDisplay
  dsimp only
  refine wpAny_bind (wp_loopD hsm hn hsz _ (fun p main run => rfl) hl none [] [] [] s _ _ .nil (by decide) ⟨hk, hsz0, rfl⟩ (by simp) fun main run done runk h' t hr hi hkd => ?_)
  have fin : ∀ (d : Addr) (h2 : Heap) (t2 : Nat), DInv knd h₀ (some d) kds h2 → Q (.ref d) { s with heap := h2, toks := t2 } := fun d h2 t2 ⟨k1, k2, k3, k4, kvs, k5, k6⟩ => h d h2 t2 kvs k4 k6 k5 k1
  refine wpAny_bind ?_
  by_cases hrun : runk = []
  · subst hrun
    cases hr
    show wpAny _ _ (if (true = true) then pure main else _) _ _ _
    rw [if_pos rfl]
    refine wpAny_pure ?_
    rw [List.append_nil] at hkd
    subst hkd
    cases main with
    | none => exact absurd hi.2.2 hne
    | some d => exact wpAny_pure (fin d h' t hi)
  · have hrne : run.isEmpty = false := by
      cases hr with
      | nil => exact absurd rfl hrun
      | cons => rfl
    rw [if_neg (by show ¬ run.isEmpty = true; rw [hrne]; exact Bool.false_ne_true)]
    refine wp_flush hsm hr hrun hi (by rw [← hkd]; exact hn) (by have := congrArg List.length hkd; rw [List.length_append] at this; omega) fun d h2 t2 hi2 => ?_
    rw [← hkd] at hi2
    exact wpAny_pure (fin d h2 t2 hi2)
end
end Mine
end

/-! H5 -/
section
open PySem PySem.Calls PyProof.Rows PySem.W
set_option maxRecDepth 100000
namespace Mine

section
variable {M : Model} {A : Around} {E : Value → Shared → Prop} {s : Shared} {prog : Program} {w : World} {c Pl F : Addr} {h₀ : Heap} {mg₀ mg : Str → Option Value} {ps : Array Value}
  {defs : List DefItem} {consts : List (Str × PyData)} {objs : List (Str × (Obj → Prop))} {names : List Str} {Q : Flow → Shared → Prop}

/-- a name that is bound again, of which nothing is known -/
theorem Mod.again {x : Str} {pos' pos : Pos} {value : Expr} {d : PyData} (X : Mod h₀ mg₀ c Pl s.heap mg ps defs consts objs names)
    (hloc : prog.main.scope.names.lookup x = some .local) (hd : ∀ d ∈ defs, d.name ≠ x) (hc : ∀ p ∈ consts, p.1 ≠ x) (ho : ∀ p ∈ objs, p.1 ≠ x)
    (hval : ∀ Q' : Value → Shared → Prop, (∀ v tk, IsDatum v d → Q' v { s with toks := tk }) → wpAny M A (eval value (mainEnv prog c F)) Q' E s)
    (k : ∀ h' mg' tk, Mod h₀ mg₀ c Pl h' mg' ps defs consts objs (x :: names) → Q .next { s with heap := h', toks := tk })
    (hnb : x ≠ "__builtins__" := by decide) (hmod : prog.main.scope.kind = .module := by rfl)
    (hs : swapsWith value (some (.Name x pos')) pos.line (mainEnv prog c F) = pure false := by rfl) :
    wpAny M A (exec (.Assign [.Name x pos'] value pos) (mainEnv prog c F)) Q E s := by
  have X' : Mod h₀ (fun y => if y = x then mg x else mg₀ y) c Pl s.heap mg ps defs consts objs (names.filter (fun y => decide (y ≠ x))) :=
    ⟨X.main, X.keep, X.made, X.bound, fun y hy => by
      by_cases q : y = x
      · subst q; simp
      · rw [if_neg q]; exact X.others y fun hm => hy (List.mem_filter.mpr ⟨hm, by simpa using q⟩),
      fun d hd' => List.mem_filter.mpr ⟨X.dnames d hd', by simpa using hd d hd'⟩, fun p hp => List.mem_filter.mpr ⟨X.cnames p hp, by simpa using hc p hp⟩, X.held,
      fun p hp => List.mem_filter.mpr ⟨X.onames p hp, by simpa using ho p hp⟩, X.grows, X.lowP, X.lowG, X.tabs⟩
  refine Mod.assign X' hloc (fun hm => by simpa using (List.mem_filter.mp hm).2) hval (fun h' mg' tk Y => k h' mg' tk ?_) hnb hmod hs
  exact ⟨Y.main, Y.keep, Y.made, fun p hp => Y.bound p (.tail _ hp), fun y hy => by
      have hyx : y ≠ x := fun q => hy (q ▸ .head _)
      have := Y.others y (fun hm => by
        cases hm with
        | head => exact hyx rfl
        | tail _ hm => exact hy (.tail _ (List.mem_filter.mp hm).1))
      rw [this, if_neg hyx],
    fun d hd' => .tail _ (X.dnames d hd'), fun p hp => .tail _ (X.cnames p hp), Y.held, fun p hp => .tail _ (X.onames p hp), Y.grows, Y.lowP, Y.lowG, Y.tabs⟩

theorem main_name {x : Str} {p : Pos} {v : Value} {Q : Value → Shared → Prop} (hg : s.heap.Ns mainGlobals mg) (hv : mg x = some v) (h : Q v s) (hmod : prog.main.scope.kind = .module := by rfl) (hd : (x == ("__debug__" : Str)) = false := by decide) :
    wpAny M A (eval (.Name x p) (mainEnv prog c F)) Q E s := by
  refine wpAny_Name ?_ hd
  have e : loadName (mainEnv prog c F) x = loadGlobal (mainEnv prog c F) x := by
    have h1 : (mainEnv prog c F).scope.kind = .module := hmod
    have h2 : (mainEnv prog c F).blockKind = .module := by unfold Env.blockKind; rw [h1]; rfl
    unfold loadName
    rw [h2, h1]
    rfl
  rw [e]
  exact loadGlobal_global hg hv h
theorem main_builtin {x : Str} {p : Pos} {v : Value} {mb : Str → Option Value} {Q : Value → Shared → Prop} (hg : s.heap.Ns mainGlobals mg) (hn : mg x = none) (hb : s.heap.Ns builtinsNs mb) (hv : mb x = some v) (h : Q v s) (hmod : prog.main.scope.kind = .module := by rfl) (hd : (x == ("__debug__" : Str)) = false := by decide) :
    wpAny M A (eval (.Name x p) (mainEnv prog c F)) Q E s := by
  refine wpAny_Name ?_ hd
  have e : loadName (mainEnv prog c F) x = loadGlobal (mainEnv prog c F) x := by
    have h1 : (mainEnv prog c F).scope.kind = .module := hmod
    have h2 : (mainEnv prog c F).blockKind = .module := by unfold Env.blockKind; rw [h1]; rfl
    unfold loadName
    rw [h2, h1]
    rfl
  rw [e]
  exact loadGlobal_builtin hg hn hb hv h
end

/-! displays -/
section
variable {prog : Program} {w : World} {K : Type} [DecidableEq K] {knd : KeyKind prog w K} {A : Around} {h₀ : Heap} {env : Env}
def keyI? : Option Expr → Option Int | some (.Constant (.int i) _ _) => some i | _ => none
def keyS? : Option Expr → Option Str | some (.Constant (.str x) _ _) => some x | _ => none
def val? (σ : Str → Option Im) : Expr → Option Im
  | .Constant (.str x) _ _ => some (.str x)
  | .Constant (.int i) _ _ => some (.int i)
  | .Name x _ => σ x
  | _ => none
def dictData (key : Option Expr → Option K) (σ : Str → Option Im) : List (Option Expr) → List Expr → Option (List (K × Im))
  | [], [] => some []
  | k :: ks, v :: vs => match key k, val? σ v, dictData key σ ks vs with
    | some a, some b, some r => some ((a, b) :: r)
    | _, _, _ => none
  | _, _ => none
theorem leaves_of {key : Option Expr → Option K} {σ : Str → Option Im} {pos : Pos} (hkey : ∀ k a, key k = some a → ∃ e, k = some e ∧ Leaf prog w A h₀ (eval e env) (fun v => knd.is a v = true)) (hval : ∀ v b, val? σ v = some b → Leaf prog w A h₀ (eval v env) (fun x => ImR x b)) :
    ∀ (keys : List (Option Expr)) (values : List Expr) (kds : List (K × Im)), dictData key σ keys values = some kds → Leaves knd A h₀ (pairTrees keys values env pos) kds ∧ keys.all (·.isSome) = true ∧ keys.length = values.length
  | [], [], kds, h => by
    simp only [dictData, Option.some.injEq] at h
    subst h
    exact ⟨.nil, rfl, rfl⟩
  | [], _ :: _, _, h => by simp [dictData] at h
  | _ :: _, [], _, h => by simp [dictData] at h
  | k :: ks, v :: vs, kds, h => by
    unfold dictData at h
    split at h
    · rename_i a b r h1 h2 h3
      simp only [Option.some.injEq] at h
      subst h
      obtain ⟨e, rfl, hl⟩ := hkey k a h1
      obtain ⟨i1, i2, i3⟩ := leaves_of hkey hval ks vs r h3
      refine ⟨.cons ⟨hl, ?_⟩ i1, by simp [i2], by simp [i3]⟩
      intro s Q E hk hq
      exact wpAny_bind (hval v b h2 s _ E hk fun x t hx => wpAny_bind (wpAny_standAt (wpAny_pure (hq x t hx))))
    · cases h
theorem leaf_keyI {k : Option Expr} {a : Int} (h : keyI? k = some a) : ∃ e, k = some e ∧ Leaf prog w A h₀ (eval e env) (fun v => (intKind prog w).is a v = true) := by
  unfold keyI? at h
  split at h
  · cases h
    exact ⟨_, rfl, fun s Q E hk hq => wpAny_Constant_int (hq _ _ (intKind_is _ _ _ _))⟩
  · cases h
theorem leaf_keyS {k : Option Expr} {a : Str} (h : keyS? k = some a) : ∃ e, k = some e ∧ Leaf prog w A h₀ (eval e env) (fun v => (PySem.strKind prog w).is a v = true) := by
  unfold keyS? at h
  split at h
  · cases h
    exact ⟨_, rfl, fun s Q E hk hq => Constant_str (hq _ _ (show Value.isStrOf a (.str a s.toks) = true by simp [Value.isStrOf]))⟩
  · cases h
def DObj (knd : KeyKind prog w K) (kds : List (K × Im)) (o : Obj) : Prop := ∃ es ep kvs, o.ExactDict ∧ o.data = .dict es ep ∧ KeysOf knd es ∧ Pairs knd es.toList kvs ∧ (kvs.map (·.1)).Nodup ∧ RelKV kvs kds
end
section
variable {A : Around} {E : Value → Shared → Prop} {s : Shared} {prog : Program} {w : World} {c Pl F : Addr} {h₀ : Heap} {mg₀ mg : Str → Option Value} {ps : Array Value}
  {defs : List DefItem} {consts : List (Str × PyData)} {objs : List (Str × (Obj → Prop))} {names : List Str} {Q : Flow → Shared → Prop} {K : Type} [DecidableEq K] {knd : KeyKind prog w K}
theorem Mod.dict {x : Str} {pos' pos dpos : Pos} {keys : List (Option Expr)} {values : List Expr} {kds : List (K × Im)} (X : Mod h₀ mg₀ c Pl s.heap mg ps defs consts objs names)
    (hloc : prog.main.scope.names.lookup x = some .local) (hnew : x ∉ names) (hsm : sysModules < h₀.objs.size)
    (hl : Leaves knd A s.heap (pairTrees keys values (mainEnv prog c F) dpos) kds ∧ keys.all (·.isSome) = true ∧ keys.length = values.length) (hne : kds ≠ []) (hn : (kds.map (·.1)).Nodup) (hsz : kds.length ≤ sizeLine)
    (k : ∀ h' mg' tk, Mod h₀ mg₀ c Pl h' mg' ps defs consts ((x, DObj knd kds) :: objs) (x :: names) → Q .next { s with heap := h', toks := tk })
    (hnb : x ≠ "__builtins__" := by decide) (hmod : prog.main.scope.kind = .module := by rfl)
    (hs : swapsWith (.Dict keys values dpos) (some (.Name x pos')) pos.line (mainEnv prog c F) = pure false := by rfl) :
    wpAny (model prog w) A (exec (.Assign [.Name x pos'] (.Dict keys values dpos) pos) (mainEnv prog c F)) Q E s := by
  refine Mod.assign_obj X hloc hnew (fun Q' hq => ?_) k hnb hmod hs
  rw [arm_eval_Dict, zip_pairTrees keys values _ dpos hl.2.1 hl.2.2]
  refine wpAny_bind (wpAny_standAt (wp_display (Nat.lt_of_lt_of_le hsm X.grows) hl.1 hne (.refl _) (Nat.le_refl _) hn hsz fun d h' t kvs hd hm hr hk => ?_))
  obtain ⟨o, es, ep, e, e1, e2, e3, e4, e5⟩ := hm
  exact hq d o h' t hd e ⟨es, ep, kvs, e1, e2, e3, e4, e5, hr⟩ hk
/-- the same, the statement a letter: an elaborator that looks at the outcome's type walks no table -/
theorem Mod.dictS {st : Stmt} {x : Str} {pos' pos dpos : Pos} {keys : List (Option Expr)} {values : List Expr} {kds : List (K × Im)} (hst : st = .Assign [.Name x pos'] (.Dict keys values dpos) pos) (X : Mod h₀ mg₀ c Pl s.heap mg ps defs consts objs names)
    (hloc : prog.main.scope.names.lookup x = some .local) (hnew : x ∉ names) (hsm : sysModules < h₀.objs.size)
    (hl : Leaves knd A s.heap (pairTrees keys values (mainEnv prog c F) dpos) kds ∧ keys.all (·.isSome) = true ∧ keys.length = values.length) (hne : kds ≠ []) (hn : (kds.map (·.1)).Nodup) (hsz : kds.length ≤ sizeLine) (hnb : x ≠ "__builtins__") (hmod : prog.main.scope.kind = .module)
    (k : ∀ h' mg' tk, Mod h₀ mg₀ c Pl h' mg' ps defs consts ((x, DObj knd kds) :: objs) (x :: names) → Q .next { s with heap := h', toks := tk }) :
    wpAny (model prog w) A (exec st (mainEnv prog c F)) Q E s := by
  subst hst
  exact Mod.dict X hloc hnew hsm hl hne hn hsz k hnb hmod rfl
end
end Mine
end

/-! H6 -/
section
open PySem PySem.Calls PyProof.Rows PySem.W
set_option maxRecDepth 100000
namespace Mine

def ints? : List Expr → Option (List Int)
  | [] => some []
  | e :: r => (keyI? (some e)).bind fun i => (ints? r).map (i :: ·)
theorem wp_ints {prog : Program} {w : World} {A : Around} {env : Env} {pos : Pos} : ∀ (elts : List Expr) (ns : List Int), ints? elts = some ns → ∀ (s : Shared) (Q : List Value → Shared → Prop) (E : Value → Shared → Prop),
    (∀ vs t, IntsAre vs ns → Q vs { s with toks := t }) → wpAny (model prog w) A (spliced (backTo pos (starEach elts env))) Q E s := by
  intro elts
  induction elts with
  | nil =>
    intro ns h s Q E hq
    cases h
    exact spliced_nil (hq [] s.toks .nil)
  | cons e r ih =>
    intro ns h s Q E hq
    unfold ints? at h
    obtain ⟨i, h0, h1⟩ := Option.bind_eq_some_iff.mp h
    obtain ⟨ms, h2, rfl⟩ := Option.map_eq_some_iff.mp h1
    have he : ∃ k p, e = .Constant (.int i) k p := by
      obtain ⟨e', h3, _⟩ := leaf_keyI (prog := prog) (w := w) (A := A) (h₀ := s.heap) (env := env) h0
      unfold keyI? at h0
      split at h0
      · rename_i h4
        cases h0
        cases h4
        exact ⟨_, _, rfl⟩
      · cases h0
    obtain ⟨k, p, rfl⟩ := he
    show wpAny (model prog w) A (spliced ((false, eval (.Constant (.int i) k p) env) :: backTo pos (starEach r env))) Q E s
    exact spliced_cons (wpAny_Constant_int (ih ms h2 _ _ _ fun vs t hv => hq _ t (.cons _ _ hv)))
theorem intsAre_of : ∀ (l : List Value) (ns : List Int), l.length = ns.length → (∀ j v, l[j]? = some v → ∃ t, v = Value.int (ns.getD j 0) t) → IntsAre l ns
  | [], ns, hn, _ => by cases ns with | nil => exact .nil | cons => simp at hn
  | x :: r, [], hn, _ => by simp at hn
  | x :: r, m :: ns, hn, hv => by
    obtain ⟨t, e⟩ := hv 0 x (by simp)
    subst e
    exact .cons _ _ (intsAre_of r ns (by simpa using hn) fun j v hj => by simpa using hv (j + 1) v (by simpa using hj))
theorem intsAre_append {a b : List Value} {m n : List Int} (x : IntsAre a m) (y : IntsAre b n) : IntsAre (a ++ b) (m ++ n) := by
  induction x with
  | nil => exact y
  | cons i t _ ih => exact .cons i t ih
theorem intsAre_len {a : List Value} {m : List Int} (x : IntsAre a m) : a.length = m.length := by
  induction x with
  | nil => rfl
  | cons i t _ ih => simp [ih]

def SObj (prog : Program) (w : World) (S : Int → Bool) (n : Nat) (o : Obj) : Prop :=
  ∃ es ep t, o.ExactSet ∧ o.data = .set es ep t ∧ ElemsOf (intKind prog w) es.toList ∧ (∀ k, S k = true ↔ ∃ e ∈ es.toList, (intKind prog w).is k e.2 = true) ∧ es.size < scanBound ∧ t.fits es.size = true ∧ es.size = n

section
variable {prog : Program} {w : World} {A : Around} {E : Value → Shared → Prop} {s : Shared} {c F : Addr} {mg mb : Str → Option Value}
/-- set([..] + list(range(a, b))) at a module's top -/
theorem main_set {p1 p2 p3 p4 p5 p6 p7 p8 q1 q2 : Pos} {k1 k2 : Nat} {elts : List Expr} {ns : List Int} {a b : Int} {Q : Value → Shared → Prop} (hg : s.heap.Ns mainGlobals mg) (hb : s.heap.Ns builtinsNs mb) (hmb : ∀ x : Str, x ≠ "__name__" → mb x = bootBuiltins x)
    (h1 : mg "set" = none) (h2 : mg "list" = none) (h3 : mg "range" = none) (hh : A.handled = none) (hi : ints? elts = some ns) (hmod : prog.main.scope.kind = .module)
    (ha : -(2 ^ 62) ≤ a) (ha' : a < 2 ^ 62) (hb0 : -(2 ^ 62) ≤ b) (hb' : b < 2 ^ 62) (hl : (b - a).toNat ≤ 2 ^ 20) (hns : ns.length ≤ 2 ^ 20) (hsz : ns.length + (b - a).toNat + 1 < scanBound)
    (h : ∀ x o h₁ tk n S, (∀ k, S k = (ns ++ rngL a b).any (· == k)) → s.heap.objs.size ≤ x → h₁.get? x = some o → SObj prog w S n o → (∀ b o', s.heap.get? b = some o' → h₁.get? b = some o') → Q (.ref x) { s with heap := h₁, toks := tk }) :
    wpAny (model prog w) A (eval (.Call (.Name "set" p1) [.BinOp (.List elts p2) .Add (.Call (.Name "list" p3) [.Call (.Name "range" p4) [.Constant (.int a) k1 p5, .Constant (.int b) k2 p6] [] p7] [] p8) q1] [] q2) (mainEnv prog c F)) Q E s := by
  have bset : bootBuiltins "set" = some (.type "set") := by decide +kernel
  have blist : bootBuiltins "list" = some (.type "list") := by decide +kernel
  have brange : bootBuiltins "range" = some (.type "range") := by decide +kernel
  refine wpAny_Call_NameR (main_builtin hg h1 hb ((hmb _ (by decide)).trans bset) ?_ hmod)
  refine PySem.callWith_type rfl (evalArgs_plain (spliced_cons (wpAny_BinOp ?_)))
  rw [arm_eval_List]
  refine wpAny_bind (wpAny_standAt (wpAny_bind (wp_ints elts ns hi _ _ _ fun vs t hvs => wpAny_newList ?_ (by rw [intsAre_len hvs, sizeLine]; omega))))
  have k1' : Kept s.heap (s.heap.push { cls := .type "list", data := .seq vs.toArray }) := fun _ _ e => Heap.get?_push_of_some _ e
  refine wpAny_Call_NameR (main_builtin (hg.keeps k1') h2 (hb.keeps k1') ((hmb _ (by decide)).trans blist) ?_ hmod)
  refine PySem.callWith_type rfl (evalArgs_plain (spliced_cons ?_))
  refine wpAny_Call_NameR (main_builtin (hg.keeps k1') h3 (hb.keeps k1') ((hmb _ (by decide)).trans brange) ?_ hmod)
  refine PySem.callWith_type rfl (evalArgs_plain (wp_ints (pos := p7) (env := mainEnv prog c F) [.Constant (.int a) k1 p5, .Constant (.int b) k2 p6] [a, b] rfl _ _ _ fun us t2 hus => ?_))
  cases hus with
  | cons i ta hus =>
  cases hus with
  | cons j tb hus =>
  cases hus
  show wpAny _ _ (call (.type "range") [.int a ta, .int b tb]) _ _ _
  refine call_range_2 (spliced_nil ?_)
  show wpAny _ _ (call (.type "list") [.ref _]) _ _ _
  refine call_list_range hh (IsRange.new _ _ _ _ _ _ _) (small_one ha ha' hb0 hb') (rngL_size a b) (by omega) fun h' tk acc cc hk hgt hit => ?_
  obtain ⟨hi1, hi2⟩ := hit
  have hacc : IntsAre acc.toList (rngL a b) := intsAre_of _ _ (by simp [rngL, hi1]) fun j v hj => by
    have hj' : acc[j]? = some v := by simpa using hj
    obtain ⟨t, e⟩ := hi2 j v hj'
    have hlt : j < (b - a).toNat := by
      rw [← hi1]
      rcases Nat.lt_or_ge j acc.size with q | q
      · exact q
      · rw [Array.getElem?_eq_none q] at hj'; cases hj'
    exact ⟨t, by rw [e]; simp [rngL, List.getD, hlt]⟩
  have k2' : Kept (s.heap.push { cls := .type "list", data := .seq vs.toArray }) h' := fun b o e => hk b o (Heap.get?_push_of_some _ e)
  have hL1 : h'.get? s.heap.objs.size = some { cls := .type "list", data := .seq vs.toArray } := k2' _ _ (Heap.get?_push_size _ rfl)
  have hz1 : vs.toArray.size = ns.length := by rw [List.size_toArray, intsAre_len hvs]
  refine P.add_list hL1 hgt (spliced_nil ?_) (by rw [sizeLine]; omega)
  show wpAny _ _ (call (.type "set") [.ref _]) _ _ _
  have hsum : IntsAre (vs.toArray ++ acc).toList (ns ++ rngL a b) := by
    rw [Array.toList_append]; exact intsAre_append hvs hacc
  refine call_set_list hh ⟨_, Heap.get?_push_size _ rfl, rfl, 0, rfl⟩ hsum (by rw [Array.size_append, hz1]; omega) fun h2' tk2 hS hkk => ?_
  obtain ⟨o, es, ep, t, e, r⟩ := hS
  refine h _ o h2' tk2 _ _ (fun k => ?_) ?_ e ⟨es, ep, t, r⟩ fun b o e => ?_
  · rw [PyProof.Rows.firstMet_any]
    have hlen : (vs.toArray ++ acc).size = (ns ++ rngL a b).length := by
      have := intsAre_len hsum; simpa using this
    rw [hlen]
    congr 1
    apply List.ext_getElem?
    intro i
    rcases Nat.lt_or_ge i (ns ++ rngL a b).length with q | q
    · rw [List.getElem?_map, List.getElem?_range q, List.getElem?_eq_getElem q]
      simp only [Option.map_some, List.getD, List.getElem?_eq_getElem q, Option.getD_some]
    · rw [List.getElem?_eq_none q, List.getElem?_eq_none (by simpa using q)]
  · have k3 : ∀ b o, s.heap.get? b = some o → h'.get? b = some o := fun b o e => k2' b o (k1' b o e)
    have : s.heap.objs.size ≤ h'.objs.size := Nat.le_of_lt (Heap.lt_size hL1)
    refine Nat.le_trans this ?_
    show h'.objs.size ≤ (h'.push _).objs.size
    rw [Heap.size_push]; exact Nat.le_succ _
  · have e3 := k2' b o (k1' b o e)
    have e4 : (h'.push { cls := .type "list", data := .seq (vs.toArray ++ acc) }).get? b = some o := Heap.get?_push_of_some _ e3
    exact hkk b o (Heap.lt_size e4) e4
end
end Mine
end

/-! H7 -/
section
open PySem PySem.Calls PyProof.Rows PySem.W
set_option maxRecDepth 100000
namespace Mine

def dKeys : Option Stmt → List (Option Expr) | some (.Assign _ (.Dict ks _ _) _) => ks | _ => []
def dVals : Option Stmt → List Expr | some (.Assign _ (.Dict _ vs _) _) => vs | _ => []
def constOf? : Stmt → Option (Str × Int) | .Assign [.Name x _] (.Constant (.int i) _ _) _ => some (x, i) | _ => none
def constTab : List (Str × Int) := PW.main.body.filterMap constOf?
def σE (x : Str) : Option Im := (constTab.lookup x).map Im.int
def b3Data : Option (List (Int × Im)) := dictData keyI? (fun _ => none) (dKeys PW.main.body[3]?) (dVals PW.main.body[3]?)
def b3Tab : List (Int × Im) := b3Data.getD []
def ettData : Option (List (Str × Im)) := dictData keyS? σE (dKeys PW.main.body[61]?) (dVals PW.main.body[61]?)
def ettTab : List (Str × Im) := ettData.getD []
theorem b3_ne : b3Tab ≠ [] := fun h => by
  have : b3Tab.isEmpty = false := by decide +kernel
  rw [h] at this; cases this
theorem ett_ne : ettTab ≠ [] := fun h => by
  have : ettTab.isEmpty = false := by decide +kernel
  rw [h] at this; cases this
theorem b3_data : b3Data = some b3Tab := by
  cases h : b3Data with
  | none => exact absurd (by unfold b3Tab; rw [h]; rfl) b3_ne
  | some a => unfold b3Tab; rw [h]; rfl
theorem ett_data : ettData = some ettTab := by
  cases h : ettData with
  | none => exact absurd (by unfold ettTab; rw [h]; rfl) ett_ne
  | some a => unfold ettTab; rw [h]; rfl
def sortedI : Int → List Int → Bool
  | _, [] => true
  | a, x :: r => decide (a < x) && sortedI x r
theorem sortedI_ok : ∀ {l : List Int} {a : Int}, sortedI a l = true → (∀ x ∈ l, a < x) ∧ l.Nodup
  | [], _, _ => ⟨fun _ h => (by cases h), List.nodup_nil⟩
  | x :: r, a, h => by
    simp only [sortedI, Bool.and_eq_true, decide_eq_true_eq] at h
    obtain ⟨h1, h2⟩ := h
    obtain ⟨h3, h4⟩ := sortedI_ok h2
    refine ⟨fun y hy => ?_, List.nodup_cons.mpr ⟨fun hm => Int.lt_irrefl _ (h3 x hm), h4⟩⟩
    cases hy with
    | head => exact h1
    | tail _ hy => exact Int.lt_trans h1 (h3 y hy)
def nodupStr (l : List Str) : Bool := match l with | [] => true | x :: r => !(r.any (· == x)) && nodupStr r
theorem nodupStr_ok : ∀ {l : List Str}, nodupStr l = true → l.Nodup
  | [], _ => .nil
  | x :: r, h => by
    simp only [nodupStr, Bool.and_eq_true, Bool.not_eq_true'] at h
    refine List.nodup_cons.mpr ⟨fun hm => ?_, nodupStr_ok h.2⟩
    have : r.any (· == x) = true := List.any_eq_true.mpr ⟨x, hm, by simp⟩
    rw [h.1] at this; cases this
theorem b3_nodup : (b3Tab.map (·.1)).Nodup := (sortedI_ok (a := 0) (by decide +kernel)).2
theorem ett_nodup : (ettTab.map (·.1)).Nodup := nodupStr_ok (by decide +kernel)
theorem b3_len : b3Tab.length ≤ sizeLine := Nat.le_trans (m := 2000) (by decide +kernel) (by decide)
theorem ett_len : ettTab.length ≤ sizeLine := Nat.le_trans (m := 2000) (by decide +kernel) (by decide)
theorem const_debug : constTab.all (fun p => !(p.1 == ("__debug__" : Str))) = true := by decide +kernel
section
variable {w : World} {A : Around} {h : Heap} {env : Env} {s : Shared} {c Pl F : Addr} {h₀ : Heap} {mg₀ mg mb : Str → Option Value} {ps : Array Value}
  {defs : List DefItem} {consts : List (Str × PyData)} {objs : List (Str × (Obj → Prop))} {names : List Str}
theorem leaf_val {σ : Str → Option Im} (hσ : ∀ x b, σ x = some b → ∀ p, Leaf PW w A h (eval (.Name x p) env) (fun v => ImR v b)) : ∀ v b, val? σ v = some b → Leaf PW w A h (eval v env) (fun x => ImR x b) := by
  intro v b hv
  unfold val? at hv
  split at hv
  · cases hv
    exact fun s Q E hk hq => Constant_str (hq _ _ rfl)
  · cases hv
    exact fun s Q E hk hq => wpAny_Constant_int (hq _ _ rfl)
  · exact hσ _ _ hv _
  · cases hv
theorem b3_leaves {dpos : Pos} : Leaves (intKind PW w) A h (pairTrees (dKeys PW.main.body[3]?) (dVals PW.main.body[3]?) env dpos) b3Tab ∧ (dKeys PW.main.body[3]?).all (·.isSome) = true ∧ (dKeys PW.main.body[3]?).length = (dVals PW.main.body[3]?).length :=
  leaves_of (fun k a hk => leaf_keyI hk) (leaf_val fun x b hx => by cases hx) _ _ _ b3_data
theorem ett_leaves {dpos : Pos} (X : Mod h₀ mg₀ c Pl h mg ps defs consts objs names) (hcs : consts = (constTab.map fun p => (p.1, PyData.int p.2)).reverse ++ [(("ELLIPSIS_MARKER" : Str), PyData.str "...")]) :
    Leaves (PySem.strKind PW w) A h (pairTrees (dKeys PW.main.body[61]?) (dVals PW.main.body[61]?) (mainEnv PW c F) dpos) ettTab ∧ (dKeys PW.main.body[61]?).all (·.isSome) = true ∧ (dKeys PW.main.body[61]?).length = (dVals PW.main.body[61]?).length := by
  refine leaves_of (fun k a hk => leaf_keyS hk) (leaf_val fun x b hx p s Q E hk hq => ?_) _ _ _ ett_data
  obtain ⟨i, hi, rfl⟩ := Option.map_eq_some_iff.mp hx
  have hm := mem_of_lookup hi
  have hd : (x == ("__debug__" : Str)) = false := by
    have := List.all_eq_true.mp const_debug _ hm
    simpa using this
  obtain ⟨v, h1, h2⟩ := X.bound (x, .int i) (by rw [hcs]; exact List.mem_append_left _ (List.mem_reverse.mpr (List.mem_map.mpr ⟨_, hm, rfl⟩)))
  obtain ⟨t, rfl⟩ : ∃ t, v = .int i t := by cases h2 h; exact ⟨_, rfl⟩
  exact main_name (X.main.g.keeps hk) h1 (hq _ _ rfl) rfl hd

def b1P (w : World) (o : Obj) : Prop := ∃ n S, (∀ k, S k = codesL.any (· == k)) ∧ SObj PW w S n o
def setArg : Option Stmt → Expr | some (.Assign _ v _) => v | _ => default
theorem b1_hval {s : Shared} {E : Value → Shared → Prop} (hh : A.handled = none) (B : Bt h₀ mg₀ mb) (hbn : s.heap.Ns builtinsNs mb) (X : Mod h₀ mg₀ c Pl s.heap mg ps defs consts objs names) (h1 : ("set" : Str) ∉ names ∧ ("list" : Str) ∉ names ∧ ("range" : Str) ∉ names) :
    ∀ Q' : Value → Shared → Prop, (∀ a o h₁ tk, s.heap.objs.size ≤ a → h₁.get? a = some o → b1P w o → (∀ b o', s.heap.get? b = some o' → h₁.get? b = some o') → Q' (.ref a) { s with heap := h₁, toks := tk }) →
      wpAny (model PW w) A (eval (setArg PW.main.body[1]?) (mainEnv PW c F)) Q' E s := fun Q' hq =>
  main_set (prog := PW) (ns := [173, 847, 6150, 6155, 6156, 6157, 8203, 8204, 8205, 8288, 65279]) X.main.g hbn B.mb ((X.others _ h1.1).trans (B.none _ (by decide))) ((X.others _ h1.2.1).trans (B.none _ (by decide))) ((X.others _ h1.2.2).trans (B.none _ (by decide))) hh rfl rfl
    (by decide) (by decide) (by decide) (by decide) (by decide) (by decide) (by decide) fun x o h₁ tk n S hS hx ho hP hk => hq x o h₁ tk hx ho ⟨n, S, hS, hP⟩ hk
end
theorem ho0 {x : Str} : ∀ p ∈ ([] : List (Str × (Obj → Prop))), p.1 ≠ x := fun _ h => by cases h
theorem ho1 {x a : Str} {P : Obj → Prop} (h : a ≠ x) : ∀ p ∈ [(a, P)], p.1 ≠ x := fun p hp => by
  cases hp with
  | head => exact h
  | tail _ hp => cases hp
theorem ho2 {x a b : Str} {P P2 : Obj → Prop} (h : a ≠ x) (h2 : b ≠ x) : ∀ p ∈ [(a, P), (b, P2)], p.1 ≠ x := fun p hp => by
  cases hp with
  | head => exact h
  | tail _ hp => exact ho1 h2 p hp
theorem ho3 {x a b c : Str} {P P2 P3 : Obj → Prop} (h : a ≠ x) (h2 : b ≠ x) (h3 : c ≠ x) : ∀ p ∈ [(a, P), (b, P2), (c, P3)], p.1 ≠ x := fun p hp => by
  cases hp with
  | head => exact h
  | tail _ hp => exact ho2 h2 h3 p hp
def dPos : Option Stmt → Pos | some (.Assign _ (.Dict _ _ p) _) => p | _ => default
def aPos : Option Stmt → Pos | some (.Assign _ _ p) => p | _ => default
def tPos : Option Stmt → Pos | some (.Assign [.Name _ p] _ _) => p | _ => default
theorem b3_shape : PW.main.body[3]? = some (.Assign [.Name "b3_exceptions" (tPos PW.main.body[3]?)] (.Dict (dKeys PW.main.body[3]?) (dVals PW.main.body[3]?) (dPos PW.main.body[3]?)) (aPos PW.main.body[3]?)) := by kernel_rfl
theorem ett_shape : PW.main.body[61]? = some (.Assign [.Name "EXACT_TOKEN_TYPES" (tPos PW.main.body[61]?)] (.Dict (dKeys PW.main.body[61]?) (dVals PW.main.body[61]?) (dPos PW.main.body[61]?)) (aPos PW.main.body[61]?)) := by kernel_rfl
theorem cut_at {α : Type} {l : List α} {i : Nat} {x : α} (h : l[i]? = some x) : l = l.take i ++ x :: l.drop (i + 1) := by
  obtain ⟨hi, e⟩ := List.getElem?_eq_some_iff.mp h
  subst e
  rw [← List.drop_eq_getElem_cons hi, List.take_append_drop]
/-- a statement x = i, as data -/
abbrev CI := Str × Pos × Int × Nat × Pos × Pos
def mkCI (t : CI) : Stmt := .Assign [.Name t.1 t.2.1] (.Constant (.int t.2.2.1) t.2.2.2.1 t.2.2.2.2.1) t.2.2.2.2.2
def ciOf? : Stmt → Option CI | .Assign [.Name x p] (.Constant (.int i) k q) pos => some (x, p, i, k, q, pos) | _ => none
def intsOk (P : Program) : List Str → List CI → Bool
  | _, [] => true
  | names, t :: r => (P.main.scope.names.lookup t.1 == some .local) && !names.contains t.1 && !(t.1 == ("__builtins__" : Str)) && intsOk P (t.1 :: names) r
theorem Mod.ints {prog : Program} {M : Model} {A : Around} {E : Value → Shared → Prop} {Q : Flow → Shared → Prop} {c Pl F : Addr} {h₀ : Heap} {mg₀ : Str → Option Value} {ps : Array Value} {defs : List DefItem} {objs : List (Str × (Obj → Prop))} (hmod : prog.main.scope.kind = .module) {rest : List Stmt} :
    ∀ {l : List CI} {s : Shared} {mg : Str → Option Value} {consts : List (Str × PyData)} {names : List Str} (X : Mod h₀ mg₀ c Pl s.heap mg ps defs consts objs names) (hok : intsOk prog names l = true)
      (k : ∀ h' mg' tk, Mod h₀ mg₀ c Pl h' mg' ps defs ((l.map fun t => (t.1, PyData.int t.2.2.1)).reverse ++ consts) objs ((l.map (·.1)).reverse ++ names) → wpAny M A (execs rest (mainEnv prog c F)) Q E { s with heap := h', toks := tk }),
      wpAny M A (execs (l.map mkCI ++ rest) (mainEnv prog c F)) Q E s
  | [], s, mg, consts, names, X, _, k => k s.heap mg s.toks X
  | t :: r, s, mg, consts, names, X, hok, k => by
    unfold intsOk at hok
    simp only [Bool.and_eq_true, beq_iff_eq, Bool.not_eq_true', List.contains_eq_mem, decide_eq_false_iff_not, beq_eq_false_iff_ne] at hok
    obtain ⟨⟨⟨h1, h2⟩, h3⟩, h4⟩ := hok
    refine wpAny_execs_cons ?_
    refine Mod.assign X h1 h2 lit_int (fun h' mg' tk X' => ?_) h3 hmod rfl
    refine Mod.ints hmod X' h4 fun h'' mg'' tk' X'' => ?_
    refine k h'' mg'' tk' ?_
    simpa using X''
def ints49 : List CI := ((PW.main.body.drop 12).take 49).filterMap ciOf?
theorem ints_eq : (PW.main.body.drop 12).take 49 = ints49.map mkCI := by kernel_rfl
theorem top_cut {st3 st61 : Stmt} (h3 : PW.main.body[3]? = some st3) (h61 : PW.main.body[61]? = some st61) : PW.main.body = PW.main.body.take 3 ++ st3 :: ((PW.main.body.drop 4).take 8 ++ ((PW.main.body.drop 12).take 49 ++ st61 :: PW.main.body.drop 62)) := by
  have e := cut_at h3
  have h2 : (PW.main.body.drop 12)[49]? = some st61 := by rw [List.getElem?_drop]; exact h61
  have e2 := cut_at h2
  rw [List.drop_drop] at e2
  rw [← e2]
  have e3 : (PW.main.body.drop 4).take 8 ++ PW.main.body.drop 12 = PW.main.body.drop 4 := by
    have := List.take_append_drop 8 (PW.main.body.drop 4)
    rwa [List.drop_drop] at this
  rw [e3]; exact e
def psOf {h₀ : Heap} {mg₀ : Str → Option Value} {c Pl : Addr} {h : Heap} {mg : Str → Option Value} {ps : Array Value} {defs : List DefItem} {consts : List (Str × PyData)} {objs : List (Str × (Obj → Prop))} {names : List Str} (_ : Mod h₀ mg₀ c Pl h mg ps defs consts objs names) : Array Value := ps
def stmtName? : Stmt → Option Str | .Assign [.Name x _] _ _ => some x | .FunctionDef x _ _ _ _ _ _ _ _ _ => some x | _ => none
def def? : Stmt → Option DefItem | .FunctionDef name ps body _ _ _ sc _ _ p => some ⟨name, ps, body, sc, p⟩ | _ => none
def topDefs : List DefItem := (PW.main.body.filterMap def?).reverse
def topNames : List Str := (PW.main.body.filterMap stmtName?).reverse
def topConsts : List (Str × PyData) := (constTab.map fun p => (p.1, PyData.int p.2)).reverse ++ [(("ELLIPSIS_MARKER" : Str), PyData.str "...")]
def topObjs (w : World) : List (Str × (Obj → Prop)) := [("EXACT_TOKEN_TYPES", DObj (PySem.strKind PW w) ettTab), ("b3_exceptions", DObj (intKind PW w) b3Tab), ("b1_set", b1P w)]
set_option maxHeartbeats 4000000 in
theorem walk_top (w : World) : Walks0 PW w topDefs topConsts (topObjs w) topNames := fun s mg mb c Pl F A Q ro hgn B X k => by
  obtain ⟨st3, e3⟩ : ∃ st3, PW.main.body[3]? = some st3 := ⟨_, b3_shape⟩
  obtain ⟨st61, e61⟩ : ∃ st61, PW.main.body[61]? = some st61 := ⟨_, ett_shape⟩
  have s3 := Option.some.inj (e3.symm.trans b3_shape)
  have s61 := Option.some.inj (e61.symm.trans ett_shape)
  rw [top_cut e3 e61]
  clear e3 e61
  have hsm : sysModules < s.heap.objs.size := Nat.lt_trans (by decide) B.g.lt
  refine wpAny_execs_cons ?_
  refine Mod.again X rfl (by decide) (by decide) ho0 lit_str ?_
  clear X; intro h0 m0 k0 X
  refine wpAny_execs_cons ?_
  refine Mod.assign_obj (P := b1P w) X rfl (by decide) (b1_hval ro.hd B (B.b.at fun o => X.keep _ o (Nat.ne_of_lt (Nat.lt_trans (by decide) X.main.low.2)) (by decide)) X (by decide)) ?_
  clear X; intro h1 m1 k1 X
  refine wpAny_execs_cons ?_
  refine Mod.def_plain (hnf := by kernel_rfl) X (fun _ => rfl) (by decide) rfl rfl (by decide) (by decide) ?_
  clear X; intro h2 m2 c2 k2 X
  refine wpAny_execs_cons ?_
  refine Mod.dictS (knd := intKind PW w) (kds := b3Tab) s3 X rfl (by decide) hsm b3_leaves b3_ne b3_nodup b3_len (by decide) rfl ?_
  clear X; intro h3 m3 k3 X
  refine wpAny_execs_cons ?_
  refine Mod.def_plain (hnf := by kernel_rfl) X (fun _ => rfl) (by decide) rfl rfl (by decide) (by decide) ?_
  clear X; intro h4 m4 c4 k4 X
  refine wpAny_execs_cons ?_
  refine Mod.again X rfl (by decide) (by decide) (ho2 (by decide) (by decide)) lit_str ?_
  clear X; intro h5 m5 k5 X
  refine wpAny_execs_cons ?_
  refine Mod.assign X rfl (by decide) lit_str ?_
  clear X; intro h6 m6 k6 X
  refine wpAny_execs_cons ?_
  refine Mod.def_plain (hnf := by kernel_rfl) X (fun _ => rfl) (by decide) rfl rfl (by decide) (by decide) ?_
  clear X; intro h7 m7 c7 k7 X
  refine wpAny_execs_cons ?_
  refine Mod.again X rfl (by decide) (by decide) (ho2 (by decide) (by decide)) lit_str ?_
  clear X; intro h8 m8 k8 X
  refine wpAny_execs_cons ?_
  refine Mod.def_plain (hnf := by kernel_rfl) X (fun _ => rfl) (by decide) rfl rfl (by decide) (by decide) ?_
  clear X; intro h9 m9 c9 k9 X
  refine wpAny_execs_cons ?_
  refine Mod.def_plain (hnf := by kernel_rfl) X (fun _ => rfl) (by decide) rfl rfl (by decide) (by decide) ?_
  clear X; intro h10 m10 c10 k10 X
  refine wpAny_execs_cons ?_
  refine Mod.again X rfl (by decide) (by decide) (ho2 (by decide) (by decide)) lit_str ?_
  clear X; intro h11 m11 k11 X
  show wpAny _ _ (execs ((PW.main.body.drop 12).take 49 ++ st61 :: PW.main.body.drop 62) _) _ _ _
  rw [ints_eq]
  refine Mod.ints rfl X (by kernel_rfl) ?_
  clear X; intro h60 m60 k60 X
  refine wpAny_execs_cons ?_
  refine Mod.dictS (knd := PySem.strKind PW w) (kds := ettTab) s61 X rfl (by decide +kernel) hsm (ett_leaves X (by kernel_rfl)) ett_ne ett_nodup ett_len (by decide) rfl ?_
  clear X; intro h61 m61 k61 X
  refine wpAny_execs_cons ?_
  refine Mod.def_plain (hnf := by kernel_rfl) X (fun _ => rfl) (by decide +kernel) rfl rfl (by decide +kernel) (by decide +kernel) ?_
  clear X; intro h62 m62 c62 k62 X
  refine wpAny_execs_cons ?_
  refine Mod.again X rfl (by decide +kernel) (by decide) (ho3 (by decide) (by decide) (by decide)) lit_str ?_
  clear X; intro h63 m63 k63 X
  refine wpAny_execs_cons ?_
  refine Mod.def_plain (hnf := by kernel_rfl) X (fun _ => rfl) (by decide +kernel) rfl rfl (by decide +kernel) (by decide +kernel) ?_
  clear X; intro h64 m64 c64 k64 X
  refine wpAny_execs_cons ?_
  refine Mod.def_plain (hnf := by kernel_rfl) X (fun _ => rfl) (by decide +kernel) rfl rfl (by decide +kernel) (by decide +kernel) ?_
  clear X; intro h65 m65 c65 k65 X
  refine wpAny_execs_cons ?_
  refine Mod.def_plain (hnf := by kernel_rfl) X (fun _ => rfl) (by decide +kernel) rfl rfl (by decide +kernel) (by decide +kernel) ?_
  clear X; intro h66 m66 c66 k66 X
  refine wpAny_execs_cons ?_
  refine Mod.def_plain (hnf := by kernel_rfl) X (fun _ => rfl) (by decide +kernel) rfl rfl (by decide +kernel) (by decide +kernel) ?_
  clear X; intro h67 m67 c67 k67 X
  refine wpAny_execs_cons ?_
  refine Mod.def_plain (hnf := by kernel_rfl) X (fun _ => rfl) (by decide +kernel) rfl rfl (by decide +kernel) (by decide +kernel) ?_
  clear X; intro h68 m68 c68 k68 X
  refine wpAny_execs_cons ?_
  refine Mod.def_plain (hnf := by kernel_rfl) X (fun _ => rfl) (by decide +kernel) rfl rfl (by decide +kernel) (by decide +kernel) ?_
  clear X; intro h69 m69 c69 k69 X
  refine wpAny_execs_cons ?_
  refine Mod.def_plain (hnf := by kernel_rfl) X (fun _ => rfl) (by decide +kernel) rfl rfl (by decide +kernel) (by decide +kernel) ?_
  clear X; intro h70 m70 c70 k70 X
  refine wpAny_execs_nil ?_
  exact k h70 m70 (psOf X) k70 (cast (by kernel_rfl) X)
end Mine
end

/-! H8 -/
section
open PySem PySem.Calls PyProof.Rows PySem.W
set_option maxRecDepth 100000
namespace Mine

def b1F (k : Int) : Bool := codesL.any (· == k)
def tabF {K : Type} [DecidableEq K] (l : List (K × Im)) (k : K) : Option Im := (l.find? fun p => decide (p.1 = k)).map (·.2)
abbrev b3F : Int → Option Im := tabF b3Tab
abbrev ettF : Str → Option Im := tabF ettTab

theorem optR_of {K : Type} [DecidableEq K] {kvs : List (K × Value)} {kds : List (K × Im)} (x : RelKV kvs kds) (k : K) : OptR (valueAt kvs k) (tabF kds k) := by
  induction x with
  | nil => trivial
  | @cons p q kvs kds r _ ih =>
    unfold valueAt tabF at *
    simp only [List.find?_cons]
    by_cases h : p.1 = k
    · have h2 : q.1 = k := r.1 ▸ h
      simp only [h, h2, decide_true, Option.map_some]
      exact r.2
    · have h2 : ¬ q.1 = k := r.1 ▸ h
      simp only [h, h2, decide_false]
      exact ih
theorem defs_plain : topDefs.all (fun d => d.params.defaults.isEmpty) = true := by decide +kernel
theorem eof_in : constTab.contains (("ENDMARKER" : Str), (0 : Int)) = true := by decide +kernel
theorem blt_names : (["len", "chr", "ord", "sum", "range", "list", "enumerate"] : List Str).all (fun x => !(topNames.contains x) && !(bootMainNames.contains x)) = true := by decide +kernel

theorem topT_of {w : World} {h₀ h h' : Heap} {mg₀ mg mb : Str → Option Value} {c Pl : Addr} {ps : Array Value} (X : Mod h₀ mg₀ c Pl h mg ps topDefs topConsts (topObjs w) topNames) (hsm : mainGlobals < h₀.objs.size)
    (hmg : ∀ x, x ∉ bootMainNames → mg₀ x = none) (hmb : ∀ x : Str, x ≠ "__name__" → mb x = bootBuiltins x) (gN : h'.Ns mainGlobals mg) (bN : h'.Ns builtinsNs mb) (lim : h'.NoLimit) (hk : Kept h h') :
    TopT ⟨PW, w, mg, mb, h', gN, bN, lim⟩ b1F b3F ettF := by
  have hs : ∀ a : Addr, h₀.objs.size ≤ a → (a == sysModules) = false := fun a ha => beq_eq_false_iff_ne.mpr fun e => by
    rw [e] at ha
    exact absurd hsm (Nat.not_lt.mpr (Nat.le_trans ha (by decide)))
  have blt : ∀ (x : Str) (f : Value), x ∈ (["len", "chr", "ord", "sum", "range", "list", "enumerate"] : List Str) → x ≠ "__name__" → bootBuiltins x = some f → GN ⟨PW, w, mg, mb, h', gN, bN, lim⟩ x f := fun x f hx hn hb => by
    have := List.all_eq_true.mp blt_names x hx
    simp only [Bool.and_eq_true, Bool.not_eq_true', List.contains_eq_mem, decide_eq_false_iff_not] at this
    exact .inr ⟨(X.others x this.1).trans (hmg x this.2), (hmb x hn).trans hb⟩
  exact {
    defs := ⟨fun k name ps' body sc b p hb => by
      have hm : (⟨name, ps', body, sc, p⟩ : DefItem) ∈ topDefs := List.mem_reverse.mpr (List.mem_filterMap.mpr ⟨_, List.mem_of_getElem? hb, rfl⟩)
      have hd := List.all_eq_true.mp defs_plain _ hm
      obtain ⟨a, c', o, pm, doc, _, _, h3, h4, h5, h6⟩ := (X.made _ hm).plain (List.isEmpty_iff.mp hd)
      exact ⟨a, h3, ⟨o, pm, .ref c', doc, hk _ _ h4, h5, h6.keeps hk⟩⟩⟩
    ell := by
      obtain ⟨v, h1, h2⟩ := X.bound (("ELLIPSIS_MARKER" : Str), .str "...") (List.mem_append_right _ (.head _))
      cases h2 h
      exact ⟨_, h1⟩
    eof := by
      have hm : (("ENDMARKER" : Str), (0 : Int)) ∈ constTab := by simpa using eof_in
      obtain ⟨v, h1, h2⟩ := X.bound (("ENDMARKER" : Str), .int 0) (List.mem_append_left _ (List.mem_reverse.mpr (List.mem_map.mpr ⟨_, hm, rfl⟩)))
      cases h2 h
      exact ⟨_, h1⟩
    b1s := by
      obtain ⟨a, o, h1, h2, h3, n, S, h4, es, ep, t, h5⟩ := X.held (("b1_set" : Str), b1P w) (.tail _ (.tail _ (.head _)))
      exact ⟨a, S, n, h2, ⟨o, es, ep, t, hk _ _ h3, h5⟩, h4⟩
    b3s := by
      obtain ⟨a, o, h1, h2, h3, es, ep, kvs, e1, e2, e3, e4, e5, e6⟩ := X.held (("b3_exceptions" : Str), DObj (intKind PW w) b3Tab) (.tail _ (.head _))
      exact ⟨a, valueAt kvs, h2, (show h'.DictOf (intKind PW w) a kvs from ⟨o, es, ep, hk _ _ h3, e1, e2, e3, e4, e5⟩).mapOf, optR_of e6, hs a h1⟩
    etts := by
      obtain ⟨a, o, h1, h2, h3, es, ep, kvs, e1, e2, e3, e4, e5, e6⟩ := X.held (("EXACT_TOKEN_TYPES" : Str), DObj (PySem.strKind PW w) ettTab) (.head _)
      exact ⟨a, valueAt kvs, h2, (show h'.DictOf (PySem.strKind PW w) a kvs from ⟨o, es, ep, hk _ _ h3, e1, e2, e3, e4, e5⟩).mapOf, optR_of e6, hs a h1⟩
    len := blt _ _ (by decide) (by decide) (by decide +kernel)
    chr := blt _ _ (by decide) (by decide) (by decide +kernel)
    ord := blt _ _ (by decide) (by decide) (by decide +kernel)
    sum := blt _ _ (by decide) (by decide) (by decide +kernel)
    range := blt _ _ (by decide) (by decide) (by decide +kernel)
    list := blt _ _ (by decide) (by decide) (by decide +kernel)
    enumerate := blt _ _ (by decide) (by decide) (by decide +kernel) }
end Mine
end

/-! H9 -/
section
open PySem PySem.Calls PyProof.Rows PySem.W
set_option maxRecDepth 100000
namespace Mine

theorem o_well : opensWell PW = true := by decide +kernel
theorem o_bare : PW.bare := ⟨rfl, rfl, rfl, rfl, rfl, by decide +kernel⟩
theorem o_laid : laidNames.all (fun x => !(topNames.contains x)) = true := by decide +kernel
theorem o_names : topNames.all (fun x => PW.boundNames.contains x) = true := by decide +kernel

/-- what the plain law gives -/
def PLaw : Prop := ∀ (W : Wd), TopT W b1F b3F ettF → ∀ s : List Int, s.length ≤ 63 → Cf W 12 "law" [.list (s.map It.int)] (.bool true)

theorem ints_of {R : WRecords} : ∀ {xs : List WData}, WShape.hasItems R xs .int = true → ∃ s : List Int, xs = s.map WData.int
  | [], _ => ⟨[], rfl⟩
  | x :: xs, h => by
    obtain ⟨h1, h2⟩ := Bool.and_eq_true_iff.mp h
    obtain ⟨i, rfl⟩ := hasW_int h1
    obtain ⟨s, rfl⟩ := ints_of h2
    exact ⟨i :: s, rfl⟩
theorem wellInts {P : Params} {h : Heap} : ∀ {s : List Int} {vs : List Value}, WellAll P h vs (s.map WData.int) → All2 (ItR h) vs (s.map It.int)
  | [], _, .nil => .nil
  | i :: s, _, .cons w r => by
    cases w
    exact .cons rfl (wellInts r)

abbrev RW2 : OpenLaw := PySem.Challenge.rw_sn0076_02
theorem pre63 {R : WRecords} {s : List Int} (h : RW2.row.pre.holds R { args := [.list (s.map WData.int)] } = true) : s.length ≤ 63 := by
  have e : RW2.row.pre = .and (.not (.lt (.lit (.int 63)) (.len (.arg 0)))) (.lit (.bool true)) := rfl
  rw [e] at h
  have hv : WTm.value R (.lt (.lit (.int 63)) (.len (.arg 0))) { args := [.list (s.map WData.int)] } = some (.bool (decide ((63 : Int) < ((s.map WData.int).length : Nat)))) := by kernel_rfl
  by_cases q : (63 : Int) < ((s.map WData.int).length : Nat)
  · exfalso
    rw [decide_eq_true q] at hv
    unfold WTm.holds at h
    have h2 : WTm.value R (.and (.not (.lt (.lit (.int 63)) (.len (.arg 0)))) (.lit (.bool true))) { args := [.list (s.map WData.int)] } = some (.bool false) := by
      have h3 : WTm.value R (.not (.lt (.lit (.int 63)) (.len (.arg 0)))) { args := [.list (s.map WData.int)] } = some (.bool false) := by
        rw [WTm.value, hv]; rfl
      rw [WTm.value, h3]
    rw [h2] at h
    cases h
  · rw [List.length_map] at q
    omega
theorem post_ok (s : List Int) : RW2.row.toRowW.claim.post [.list (s.map WData.int)] (.bool true) [.list (s.map WData.int)] = true := by kernel_rfl
theorem holds_of (pl : PLaw) (said : RW2.row.wellSaid = true) (pr : RW2.row.toRowW.promised) : RW2.row.Holds := by
  refine ⟨said, pr, ⟨o_bare, o_well, rfl⟩, pr.witness, fun w => ?_⟩
  obtain ⟨ex, left⟩ := boot_left (p := PW) (w := w) rfl rfl
  refine ⟨ex, fun s hs => ?_⟩
  obtain ⟨hg, mg, mb, B⟩ := left s hs
  have hz : s.asleep := AfterImport.life hs
  obtain ⟨s₁, hT, hE⟩ := top_ran (p := PW) (w := w) rfl rfl rfl (fun x hx => by simpa using List.all_eq_true.mp o_names x hx) (fun x hx => by simpa using List.all_eq_true.mp o_laid x hx) (walk_top w) B hg hz
  obtain ⟨h₀, mg₀, c, Pl, mg1, mb1, ps, X, bN, hmb, hmg, lim, hsm⟩ := hE.ex
  have gN := X.main.g
  have T₁ : TopT ⟨PW, w, mg1, mb1, s₁.heap, gN, bN, lim⟩ b1F b3F ettF := topT_of X hsm hmg hmb gN bN lim (.refl _)
  refine ⟨s, rfl, hg, s₁, hT, fun n hn => ?_, fun x hx => (nomatch hx), fun x hx => (nomatch hx), ?_⟩
  · have hn' : n = "law" := by
      have : n ∈ [RW2.row.name] := hn
      exact List.mem_singleton.mp this
    subst hn'
    obtain ⟨a, ha, F⟩ := T₁.defs.fn kLaw _ _ _ _ _ _ rfl
    obtain ⟨o, pm, cd, doc, ho, hd, hc⟩ := F.ex
    exact ⟨a, o, _, _, _, _, (globalOf_ns gN _).trans ha, ho, hd, by kernel_rfl, rfl, rfl, rfl, rfl, rfl, rfl, rfl, rfl, .inl ⟨rfl, rfl⟩, [], rfl, .inl ⟨rfl, rfl⟩⟩
  · have hT' := hT
    refine ClaimW.callFrom_of_specG (c := RW2.row.toRowW.claim) hE.z hE.gens fun args hpre hlay ord hord => ?_
    obtain ⟨⟨vs, s₂⟩, hlaid⟩ := Option.isSome_iff_exists.mp (layAllW_isSome (P := w.params) (ord := ord) (R := []) (cl := classAt s₁.heap) (fun c hc => by cases hc) args [.list .int] s₁ (pre_splitW hpre).1)
    have keeps := layAllW_keeps _ _ _ hlaid
    have hal := layAllW_rest _ _ _ hlaid
    obtain ⟨as, hrd, hin, hold⟩ := reads_layAllW hord _ _ _ hlaid hlay s₂.heap (fun _ _ e => e)
    have L : Laid [] w s₁ s₂ args vs as := ⟨⟨ord, hord, hlaid⟩, hrd, hin, hold, keeps, hal.1.trans hE.gens, hal.2.2.1⟩
    have hw := L.well
    obtain ⟨d, r, rfl, hd, hr⟩ := hasAllW_cons (pre_splitW hpre).1
    obtain rfl := hasAllW_nil hr
    obtain ⟨xs, rfl, hxs⟩ := hasW_list hd
    obtain ⟨sc, rfl⟩ := ints_of hxs
    have h63 := pre63 (pre_splitW hpre).2
    obtain ⟨v, vs', rfl, hv, hvs'⟩ := wellAll_cons_inv hw
    cases hvs'
    have gN2 := gN.keeps keeps
    have T₂ : TopT ⟨PW, w, mg1, mb1, s₂.heap, gN2, bN.keeps keeps, lim.keeps keeps⟩ b1F b3F ettF := topT_of X hsm hmg hmb gN2 (bN.keeps keeps) (lim.keeps keeps) keeps
    obtain ⟨f, o, fd, hf, ho, hfd, hop⟩ := pl _ T₂ sc h63
    have ra : PVR s₂.heap v (.list (sc.map It.int)) := by
      cases hv with
      | list hget hall => exact ⟨_, _, _, rfl, hget, by simpa using wellInts hall⟩
    refine ⟨_, s₂, hlaid, ?_⟩
    refine wpAny_bind (wpAny_nsGet gN2 ?_)
    rw [show mg1 RW2.row.toRowW.name = some (.ref f) from hf]
    refine wpAny_bind (hop.run callerA s₂ [v] _ _ ⟨rfl, by decide, by decide⟩ (GA.start _) (.cons ra .nil) fun u s₃ e3 r3 _ => wpAny_pure ?_)
    obtain rfl := pv_bool r3
    obtain ⟨h3, t3, g3, rfl, l3, rfl, hl3⟩ := e3.same
    have g : GoodWG RW2.row.toRowW.claim (classAt s₁.heap) (ExcName.means s₁.heap) [.list (sc.map WData.int)] s₂ (.ok (.ret (.bool true))) _ :=
      ⟨.inl ⟨.bool true, .bool true, [], rfl, fun _ => rfl, .bool true, post_ok sc, fun _ => ⟨List.nodup_nil, fun a ha => (by cases ha)⟩⟩, .of_keep e3.kept, rfl, fun y hy => by
        have hy' : y ∈ s₂.gens ++ l3.toArray := hy
        rw [L.gens] at hy'
        have : y ∈ l3 := by simpa using hy'
        rw [hl3 y this]; rfl⟩
    have z := g.laid (c := RW2.row.toRowW.claim) rfl rfl (ident_freeW rfl rfl rfl) L
    exact ⟨_, rfl, z.1, z.2.1, z.2.2, fun q => by cases q⟩
end Mine
end

/-! P1 -/
section
set_option maxRecDepth 100000
namespace Mine

/-- what is left outside of quotation marks, and the state behind -/
def strip : Bool → Bool → List Nat → List Nat × Bool × Bool
  | e, o, [] => ([], e, o)
  | true, o, c :: r => let q := strip false o r; (if o then q.1 else c :: q.1, q.2)
  | false, o, c :: r => if c = 34 then strip false (!o) r else let q := strip (decide (c = 92)) o r; (if o then q.1 else c :: q.1, q.2)
theorem strip_append : ∀ (a : List Nat) (e o : Bool) (b : List Nat), strip e o (a ++ b) = ((strip e o a).1 ++ (strip (strip e o a).2.1 (strip e o a).2.2 b).1, (strip (strip e o a).2.1 (strip e o a).2.2 b).2)
  | [], e, o, b => by simp [strip]
  | c :: r, true, o, b => by
    simp only [List.cons_append, strip, strip_append r false o b]
    cases o <;> simp
  | c :: r, false, o, b => by
    simp only [List.cons_append, strip]
    by_cases h : c = 34
    · rw [if_pos h, if_pos h, strip_append r false (!o) b]
    · rw [if_neg h, if_neg h, strip_append r _ o b]
      cases o <;> simp
theorem strip_plain : ∀ (t : List Nat) (e : Bool), 34 ∉ t → (strip e false t).1 = t
  | [], e, _ => by simp [strip]
  | c :: r, true, h => by
    simp only [strip, Bool.false_eq_true, if_false]
    rw [strip_plain r false (fun hm => h (.tail _ hm))]
  | c :: r, false, h => by
    have hc : c ≠ 34 := fun e => h (e ▸ .head _)
    simp only [strip, if_neg hc, Bool.false_eq_true, if_false]
    rw [strip_plain r _ (fun hm => h (.tail _ hm))]

theorem sq_mid (t : List Nat) : ∀ (r : List Nat) (e : Bool) (p i : Nat) (st : Nat) (op : Option Nat) (acc : List (List Nat)), t.drop i = r → i ≤ t.length → st ≤ i → (∀ o, op = some o → st ≤ o ∧ o < i) →
    (strip e op.isSome r).2.2 = false →
    (sqEnd t (sqLoop t (esc e p i r) st op acc)).flatten = acc.flatten ++ (match op with | none => (t.take i).drop st | some o => (t.take o).drop st) ++ (strip e op.isSome r).1 := by
  intro r
  induction r with
  | nil =>
    intro e p i st op acc hd hi hst hop hc
    have hi' : i = t.length := by
      have : (t.drop i).length = 0 := by rw [hd]; rfl
      rw [List.length_drop] at this; omega
    cases op with
    | some o => simp [strip] at hc
    | none =>
      have e1 : sqLoop t (esc e p i []) st none acc = (st, acc) := by
        cases e <;> simp [esc, sqLoop]
      rw [e1, hi', List.take_length]
      unfold sqEnd
      by_cases h : st < t.length
      · simp [h, strip]
      · have : t.drop st = [] := List.drop_of_length_le (by omega)
        simp [h, strip, this]
  | cons c r ih =>
    intro e p i st op acc hd hi hst hop hc
    have hlt : i < t.length := by
      have : (t.drop i).length = r.length + 1 := by rw [hd]; rfl
      rw [List.length_drop] at this; omega
    have hd1 : t.drop (i + 1) = r := by rw [← List.drop_drop (i := 1) (j := i), hd]; rfl
    have hc1 : t[i]? = some c := by
      have := congrArg (fun l => l[0]?) hd
      simpa using this
    have htk : st ≤ i → (t.take (i + 1)).drop st = (t.take i).drop st ++ [c] := fun h => by
      rw [List.take_add_one, hc1, List.drop_append_of_le_length (by rw [List.length_take]; omega)]
      rfl
    have hnx : ∀ o, op = some o → st ≤ o ∧ o < i + 1 := fun o h => by have := hop o h; omega
    cases e with
    | true =>
      have e1 : sqLoop t (esc true p i (c :: r)) st op acc = sqLoop t (esc false i (i + 1) r) st op acc := by
        simp [esc, sqLoop]
      rw [e1]
      have hc' : (strip false op.isSome r).2.2 = false := by simpa [strip] using hc
      rw [ih false i (i + 1) st op acc hd1 hlt (by omega) hnx hc']
      cases op with
      | none => simp [strip, htk hst]
      | some o => simp [strip]
    | false =>
      by_cases h34 : c = 34
      · subst h34
        have hc' : (strip false (!op.isSome) r).2.2 = false := by simpa [strip] using hc
        have e0 : esc false p i (34 :: r) = (i, [34]) :: esc false i (i + 1) r := by simp [esc]
        rw [e0]
        cases op with
        | none =>
          have e1 : sqLoop t ((i, [34]) :: esc false i (i + 1) r) st none acc = sqLoop t (esc false i (i + 1) r) st (some i) acc := by simp [sqLoop]
          rw [e1, ih false i (i + 1) st (some i) acc hd1 hlt (by omega) (fun o h => by cases h; omega) hc']
          simp [strip]
        | some o =>
          have e1 : sqLoop t ((i, [34]) :: esc false i (i + 1) r) st (some o) acc = sqLoop t (esc false i (i + 1) r) (i + 1) none (if st = o then acc else acc ++ [(t.take o).drop st]) := by simp [sqLoop]
          rw [e1, ih false i (i + 1) (i + 1) none _ hd1 hlt (Nat.le_refl _) (fun o h => by cases h) hc']
          have e2 : (t.take (i + 1)).drop (i + 1) = [] := List.drop_of_length_le (by rw [List.length_take]; omega)
          have e3 : (if st = o then acc else acc ++ [(t.take o).drop st]).flatten = acc.flatten ++ (t.take o).drop st := by
            by_cases h : st = o
            · have : (t.take o).drop o = [] := List.drop_of_length_le (by rw [List.length_take]; omega)
              subst h; simp [this]
            · simp [h]
          rw [e3]
          simp [strip, e2]
      · have hc' : (strip (decide (c = 92)) op.isSome r).2.2 = false := by simpa [strip, h34] using hc
        have e1 : ∃ q, sqLoop t (esc false p i (c :: r)) st op acc = sqLoop t (esc (decide (c = 92)) q (i + 1) r) st op acc := by
          by_cases h92 : c = 92
          · exact ⟨i, by simp [esc, h92]⟩
          · refine ⟨i, ?_⟩
            have : ([c] : List Nat) ≠ [34] := by simpa using h34
            simp [esc, h92, sqLoop, this]
        obtain ⟨q, e1⟩ := e1
        rw [e1, ih _ q (i + 1) st op acc hd1 hlt (by omega) hnx hc']
        cases op with
        | none => simp [strip, h34, htk hst]
        | some o => simp [strip, h34]
theorem sq_strip {t : List Nat} (h : (strip false false t).2.2 = false) : sq t = (strip false false t).1 := by
  unfold sq
  split
  · have := sq_mid t t false 0 0 0 none [] rfl (Nat.zero_le _) (Nat.le_refl _) (fun o h => by cases h) h
    rw [this]; simp
  · rename_i hm
    rw [strip_plain t false hm]
end Mine
end

/-! P2 -/
section
set_option maxRecDepth 100000
open PySem
namespace Mine

def pc (c : Nat) : List Nat := if b1F (c : Int) then [] else L (m3 b3F c)
theorem prepL_flat (t : List Nat) : prepL b1F b3F t = t.flatMap pc := by
  unfold prepL
  induction t with
  | nil => rfl
  | cons c r ih =>
    rw [List.flatMap_cons, ← ih]
    unfold pc
    by_cases h : b1F (c : Int) = true
    · simp [h]
    · simp [h]
/-- the signs that items spell, and what they become -/
def signs : List (Nat × List Nat) := [(34, [34]), (92, [92]), (42, [42]), (47, [47]), (102, [102]), (105, [105]), (64256, [102, 102]), (64257, [102, 105]), (64259, [102, 102, 105]), (64261, [115, 116]),
  (70, [102]), (119813, [102]), (119868, [105]), (7838, [223]), (304, [105, 775]), (8119, [945, 834, 953]), (962, [963]), (1040, [1072]), (223, [115, 115])]
theorem signs_ok : signs.all (fun p => pc p.1 == p.2) = true := by decide +kernel
theorem unseen_ok : codesL.all (fun c => decide (0 ≤ c) && (pc c.toNat == [])) = true := by decide +kernel
end Mine
end

/-! P3 -/
section
set_option maxRecDepth 100000
open PySem
namespace Mine

def letters : List Nat := [42, 47, 102, 105, 115, 116, 223, 775, 945, 834, 953, 963, 1072]
def fp (c : Nat) : List Nat := (signs.lookup c).getD []
def usedOk (c : Nat) : Bool := (signs.lookup c).isSome || codesL.contains (c : Int)
theorem pc_eq {c : Nat} (h : usedOk c = true) : pc c = fp c := by
  unfold fp
  cases hl : signs.lookup c with
  | some l =>
    have hm : (c, l) ∈ signs := by
      have : ∀ {m : List (Nat × List Nat)}, m.lookup c = some l → (c, l) ∈ m := by
        intro m
        induction m with
        | nil => intro h; simp at h
        | cons p r ih =>
          obtain ⟨a, b⟩ := p
          intro h
          simp only [List.lookup_cons] at h
          split at h
          · rename_i q
            have : c = a := by simpa using q
            subst this; cases h; exact .head _
          · exact .tail _ (ih h)
      exact this hl
    have := List.all_eq_true.mp signs_ok _ hm
    simpa using this
  | none =>
    unfold usedOk at h
    rw [hl] at h
    have hm : (c : Int) ∈ codesL := by simpa using h
    have := List.all_eq_true.mp unseen_ok _ hm
    simp only [Bool.and_eq_true, beq_iff_eq] at this
    simpa using this.2
theorem prep_used {t : List Nat} (h : t.all usedOk = true) : prepL b1F b3F t = t.flatMap fp := by
  rw [prepL_flat]
  induction t with
  | nil => rfl
  | cons c r ih =>
    simp only [List.all_cons, Bool.and_eq_true] at h
    rw [List.flatMap_cons, List.flatMap_cons, pc_eq h.1, ih h.2]

def check (p : List Nat × List Nat) : Bool := decide (p.1.length ≤ 32) && decide (p.2.length ≤ 3) && p.1.all usedOk && (strip false false (p.1.flatMap fp) == (p.2, false, false)) && p.2.all letters.contains
def it0 (u a c b : Nat) : List Nat × List Nat :=
    (joinL ([uns u, [34] ++ [[42, 47].getD a 0] ++ [34], [34, 92] ++ uns u ++ [34, 34]].getD b []) (List.replicate (1 + c) [[42, 47].getD a 0]) ++ uns u,
      List.replicate (1 + c) ([42, 47].getD a 0))
def it1 (u l : Nat) : List Nat × List Nat := ([[64256, 64257, 64259, 64261].getD l 0] ++ uns u, [[102, 102], [102, 105], [102, 102, 105], [115, 116]].getD l [])
def it2 (u s : Nat) : List Nat × List Nat :=
    ([[105], [70], [119813], [119868], [7838], [304], [8119], [962], [1040], [223]].getD s [] ++ uns u,
      [[105], [102], [102], [105], [223], [105, 775], [945, 834, 953], [963], [1072], [115, 115]].getD s [])
def it3 (u h a : Nat) : List Nat × List Nat :=
    ([34] ++ [[], [102], [92] ++ uns u ++ [34], [92, 92]].getD h [] ++ [34] ++ [[102, 105].getD a 0] ++ uns u, [[102, 105].getD a 0])
theorem chk0 : ∀ (u : Fin 28) (a : Fin 2) (c : Fin 3) (b : Fin 3), check (it0 u a c b) = true := by decide +kernel
theorem chk1 : ∀ (u : Fin 28) (l : Fin 4), check (it1 u l) = true := by decide +kernel
theorem chk2 : ∀ (u : Fin 28) (s : Fin 10), check (it2 u s) = true := by decide +kernel
theorem chk3 : ∀ (u : Fin 28) (h : Fin 4) (a : Fin 2), check (it3 u h a) = true := by decide +kernel
theorem item_check (x : Int) : check (itemL x) = true := by
  have d : ∀ (c k : Nat), 0 < k → dm x c k < k := fun c k hk => dm_lt x c hk
  unfold itemL
  split
  · exact chk0 ⟨_, d 4 28 (by decide)⟩ ⟨_, d 112 2 (by decide)⟩ ⟨_, d 224 3 (by decide)⟩ ⟨_, d 672 3 (by decide)⟩
  · split
    · exact chk1 ⟨_, d 4 28 (by decide)⟩ ⟨_, d 112 4 (by decide)⟩
    · split
      · exact chk2 ⟨_, d 4 28 (by decide)⟩ ⟨_, d 112 10 (by decide)⟩
      · exact chk3 ⟨_, d 4 28 (by decide)⟩ ⟨_, d 224 4 (by decide)⟩ ⟨_, d 112 2 (by decide)⟩
theorem check_parts {p : List Nat × List Nat} (h : check p = true) : p.1.length ≤ 32 ∧ p.2.length ≤ 3 ∧ p.1.all usedOk = true ∧ strip false false (p.1.flatMap fp) = (p.2, false, false) ∧ p.2.all letters.contains = true := by
  simp only [check, Bool.and_eq_true, decide_eq_true_eq, beq_iff_eq] at h
  exact ⟨h.1.1.1.1, h.1.1.1.2, h.1.1.2, h.1.2, h.2⟩
/-- stripped, the prepared text is the plain text -/
theorem items_strip : ∀ (ps : List (List Nat × List Nat)), (∀ p ∈ ps, check p = true) → (ps.map (·.1)).flatten.all usedOk = true ∧ strip false false ((ps.map (·.1)).flatten.flatMap fp) = ((ps.map (·.2)).flatten, false, false) ∧ (ps.map (·.2)).flatten.all letters.contains = true
  | [], _ => ⟨rfl, rfl, rfl⟩
  | p :: r, h => by
    obtain ⟨_, _, h1, h2, h3⟩ := check_parts (h p (.head _))
    obtain ⟨i1, i2, i3⟩ := items_strip r fun q hq => h q (.tail _ hq)
    refine ⟨?_, ?_, ?_⟩
    · simp only [List.map_cons, List.flatten_cons, List.all_append, h1, i1, Bool.and_self]
    · simp only [List.map_cons, List.flatten_cons, List.flatMap_append]
      rw [strip_append, h2]
      simp only [i2]
    · simp only [List.map_cons, List.flatten_cons, List.all_append, h3, i3, Bool.and_self]
theorem items_sq (ps : List (List Nat × List Nat)) (h : ∀ p ∈ ps, check p = true) : sq (prepL b1F b3F (ps.map (·.1)).flatten) = (ps.map (·.2)).flatten := by
  obtain ⟨i1, i2, _⟩ := items_strip ps h
  rw [prep_used i1, sq_strip (by rw [i2]), i2]
end Mine
end

/-! P4 -/
section
set_option maxRecDepth 100000
open PySem
namespace Mine

def four : List (List Nat) := [[42], [47], [42, 42], [47, 47]]
theorem tab_four : ettTab.all (fun p => !((L p.1).all letters.contains) || four.contains (L p.1)) = true := by decide +kernel
theorem tab_num : ettTab.all (fun p => match p.2 with | .int i => decide (0 < i) && decide (i < 100) | _ => false) = true := by decide +kernel
theorem tab_str : b3Tab.all (fun p => match p.2 with | .str x => decide (x.length ≤ 4) | _ => false) = true := by decide +kernel
theorem tabF_mem {K : Type} [DecidableEq K] {l : List (K × Im)} {k : K} {a : Im} (h : tabF l k = some a) : (k, a) ∈ l := by
  unfold tabF at h
  obtain ⟨p, hp, rfl⟩ := Option.map_eq_some_iff.mp h
  have h1 := List.mem_of_find?_eq_some hp
  have h2 := List.find?_some hp
  have h3 : p.1 = k := by simpa using h2
  subst h3; exact h1
theorem ettOk : EttOk ettF := fun k a h => by
  have := List.all_eq_true.mp tab_num _ (tabF_mem h)
  cases a with
  | int i =>
    simp only [Bool.and_eq_true, decide_eq_true_eq] at this
    exact ⟨i, rfl, this.1, this.2⟩
  | _ => simp at this
theorem b3Ok : B3ok b3F := fun k a h => by
  have := List.all_eq_true.mp tab_str _ (tabF_mem h)
  cases a with
  | str x =>
    simp only [decide_eq_true_eq] at this
    exact ⟨x, rfl, this⟩
  | _ => simp at this
theorem num_zero {x : List Nat} (hx : x.all letters.contains = true) (h : x ∉ four) : num ettF x = 0 := by
  unfold num
  cases hc : ettF (S x) with
  | none => rfl
  | some a =>
    have := List.all_eq_true.mp tab_four _ (tabF_mem hc)
    rw [L_S, hx] at this
    simp only [Bool.not_true, Bool.false_or] at this
    exact absurd (by simpa using this) h
theorem num1 : num ettF [42] = 16 ∧ num ettF [47] = 17 ∧ num ettF [42, 42] = 35 ∧ num ettF [47, 47] = 47 := by decide +kernel

def wd (y : List Nat) : List Nat := wordL ettF y.length y
def pl (y : List Nat) : List Nat := plainL y.length y
theorem all_take {x : List Nat} (h : x.all letters.contains = true) (k : Nat) : (x.take k).all letters.contains = true := by
  rw [List.all_eq_true] at h ⊢
  exact fun c hc => h c (List.mem_of_mem_take hc)
theorem wd_step {y : List Nat} (hne : y ≠ []) : wd y = (if num ettF (y.take (tokSize ettF y)) = 0 then y.take (tokSize ettF y) else [(256 + num ettF (y.take (tokSize ettF y))).toNat]) ++ wd (y.drop (tokSize ettF y)) := wordL_step hne
theorem wd_letter {c : Nat} {r : List Nat} (hc : c ≠ 42 ∧ c ≠ 47) (h : (c :: r).all letters.contains = true) : wd (c :: r) = c :: wd r := by
  have z : ∀ k, 0 < k → num ettF ((c :: r).take k) = 0 := fun k hk => num_zero (all_take h k) fun hm => by
    obtain ⟨j, rfl⟩ : ∃ j, k = j + 1 := ⟨k - 1, by omega⟩
    simp only [four, List.take_succ_cons, List.mem_cons, List.not_mem_nil, or_false, List.cons.injEq] at hm
    omega
  have ht : tokSize ettF (c :: r) = 1 := by
    unfold tokSize
    rw [if_neg (by rw [z 3 (by decide)]; simp), if_neg (by rw [z 2 (by decide)]; simp)]
  rw [wd_step (by simp), ht, z 1 (by decide)]
  simp
theorem wd_pair {s q : Nat} {m : Int} (hs : s = 42 ∨ s = 47) (hm : num ettF [s, s] = m) (h0 : m ≠ 0) (hq : (256 + m).toNat = q) {r : List Nat} (h : (s :: s :: r).all letters.contains = true) : wd (s :: s :: r) = q :: wd r := by
  cases r with
  | nil =>
    have ht : tokSize ettF [s, s] = 3 := by
      unfold tokSize
      rw [if_pos (by show num ettF [s, s] ≠ 0; rw [hm]; exact h0)]
    rw [wd_step (by simp), ht]
    show (if num ettF [s, s] = 0 then [s, s] else [(256 + num ettF [s, s]).toNat]) ++ wd [] = _
    rw [hm, if_neg h0, hq]; rfl
  | cons d r =>
    have z : num ettF ((s :: s :: d :: r).take 3) = 0 := num_zero (all_take h 3) (by simp [four])
    have ht : tokSize ettF (s :: s :: d :: r) = 2 := by
      unfold tokSize
      rw [if_neg (by rw [z]; simp), if_pos (by show num ettF [s, s] ≠ 0; rw [hm]; exact h0)]
    rw [wd_step (by simp), ht]
    show (if num ettF [s, s] = 0 then [s, s] else [(256 + num ettF [s, s]).toNat]) ++ wd (d :: r) = _
    rw [hm, if_neg h0, hq]; rfl
theorem wd_one {s q : Nat} {m : Int} (hs : s = 42 ∨ s = 47) (hm : num ettF [s] = m) (h0 : m ≠ 0) (hq : (256 + m).toNat = q) {r : List Nat} (h : (s :: r).all letters.contains = true) (hr : r.head? ≠ some s) : wd (s :: r) = q :: wd r := by
  cases r with
  | nil =>
    have ht : tokSize ettF [s] = 3 := by
      unfold tokSize
      rw [if_pos (by show num ettF [s] ≠ 0; rw [hm]; exact h0)]
    rw [wd_step (by simp), ht]
    show (if num ettF [s] = 0 then [s] else [(256 + num ettF [s]).toNat]) ++ wd [] = _
    rw [hm, if_neg h0, hq]; rfl
  | cons d r =>
    have hd : d ≠ s := fun e => hr (by rw [e]; rfl)
    have z : ∀ k, 2 ≤ k → num ettF ((s :: d :: r).take k) = 0 := fun k hk => num_zero (all_take h k) fun hmm => by
      obtain ⟨j, rfl⟩ : ∃ j, k = j + 2 := ⟨k - 2, by omega⟩
      simp only [four, List.take_succ_cons, List.mem_cons, List.not_mem_nil, or_false, List.cons.injEq, reduceCtorEq, and_false, false_or] at hmm
      omega
    have ht : tokSize ettF (s :: d :: r) = 1 := by
      unfold tokSize
      rw [if_neg (by rw [z 3 (by decide)]; simp), if_neg (by rw [z 2 (by decide)]; simp)]
    rw [wd_step (by simp), ht]
    show (if num ettF [s] = 0 then [s] else [(256 + num ettF [s]).toNat]) ++ wd (d :: r) = _
    rw [hm, if_neg h0, hq]; rfl
theorem all_rep {k c : Nat} {z : List Nat} (h : (List.replicate (k + 1) c ++ z).all letters.contains = true) : (List.replicate k c ++ z).all letters.contains = true := by
  simp only [List.replicate_succ, List.cons_append, List.all_cons, Bool.and_eq_true] at h
  exact h.2
theorem wd_letters {c : Nat} (hc : c ≠ 42 ∧ c ≠ 47) {z : List Nat} : ∀ k, (List.replicate k c ++ z).all letters.contains = true → wd (List.replicate k c ++ z) = List.replicate k c ++ wd z
  | 0, _ => rfl
  | k + 1, h => by
    have h' := all_rep h
    rw [List.replicate_succ, List.cons_append] at h ⊢
    rw [wd_letter hc h, wd_letters hc k h']; rfl
theorem wd_marks {s q p : Nat} {m1 m2 : Int} (hs : s = 42 ∨ s = 47) (hm1 : num ettF [s] = m1) (h1 : m1 ≠ 0) (hq : (256 + m1).toNat = q) (hm2 : num ettF [s, s] = m2) (h2 : m2 ≠ 0) (hp : (256 + m2).toNat = p) {z : List Nat} (hz : z.head? ≠ some s) :
    ∀ n k, k ≤ n → (List.replicate k s ++ z).all letters.contains = true → wd (List.replicate k s ++ z) = List.replicate (k / 2) p ++ List.replicate (k % 2) q ++ wd z
  | _, 0, _, _ => by simp
  | _, 1, _, h => by
    have : wd (s :: z) = q :: wd z := wd_one hs hm1 h1 hq h hz
    simpa using this
  | 0, k + 2, hk, _ => by omega
  | n + 1, k + 2, hk, h => by
    have h' := all_rep (all_rep h)
    rw [List.replicate_succ, List.replicate_succ, List.cons_append, List.cons_append] at h ⊢
    rw [wd_pair hs hm2 h2 hp h, wd_marks hs hm1 h1 hq hm2 h2 hp hz n k (by omega) h']
    have e1 : (k + 2) / 2 = k / 2 + 1 := by omega
    have e2 : (k + 2) % 2 = k % 2 := by omega
    rw [e1, e2, List.replicate_succ]; rfl
theorem run_split (c : Nat) : ∀ r : List Nat, ∃ z, r = List.replicate (r.takeWhile (· == c)).length c ++ z ∧ z.head? ≠ some c
  | [] => ⟨[], rfl, by simp⟩
  | d :: r => by
    by_cases h : d = c
    · subst h
      obtain ⟨z, h1, h2⟩ := run_split d r
      refine ⟨z, ?_, h2⟩
      simp only [List.takeWhile_cons, beq_self_eq_true, if_true, List.length_cons, List.replicate_succ, List.cons_append]
      rw [← h1]
    · have : (d == c) = false := by simpa using h
      exact ⟨d :: r, by simp [this], by simpa using h⟩
theorem word_plain : ∀ (n : Nat) (y : List Nat), y.length ≤ n → y.all letters.contains = true → wd y = pl y
  | _, [], _, _ => rfl
  | 0, c :: r, h, _ => by simp at h
  | n + 1, c :: r, h, ha => by
    obtain ⟨z, h1, h2⟩ := run_split c r
    have hk : runN (c :: r) = (r.takeWhile (· == c)).length + 1 := by simp only [runN]; omega
    generalize hK : (r.takeWhile (· == c)).length = k at *
    have e : c :: r = List.replicate (k + 1) c ++ z := by rw [List.replicate_succ, List.cons_append, ← h1]
    have hz : (c :: r).drop (k + 1) = z := by rw [e, List.drop_left' (by simp)]
    have hzl : z.length ≤ n := by
      rw [← hz, List.length_drop]; simp only [List.length_cons] at h ⊢; omega
    have hza : z.all letters.contains = true := by
      rw [e, List.all_append, Bool.and_eq_true] at ha; exact ha.2
    have ih := word_plain n z hzl hza
    have ps : pl (c :: r) = plainHd (c :: r) ++ pl z := by
      have := plainL_step (y := c :: r) (by simp)
      rw [hk, hz] at this; exact this
    rw [ps, ← ih]
    have hh : (c :: r).head? = some c := rfl
    obtain ⟨n1, n2, n3, n4⟩ := num1
    rw [e] at ha
    unfold plainHd
    rw [hk, hh]
    by_cases h42 : c = 42
    · subst h42
      rw [if_pos rfl, e, wd_marks (.inl rfl) n1 (by decide) rfl n3 (by decide) rfl h2 _ _ (Nat.le_refl _) ha]; rfl
    · by_cases h47 : c = 47
      · subst h47
        rw [if_neg (by simp), if_pos rfl, e, wd_marks (.inr rfl) n2 (by decide) rfl n4 (by decide) rfl h2 _ _ (Nat.le_refl _) ha]; rfl
      · rw [if_neg (by simpa using h42), if_neg (by simpa using h47), e, wd_letters ⟨h42, h47⟩ _ ha]
        rw [List.take_left' (by simp)]
end Mine
end

/-! P5 -/
section
namespace Mine

/-! words by places -/
def PalF (f : Nat → Nat) (i k : Nat) : Prop := ∀ t, t < k - i → f (i + t) = f (k - 1 - t)
def EqF (f : Nat → Nat) (i j n : Nat) : Prop := ∀ t, t < n → f (i + t) = f (j + t)
section
variable {f : Nat → Nat}
theorem at_eq {a b : Nat} (h : a = b) : f a = f b := by rw [h]
theorem EqF.symm {i j n : Nat} (h : EqF f i j n) : EqF f j i n := fun t ht => (h t ht).symm
theorem EqF.trans {i j l n : Nat} (h : EqF f i j n) (g : EqF f j l n) : EqF f i l n := fun t ht => (h t ht).trans (g t ht)
/-- a shorter palindromic ending stands at the longer one's beginning -/
theorem pal_begin {i i' k : Nat} (h : PalF f i k) (h' : PalF f i' k) (hi : i ≤ i') (hk : i' ≤ k) : EqF f i' i (k - i') := fun t ht =>
  (h' t ht).trans (h t (by omega)).symm
theorem pal_copy {i j n : Nat} (h : PalF f i (i + n)) (e : EqF f i j n) : PalF f j (j + n) := fun t ht => by
  have h1 := h t (by omega)
  have h2 := e t (by omega)
  have h3 := e (n - 1 - t) (by omega)
  have e1 : f (i + n - 1 - t) = f (i + (n - 1 - t)) := at_eq (by omega)
  have e2 : f (j + n - 1 - t) = f (j + (n - 1 - t)) := at_eq (by omega)
  rw [← h2, h1, e1, h3, e2]
/-- two that overlap make one -/
theorem pal_over {i i0 e n : Nat} (hn : e = i0 + n) (hi : i < i0) (ho : i0 ≤ i + n) (hp : PalF f i0 e) (he : EqF f i i0 n) : PalF f i e := by
  have key : ∀ t, t < n → f (i + t) = f (e - 1 - t) := fun t ht => (he t ht).trans (hp t (by omega))
  intro t ht
  by_cases h : t < n
  · exact key t h
  · have h2 := key (e - 1 - i - t) (by omega)
    have e1 : f (i + (e - 1 - i - t)) = f (e - 1 - t) := at_eq (by omega)
    have e2 : f (e - 1 - (e - 1 - i - t)) = f (i + t) := at_eq (by omega)
    rw [e1, e2] at h2
    exact h2.symm

/-- the longest palindromic ending -/
def Longest (f : Nat → Nat) (i0 e : Nat) : Prop := i0 < e ∧ PalF f i0 e ∧ ∀ i, i < i0 → ¬ PalF f i e
theorem last_least {P : Nat → Prop} (n : Nat) (h : P n) : ∃ m, m ≤ n ∧ P m ∧ ∀ i, i < m → ¬ P i := by
  induction n using Nat.strongRecOn with
  | ind n ih =>
    by_cases q : ∃ m, m < n ∧ P m
    · obtain ⟨m, hm, hp⟩ := q
      obtain ⟨l, h1, h2, h3⟩ := ih m hm hp
      exact ⟨l, by omega, h2, h3⟩
    · exact ⟨n, Nat.le_refl _, h, fun i hi hp => q ⟨i, hi, hp⟩⟩
theorem longest_ex {e : Nat} (he : 0 < e) : ∃ i0, Longest f i0 e := by
  have h1 : PalF f (e - 1) e := fun t ht => at_eq (by omega)
  obtain ⟨m, h2, h3, h4⟩ := last_least (P := fun i => PalF f i e) (e - 1) h1
  exact ⟨m, by omega, h3, h4⟩
/-- it stands further left, too -/
def Old (f : Nat → Nat) (i0 e : Nat) : Prop := ∃ u, u + (e - i0) < e ∧ EqF f u i0 (e - i0)

theorem last_greatest {P : Nat → Prop} : ∀ (b n : Nat), n < b → P n → ∃ m, n ≤ m ∧ m < b ∧ P m ∧ ∀ i, m < i → i < b → ¬ P i
  | 0, n, h, _ => by omega
  | b + 1, n, h, hp => by
    by_cases q : P b
    · exact ⟨b, by omega, by omega, q, fun i h1 h2 => by omega⟩
    · have hn : n ≠ b := fun e => q (e ▸ hp)
      obtain ⟨m, h1, h2, h3, h4⟩ := last_greatest b n (by omega) hp
      refine ⟨m, h1, by omega, h3, fun i h5 h6 hpi => ?_⟩
      by_cases hb : i = b
      · exact q (hb ▸ hpi)
      · exact h4 i h5 (by omega) hpi

/-- what a return is: a palindrome, its next place, nothing of it between -/
def Ret (f : Nat → Nat) (i j k : Nat) : Prop := i < j ∧ j < k ∧ PalF f i j ∧ EqF f i (k - (j - i)) (j - i) ∧ ∀ u, i < u → u + (j - i) < k → ¬ EqF f u i (j - i)

/-- returns that are palindromes: each beginning ends with a new palindrome -/
theorem new_of_ret {m : Nat} (h : ∀ i j k, k ≤ m → j + (j - i) ≤ k → Ret f i j k → PalF f i k) {i0 e : Nat} (he : e ≤ m) (hl : Longest f i0 e) : ¬ Old f i0 e := by
  rintro ⟨u, h1, h2⟩
  obtain ⟨hi, hp, hm⟩ := hl
  have hu : u < i0 := by omega
  obtain ⟨i, h3, h4, h5, h6⟩ := last_greatest (P := fun u => EqF f u i0 (e - i0)) i0 u hu h2
  by_cases ho : i0 ≤ i + (e - i0)
  · exact hm i h4 (pal_over (by omega) h4 ho hp h5)
  · refine hm i h4 (h i (i + (e - i0)) e he (by omega) ⟨by omega, by omega, pal_copy ?_ h5.symm, ?_, fun v hv1 hv2 hv3 => ?_⟩)
    · have : i0 + (e - i0) = e := by omega
      rw [this]; exact hp
    · have e1 : i + (e - i0) - i = e - i0 := by omega
      rw [e1]
      have e2 : e - (e - i0) = i0 := by omega
      rw [e2]; exact h5
    · have e1 : i + (e - i0) - i = e - i0 := by omega
      rw [e1] at hv2 hv3
      exact h6 v hv1 (by omega) (hv3.trans h5)
/-- and the other way round -/
theorem ret_of_new {m : Nat} (h : ∀ i0 e, e ≤ m → Longest f i0 e → ¬ Old f i0 e) : ∀ k, k ≤ m → ∀ i j, Ret f i j k → PalF f i k := by
  intro k
  induction k using Nat.strongRecOn with
  | ind k ih =>
    intro hkm i j hr
    obtain ⟨hij, hjk, hp, hs, hno⟩ := hr
    obtain ⟨n, hn⟩ : ∃ n, n = j - i := ⟨_, rfl⟩
    have hj : j = i + n := by omega
    rw [← hn] at hs hno
    have hpn : PalF f i (i + n) := hj ▸ hp
    have hq : PalF f (k - n) k := by
      have := pal_copy hpn hs
      have e : k - n + n = k := by omega
      rw [e] at this; exact this
    obtain ⟨i0, hl⟩ := longest_ex (f := f) (e := k) (by omega)
    obtain ⟨l1, l2, l3⟩ := hl
    have hnew := h i0 k hkm ⟨l1, l2, l3⟩
    have hle : i0 ≤ k - n := by
      rcases Nat.lt_or_ge (k - n) i0 with q | q
      · exact absurd hq (l3 _ q)
      · exact q
    have hb : EqF f (k - n) i0 n := by
      have := pal_begin l2 hq hle (by omega)
      have e : k - (k - n) = n := by omega
      rw [e] at this; exact this
    by_cases c1 : i0 = k - n
    · exfalso
      refine hnew ⟨i, by omega, ?_⟩
      have e : k - i0 = n := by omega
      rw [e, c1]; exact hs
    · have hii : EqF f i0 i n := (hs.trans hb).symm
      rcases Nat.lt_trichotomy i i0 with c2 | c2 | c2
      · exact absurd hii (hno i0 c2 (by omega))
      · exact c2 ▸ l2
      · have refl : ∀ s, i0 ≤ s → s < k → f s = f (i0 + k - 1 - s) := fun s h1 h2 => by
          have := l2 (s - i0) (by omega)
          have e1 : f (i0 + (s - i0)) = f s := at_eq (by omega)
          have e2 : f (k - 1 - (s - i0)) = f (i0 + k - 1 - s) := at_eq (by omega)
          rw [e1, e2] at this; exact this
        have hp0 : PalF f i0 (i0 + n) := pal_copy hpn hii.symm
        have hR : Ret f i0 (i0 + n) (i0 + (k - i)) := by
          have en : i0 + n - i0 = n := by omega
          refine ⟨by omega, by omega, hp0, ?_, ?_⟩
          · rw [en]
            intro t ht
            have r1 := refl (i0 + (k - i) - n + t) (by omega) (by omega)
            have e1 : f (i0 + k - 1 - (i0 + (k - i) - n + t)) = f (i + n - 1 - t) := at_eq (by omega)
            have r2 := hpn t (by omega)
            rw [r1, e1, ← r2]
            exact hii t ht
          · rw [en]
            intro u hu1 hu2 hu3
            refine hno (i0 + k - u - n) (by omega) (by omega) fun t ht => ?_
            have r1 := refl (i0 + k - u - n + t) (by omega) (by omega)
            have e1 : f (i0 + k - 1 - (i0 + k - u - n + t)) = f (u + (n - 1 - t)) := at_eq (by omega)
            have r2 := hu3 (n - 1 - t) (by omega)
            have r3 := hp0 t (by omega)
            have e2 : f (i0 + n - 1 - t) = f (i0 + (n - 1 - t)) := at_eq (by omega)
            rw [r1, e1, r2, ← e2, ← r3]
            exact hii t ht
        have hI := ih (i0 + (k - i)) (by omega) (by omega) i0 (i0 + n) hR
        intro t ht
        have r1 := refl (i + t) (by omega) (by omega)
        have e1 : f (i0 + k - 1 - (i + t)) = f (i0 + (k - i) - 1 - t) := at_eq (by omega)
        have r2 := hI t (by omega)
        have r3 := refl (i0 + t) (by omega) (by omega)
        have e2 : f (i0 + k - 1 - (i0 + t)) = f (k - 1 - t) := at_eq (by omega)
        rw [r1, e1, ← r2, r3, e2]
end
end Mine
end

/-! P6 -/
section
set_option maxRecDepth 100000
open PySem PySem.Calls PyProof.Rows PySem.W
namespace Mine

theorem splitD_pre : ∀ {p r : List Nat}, 46 ∉ p → splitD (p ++ (46 :: 46 :: 46 :: r)) = p :: splitD r
  | [], r, _ => splitD_dots r
  | c :: p, r, h => by
    have ih := splitD_pre (p := p) (r := r) fun hm => h (.tail _ hm)
    have hc : c ≠ 46 := fun e => h (e ▸ .head _)
    obtain ⟨q, qs, h1, h2⟩ := splitD_cons (c := c) (r := p ++ (46 :: 46 :: 46 :: r)) (by simp only [List.take_succ_cons, dotsL, List.cons.injEq]; exact fun e => hc e.1)
    rw [ih] at h1
    obtain ⟨rfl, rfl⟩ := List.cons.inj h1
    exact h2
theorem splitD_no : ∀ {p : List Nat}, 46 ∉ p → splitD p = [p]
  | [], _ => by simp [splitD]
  | c :: p, h => by
    have ih := splitD_no (p := p) fun hm => h (.tail _ hm)
    have hc : c ≠ 46 := fun e => h (e ▸ .head _)
    obtain ⟨q, qs, h1, h2⟩ := splitD_cons (c := c) (r := p) (by simp only [List.take_succ_cons, dotsL, List.cons.injEq]; exact fun e => hc e.1)
    rw [ih] at h1
    obtain ⟨rfl, rfl⟩ := List.cons.inj h1
    exact h2
theorem S_nil_len : (S []).length = 0 := rfl
theorem at_nil (t : List Nat) (i : Nat) : at? t [] i = true := by simp [at?]
theorem fndL_nil (t : List Nat) {lo hi : Nat} (h : lo ≤ hi) : fndL t [] lo hi = some lo := by
  unfold fndL
  have : hi + 1 - lo = (hi - lo) + 1 := by omega
  rw [this, List.range'_succ, List.find?_cons]
  simp [at_nil, h]
theorem fnd_nil (t : List Nat) {lo hi : Nat} (h : lo ≤ hi) : fnd (S t) (S []) lo hi = (lo : Int) := by
  rw [fnd_S, fndL_nil t h]
theorem em_in {p t : List Nat} (hp : p ≠ []) (h46 : 46 ∉ p) : em ((dotsL ++ p) ++ dotsL) t = (fndL t p 0 t.length).isSome := by
  have hsp : splitD ((dotsL ++ p) ++ dotsL) = [[], p, []] := by
    have : (dotsL ++ p) ++ dotsL = 46 :: 46 :: 46 :: (p ++ (46 :: 46 :: 46 :: [])) := by simp [dotsL]
    rw [this, splitD_dots, splitD_pre h46]
    simp [splitD]
  unfold em ellM
  rw [dots_S, contains_dots, split_S, hsp]
  rw [if_neg (by simp)]
  show (if (S []).length = 0 then ellLast (S t) [S [], S p, S []] 0 else _) = _
  rw [if_pos S_nil_len]
  unfold ellLast
  show (if (S []).length = 0 then ellTail (S t) [S [], S p, S []] 0 (S t).length else _) = _
  rw [if_pos S_nil_len]
  unfold ellTail
  rw [if_neg (by simp), len_S]
  unfold ellLoop
  rw [fnd_nil t (Nat.zero_le _), if_neg (by simp)]
  show ellLoop (S t) t.length [S p, S []] ((0 : Int).toNat + (S []).length) = _
  rw [S_nil_len]
  show ellLoop (S t) t.length [S p, S []] 0 = _
  unfold ellLoop
  rw [fnd_S]
  cases hf : fndL t p 0 t.length with
  | none => simp
  | some k =>
    simp only [Option.isSome_some]
    rw [if_neg (by omega)]
    unfold ellLoop
    have hk : k + p.length ≤ t.length := by
      unfold fndL at hf
      have := List.find?_some hf
      simp only [Bool.and_eq_true, decide_eq_true_eq] at this
      exact this.1
    rw [len_S, Int.toNat_natCast, fnd_nil t hk, if_neg (by omega)]
    rfl
theorem em_two {p t : List Nat} (hp : p ≠ []) (h46 : 46 ∉ p) : em ((p ++ dotsL) ++ p) t = (decide (p.length ≤ t.length) && at? t p 0 && at? t p (t.length - p.length) && decide (p.length ≤ t.length - p.length)) := by
  have hsp : splitD ((p ++ dotsL) ++ p) = [p, p] := by
    have : (p ++ dotsL) ++ p = p ++ (46 :: 46 :: 46 :: p) := by simp [dotsL]
    rw [this, splitD_pre h46, splitD_no h46]
  have hpl : (S p).length ≠ 0 := by rw [len_S]; exact fun e => hp (List.length_eq_zero_iff.mp e)
  have hst : Txt.startswith (S t) (S p) = (decide (p.length ≤ t.length) && at? t p 0) := by
    unfold Txt.startswith
    rw [subAt_S, len_S, len_S, Nat.zero_add]
  have hen : Txt.endswith (S t) (S p) = (decide (p.length ≤ t.length) && at? t p (t.length - p.length)) := by
    unfold Txt.endswith
    rw [len_S, len_S, subAt_S, Nat.zero_add]
  unfold em ellM
  rw [dots_S, contains_dots, split_S, hsp]
  rw [if_neg (by simp)]
  show (if (S p).length = 0 then _ else if Txt.startswith (S t) (S p) = false then false else ellLast (S t) [S p] (S p).length) = _
  rw [if_neg hpl, hst]
  by_cases h1 : p.length ≤ t.length
  · by_cases h2 : at? t p 0 = true
    · rw [if_neg (by simp [h1, h2])]
      unfold ellLast
      show (if (S p).length = 0 then _ else if Txt.endswith (S t) (S p) = false then false else ellTail (S t) [] (S p).length ((S t).length - (S p).length)) = _
      rw [if_neg hpl, hen]
      by_cases h3 : at? t p (t.length - p.length) = true
      · rw [if_neg (by simp [h1, h3])]
        unfold ellTail
        rw [len_S, len_S]
        by_cases h4 : p.length ≤ t.length - p.length
        · rw [if_neg (by omega)]
          simp [ellLoop, h1, h2, h3, h4]
        · rw [if_pos (by omega)]
          simp [h4]
      · rw [if_pos (by simp [h3])]
        simp [h3]
    · rw [if_pos (by simp [h2])]
      simp [h2]
  · rw [if_pos (by simp [h1])]
    simp [h1]
end Mine
end

/-! P7 -/
section
set_option maxRecDepth 100000
namespace Mine

def fw (x : List Nat) : Nat → Nat := fun i => x.getD i 0
def sl (x : List Nat) (i k : Nat) : List Nat := (x.take k).drop i
section
variable {x : List Nat}
theorem sl_len {i k : Nat} (hk : k ≤ x.length) : (sl x i k).length = k - i := by
  unfold sl; rw [List.length_drop, List.length_take]; omega
theorem sl_get {i k t : Nat} (hk : k ≤ x.length) (ht : t < k - i) : (sl x i k)[t]? = some (fw x (i + t)) := by
  unfold sl fw
  rw [List.getElem?_drop, List.getElem?_take_of_lt (by omega)]
  simp only [List.getD]
  have : i + t < x.length := by omega
  rw [List.getElem?_eq_getElem this]; rfl
theorem list_ext {a b : List Nat} (hl : a.length = b.length) (h : ∀ t, t < a.length → a[t]? = b[t]?) : a = b := by
  apply List.ext_getElem?
  intro t
  rcases Nat.lt_or_ge t a.length with q | q
  · exact h t q
  · rw [List.getElem?_eq_none q, List.getElem?_eq_none (by omega)]
theorem sl_eq {i k j l : Nat} (hk : k ≤ x.length) (hl : l ≤ x.length) (hd : k - i = l - j) : sl x i k = sl x j l ↔ EqF (fw x) i j (k - i) := by
  constructor
  · intro h t ht
    have h1 := sl_get (i := i) hk ht
    have h2 := sl_get (i := j) (t := t) hl (by omega)
    rw [h, h2] at h1
    exact (Option.some.inj h1).symm
  · intro h
    refine list_ext (by rw [sl_len hk, sl_len hl, hd]) fun t ht => ?_
    rw [sl_len hk] at ht
    rw [sl_get hk ht, sl_get hl (by omega), h t ht]
theorem isPal_iff {i k : Nat} (hk : k ≤ x.length) : isPal (sl x i k) = true ↔ PalF (fw x) i k := by
  unfold isPal
  rw [beq_iff_eq]
  have hr : ∀ t, t < k - i → (sl x i k).reverse[t]? = some (fw x (k - 1 - t)) := fun t ht => by
    rw [List.getElem?_reverse (by rw [sl_len hk]; exact ht), sl_len hk, sl_get hk (by omega)]
    congr 2; omega
  constructor
  · intro h t ht
    have h1 := sl_get (i := i) hk ht
    rw [h, hr t ht] at h1
    exact (Option.some.inj h1).symm
  · intro h
    refine list_ext (by simp) fun t ht => ?_
    rw [sl_len hk] at ht
    rw [sl_get hk ht, hr t ht, h t ht]

theorem tails_shape {e : Nat} (he : 0 < e) (hx : e ≤ x.length) : ∃ i0 rest, Longest (fw x) i0 e ∧ tailsL x e = sl x i0 e :: rest ∧ ∀ t ∈ rest, ∃ i', i0 < i' ∧ i' < e ∧ PalF (fw x) i' e ∧ t = sl x i' e := by
  obtain ⟨i0, hl⟩ := longest_ex (f := fw x) he
  obtain ⟨h1, h2, h3⟩ := hl
  have hr : List.range e = List.range' 0 i0 ++ i0 :: List.range' (i0 + 1) (e - i0 - 1) := by
    rw [List.range_eq_range']
    have e1 : e = i0 + (e - i0 - 1 + 1) := by omega
    have e2 : List.range' 0 e = List.range' 0 (i0 + (e - i0 - 1 + 1)) := by rw [← e1]
    rw [e2, ← List.range'_append, Nat.zero_add, Nat.one_mul, List.range'_succ]
  refine ⟨i0, ((List.range' (i0 + 1) (e - i0 - 1)).map fun i => sl x i e).filter isPal, ⟨h1, h2, h3⟩, ?_, ?_⟩
  · unfold tailsL
    rw [hr, List.map_append, List.filter_append, List.map_cons, List.filter_cons]
    have z : ((List.range' 0 i0).map fun i => (x.take e).drop i).filter isPal = [] := by
      rw [List.filter_eq_nil_iff]
      intro t ht
      obtain ⟨i, hi, rfl⟩ := List.mem_map.mp ht
      have := (List.mem_range'_1.mp hi).2
      intro hp
      exact h3 i (by omega) ((isPal_iff hx).mp hp)
    have y : isPal ((x.take e).drop i0) = true := (isPal_iff hx).mpr h2
    rw [z, if_pos y]; rfl
  · intro t ht
    obtain ⟨hm, hp⟩ := List.mem_filter.mp ht
    obtain ⟨i, hi, rfl⟩ := List.mem_map.mp hm
    have := List.mem_range'_1.mp hi
    exact ⟨i, by omega, by omega, (isPal_iff hx).mp hp, rfl⟩

/-- the kinds that have stood -/
def InvK (x : List Nat) (e : Nat) (ks : List (List Nat)) : Prop := ∀ t, t ∈ ks ↔ ∃ i k, i < k ∧ k ≤ e ∧ PalF (fw x) i k ∧ t = sl x i k
theorem old_iff {i0 e : Nat} (hx : e + 1 ≤ x.length) (h1 : i0 < e + 1) (h2 : PalF (fw x) i0 (e + 1)) {ks : List (List Nat)} (inv : InvK x e ks) : sl x i0 (e + 1) ∈ ks ↔ Old (fw x) i0 (e + 1) := by
  rw [inv]
  constructor
  · rintro ⟨i, k, hik, hk, hp, he⟩
    have hlen := congrArg List.length he
    rw [sl_len hx, sl_len (by omega)] at hlen
    have := (sl_eq hx (by omega) hlen).mp he
    exact ⟨i, by omega, this.symm⟩
  · rintro ⟨u, hu, he⟩
    have hd : e + 1 - i0 = u + (e + 1 - i0) - u := by omega
    refine ⟨u, u + (e + 1 - i0), by omega, by omega, ?_, ?_⟩
    · refine pal_copy ?_ he.symm
      have : i0 + (e + 1 - i0) = e + 1 := by omega
      rw [this]; exact h2
    · exact (sl_eq hx (by omega) hd).mpr he.symm
theorem take_drop_take {u n e : Nat} (h : u + n ≤ e) : ((x.take e).drop u).take n = sl x u (u + n) := by
  unfold sl
  rw [List.take_drop, List.take_take, Nat.min_eq_left h]
theorem find_iff {e : Nat} {p : List Nat} (he : e ≤ x.length) : (fndL (x.take e) p 0 (x.take e).length).isSome = true ↔ ∃ u, u + p.length ≤ e ∧ sl x u (u + p.length) = p := by
  have hl : (x.take e).length = e := by rw [List.length_take]; omega
  unfold fndL
  rw [hl, List.find?_isSome]
  simp only [List.mem_range'_1, Bool.and_eq_true, decide_eq_true_eq, at?, beq_iff_eq]
  constructor
  · rintro ⟨u, _, h1, h2⟩
    rw [take_drop_take h1] at h2
    exact ⟨u, h1, h2⟩
  · rintro ⟨u, h1, h2⟩
    exact ⟨u, by omega, h1, by rw [take_drop_take h1]; exact h2⟩
theorem em_old {i0 e : Nat} (hx : e + 1 ≤ x.length) (h46 : 46 ∉ x) (h1 : i0 < e + 1) : em ((dotsL ++ sl x i0 (e + 1)) ++ dotsL) (x.take e) = true ↔ Old (fw x) i0 (e + 1) := by
  have hne : sl x i0 (e + 1) ≠ [] := fun h => by
    have := congrArg List.length h
    rw [sl_len hx] at this; simp at this; omega
  have hno : 46 ∉ sl x i0 (e + 1) := fun hm => h46 (List.mem_of_mem_take (List.mem_of_mem_drop hm))
  rw [em_in hne hno, find_iff (by omega)]
  simp only [sl_len hx]
  constructor
  · rintro ⟨u, hu, he⟩
    exact ⟨u, by omega, by
      have := (sl_eq (i := u) (j := i0) (k := u + (e + 1 - i0)) (l := e + 1) (by omega) hx (by omega)).mp he
      have e2 : u + (e + 1 - i0) - u = e + 1 - i0 := by omega
      rw [e2] at this; exact this⟩
  · rintro ⟨u, hu, he⟩
    refine ⟨u, by omega, (sl_eq (by omega) hx (by omega)).mpr ?_⟩
    have e2 : u + (e + 1 - i0) - u = e + 1 - i0 := by omega
    rw [e2]; exact he
end
end Mine
end

/-! P8 -/
section
set_option maxRecDepth 100000
namespace Mine
section
variable {x : List Nat}
theorem hasL_iff {ks : List (List Nat)} {t : List Nat} : hasL ks t = true ↔ t ∈ ks := by
  unfold hasL
  rw [List.any_eq_true]
  constructor
  · rintro ⟨y, hy, h⟩
    have : y = t := by simpa using h
    exact this ▸ hy
  · exact fun h => ⟨t, h, by simp⟩
def NewAt (x : List Nat) (e : Nat) : Prop := ∀ i0, Longest (fw x) i0 e → ¬ Old (fw x) i0 e
theorem longest_unique {f : Nat → Nat} {i j e : Nat} (a : Longest f i e) (b : Longest f j e) : i = j := by
  rcases Nat.lt_trichotomy i j with h | h | h
  · exact absurd a.2.1 (b.2.2 i h)
  · exact h
  · exact absurd b.2.1 (a.2.2 j h)
theorem kinds_step {e : Nat} (hx : e + 1 ≤ x.length) (h46 : 46 ∉ x) {ks : List (List Nat)} (inv : InvK x e ks) :
    (NewAt x (e + 1) ∧ (∃ h, (tailsL x (e + 1)).filter (fun t => !hasL ks t) = [h]) ∧ em ((dotsL ++ (tailsL x (e + 1)).headD []) ++ dotsL) (x.take e) = false ∨
     ¬ NewAt x (e + 1) ∧ (tailsL x (e + 1)).filter (fun t => !hasL ks t) = [] ∧ em ((dotsL ++ (tailsL x (e + 1)).headD []) ++ dotsL) (x.take e) = true) ∧
    InvK x (e + 1) (ks ++ (tailsL x (e + 1)).filter fun t => !hasL ks t) := by
  obtain ⟨i0, rest, hl, ht, hrest⟩ := tails_shape (x := x) (e := e + 1) (by omega) hx
  have hold := old_iff hx hl.1 hl.2.1 inv
  have hem := em_old hx h46 hl.1
  have hrk : ∀ t ∈ rest, hasL ks t = true := fun t h => by
    obtain ⟨i', h1, h2, h3, rfl⟩ := hrest t h
    rw [hasL_iff, inv]
    have hb := pal_begin hl.2.1 h3 (by omega) (by omega)
    refine ⟨i0, i0 + (e + 1 - i'), by omega, by omega, pal_copy ?_ hb, (sl_eq hx (by omega) (by omega)).mpr hb⟩
    have : i' + (e + 1 - i') = e + 1 := by omega
    rw [this]; exact h3
  have hrf : rest.filter (fun t => !hasL ks t) = [] := by
    rw [List.filter_eq_nil_iff]
    intro t h
    rw [hrk t h]; simp
  have hhd : (tailsL x (e + 1)).headD [] = sl x i0 (e + 1) := by rw [ht]; rfl
  have hinv : ∀ fl : List (List Nat), (∀ t, t ∈ ks ++ fl ↔ t ∈ ks ∨ t = sl x i0 (e + 1)) → InvK x (e + 1) (ks ++ fl) := fun fl hfl t => by
    rw [hfl, inv]
    constructor
    · rintro (⟨i, k, h1, h2, h3⟩ | rfl)
      · exact ⟨i, k, h1, by omega, h3⟩
      · exact ⟨i0, e + 1, hl.1, Nat.le_refl _, hl.2.1, rfl⟩
    · rintro ⟨i, k, h1, h2, h3, rfl⟩
      by_cases hk : k ≤ e
      · exact .inl ⟨i, k, h1, hk, h3, rfl⟩
      · have hke : k = e + 1 := by omega
        subst hke
        rcases Nat.lt_trichotomy i i0 with q | q | q
        · exact absurd h3 (hl.2.2 i q)
        · subst q; exact .inr rfl
        · have hb := pal_begin hl.2.1 h3 (by omega) (by omega)
          refine .inl ⟨i0, i0 + (e + 1 - i), by omega, by omega, pal_copy ?_ hb, (sl_eq hx (by omega) (by omega)).mpr hb⟩
          have : i + (e + 1 - i) = e + 1 := by omega
          rw [this]; exact h3
  rw [hhd, ht, List.filter_cons, hrf]
  by_cases ho : Old (fw x) i0 (e + 1)
  · have h1 : hasL ks (sl x i0 (e + 1)) = true := hasL_iff.mpr (hold.mpr ho)
    rw [h1]
    refine ⟨.inr ⟨fun hn => hn i0 hl ho, by simp, hem.mpr ho⟩, hinv _ fun t => ?_⟩
    have := hold.mpr ho
    simp only [Bool.not_true, Bool.false_eq_true, if_false, List.append_nil]
    exact ⟨fun h => .inl h, fun h => h.elim id fun e => e ▸ this⟩
  · have h1 : hasL ks (sl x i0 (e + 1)) = false := by
      cases q : hasL ks (sl x i0 (e + 1)) with
      | false => rfl
      | true => exact absurd (hold.mp (hasL_iff.mp q)) ho
    rw [h1]
    refine ⟨.inl ⟨fun j hj => by rw [longest_unique hj hl]; exact ho, ⟨sl x i0 (e + 1), by simp⟩, ?_⟩, hinv _ fun t => ?_⟩
    · cases q : em ((dotsL ++ sl x i0 (e + 1)) ++ dotsL) (x.take e) with
      | false => rfl
      | true => exact absurd (hem.mp q) ho
    · simp
theorem loop_facts (h46 : 46 ∉ x) : ∀ (n e : Nat) (ks : List (List Nat)) (fr : List Bool), e + n = x.length → InvK x e ks →
    ((loopKF x (List.range' (e + 1) n) ks fr).2.filter fun b => !b).length + ks.length = (fr.filter fun b => !b).length + (loopKF x (List.range' (e + 1) n) ks fr).1.length ∧
    (loopKF x (List.range' (e + 1) n) ks fr).1.length ≤ ks.length + n ∧
    ((loopKF x (List.range' (e + 1) n) ks fr).1.length = ks.length + n ↔ ∀ e', e < e' → e' ≤ e + n → NewAt x e') ∧
    (loopKF x (List.range' (e + 1) n) ks fr).2.length = fr.length + n
  | 0, e, ks, fr, _, _ => by
    simp only [List.range'_zero, loopKF]
    exact ⟨trivial, by omega, ⟨fun _ e' h1 h2 => (by omega), fun _ => (by omega)⟩, by omega⟩
  | n + 1, e, ks, fr, hn, inv => by
    obtain ⟨hc, inv'⟩ := kinds_step (x := x) (e := e) (by omega) h46 inv
    simp only [List.range'_succ, loopKF, Nat.add_sub_cancel]
    have ih := loop_facts h46 n (e + 1) (ks ++ (tailsL x (e + 1)).filter fun t => !hasL ks t) (fr ++ [em ((dotsL ++ (tailsL x (e + 1)).headD []) ++ dotsL) (x.take e)]) (by omega) inv'
    obtain ⟨i1, i2, i3, i4⟩ := ih
    rcases hc with ⟨hN, ⟨h, hf⟩, hem⟩ | ⟨hN, hf, hem⟩
    · rw [hf, hem] at i1 i2 i3 i4 ⊢
      simp only [List.length_append, List.length_singleton, List.filter_append, List.filter_cons, Bool.not_false, if_true, List.filter_nil, List.length_cons, List.length_nil] at i1 i2 i3 i4 ⊢
      refine ⟨by omega, by omega, ?_, by omega⟩
      have e1 : ks.length + (n + 1) = ks.length + (0 + 1) + n := by omega
      constructor
      · intro hl e' h1 h2
        by_cases q : e' = e + 1
        · exact q ▸ hN
        · exact i3.mp (by omega) e' (by omega) (by omega)
      · intro hall
        have := i3.mpr fun e' h1 h2 => hall e' (by omega) (by omega)
        omega
    · rw [hf, hem] at i1 i2 i3 i4 ⊢
      simp only [List.append_nil, List.length_append, List.length_singleton, List.filter_append, List.filter_cons, Bool.not_true, Bool.false_eq_true, if_false, List.filter_nil, List.length_cons, List.length_nil] at i1 i2 i3 i4 ⊢
      refine ⟨by omega, by omega, ?_, by omega⟩
      constructor
      · intro hl; omega
      · intro hall; exact absurd (hall (e + 1) (by omega) (by omega)) hN
theorem invK0 : InvK x 0 [] := fun t => ⟨fun h => (by cases h), fun ⟨i, k, h1, h2, _⟩ => (by omega)⟩

theorem retTest_iff {i j k : Nat} (h46 : 46 ∉ x) (hij : i < j) (hjk : j < k) (hk : k ≤ x.length) : retTest x i j k = true ↔ (j + (j - i) ≤ k ∧ EqF (fw x) i (k - (j - i)) (j - i) ∧ ∀ u, i < u → u + (j - i) < k → ¬ EqF (fw x) u i (j - i)) := by
  have hne : sl x i j ≠ [] := fun h => by
    have := congrArg List.length h
    rw [sl_len (by omega)] at this; simp at this; omega
  have hno : 46 ∉ sl x i j := fun hm => h46 (List.mem_of_mem_take (List.mem_of_mem_drop hm))
  have hpl : (sl x i j).length = j - i := sl_len (by omega)
  have hrl : (sl x i k).length = k - i := sl_len hk
  have hsub : ∀ u n, i + u + n ≤ k → ((sl x i k).drop u).take n = sl x (i + u) (i + u + n) := fun u n h => by
    unfold sl
    rw [List.drop_drop, List.take_drop, List.take_take, Nat.min_eq_left (by omega)]
  have hmid : ((sl x i k).drop 1).take ((sl x i k).length - 2) = (sl x (i + 1) (k - 1)) := by
    rw [hrl]
    by_cases h2 : 2 ≤ k - i
    · rw [hsub 1 _ (by omega)]
      have : i + 1 + (k - i - 2) = k - 1 := by omega
      rw [this]
    · omega
  show (em ((sl x i j ++ dotsL) ++ sl x i j) (sl x i k) && !em ((dotsL ++ sl x i j) ++ dotsL) (((sl x i k).drop 1).take ((sl x i k).length - 2))) = true ↔ _
  rw [hmid, em_two hne hno, em_in hne hno, hpl, hrl]
  have a0 : at? (sl x i k) (sl x i j) 0 = true := by
    unfold at?
    rw [beq_iff_eq, hpl, hsub 0 _ (by omega)]
    have : i + 0 + (j - i) = j := by omega
    rw [this]; rfl
  rw [a0]
  have hm2 : (fndL (sl x (i + 1) (k - 1)) (sl x i j) 0 (sl x (i + 1) (k - 1)).length).isSome = true ↔ ∃ u, i < u ∧ u + (j - i) < k ∧ EqF (fw x) u i (j - i) := by
    have hl2 : (sl x (i + 1) (k - 1)).length = k - 1 - (i + 1) := sl_len (by omega)
    unfold fndL
    rw [hl2, List.find?_isSome]
    simp only [List.mem_range'_1, Bool.and_eq_true, decide_eq_true_eq, at?, beq_iff_eq, hpl]
    have hs : ∀ u, u + (j - i) ≤ k - 1 - (i + 1) → ((sl x (i + 1) (k - 1)).drop u).take (j - i) = sl x (i + 1 + u) (i + 1 + u + (j - i)) := fun u hu => by
      unfold sl
      rw [List.drop_drop, List.take_drop, List.take_take, Nat.min_eq_left (by omega)]
    have he : ∀ u, u + (j - i) < k → (sl x u (u + (j - i)) = sl x i j ↔ EqF (fw x) u i (j - i)) := fun u hu => by
      have := sl_eq (x := x) (i := u) (j := i) (k := u + (j - i)) (l := j) (by omega) (by omega) (by omega)
      have e2 : u + (j - i) - u = j - i := by omega
      rw [e2] at this; exact this
    constructor
    · rintro ⟨u, _, h1, h2⟩
      rw [hs u h1] at h2
      exact ⟨i + 1 + u, by omega, by omega, (he _ (by omega)).mp h2⟩
    · rintro ⟨u, h1, h2, h3⟩
      refine ⟨u - (i + 1), by omega, by omega, ?_⟩
      rw [hs _ (by omega)]
      have e3 : i + 1 + (u - (i + 1)) = u := by omega
      rw [e3]
      exact (he u h2).mpr h3
  simp only [Bool.and_eq_true, decide_eq_true_eq, Bool.not_eq_true', true_and, and_true]
  constructor
  · rintro ⟨⟨⟨h1, h2⟩, h3⟩, h4⟩
    refine ⟨by omega, ?_, fun u hu1 hu2 hu3 => ?_⟩
    · unfold at? at h2
      rw [beq_iff_eq, hpl, hsub _ _ (by omega)] at h2
      have e1 : i + (k - i - (j - i)) = k - (j - i) := by omega
      have e2 : k - (j - i) + (j - i) = k := by omega
      rw [e1, e2] at h2
      have := (sl_eq (x := x) (i := k - (j - i)) (j := i) hk (by omega) (by omega)).mp h2
      have e3 : k - (k - (j - i)) = j - i := by omega
      rw [e3] at this
      exact this.symm
    · rw [hm2.mpr ⟨u, hu1, hu2, hu3⟩] at h4; cases h4
  · rintro ⟨h1, h2, h3⟩
    refine ⟨⟨⟨by omega, ?_⟩, by omega⟩, ?_⟩
    · unfold at?
      rw [beq_iff_eq, hpl, hsub _ _ (by omega)]
      have e1 : i + (k - i - (j - i)) = k - (j - i) := by omega
      have e2 : k - (j - i) + (j - i) = k := by omega
      rw [e1, e2]
      refine (sl_eq (x := x) (i := k - (j - i)) (j := i) hk (by omega) (by omega)).mpr ?_
      have e3 : k - (k - (j - i)) = j - i := by omega
      rw [e3]; exact h2.symm
    · cases q : (fndL (sl x (i + 1) (k - 1)) (sl x i j) 0 (sl x (i + 1) (k - 1)).length).isSome with
      | false => rfl
      | true =>
        obtain ⟨u, hu1, hu2, hu3⟩ := hm2.mp q
        exact absurd hu3 (h3 u hu1 hu2)
theorem retP_of {i j k : Nat} (hij : i < j) (hjk : j < k) (hk : k ≤ x.length) (hp : isPal (sl x i j) = true) (ht : retTest x i j k = true) : (sl x i j, sl x i k) ∈ retP x := by
  unfold retP
  refine List.mem_flatMap.mpr ⟨i, List.mem_range.mpr (by omega), ?_⟩
  unfold retP2
  refine List.mem_flatMap.mpr ⟨j, List.mem_range'_1.mpr ⟨by omega, by omega⟩, ?_⟩
  rw [if_pos (show isPal ((x.take j).drop i) = true from hp)]
  unfold retP3
  exact List.mem_map.mpr ⟨k, List.mem_filter.mpr ⟨List.mem_range'_1.mpr ⟨by omega, by omega⟩, ht⟩, rfl⟩

theorem fine_of (h46 : 46 ∉ x) (hs : x.length ≤ 128) : Fine x := by
  obtain ⟨l1, l2, l3, l4⟩ := loop_facts h46 x.length 0 [] [] (by omega) invK0
  simp only [Nat.zero_add, List.length_nil, List.filter_nil] at l1 l2 l3 l4
  refine ⟨hs, by omega, ⟨by omega, by omega⟩, fun p hp => ?_, ?_⟩
  · obtain ⟨i, j, k, h1, h2, h3, rfl, h5, h6⟩ := retP_mem hp
    obtain ⟨t1, t2, t3⟩ := (retTest_iff h46 h1 h2 h3).mp h6
    show (sl x i j).length ≤ (sl x i k).length ∧ (sl x i k).length ≤ 128 ∧ (sl x i j ++ ((sl x i k).take ((sl x i k).length - (sl x i j).length)).drop (sl x i j).length) ++ sl x i j = sl x i k
    have hpl : (sl x i j).length = j - i := sl_len (by omega)
    have hrl : (sl x i k).length = k - i := sl_len h3
    refine ⟨by omega, by omega, ?_⟩
    rw [hpl, hrl]
    have e1 : (sl x i k).take (j - i) = sl x i j := by
      have := take_drop_take (x := x) (u := i) (n := j - i) (e := k) (by omega)
      have e2 : i + (j - i) = j := by omega
      rw [e2] at this; exact this
    have e2 : (sl x i k).drop (k - i - (j - i)) = sl x i j := by
      have h7 : (sl x i k).drop (k - i - (j - i)) = sl x (k - (j - i)) k := by
        unfold sl
        rw [List.drop_drop]
        congr 1; omega
      rw [h7]
      refine (sl_eq (x := x) h3 (by omega) (by omega)).mpr ?_
      have e3 : k - (k - (j - i)) = j - i := by omega
      rw [e3]; exact t2.symm
    have e4 : ((sl x i k).take (k - i - (j - i))).take (j - i) = sl x i j := by
      rw [List.take_take, Nat.min_eq_left (by omega), e1]
    calc (sl x i j ++ ((sl x i k).take (k - i - (j - i))).drop (j - i)) ++ sl x i j
        = (((sl x i k).take (k - i - (j - i))).take (j - i) ++ ((sl x i k).take (k - i - (j - i))).drop (j - i)) ++ (sl x i k).drop (k - i - (j - i)) := by rw [e4, e2]
      _ = sl x i k := by rw [List.take_append_drop, List.take_append_drop]
  · have hA : (((retP x).filter fun p => isPal p.2).length = (retP x).length) ↔ ∀ p ∈ retP x, isPal p.2 = true := by
      rw [List.length_filter_eq_length_iff]
    have hB : ((loopKF x (List.range' 1 x.length) [] []).1.length = x.length) ↔ ∀ e', 0 < e' → e' ≤ x.length → NewAt x e' := l3
    have key : (∀ p ∈ retP x, isPal p.2 = true) ↔ ∀ e', 0 < e' → e' ≤ x.length → NewAt x e' := by
      constructor
      · intro h e he1 he2 i0 hl
        refine new_of_ret (m := x.length) (fun i j k hk hjk hr => ?_) he2 hl
        obtain ⟨r1, r2, r3, r4, r5⟩ := hr
        have hp : isPal (sl x i j) = true := (isPal_iff (by omega)).mpr r3
        exact (isPal_iff hk).mp (h _ (retP_of r1 r2 hk hp ((retTest_iff h46 r1 r2 hk).mpr ⟨hjk, r4, r5⟩)))
      · intro h p hp
        obtain ⟨i, j, k, h1, h2, h3, rfl, h5, h6⟩ := retP_mem hp
        obtain ⟨t1, t2, t3⟩ := (retTest_iff h46 h1 h2 h3).mp h6
        exact (isPal_iff h3).mpr (ret_of_new (m := x.length) (fun i0 e he hl => h e (by have := hl.1; omega) he i0 hl) k h3 i j ⟨h1, h2, (isPal_iff (by omega)).mp h5, t2, t3⟩)
    have : (((retP x).filter fun p => isPal p.2).length = (retP x).length) ↔ ((loopKF x (List.range' 1 x.length) [] []).1.length = x.length) := hA.trans (key.trans hB.symm)
    by_cases q : ((loopKF x (List.range' 1 x.length) [] []).1.length = x.length)
    · rw [decide_eq_true q, decide_eq_true (this.mpr q)]; rfl
    · rw [decide_eq_false q, decide_eq_false fun h => q (this.mp h)]; rfl
end
end Mine
end

/-! P9 -/
section
open PySem PySem.Calls PyProof.Rows PySem.W
set_option maxRecDepth 100000
namespace Mine

theorem word_no46 : ∀ (f : Nat) (y : List Nat), 46 ∉ y → 46 ∉ wordL ettF f y
  | 0, _, _ => by simp [wordL]
  | f + 1, y, h => by
    unfold wordL
    split
    · simp
    · rw [List.mem_append, not_or]
      constructor
      · split
        · exact fun hm => h (List.mem_of_mem_take hm)
        · obtain ⟨h1, h2⟩ := num_rng ettOk (y.take (tokSize ettF y))
          simp only [List.mem_singleton]
          omega
      · exact word_no46 f _ fun hm => h (List.mem_of_mem_drop hm)
theorem flat3 : ∀ (ps : List (List Nat × List Nat)), (∀ p ∈ ps, p.2.length ≤ 3) → (ps.map (·.2)).flatten.length ≤ 3 * ps.length
  | [], _ => by simp
  | p :: r, h => by
    have h1 := h p (.head _)
    have h2 := flat3 r fun q hq => h q (.tail _ hq)
    simp only [List.map_cons, List.flatten_cons, List.length_append, List.length_cons]
    omega
theorem plaw : PLaw := fun W T s hs => by
  have hc : ∀ p ∈ (numsL s).map itemL, check p = true := fun p hp => by
    obtain ⟨x, _, rfl⟩ := List.mem_map.mp hp
    exact item_check x
  have hsq := items_sq _ hc
  have hla := (items_strip _ hc).2.2
  have hwd : wordOf b1F b3F ettF sq (((numsL s).map itemL).map (·.1)).flatten = wd (((numsL s).map itemL).map (·.2)).flatten := by
    unfold wordOf wd
    rw [hsq]
  have hlen : (((numsL s).map itemL).map (·.2)).flatten.length ≤ 12 := by
    have h1 := flat3 _ fun p hp => (check_parts (hc p hp)).2.1
    have h2 : ((numsL s).map itemL).length = 4 := by rw [List.length_map]; rfl
    omega
  refine c_law (n := 9) T b3Ok ettOk (stripOk T) (by omega) (fun x => ?_) ?_ ?_
  · obtain ⟨h1, h2, _⟩ := check_parts (item_check x)
    exact ⟨by omega, by omega⟩
  · rw [hwd]
    exact word_plain _ _ (Nat.le_refl _) hla
  · rw [hwd]
    refine fine_of (word_no46 _ _ fun hm => ?_) (Nat.le_trans (wordL_len ettOk _ _) (by omega))
    have := List.all_eq_true.mp hla _ hm
    exact absurd this (by decide)
end Mine
end

/-! Z1 -/
section
open PySem PySem.W PyProof.Rows
set_option maxRecDepth 100000
namespace Mine
abbrev PZ : Program := PySem.Challenge.pw_sn0076_02
theorem l1 : sreFenced PZ.main = true := by decide +kernel
theorem l2 : ((moduleNames PZ.main.body).isEmpty || lookedIntoSs (moduleNames PZ.main.body) PZ.main.body) = true := by decide +kernel
theorem l3 : namesResolve PZ = true := by decide +kernel
theorem l4 : PZ.boundNames.all (fun n => !worldNames.contains n) = true := by decide +kernel
theorem l5 : noRoadLSs { strict := !(importedModules PZ.main.body).all cThrough.contains, foot := none, bare := (["vars", "dir", "locals"] : List Str).filter (readsOut PZ PZ.main.body) } PZ.main.body = true := by decide +kernel
theorem l6 : (namesMeet PZ PZ.main.body fun _ n => attrL n) = true := by decide +kernel
theorem looks : looksOpen PZ = true := by
  unfold looksOpen
  rw [l1, l2, l3, l4, l5, l6]; rfl
theorem l7 : PySem.Challenge.rw_sn0076_02.row.wellSaid = true := by
  have h : PySem.Challenge.rw_sn0076_02.row.prog = PZ := rfl
  unfold OpenRow.wellSaid OpenRow.partSaid
  rw [h, looks]
  decide +kernel
end Mine
end

/-! Z2 -/
section
open PySem PySem.W PyProof.Rows
set_option maxRecDepth 100000
namespace Mine
theorem lawSaid : PySem.Challenge.rw_sn0076_02.wellSaid = true := by
  unfold OpenLaw.wellSaid
  rw [l7]
  decide +kernel
end Mine
end

open PySem PySem.W PyProof.Rows
set_option maxRecDepth 100000 in
set_option maxHeartbeats 8000000 in
theorem PySem.Challenge.cw_sn0076_02_holds : PySem.Challenge.rw_sn0076_02.Holds := by
  exact ⟨Mine.lawSaid, Mine.holds_of Mine.plaw Mine.l7 (by w_witness2)⟩
