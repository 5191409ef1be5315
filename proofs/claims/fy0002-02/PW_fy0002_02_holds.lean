import PyProof.Rows.All
import Wide.All
import OpenK.AllK
import Wide.FinOn
import Lean
import PySem.Challenge.RW_fy0002_02
set_option linter.unusedVariables false
set_option linter.unusedSimpArgs false
set_option linter.deprecated false
set_option maxRecDepth 100000
set_option maxHeartbeats 4000000
set_option Elab.async false
section
open PySem PySem.W PyProof.Rows PySem.Calls
namespace Mine

/-- plain values -/
inductive PV where
  | none
  | bool (b : Bool)
  | int (i : Int)
  | str (l : List Nat)
  | tup (xs : List PV)
  | lst (xs : List PV)
  | con (v : Value)
  | obj (C a : Addr) (fs : List (Str × PV))
  | rng (lo hi st : Int)
  | mat (x : List Nat) (spans : List Int)
  | zip (xs ys : List PV)

abbrev ZMap := Addr → Option Obj

mutual
inductive Rep (Z : ZMap) : Value → PV → Prop
  | none : Rep Z .none .none
  | bool (b : Bool) : Rep Z (.bool b) (.bool b)
  | int (i : Int) (t : Tok) : Rep Z (.int i t) (.int i)
  | str (l : List Nat) (t : Tok) : Rep Z (.str ⟨l.toArray⟩ t) (.str l)
  | tup {a : Addr} {o : Obj} {vs : List Value} {n : Nat} {ps : List PV} : Z a = some o → o.cls = .type "tuple" → o.data = .seq vs.toArray n → RepL Z vs ps → Rep Z (.ref a) (.tup ps)
  | lst {a : Addr} {o : Obj} {vs : List Value} {n : Nat} {ps : List PV} : Z a = some o → o.cls = .type "list" → o.data = .seq vs.toArray n → RepL Z vs ps → Rep Z (.ref a) (.lst ps)
  | con (v : Value) : Rep Z v (.con v)
  | obj {C a dx : Addr} {es : List DictEntry} {n : Nat} {fs : List (Str × PV)} : Z a = some (instObj C dx) → Z dx = some (dictOf es n) → RepE Z es fs → Rep Z (.ref a) (.obj C a fs)
  | rng {a : Addr} {lo hi st : Int} {t u v : Tok} : Z a = some { cls := .type "range", data := .fields #[.int lo t, .int hi u, .int st v] } → Rep Z (.ref a) (.rng lo hi st)
  | mat {a T : Addr} {x : List Nat} {t : Tok} {pat : Value} {p l i : Value} {spans : List Int} {n : Nat} : Z a = some { cls := .type "re.Match", data := .fields #[.str ⟨x.toArray⟩ t, pat, p, l, i, .ref T] } →
      Z T = some { cls := .type "tuple", data := .seq (spans.map rawInt).toArray n } → Rep Z (.ref a) (.mat x spans)
inductive RepL (Z : ZMap) : List Value → List PV → Prop
  | nil : RepL Z [] []
  | cons {v : Value} {p : PV} {vs : List Value} {ps : List PV} : Rep Z v p → RepL Z vs ps → RepL Z (v :: vs) (p :: ps)
inductive RepE (Z : ZMap) : List DictEntry → List (Str × PV) → Prop
  | nil : RepE Z [] []
  | cons {h : Int} {x : Str} {t : Tok} {v : Value} {p : PV} {es : List DictEntry} {fs : List (Str × PV)} : Rep Z v p → RepE Z es fs → RepE Z (⟨h, .str x t, v⟩ :: es) ((x, p) :: fs)
end

theorem Rep.str' {Z : ZMap} {x : Str} {l : List Nat} {t : Tok} (h : x.cps.toList = l) : Rep Z (.str x t) (.str l) := by
  subst h
  obtain ⟨a⟩ := x
  exact .str a.toList t

def ZSub (Z Z' : ZMap) : Prop := ∀ b o, Z b = some o → Z' b = some o
def ZIn (Z : ZMap) (h : Heap) : Prop := ∀ b o, Z b = some o → h.get? b = some o
structure ZExt (h : Heap) (Z Z' : ZMap) : Prop where
  sub : ZSub Z Z'
  old : ∀ b o, h.get? b = some o → Z' b = Z b

theorem ZSub.refl (Z : ZMap) : ZSub Z Z := fun _ _ e => e
theorem ZSub.trans {Z₁ Z₂ Z₃ : ZMap} (x : ZSub Z₁ Z₂) (y : ZSub Z₂ Z₃) : ZSub Z₁ Z₃ := fun b o e => y b o (x b o e)

mutual
theorem Rep.mono {Z Z' : ZMap} (s : ZSub Z Z') : ∀ {v : Value} {p : PV}, Rep Z v p → Rep Z' v p
  | _, _, .none => .none
  | _, _, .bool b => .bool b
  | _, _, .int i t => .int i t
  | _, _, .str x t => .str x t
  | _, _, .tup h1 h2 h3 h4 => .tup (s _ _ h1) h2 h3 (RepL.mono s h4)
  | _, _, .lst h1 h2 h3 h4 => .lst (s _ _ h1) h2 h3 (RepL.mono s h4)
  | _, _, .con v => .con v
  | _, _, .obj h1 h2 h3 => .obj (s _ _ h1) (s _ _ h2) (RepE.mono s h3)
  | _, _, .rng h1 => .rng (s _ _ h1)
  | _, _, .mat h1 h2 => .mat (s _ _ h1) (s _ _ h2)
theorem RepL.mono {Z Z' : ZMap} (s : ZSub Z Z') : ∀ {v : List Value} {p : List PV}, RepL Z v p → RepL Z' v p
  | _, _, .nil => .nil
  | _, _, .cons h t => .cons (Rep.mono s h) (RepL.mono s t)
theorem RepE.mono {Z Z' : ZMap} (s : ZSub Z Z') : ∀ {v : List DictEntry} {p : List (Str × PV)}, RepE Z v p → RepE Z' v p
  | _, _, .nil => .nil
  | _, _, .cons h t => .cons (Rep.mono s h) (RepE.mono s t)
end

theorem RepL.length {Z : ZMap} : ∀ {vs : List Value} {ps : List PV}, RepL Z vs ps → vs.length = ps.length
  | _, _, .nil => rfl
  | _, _, .cons _ t => by rw [List.length_cons, List.length_cons, RepL.length t]

/-- what is kept: all objects; an object of class "frame" that the base does not hold up to its slots -/
def Kp (G h h' : Heap) : Prop := ∀ b o, h.get? b = some o → ∃ o', h'.get? b = some o' ∧ o'.cls = o.cls ∧ o'.data = o.data ∧ (o.cls ≠ .type "frame" ∨ (∃ q, G.get? b = some q) → o' = o)
theorem Kp.refl (G h : Heap) : Kp G h h := fun _ o e => ⟨o, e, rfl, rfl, fun _ => rfl⟩
theorem Kp.trans {G h₁ h₂ h₃ : Heap} (x : Kp G h₁ h₂) (y : Kp G h₂ h₃) : Kp G h₁ h₃ := fun b o e => by
  obtain ⟨o', e', c', d', k'⟩ := x b o e
  obtain ⟨o'', e'', c'', d'', k''⟩ := y b o' e'
  exact ⟨o'', e'', c''.trans c', d''.trans d', fun n => (k'' (by rw [c']; exact n)).trans (k' n)⟩
theorem Kp.of {G h h' : Heap} (x : ∀ b o, h.get? b = some o → h'.get? b = some o) : Kp G h h' := fun b o e => ⟨o, x b o e, rfl, rfl, fun _ => rfl⟩
theorem Kp.get {G h h' : Heap} (x : Kp G h h') {b : Addr} {o : Obj} (e : h.get? b = some o) (n : o.cls ≠ .type "frame" ∨ ∃ q, G.get? b = some q) : h'.get? b = some o := by
  obtain ⟨o', e', _, _, k⟩ := x b o e
  rw [k n] at e'; exact e'

structure Go (G : Heap) (s s' : Shared) : Prop where
  eq : ∃ h tk, s' = { s with heap := h, toks := tk }
  kp : Kp G s.heap s'.heap
theorem Go.refl (G : Heap) (s : Shared) : Go G s s := ⟨⟨s.heap, s.toks, rfl⟩, .refl _ _⟩
theorem Go.trans {G : Heap} {s₁ s₂ s₃ : Shared} (x : Go G s₁ s₂) (y : Go G s₂ s₃) : Go G s₁ s₃ := by
  obtain ⟨h, t, rfl⟩ := x.eq
  obtain ⟨h', t', rfl⟩ := y.eq
  exact ⟨⟨h', t', rfl⟩, x.kp.trans y.kp⟩
theorem Go.tok (G : Heap) (s : Shared) (t : Nat) : Go G s { s with toks := t } := ⟨⟨s.heap, t, rfl⟩, .refl _ _⟩
theorem Go.heap {G : Heap} {s : Shared} {h : Heap} {t : Nat} (x : ∀ b o, s.heap.get? b = some o → h.get? b = some o) : Go G s { s with heap := h, toks := t } := ⟨⟨h, t, rfl⟩, .of x⟩
theorem Go.of_keeps {G : Heap} {s s' : Shared} (x : Keeps s s') : Go G s s' := by obtain ⟨h, t, rfl, k⟩ := x; exact .heap k

theorem ZExt.refl (h : Heap) (Z : ZMap) : ZExt h Z Z := ⟨.refl Z, fun _ _ _ => rfl⟩
theorem ZExt.trans {G h h' : Heap} {Z₁ Z₂ Z₃ : ZMap} (x : ZExt h Z₁ Z₂) (k : Kp G h h') (y : ZExt h' Z₂ Z₃) : ZExt h Z₁ Z₃ :=
  ⟨x.sub.trans y.sub, fun b o e => by obtain ⟨o', e', _⟩ := k b o e; exact (y.old b o' e').trans (x.old b o e)⟩

/-- a zone that lies in the heap; it bears no frame but the base's -/
structure ZOk (G : Heap) (Z : ZMap) (h : Heap) : Prop where
  zin : ZIn Z h
  zf : ∀ b o, Z b = some o → o.cls ≠ .type "frame" ∨ ∃ q, G.get? b = some q
theorem ZOk.go {G h h' : Heap} {Z : ZMap} (x : ZOk G Z h) (k : Kp G h h') : ZOk G Z h' := ⟨fun b o e => k.get (x.zin b o e) (x.zf b o e), x.zf⟩

def zput (Z : ZMap) (a : Addr) (o : Obj) : ZMap := fun b => if b = a then some o else Z b
theorem zput_at (Z : ZMap) (a : Addr) (o : Obj) : zput Z a o a = some o := if_pos rfl
theorem ZExt.put {G h : Heap} {Z : ZMap} (zi : ZOk G Z h) {a : Addr} {o : Obj} (n : h.get? a = Option.none) : ZExt h Z (zput Z a o) := by
  refine ⟨fun b o' e => ?_, fun b o' e => ?_⟩
  · unfold zput
    by_cases q : b = a
    · subst q; rw [zi.zin _ _ e] at n; cases n
    · rw [if_neg q]; exact e
  · unfold zput
    by_cases q : b = a
    · subst q; rw [e] at n; cases n
    · rw [if_neg q]
theorem ZOk.put {G h : Heap} {Z : ZMap} (zi : ZOk G Z h) {a : Addr} {o : Obj} (e : h.get? a = some o) (n : o.cls ≠ .type "frame") : ZOk G (zput Z a o) h := by
  refine ⟨fun b o' e' => ?_, fun b o' e' => ?_⟩ <;> unfold zput at e'
  · by_cases q : b = a
    · subst q; rw [if_pos rfl] at e'; cases e'; exact e
    · rw [if_neg q] at e'; exact zi.zin _ _ e'
  · by_cases q : b = a
    · subst q; rw [if_pos rfl] at e'; cases e'; exact .inl n
    · rw [if_neg q] at e'; exact zi.zf _ _ e'

/-- the world of a law: what stands before the call -/
structure Wd where
  prog : Program
  w : World
  G : Heap
  K : Frag
  mg : Str → Option Value
  mb : Str → Option Value
  kin : K.In G
  g : G.Ns mainGlobals mg
  b : G.Ns builtinsNs mb
  nolimit : G.NoLimit
  nodigits : ∃ mc, G.Ns cStatics mc ∧ mc "sys.int_max_str_digits" = Option.none
  bi : ∀ x : Str, x ≠ "__name__" → mb x = bootBuiltins x

structure AOk (A : Around) (n : Nat) : Prop where
  hh : A.handled = Option.none
  hd : A.depth + 2 * n < recursionLimit
  hu : A.units + 50 * n < cLine

/-- an activation -/
structure Ac (W : Wd) where
  A : Around
  env : Env
  n : Nat
  ok : AOk A n
  hk : env.scope.kind = .function
  hg : env.globals = mainGlobals
  hb : env.builtins = builtinsNs

abbrev Rho := List (Str × PV)

def VarAt (env : Env) (h : Heap) (x : Str) (v : Value) : Prop :=
  (env.kindOf x = some .local ∧ ∃ m, h.Ns env.locals m ∧ m x = some v) ∨ (env.kindOf x = some .cell ∧ ∃ c, env.cells.lookup x = some c ∧ h.IsCell c (some v))
theorem Kp.ns {G h h' : Heap} (k : Kp G h h') {a : Addr} {m : Str → Option Value} (n : h.Ns a m) : h'.Ns a m := by
  obtain ⟨o, es, ep, e, d, r⟩ := n
  obtain ⟨o', e', _, d', _⟩ := k a o e
  exact ⟨o', es, ep, e', d'.trans d, r⟩
theorem Kp.cell {G h h' : Heap} (k : Kp G h h') {a : Addr} {v : Option Value} (n : h.IsCell a v) : h'.IsCell a v := by
  obtain ⟨o, e, d⟩ := n
  obtain ⟨o', e', _, d', _⟩ := k a o e
  exact ⟨o', e', d'.trans d⟩
theorem VarAt.go {G h h' : Heap} {env : Env} {x : Str} {v : Value} (a : VarAt env h x v) (k : Kp G h h') : VarAt env h' x v := by
  rcases a with ⟨hl, m, hn, hm⟩ | ⟨hl, c, hc, hv⟩
  · exact .inl ⟨hl, m, k.ns hn, hm⟩
  · exact .inr ⟨hl, c, hc, k.cell hv⟩
theorem Kp.frames {G h h' base : Heap} (k : Kp G h h') {l : List Env} (f : h.FunFrames base l) : h'.FunFrames base l :=
  f.of_keeps fun b o e _ => by obtain ⟨o', e', _, d', _⟩ := k b o e; exact ⟨o', e', d'⟩

/-- zones and frames: what any tree may lean on -/
structure StG (W : Wd) (A : Around) (Z : ZMap) (s : Shared) : Prop where
  z : ZOk W.G Z s.heap
  g : ∀ b o, W.G.get? b = some o → Z b = some o
  ff : ∃ outer, A.frames = some outer ∧ s.heap.FunFrames W.G outer

structure StE (W : Wd) (C : Ac W) (ρ : Rho) (Z : ZMap) (s : Shared) : Prop where
  toG : StG W C.A Z s
  vars : ∀ x p, ρ.lookup x = some p → ∃ v, VarAt C.env s.heap x v ∧ Rep Z v p

theorem StG.keep {W : Wd} {A : Around} {Z : ZMap} {s : Shared} (x : StG W A Z s) : ∀ b o, W.G.get? b = some o → s.heap.get? b = some o := fun b o e => x.z.zin b o (x.g b o e)
theorem StG.go {W : Wd} {A : Around} {Z Z' : ZMap} {s s' : Shared} (x : StG W A Z s) (g : Go W.G s s') (e : ZExt s.heap Z Z') (z : ZOk W.G Z' s'.heap) : StG W A Z' s' :=
  ⟨z, fun b o q => e.sub b o (x.g b o q), let ⟨outer, h1, h2⟩ := x.ff; ⟨outer, h1, g.kp.frames h2⟩⟩
theorem StE.go {W : Wd} {C : Ac W} {ρ : Rho} {Z Z' : ZMap} {s s' : Shared} (x : StE W C ρ Z s) (g : Go W.G s s') (e : ZExt s.heap Z Z') (z : ZOk W.G Z' s'.heap) : StE W C ρ Z' s' :=
  ⟨x.toG.go g e z, fun y p h => let ⟨v, h1, h2⟩ := x.vars y p h; ⟨v, h1.go g.kp, h2.mono e.sub⟩⟩

/-- the post of a tree that yields a plain value -/
def Pst {W : Wd} (Z : ZMap) (s : Shared) (Q : PV → Prop) (v : Value) (s' : Shared) : Prop :=
  Go W.G s s' ∧ ∃ Z' p, ZExt s.heap Z Z' ∧ ZOk W.G Z' s'.heap ∧ Rep Z' v p ∧ Q p
/-- the post of a tree that yields a thing without a zone (a truth, a number) -/
def Psb {W : Wd} {α : Type} (Z : ZMap) (s : Shared) (Q : α → Prop) (v : α) (s' : Shared) : Prop :=
  Go W.G s s' ∧ ∃ Z', ZExt s.heap Z Z' ∧ ZOk W.G Z' s'.heap ∧ Q v

abbrev Wd.M (W : Wd) : Model := model W.prog W.w

/-- the expression e, at ρ, yields a plain value with Q -/
def Ev {W : Wd} (C : Ac W) (E : Value → Shared → Prop) (ρ : Rho) (e : Expr) (Q : PV → Prop) : Prop :=
  ∀ Z s, StE W C ρ Z s → wpAny W.M C.A (eval e C.env) (Pst (W := W) Z s Q) E s
/-- the test e comes out by Q -/
def Tv {W : Wd} (C : Ac W) (E : Value → Shared → Prop) (ρ : Rho) (e : Expr) (Q : Bool → Prop) : Prop :=
  ∀ Z s, StE W C ρ Z s → wpAny W.M C.A (isTrue e C.env (eval e C.env)) (Psb (W := W) Z s Q) E s
def Op1 {W : Wd} (C : Ac W) (E : Value → Shared → Prop) (f : Value → Sem Value) (x : PV) (Q : PV → Prop) : Prop :=
  ∀ Z s a, StG W C.A Z s → Rep Z a x → wpAny W.M C.A (f a) (Pst (W := W) Z s Q) E s
def Op2 {W : Wd} (C : Ac W) (E : Value → Shared → Prop) (f : Value → Value → Sem Value) (x y : PV) (Q : PV → Prop) : Prop :=
  ∀ Z s a b, StG W C.A Z s → Rep Z a x → Rep Z b y → wpAny W.M C.A (f a b) (Pst (W := W) Z s Q) E s
def Ob1 {W : Wd} (C : Ac W) (E : Value → Shared → Prop) (f : Value → Sem Bool) (x : PV) (Q : Bool → Prop) : Prop :=
  ∀ Z s a, StG W C.A Z s → Rep Z a x → wpAny W.M C.A (f a) (Psb (W := W) Z s Q) E s

section
variable {W : Wd} {C : Ac W} {A : Around} {E : Value → Shared → Prop} {ρ : Rho} {Z : ZMap} {s s₁ : Shared} {Q : PV → Prop}

theorem Pst.here {v : Value} {p : PV} (z : StG W A Z s) (g : Go W.G s s₁) (r : Rep Z v p) (q : Q p) : Pst (W := W) Z s Q v s₁ :=
  ⟨g, Z, p, .refl _ _, z.z.go g.kp, r, q⟩
theorem Psb.here {α : Type} {Q : α → Prop} {v : α} (z : StG W A Z s) (g : Go W.G s s₁) (q : Q v) : Psb (W := W) Z s Q v s₁ :=
  ⟨g, Z, .refl _ _, z.z.go g.kp, q⟩
/-- the post from a later state is one from an earlier one -/
theorem Pst.back {v : Value} {s' : Shared} {Z₁ : ZMap} (g : Go W.G s s₁) (e : ZExt s.heap Z Z₁) (p : Pst (W := W) Z₁ s₁ Q v s') : Pst (W := W) Z s Q v s' := by
  obtain ⟨g', Z', p, e', z', r, q⟩ := p
  exact ⟨g.trans g', Z', p, e.trans g.kp e', z', r, q⟩
theorem Psb.back {α : Type} {Q : α → Prop} {v : α} {s' : Shared} {Z₁ : ZMap} (g : Go W.G s s₁) (e : ZExt s.heap Z Z₁) (p : Psb (W := W) Z₁ s₁ Q v s') : Psb (W := W) Z s Q v s' := by
  obtain ⟨g', Z', e', z', q⟩ := p
  exact ⟨g.trans g', Z', e.trans g.kp e', z', q⟩
/-- a tree, then a tree -/
theorem bindP {t : Sem Value} {R : Value → Shared → Prop} {P : PV → Prop} (h : wpAny W.M A t (Pst (W := W) Z s P) E s)
    (k : ∀ v s₁ Z₁ p, Go W.G s s₁ → ZExt s.heap Z Z₁ → ZOk W.G Z₁ s₁.heap → Rep Z₁ v p → P p → R v s₁) : wpAny W.M A t R E s :=
  wpAny_mono h (fun v s₁ ⟨g, Z₁, p, e, z, r, q⟩ => k v s₁ Z₁ p g e z r q) fun _ _ x => x

theorem Ev.mono {e : Expr} {Q' : PV → Prop} (h : Ev C E ρ e Q) (k : ∀ p, Q p → Q' p) : Ev C E ρ e Q' := fun Z s S =>
  wpAny_mono (h Z s S) (fun _ _ ⟨g, Z₁, p, e, z, r, q⟩ => ⟨g, Z₁, p, e, z, r, k p q⟩) fun _ _ x => x
theorem Op2.mono {f : Value → Value → Sem Value} {x y : PV} {Q' : PV → Prop} (h : Op2 C E f x y Q) (k : ∀ p, Q p → Q' p) : Op2 C E f x y Q' := fun Z s a b S ra rb =>
  wpAny_mono (h Z s a b S ra rb) (fun _ _ ⟨g, Z₁, p, e, z, r, q⟩ => ⟨g, Z₁, p, e, z, r, k p q⟩) fun _ _ x => x
end

end Mine

end

section
open PySem PySem.W PyProof.Rows PySem.Calls
namespace Mine
section
variable {W : Wd} {C : Ac W} {E : Value → Shared → Prop} {ρ : Rho} {Q : PV → Prop}

theorem AOk.units {A : Around} {n : Nat} (h : AOk A n) : A.units < cLine := by have := h.hu; omega

theorem Ev.int {i : Int} {k : Nat} {pos : Pos} (q : Q (.int i)) : Ev C E ρ (.Constant (.int i) k pos) Q := fun _ _ S =>
  wpAny_Constant_int (.here S.toG (.tok _ _ _) (.int _ _) q)
theorem Ev.str {x : Str} {k : Nat} {pos : Pos} (q : Q (.str x.cps.toList)) : Ev C E ρ (.Constant (.str x) k pos) Q := fun _ _ S =>
  wpAny_Constant_str (.here S.toG (.tok _ _ _) (.str' rfl) q)
theorem Ev.none {k : Nat} {pos : Pos} (q : Q .none) : Ev C E ρ (.Constant .none k pos) Q := fun _ _ S =>
  wpAny_Constant_none (.here S.toG (.refl _ _) .none q)
theorem Ev.bool {b : Bool} {k : Nat} {pos : Pos} (q : Q (.bool b)) : Ev C E ρ (.Constant (.bool b) k pos) Q := fun _ _ S =>
  wpAny_Constant_bool (.here S.toG (.refl _ _) (.bool b) q)

theorem Ev.var {x : Str} {pos : Pos} {p : PV} (h : ρ.lookup x = some p) (q : Q p) (hd : (x == ("__debug__" : Str)) = false := by decide) : Ev C E ρ (.Name x pos) Q := fun Z s S => by
  obtain ⟨v, hv, r⟩ := S.vars x p h
  rcases hv with ⟨hl, m, hn, hm⟩ | ⟨hl, c, hc, hcv⟩
  · exact wpAny_Name (wpAny_loadName_local C.hk hl hn hm (.here S.toG (.refl _ _) r q)) hd
  · exact wpAny_Name (wpAny_loadName_cell C.hk hl hc hcv (.here S.toG (.refl _ _) r q)) hd

theorem Ev.glob {x : Str} {pos : Pos} {v : Value} {p : PV} (hv : W.mg x = some v) (r : Rep W.G.get? v p) (q : Q p) (hx : C.env.kindOf x = some .globalImplicit := by rfl) (hd : (x == ("__debug__" : Str)) = false := by decide) : Ev C E ρ (.Name x pos) Q := fun Z s S =>
  Name_function_global C.hk hx (loadGlobal_global (env := C.env) (by rw [C.hg]; exact W.g.keeps S.toG.keep) hv (.here S.toG (.refl _ _) (r.mono S.toG.g) q)) hd

theorem Ev.boot {x : Str} {pos : Pos} {v : Value} (hm : W.mg x = Option.none) (hv : bootBuiltins x = some v) (q : Q (.con v)) (hn : x ≠ "__name__" := by decide) (hx : C.env.kindOf x = some .globalImplicit := by rfl) (hd : (x == ("__debug__" : Str)) = false := by decide) : Ev C E ρ (.Name x pos) Q := fun Z s S =>
  Name_function_global C.hk hx (loadGlobal_builtin (env := C.env) (by rw [C.hg]; exact W.g.keeps S.toG.keep) hm (by rw [C.hb]; exact W.b.keeps S.toG.keep) ((W.bi x hn).trans hv) (.here S.toG (.refl _ _) (.con _) q)) hd

/-- two trees one after another, then an operation -/
theorem Ev.binop {l r : Expr} {op : Operator} {pos : Pos} (h : Ev C E ρ l fun x => Ev C E ρ r fun y => Op2 C E (binaryOp op) x y Q) : Ev C E ρ (.BinOp l op r pos) Q := fun Z s S => by
  refine wpAny_BinOp (bindP (h Z s S) fun a s₁ Z₁ x g₁ e₁ z₁ r₁ h₁ => ?_)
  have S₁ := S.go g₁ e₁ z₁
  refine bindP (h₁ Z₁ s₁ S₁) fun b s₂ Z₂ y g₂ e₂ z₂ r₂ h₂ => ?_
  have S₂ := S₁.go g₂ e₂ z₂
  exact wpAny_mono (h₂ Z₂ s₂ a b S₂.toG (r₁.mono e₂.sub) r₂) (fun _ _ p => .back g₁ e₁ (.back g₂ e₂ p)) fun _ _ x => x

theorem Ev.unop {x : Expr} {op : UnaryOp} {pos : Pos} (h : Ev C E ρ x fun x => Op1 C E (unaryOp op) x Q) : Ev C E ρ (.UnaryOp op x pos) Q := fun Z s S => by
  refine wpAny_UnaryOp (bindP (h Z s S) fun a s₁ Z₁ x g₁ e₁ z₁ r₁ h₁ => ?_)
  exact wpAny_mono (h₁ Z₁ s₁ a (S.go g₁ e₁ z₁).toG r₁) (fun _ _ p => .back g₁ e₁ p) fun _ _ x => x

theorem Ev.cmp {l r : Expr} {op : CmpOp} {pos : Pos} (h : Ev C E ρ l fun x => Ev C E ρ r fun y => Op2 C E (compareOp op) x y Q) (hm : behindInMarks op r = false := by with_unfolding_all rfl) : Ev C E ρ (.Compare l [op] [r] pos) Q := fun Z s S => by
  refine wpAny_Compare1 (hm := hm) (bindP (h Z s S) fun a s₁ Z₁ x g₁ e₁ z₁ r₁ h₁ => ?_)
  have S₁ := S.go g₁ e₁ z₁
  refine bindP (h₁ Z₁ s₁ S₁) fun b s₂ Z₂ y g₂ e₂ z₂ r₂ h₂ => ?_
  have S₂ := S₁.go g₂ e₂ z₂
  exact wpAny_mono (h₂ Z₂ s₂ a b S₂.toG (r₁.mono e₂.sub) r₂) (fun _ _ p => .back g₁ e₁ (.back g₂ e₂ p)) fun _ _ x => x

theorem Ev.ifexp {t b o : Expr} {pos : Pos} (h : Tv C E ρ t fun c => if c then Ev C E ρ b Q else Ev C E ρ o Q) : Ev C E ρ (.IfExp t b o pos) Q := fun Z s S => by
  refine wpAny_IfExp (wpAny_mono (h Z s S) (fun c s₁ ⟨g₁, Z₁, e₁, z₁, q⟩ => ?_) fun _ _ x => x)
  have S₁ := S.go g₁ e₁ z₁
  cases c
  · exact wpAny_mono (q Z₁ s₁ S₁) (fun _ _ p => .back g₁ e₁ p) fun _ _ x => x
  · exact wpAny_mono (q Z₁ s₁ S₁) (fun _ _ p => .back g₁ e₁ p) fun _ _ x => x

/-! tests -/
section
variable {P : Bool → Prop}
theorem Ob1.of_bool {b : Bool} (q : P b) : Ob1 C E truthy (.bool b) P := fun Z s a S r => by
  cases r with | bool b => exact wpAny_truthy_bool (.here S (.refl _ _) q)
theorem Ob1.of_str {l : List Nat} (q : P (!l.isEmpty)) (hl : l.length < 1000000) : Ob1 C E truthy (.str l) P := fun Z s a S r => by
  cases r with
  | str x t =>
    have e : ((Str.length ⟨l.toArray⟩ : Int) != 0) = !l.isEmpty := by cases l <;> simp [Str.length] <;> omega
    exact SBL.truthy (by simp only [Str.length, List.size_toArray]; omega) (.here S (.tok _ _ _) (by rw [e]; exact q))
theorem Ob1.of_none (q : P false) : Ob1 C E truthy .none P := fun Z s a S r => by
  cases r with | none => exact wpAny_pure (.here S (.refl _ _) q)

theorem Tv.value {e : Expr} (h : Ev C E ρ e fun x => Ob1 C E truthy x P) (he : ∀ whole, isTrue e C.env whole = (do let v ← whole; standAt e.pos; holding [v] (truthy v)) := by intro _; rfl) : Tv C E ρ e P := fun Z s S => by
  refine wpAny_isTrue_value (he := he _) (bindP (h Z s S) fun a s₁ Z₁ x g₁ e₁ z₁ r₁ h₁ => ?_)
  exact wpAny_mono (h₁ Z₁ s₁ a (S.go g₁ e₁ z₁).toG r₁) (fun _ _ p => .back g₁ e₁ p) fun _ _ x => x
theorem Tv.cmp {l r : Expr} {op : CmpOp} {pos : Pos} (h : Ev C E ρ l fun x => Ev C E ρ r fun y => Op2 C E (compareOp op) x y fun c => Ob1 C E truthy c P) (hm : behindInMarks op r = false := by with_unfolding_all rfl) : Tv C E ρ (.Compare l [op] [r] pos) P := fun Z s S => by
  refine wpAny_isTrue_Compare1 (hm := hm) (bindP (h Z s S) fun a s₁ Z₁ x g₁ e₁ z₁ r₁ h₁ => ?_)
  have S₁ := S.go g₁ e₁ z₁
  refine bindP (h₁ Z₁ s₁ S₁) fun b s₂ Z₂ y g₂ e₂ z₂ r₂ h₂ => ?_
  have S₂ := S₁.go g₂ e₂ z₂
  refine bindP (h₂ Z₂ s₂ a b S₂.toG (r₁.mono e₂.sub) r₂) fun c s₃ Z₃ u g₃ e₃ z₃ r₃ h₃ => ?_
  exact wpAny_mono (h₃ Z₃ s₃ c (S₂.go g₃ e₃ z₃).toG r₃) (fun _ _ p => .back g₁ e₁ (.back g₂ e₂ (.back g₃ e₃ p))) fun _ _ x => x
theorem Tv.not {e : Expr} {pos : Pos} (h : Tv C E ρ e fun b => P (!b)) : Tv C E ρ (.UnaryOp .Not e pos) P := fun Z s S =>
  wpAny_isTrue_Not (wpAny_mono (h Z s S) (fun _ _ ⟨g, Z₁, e, z, q⟩ => ⟨g, Z₁, e, z, q⟩) fun _ _ x => x)

/-- a chain of and | or in a test -/
def Ta {W : Wd} (C : Ac W) (E : Value → Shared → Prop) (ρ : Rho) (op : BoolOp) (es : List Expr) (Q : Bool → Prop) : Prop :=
  ∀ Z s, StE W C ρ Z s → wpAny W.M C.A (allTrue op es C.env) (Psb (W := W) Z s Q) E s
theorem Ta.and_nil (q : P true) : Ta C E ρ .And [] P := fun _ _ S => wpAny_allTrue_And_nil (.here S.toG (.refl _ _) q)
theorem Ta.or_nil (q : P false) : Ta C E ρ .Or [] P := fun _ _ S => wpAny_allTrue_Or_nil (.here S.toG (.refl _ _) q)
theorem Ta.and {e : Expr} {es : List Expr} (h : Tv C E ρ e fun b => if b then Ta C E ρ .And es P else P false) : Ta C E ρ .And (e :: es) P := fun Z s S => by
  refine wpAny_allTrue_And_cons (wpAny_mono (h Z s S) (fun c s₁ ⟨g₁, Z₁, e₁, z₁, q⟩ => ?_) fun _ _ x => x)
  cases c
  · exact ⟨g₁, Z₁, e₁, z₁, q⟩
  · exact wpAny_mono (q Z₁ s₁ (S.go g₁ e₁ z₁)) (fun _ _ p => .back g₁ e₁ p) fun _ _ x => x
theorem Ta.or {e : Expr} {es : List Expr} (h : Tv C E ρ e fun b => if b then P true else Ta C E ρ .Or es P) : Ta C E ρ .Or (e :: es) P := fun Z s S => by
  refine wpAny_allTrue_Or_cons (wpAny_mono (h Z s S) (fun c s₁ ⟨g₁, Z₁, e₁, z₁, q⟩ => ?_) fun _ _ x => x)
  cases c
  · exact wpAny_mono (q Z₁ s₁ (S.go g₁ e₁ z₁)) (fun _ _ p => .back g₁ e₁ p) fun _ _ x => x
  · exact ⟨g₁, Z₁, e₁, z₁, q⟩
theorem Tv.boolop {op : BoolOp} {es : List Expr} {pos : Pos} (h : Ta C E ρ op es P) : Tv C E ρ (.BoolOp op es pos) P := fun Z s S => wpAny_isTrue_BoolOp (h Z s S)
theorem Tv.mono {e : Expr} {P' : Bool → Prop} (h : Tv C E ρ e P) (k : ∀ b, P b → P' b) : Tv C E ρ e P' := fun Z s S =>
  wpAny_mono (h Z s S) (fun _ _ ⟨g, Z₁, e, z, q⟩ => ⟨g, Z₁, e, z, k _ q⟩) fun _ _ x => x
end

/-! values of and | or -/
/-- a chain of and | or for its value -/
def Eb {W : Wd} (C : Ac W) (E : Value → Shared → Prop) (ρ : Rho) (pos : Pos) (op : BoolOp) (es : List Expr) (Q : PV → Prop) : Prop :=
  ∀ Z s, StE W C ρ Z s → wpAny W.M C.A (boolOp pos op (evalEach es C.env)) (Pst (W := W) Z s Q) E s
theorem Eb.one {e : Expr} {pos : Pos} {op : BoolOp} (h : Ev C E ρ e Q) : Eb C E ρ pos op [e] Q := fun Z s S => h Z s S
theorem Eb.and {e e' : Expr} {es : List Expr} {pos : Pos} (h : Ev C E ρ e fun x => Ob1 C E truthy x fun b => if b then Eb C E ρ pos .And (e' :: es) Q else Q x) : Eb C E ρ pos .And (e :: e' :: es) Q := fun Z s S => by
  refine wpAny_bind (bindP (h Z s S) fun v s₁ Z₁ x g₁ e₁ z₁ r₁ h₁ => ?_)
  have S₁ := S.go g₁ e₁ z₁
  refine wpAny_bind (wpAny_standAt (wpAny_bind (wpAny_holding (wpAny_mono (h₁ Z₁ s₁ v S₁.toG r₁) (fun b s₂ ⟨g₂, Z₂, e₂, z₂, q⟩ => ?_) fun _ _ x => x))))
  have S₂ := S₁.go g₂ e₂ z₂
  cases b
  · exact wpAny_pure (.back g₁ e₁ ⟨g₂, Z₂, x, e₂, z₂, r₁.mono e₂.sub, q⟩)
  · exact wpAny_mono (q Z₂ s₂ S₂) (fun _ _ p => .back g₁ e₁ (.back g₂ e₂ p)) fun _ _ x => x
theorem Eb.or {e e' : Expr} {es : List Expr} {pos : Pos} (h : Ev C E ρ e fun x => Ob1 C E truthy x fun b => if b then Q x else Eb C E ρ pos .Or (e' :: es) Q) : Eb C E ρ pos .Or (e :: e' :: es) Q := fun Z s S => by
  refine wpAny_bind (bindP (h Z s S) fun v s₁ Z₁ x g₁ e₁ z₁ r₁ h₁ => ?_)
  have S₁ := S.go g₁ e₁ z₁
  refine wpAny_bind (wpAny_standAt (wpAny_bind (wpAny_holding (wpAny_mono (h₁ Z₁ s₁ v S₁.toG r₁) (fun b s₂ ⟨g₂, Z₂, e₂, z₂, q⟩ => ?_) fun _ _ x => x))))
  have S₂ := S₁.go g₂ e₂ z₂
  cases b
  · exact wpAny_mono (q Z₂ s₂ S₂) (fun _ _ p => .back g₁ e₁ (.back g₂ e₂ p)) fun _ _ x => x
  · exact wpAny_pure (.back g₁ e₁ ⟨g₂, Z₂, x, e₂, z₂, r₁.mono e₂.sub, q⟩)
theorem Ev.boolop {op : BoolOp} {es : List Expr} {pos : Pos} (h : Eb C E ρ pos op es Q) : Ev C E ρ (.BoolOp op es pos) Q := fun Z s S => by
  rw [eval]; exact h Z s S
end
end Mine

end

section
open PySem PySem.W PyProof.Rows PySem.Calls
namespace Mine
section
variable {W : Wd} {C : Ac W} {E : Value → Shared → Prop} {ρ : Rho} {Q : PV → Prop}

/-! ints -/
theorem Op2.add_int {a b : Int} (q : Q (.int (a + b))) : Op2 C E (binaryOp .Add) (.int a) (.int b) Q := fun Z s _ _ S r₁ r₂ => by
  cases r₁; cases r₂; exact PyProof.Rows.add_int (.here S (.tok _ _ _) (.int _ _) q)
theorem Op2.sub_int {a b : Int} (q : Q (.int (a - b))) : Op2 C E (binaryOp .Sub) (.int a) (.int b) Q := fun Z s _ _ S r₁ r₂ => by
  cases r₁; cases r₂; exact PyProof.Rows.sub_int (.here S (.tok _ _ _) (.int _ _) q)
theorem Op2.mul_int {a b : Int} (q : Q (.int (a * b))) (h : IntMulOk a b) : Op2 C E (binaryOp .Mult) (.int a) (.int b) Q := fun Z s _ _ S r₁ r₂ => by
  cases r₁; cases r₂; exact PyProof.Rows.mul_int (hm := h) (.here S (.tok _ _ _) (.int _ _) q)
theorem Op2.div_int {a b : Int} (q : Q (.int (a.fdiv b))) (h0 : b ≠ 0) (h : b.natAbs.log2 < 9000) : Op2 C E (binaryOp .FloorDiv) (.int a) (.int b) Q := fun Z s _ _ S r₁ r₂ => by
  cases r₁; cases r₂; exact PyProof.Rows.floordiv_int (hp := .inl (PyProof.noPylong_of_log2 h)) h0 (.here S (.tok _ _ _) (.int _ _) q)
theorem Op2.mod_int {a b : Int} (q : Q (.int (a.fmod b))) (h0 : b ≠ 0) : Op2 C E (binaryOp .Mod) (.int a) (.int b) Q := fun Z s _ _ S r₁ r₂ => by
  cases r₁; cases r₂; exact PyProof.Rows.mod_int' h0 (.here S (.tok _ _ _) (.int _ _) q)
theorem Op2.pow_int {a n : Int} (q : Q (.int (a ^ n.toNat))) (h0 : 0 ≤ n) (h : (Builtin.Int.intBits a : Int) * n ≤ 2 ^ 27) : Op2 C E (binaryOp .Pow) (.int a) (.int n) Q := fun Z s _ _ S r₁ r₂ => by
  cases r₁; cases r₂; exact PyProof.Rows.pow_int h0 h (.here S (.tok _ _ _) (.int _ _) q)
theorem Op1.neg_int {a : Int} (q : Q (.int (-a))) : Op1 C E (unaryOp .USub) (.int a) Q := fun Z s _ S r₁ => by
  cases r₁; exact PyProof.Rows.neg_int (.here S (.tok _ _ _) (.int _ _) q)
theorem Op2.eq_int {a b : Int} (q : Q (.bool (decide (a = b)))) : Op2 C E (compareOp .Eq) (.int a) (.int b) Q := fun Z s _ _ S r₁ r₂ => by
  cases r₁; cases r₂; exact PyProof.Rows.eq_int (.here S (.refl _ _) (.bool _) (by have e : (a == b) = decide (a = b) := by by_cases h : a = b <;> simp [h]
                                                                                   rw [e]; exact q))
theorem Op2.ne_int {a b : Int} (q : Q (.bool (!decide (a = b)))) : Op2 C E (compareOp .NotEq) (.int a) (.int b) Q := fun Z s _ _ S r₁ r₂ => by
  cases r₁; cases r₂; exact PyProof.Rows.ne_int (.here S (.refl _ _) (.bool _) (by have e : (a != b) = !decide (a = b) := by by_cases h : a = b <;> simp [h]
                                                                                   rw [e]; exact q))
theorem Op2.lt_int {a b : Int} (q : Q (.bool (decide (a < b)))) : Op2 C E (compareOp .Lt) (.int a) (.int b) Q := fun Z s _ _ S r₁ r₂ => by
  cases r₁; cases r₂; exact PyProof.Rows.lt_int (.here S (.refl _ _) (.bool _) q)
theorem Op2.le_int {a b : Int} (q : Q (.bool (decide (a ≤ b)))) : Op2 C E (compareOp .LtE) (.int a) (.int b) Q := fun Z s _ _ S r₁ r₂ => by
  cases r₁; cases r₂; exact PyProof.Rows.le_int (.here S (.refl _ _) (.bool _) q)
theorem Op2.gt_int {a b : Int} (q : Q (.bool (decide (b < a)))) : Op2 C E (compareOp .Gt) (.int a) (.int b) Q := fun Z s _ _ S r₁ r₂ => by
  cases r₁; cases r₂; exact PyProof.Rows.gt_int (.here S (.refl _ _) (.bool _) q)
theorem Op2.ge_int {a b : Int} (q : Q (.bool (decide (b ≤ a)))) : Op2 C E (compareOp .GtE) (.int a) (.int b) Q := fun Z s _ _ S r₁ r₂ => by
  cases r₁; cases r₂; exact PyProof.Rows.ge_int (.here S (.refl _ _) (.bool _) q)

/-! texts -/
theorem Op2.add_str {a b : List Nat} (q : Q (.str (a ++ b))) (h : a.length + b.length ≤ 16000000) : Op2 C E (binaryOp .Add) (.str a) (.str b) Q := fun Z s _ _ S r₁ r₂ => by
  cases r₁; cases r₂
  refine SBL.add (hsz := by simp only [Str.length, List.size_toArray]; have := sizeLine_eq; omega) fun t' k _ => .here S (.tok _ _ _) (.str' ?_) q
  show (a.toArray ++ b.toArray).toList = _; simp
theorem iadd_same {a b : List Nat} (q : Q (.str (a ++ b))) (h : a.length + b.length ≤ 16000000) : Op2 C E (inplaceOp .Add) (.str a) (.str b) Q := fun Z s _ _ S r₁ r₂ => by
  cases r₁; cases r₂
  refine SBL.iadd (hsz := by simp only [Str.length, List.size_toArray]; have := sizeLine_eq; omega) fun t' k _ => .here S (.tok _ _ _) (.str' ?_) q
  show (a.toArray ++ b.toArray).toList = _; simp
theorem foldl_one (c : Nat) : ∀ (n : Nat) (acc : Array Nat), (List.replicate n #[c]).foldl (fun x y => x ++ y) acc = acc ++ (List.replicate n c).toArray
  | 0, acc => by simp
  | n + 1, acc => by rw [List.replicate_succ, List.foldl_cons, foldl_one c n, List.replicate_succ]; apply Array.ext'; simp
theorem mul_one (c : Nat) (n : Int) : (Txt.mul ⟨#[c]⟩ n).cps.toList = List.replicate n.toNat c := by
  unfold Txt.mul
  split
  · rename_i h; have : n.toNat = 0 := by omega
    rw [this]; rfl
  · split
    · rename_i h h2
      have h3 : n = 1 := by simpa [Str.length] using h2
      subst h3; rfl
    · show (List.foldl (fun x y => x ++ y) #[] (List.replicate n.toNat #[c])).toList = _
      rw [foldl_one]; simp
theorem Op2.mul_str {c : Nat} {n : Int} (q : Q (.str (List.replicate n.toNat c))) (h0 : -1000000 ≤ n) (h : n ≤ 1000000) : Op2 C E (binaryOp .Mult) (.str [c]) (.int n) Q := fun Z s _ _ S r₁ r₂ => by
  cases r₁; cases r₂
  exact SB.mul (mulOk_of 1 1000000 (by simp [Str.length]) (by omega) (by omega) (by decide) (by decide)) fun t' k => .here S (.tok _ _ _) (.str' (mul_one c n)) q
theorem beq_str (a b : List Nat) : ((⟨a.toArray⟩ : Str) == ⟨b.toArray⟩) = decide (a = b) := by
  by_cases h : a = b
  · subst h; simp
  · have : (⟨a.toArray⟩ : Str) ≠ ⟨b.toArray⟩ := fun e => h (by injection e with e; simpa using e)
    rw [beq_eq_false_iff_ne.mpr this, decide_eq_false h]
theorem Op2.eq_str {a b : List Nat} (q : Q (.bool (decide (a = b)))) : Op2 C E (compareOp .Eq) (.str a) (.str b) Q := fun Z s _ _ S r₁ r₂ => by
  cases r₁; cases r₂; exact PyProof.Rows.eq_str (.here S (.refl _ _) (.bool _) (by rw [beq_str]; exact q))
theorem Op2.ne_str {a b : List Nat} (q : Q (.bool (!decide (a = b)))) : Op2 C E (compareOp .NotEq) (.str a) (.str b) Q := fun Z s _ _ S r₁ r₂ => by
  cases r₁; cases r₂; exact PyProof.Rows.ne_str (.here S (.refl _ _) (.bool _) (by have e : ∀ x y : Str, (x != y) = !(x == y) := fun _ _ => rfl
                                                                                   rw [e, beq_str]; exact q))
theorem Op2.in_one {c : Nat} {l : List Nat} (q : Q (.bool (decide (c ∈ l)))) : Op2 C E (compareOp .In) (.str [c]) (.str l) Q := fun Z s _ _ S r₁ r₂ => by
  cases r₁; cases r₂; exact PyProof.Rows.in_str (.here S (.refl _ _) (.bool _) (by rw [StrLaws.found_one]; simpa using q))

/-! is, by kinds -/
theorem Op2.is_none_none (q : Q (.bool true)) : Op2 C E (compareOp .Is) .none .none Q := fun Z s _ _ S r₁ r₂ => by
  cases r₁; cases r₂; exact wpAny_is_self rfl (.here S (.refl _ _) (.bool _) q)
theorem Op2.isnot_none_none (q : Q (.bool false)) : Op2 C E (compareOp .IsNot) .none .none Q := fun Z s _ _ S r₁ r₂ => by
  cases r₁; cases r₂; exact wpAny_isNot_plain rfl (.here S (.refl _ _) (.bool _) q)
/-- values that are not None -/
def PV.some : PV → Prop
  | .none => False
  | .con _ => False
  | _ => True
theorem plainIs_none {Z : ZMap} {v : Value} {p : PV} (r : Rep Z v p) (h : p.some) : plainIs v .none = true ∧ v ≠ .none := by
  cases r <;> first | exact h.elim | exact ⟨rfl, by intro e; cases e⟩
theorem Op2.is_none {x : PV} (h : x.some) (q : Q (.bool false)) : Op2 C E (compareOp .Is) x .none Q := fun Z s _ _ S r₁ r₂ => by
  have h' := plainIs_none r₁ h
  cases r₂; exact wpAny_is_other h'.1 h'.2 (.here S (.refl _ _) (.bool _) q)
theorem Op2.isnot_none {x : PV} (h : x.some) (q : Q (.bool true)) : Op2 C E (compareOp .IsNot) x .none Q := fun Z s _ _ S r₁ r₂ => by
  have h' := plainIs_none r₁ h
  cases r₂; exact wpAny_isNot_other h'.1 h'.2 (.here S (.refl _ _) (.bool _) q)
theorem Op2.is_obj {c a : Addr} {f g : List (Str × PV)} (q : Q (.bool true)) : Op2 C E (compareOp .Is) (.obj c a f) (.obj c a g) Q := fun Z s _ _ S r₁ r₂ => by
  cases r₁; cases r₂; exact wpAny_is_ref_self (.here S (.refl _ _) (.bool _) q)

/-! fresh objects -/
theorem fresh {h : Heap} : h.get? h.objs.size = Option.none := by
  cases e : h.get? h.objs.size with
  | none => rfl
  | some o => exact absurd (Heap.lt_size e) (Nat.lt_irrefl _)
/-- an object pushed and taken into the zone -/
theorem Pst.push {Z : ZMap} {s : Shared} {t : Nat} {o : Obj} {p : PV} {A : Around} (S : StG W A Z s) (hf : o.isFreed = false) (hc : o.cls ≠ .type "frame") (r : ∀ Z', ZSub Z Z' → Z' s.heap.objs.size = some o → Rep Z' (.ref s.heap.objs.size) p) (q : Q p) :
    Pst (W := W) Z s Q (.ref s.heap.objs.size) { s with heap := s.heap.push o, toks := t } := by
  have e : ZExt s.heap Z (zput Z s.heap.objs.size o) := .put S.z fresh
  exact ⟨.heap fun b o' e => Heap.get?_push_of_some _ e, zput Z s.heap.objs.size o, p, e,
    ZOk.put (S.z.go (.of fun b o' e => Heap.get?_push_of_some _ e)) (Heap.get?_push_size _ hf) hc, r _ e.sub (zput_at _ _ _), q⟩

/-! displays -/
def El {W : Wd} (C : Ac W) (E : Value → Shared → Prop) (ρ : Rho) (pos : Pos) (es : List Expr) (Q : List PV → Prop) : Prop :=
  ∀ Z s, StE W C ρ Z s → wpAny W.M C.A (spliced (backTo pos (starEach es C.env))) (fun vs s' => Go W.G s s' ∧ ∃ Z' ps, ZExt s.heap Z Z' ∧ ZOk W.G Z' s'.heap ∧ RepL Z' vs ps ∧ Q ps) E s
theorem El.nil {pos : Pos} {Q : List PV → Prop} (q : Q []) : El C E ρ pos [] Q := fun Z s S =>
  wpAny_items_nil ⟨.refl _ _, Z, [], .refl _ _, S.toG.z, .nil, q⟩
theorem El.cons {pos : Pos} {e : Expr} {es : List Expr} {Q : List PV → Prop} (h : Ev C E ρ e fun x => El C E ρ pos es fun xs => Q (x :: xs))
    (he : starEach (e :: es) C.env = (false, eval e C.env) :: starEach es C.env := by rfl) : El C E ρ pos (e :: es) Q := fun Z s S => by
  refine wpAny_items_cons (he := he) (bindP (h Z s S) fun v s₁ Z₁ x g₁ e₁ z₁ r₁ h₁ => ?_)
  refine wpAny_mono (h₁ Z₁ s₁ (S.go g₁ e₁ z₁)) (fun vs s₂ ⟨g₂, Z₂, ps, e₂, z₂, r₂, q⟩ => ?_) fun _ _ x => x
  exact ⟨g₁.trans g₂, Z₂, x :: ps, e₁.trans g₁.kp e₂, z₂, .cons (r₁.mono e₂.sub) r₂, q⟩
theorem Ev.tuple {es : List Expr} {k : Nat} {pos : Pos} (h : El C E ρ pos es fun ps => Q (.tup ps) ∧ ps.length ≤ 1000000) : Ev C E ρ (.Tuple es k pos) Q := fun Z s S => by
  refine wpAny_Tuple (wpAny_mono (h Z s S) (fun vs s₁ ⟨g₁, Z₁, ps, e₁, z₁, r₁, q, hl⟩ => ⟨?_, ?_⟩) fun _ _ x => x)
  · have := r₁.length; have := sizeLine_eq; omega
  · exact .back g₁ e₁ (Pst.push (t := s₁.toks) (S.go g₁ e₁ z₁).toG rfl (by simp) (fun Z' hs h' => .tup h' rfl rfl (r₁.mono hs)) q)
theorem Ev.list {es : List Expr} {pos : Pos} (h : El C E ρ pos es fun ps => Q (.lst ps) ∧ ps.length ≤ 1000000) : Ev C E ρ (.List es pos) Q := fun Z s S => by
  refine wpAny_List (wpAny_mono (h Z s S) (fun vs s₁ ⟨g₁, Z₁, ps, e₁, z₁, r₁, q, hl⟩ => ⟨?_, ?_⟩) fun _ _ x => x)
  · have := r₁.length; have := sizeLine_eq; omega
  · exact .back g₁ e₁ (Pst.push (t := s₁.toks) (S.go g₁ e₁ z₁).toG rfl (by simp) (fun Z' hs h' => .lst h' rfl rfl (r₁.mono hs)) q)

end
end Mine

end

section
open PySem PySem.W PyProof.Rows PySem.Calls
namespace Mine

/-! slices of plain lists -/
def clipS (i : Int) (n : Nat) : Nat := (max 0 (min (if i < 0 then i + n else i) n)).toNat
def loS (lo : Option Int) (n : Nat) : Nat := match lo with | some i => clipS i n | none => 0
def hiS (hi : Option Int) (n : Nat) : Nat := match hi with | some i => clipS i n | none => n
def pySl {α : Type} (l : List α) (lo hi : Option Int) : List α := (l.take (hiS hi l.length)).drop (loS lo l.length)
theorem clipS_le (i : Int) (n : Nat) : clipS i n ≤ n := by unfold clipS; omega
theorem hiS_le (hi : Option Int) (n : Nat) : hiS hi n ≤ n := by unfold hiS; split; exact clipS_le _ _; exact Nat.le_refl _
theorem clipS_nat {i : Int} {n : Nat} (h : 0 ≤ i) (h2 : i ≤ n) : clipS i n = i.toNat := by unfold clipS; rw [if_neg (by omega)]; omega
theorem clipS_neg {i : Int} {n : Nat} (h : i < 0) (h2 : -(n : Int) ≤ i) : clipS i n = (i + n).toNat := by unfold clipS; rw [if_pos h]; omega
theorem clipS_over {i : Int} {n : Nat} (h : (n : Int) ≤ i) : clipS i n = n := by unfold clipS; rw [if_neg (by omega)]; omega

theorem pick_range {α : Type} (l : List α) (a b : Nat) (hb : b ≤ l.length) : (sliceRange a b 1).filterMap (l[·]?) = (l.take b).drop a := by
  unfold sliceRange
  simp only [show (1 : Int) > 0 from by omega, if_true]
  by_cases h : a < b
  · have e1 : ((a : Int) < (b : Int)) := by omega
    rw [if_pos e1]
    have e2 : (((b : Int) - a + 1 - 1) / 1).toNat = b - a := by omega
    rw [e2]
    have e3 : ((List.range (b - a)).map fun (k : Nat) => ((a : Int) + 1 * (k : Int)).toNat) = (List.range (b - a)).map fun k => a + k := by
      apply List.map_congr_left; intro k _; omega
    rw [e3, StrLaws.picks l (b - a) a (by omega), List.drop_take]
  · rw [if_neg (by omega)]
    simp
    omega
theorem str_indices (lo hi : Option Int) (n : Nat) : Builtin.Str.strSliceIndices lo hi 1 n = sliceRange (loS lo n) (hiS hi n) 1 := by
  unfold Builtin.Str.strSliceIndices
  simp only [show (1 : Int) > 0 from by omega, if_true]
  congr 1
  · cases lo with
    | none => rfl
    | some i => simp only [loS, clipS]; omega
  · cases hi with
    | none => rfl
    | some i => simp only [hiS, clipS]; omega
theorem seq_bounds (lo hi : Option Int) (n : Nat) : sliceBounds lo hi none n = ((loS lo n : Int), (hiS hi n : Int), 1) := by
  unfold sliceBounds
  simp only [Option.getD_none, show (1 : Int) > 0 from by omega, if_true]
  congr 1
  · cases lo with
    | none => rfl
    | some i => simp only [loS, clipS]; omega
  · congr 1
    cases hi with
    | none => rfl
    | some i => simp only [hiS, clipS]; omega
theorem slicePick_eq (items : List Value) (lo hi : Option Int) : slicePick items.toArray lo hi none = (pySl items lo hi).toArray := by
  unfold slicePick
  rw [seq_bounds]
  simp only [List.size_toArray, List.getElem?_toArray]
  rw [pick_range _ _ _ (hiS_le _ _)]; rfl
theorem slice_txt (l : List Nat) (lo hi : Option Int) : (Builtin.Str.strSliceIndices lo hi 1 l.length).filterMap (fun i => l.toArray[i]?) = pySl l lo hi := by
  rw [str_indices]
  simp only [List.getElem?_toArray]
  rw [pick_range _ _ _ (hiS_le _ _)]; rfl
theorem RepL.take {Z : ZMap} : ∀ {vs : List Value} {ps : List PV} (n : Nat), RepL Z vs ps → RepL Z (vs.take n) (ps.take n)
  | _, _, 0, _ => .nil
  | _, _, n + 1, .nil => .nil
  | _, _, n + 1, .cons h t => .cons h (RepL.take n t)
theorem RepL.drop {Z : ZMap} : ∀ {vs : List Value} {ps : List PV} (n : Nat), RepL Z vs ps → RepL Z (vs.drop n) (ps.drop n)
  | _, _, 0, h => h
  | _, _, n + 1, .nil => .nil
  | _, _, n + 1, .cons _ t => RepL.drop n t
theorem RepL.sl {Z : ZMap} {vs : List Value} {ps : List PV} (h : RepL Z vs ps) (lo hi : Option Int) : RepL Z (pySl vs lo hi) (pySl ps lo hi) := by
  unfold pySl; rw [h.length]; exact (h.take _).drop _
theorem RepL.get {Z : ZMap} : ∀ {vs : List Value} {ps : List PV} {i : Nat} {p : PV}, RepL Z vs ps → ps[i]? = some p → ∃ v, vs[i]? = some v ∧ Rep Z v p
  | _, _, 0, _, .cons h _, e => by cases e; exact ⟨_, rfl, h⟩
  | _, _, i + 1, _, .cons _ t, e => RepL.get (i := i) t e

def getIdx {α : Type} (l : List α) (k : Int) : Option α := (seqIndex? k l.length).bind (l[·]?)
theorem seqIndex_some {k : Int} {n j : Nat} (h : seqIndex? k n = some j) : (0 ≤ k ∧ k < n ∧ j = k.toNat) ∨ (k < 0 ∧ -(n : Int) ≤ k ∧ j = (k + n).toNat) := by
  unfold seqIndex? at h
  by_cases hk : k < 0
  · simp only [if_pos hk] at h
    by_cases hb : (decide (0 ≤ k + (n : Int)) && decide (k + (n : Int) < n)) = true
    · rw [if_pos hb] at h
      simp only [Bool.and_eq_true, decide_eq_true_eq] at hb
      injection h with h
      exact .inr ⟨hk, by omega, h.symm⟩
    · rw [if_neg hb] at h; cases h
  · simp only [if_neg hk] at h
    by_cases hb : (decide (0 ≤ k) && decide (k < (n : Int))) = true
    · rw [if_pos hb] at h
      simp only [Bool.and_eq_true, decide_eq_true_eq] at hb
      injection h with h
      exact .inl ⟨hb.1, hb.2, h.symm⟩
    · rw [if_neg hb] at h; cases h
theorem getIdx_nat {α : Type} {l : List α} {k : Int} (h : 0 ≤ k) : getIdx l k = l[k.toNat]? := by
  unfold getIdx
  by_cases q : k < l.length
  · rw [StrLaws.seqIndex_nonneg h q]; rfl
  · have : l[k.toNat]? = none := by rw [List.getElem?_eq_none_iff]; omega
    rw [this]
    cases e : seqIndex? k l.length with
    | none => rfl
    | some j => rcases seqIndex_some e with ⟨_, h2, _⟩ | ⟨h2, _⟩ <;> omega
theorem getIdx_neg {α : Type} {l : List α} {k : Int} (h : k < 0) (h2 : -(l.length : Int) ≤ k) : getIdx l k = l[(k + l.length).toNat]? := by
  unfold getIdx; rw [StrLaws.seqIndex_neg h h2]; rfl

section
variable {W : Wd} {C : Ac W} {E : Value → Shared → Prop} {ρ : Rho} {Q : PV → Prop}

/-- the tail of a subscript -/
def Ot {W : Wd} (C : Ac W) (E : Value → Shared → Prop) (value slice : Expr) (x y : PV) (Q : PV → Prop) : Prop :=
  ∀ Z s a b, StG W C.A Z s → Rep Z a x → Rep Z b y → wpAny W.M C.A (subscriptTail value slice a b) (Pst (W := W) Z s Q) E s
theorem Ev.item {value slice : Expr} {pos : Pos} (h : Ev C E ρ value fun x => Ev C E ρ slice fun y => Ot C E value slice x y Q) : Ev C E ρ (.Subscript value slice pos) Q := fun Z s S => by
  refine Subscript_ (bindP (h Z s S) fun a s₁ Z₁ x g₁ e₁ z₁ r₁ h₁ => ?_)
  have S₁ := S.go g₁ e₁ z₁
  refine bindP (h₁ Z₁ s₁ S₁) fun b s₂ Z₂ y g₂ e₂ z₂ r₂ h₂ => ?_
  exact wpAny_mono (h₂ Z₂ s₂ a b (S₁.go g₂ e₂ z₂).toG (r₁.mono e₂.sub) r₂) (fun _ _ p => .back g₁ e₁ (.back g₂ e₂ p)) fun _ _ x => x

def SubOps (slice : Expr) : Prop := ∀ o i, subscripted slice false o i = operate [o, i] (getItem o i)
theorem Ot.tup {value slice : Expr} {ps : List PV} {k : Int} {p : PV} (h : getIdx ps k = some p) (q : Q p) (h1 : -1000000 ≤ k := by omega) (h2 : k ≤ 1000000 := by omega) (hs : SubOps slice := by intro _ _; rfl) : Ot C E value slice (.tup ps) (.int k) Q := fun Z s _ _ S r₁ r₂ => by
  cases r₂
  cases r₁ with
  | @tup a o vs n ps ho hc hd r =>
    obtain ⟨j, hj, hp⟩ := Option.bind_eq_some_iff.mp h
    obtain ⟨v, hv, rv⟩ := r.get hp
    have ht : IsTup s.heap a vs.toArray := ⟨o, S.z.zin _ _ ho, hc, n, hd⟩
    refine tail_any ht.typeIs slot_tuple_getitem.lookup (getItem_tuple ht (by omega) (by omega) (j := j) ?_ (by simpa using hv) (.here S (.refl _ _) rv q)) (hs _ _)
    rw [List.size_toArray, r.length]; exact hj
theorem Ot.lst {value slice : Expr} {ps : List PV} {k : Int} {p : PV} (h : getIdx ps k = some p) (q : Q p) (h1 : -1000000 ≤ k := by omega) (h2 : k ≤ 1000000 := by omega) (hs : SubOps slice := by intro _ _; rfl) : Ot C E value slice (.lst ps) (.int k) Q := fun Z s _ _ S r₁ r₂ => by
  cases r₂
  cases r₁ with
  | @lst a o vs n ps ho hc hd r =>
    obtain ⟨j, hj, hp⟩ := Option.bind_eq_some_iff.mp h
    obtain ⟨v, hv, rv⟩ := r.get hp
    have hl : s.heap.IsList a vs.toArray := ⟨o, S.z.zin _ _ ho, hc, n, hd⟩
    have hlen := r.length
    rcases seqIndex_some hj with ⟨h0, h3, rfl⟩ | ⟨h0, h3, rfl⟩
    · exact tail_any hl.typeIs slot_list_getitem.lookup (wpAny_getItem_list hl (by omega) (by omega) (by simpa using hv) (.here S (.refl _ _) rv q)) (hs _ _)
    · refine tail_any hl.typeIs slot_list_getitem.lookup (wpAny_getItem_list_neg hl h0 ?_ (by omega) (x := v) ?_ (.here S (.refl _ _) rv q)) (hs _ _)
      · rw [List.size_toArray]; omega
      · rw [List.size_toArray, List.getElem?_toArray, hlen]; exact hv
theorem Ot.str {value slice : Expr} {l : List Nat} {k : Int} {c : Nat} (h : getIdx l k = some c) (q : Q (.str [c])) (h1 : -1000000 ≤ k := by omega) (h2 : k ≤ 1000000 := by omega) (hs : SubOps slice := by intro _ _; rfl) : Ot C E value slice (.str l) (.int k) Q := fun Z s _ _ S r₁ r₂ => by
  cases r₂
  cases r₁
  obtain ⟨j, hj, hp⟩ := Option.bind_eq_some_iff.mp h
  have hr : -(l.length : Int) ≤ k ∧ k < l.length := by rcases seqIndex_some hj with ⟨a, b, _⟩ | ⟨a, b, _⟩ <;> omega
  refine item_str (value := value) (hs := hs _ _) (ht := fun r => by cases value <;> rfl) ?_ (by simp only [Str.length, List.size_toArray]; omega) (by simp only [Str.length, List.size_toArray]; omega) fun _ => .here S (.tok _ _ _) (.str' ?_) q
  · unfold fitsSsize; simp; omega
  · show [(Txt.charAt ⟨l.toArray⟩ k).getD 0] = [c]
    have : Txt.charAt ⟨l.toArray⟩ k = some c := by
      unfold Txt.charAt getIdx at *
      simpa [Str.length] using h
    rw [this]; rfl

/-! slices -/
/-- a bound of a slice -/
def Eo {W : Wd} (C : Ac W) (E : Value → Shared → Prop) (ρ : Rho) (e : Option Expr) (Q : Option Int → Prop) : Prop :=
  ∀ Z s, StE W C ρ Z s → wpAny W.M C.A (evalPart e C.env) (fun v s' => Go W.G s s' ∧ ∃ Z' i, ZExt s.heap Z Z' ∧ ZOk W.G Z' s'.heap ∧ IsPart v i ∧ Q i) E s
theorem Eo.none {P : Option Int → Prop} (q : P .none) : Eo C E ρ .none P := fun Z s S => wpAny_evalPart_none ⟨.refl _ _, Z, _, .refl _ _, S.toG.z, .none, q⟩
theorem Eo.some {e : Expr} {P : Option Int → Prop} (h : Ev C E ρ e fun x => ∃ i, x = .int i ∧ P (some i)) : Eo C E ρ (some e) P := fun Z s S =>
  wpAny_evalPart_some (bindP (h Z s S) fun a s₁ Z₁ x g₁ e₁ z₁ r₁ ⟨i, e, q⟩ => by
    subst e
    cases r₁
    exact ⟨g₁, Z₁, _, e₁, z₁, .int _ _, q⟩)

/-- the tail of a slice of a plain value by bounds -/
def Os {W : Wd} (C : Ac W) (E : Value → Shared → Prop) (value slice : Expr) (x : PV) (lo hi : Option Int) (Q : PV → Prop) : Prop :=
  ∀ Z s a sl vl vu, StG W C.A Z s → Rep Z a x → s.heap.IsSliceOf sl vl vu .none → IsPart vl lo → IsPart vu hi → wpAny W.M C.A (subscriptTail value slice a (.ref sl)) (Pst (W := W) Z s Q) E s
theorem Ev.slice {value : Expr} {lo hi : Option Expr} {p pos : Pos} (h : Ev C E ρ value fun x => Eo C E ρ lo fun i => Eo C E ρ hi fun j => Os C E value (.Slice lo hi .none p) x i j Q) : Ev C E ρ (.Subscript value (.Slice lo hi .none p) pos) Q := fun Z s S => by
  refine Subscript_ (bindP (h Z s S) fun a s₁ Z₁ x g₁ e₁ z₁ r₁ h₁ => ?_)
  have S₁ := S.go g₁ e₁ z₁
  refine wpAny_Slice (wpAny_mono (h₁ Z₁ s₁ S₁) (fun vl s₂ ⟨g₂, Z₂, i, e₂, z₂, p₂, h₂⟩ => ?_) fun _ _ x => x)
  have S₂ := S₁.go g₂ e₂ z₂
  refine wpAny_mono (h₂ Z₂ s₂ S₂) (fun vu s₃ ⟨g₃, Z₃, j, e₃, z₃, p₃, h₃⟩ => ?_) fun _ _ x => x
  have S₃ := S₂.go g₃ e₃ z₃
  refine wpAny_evalPart_none ?_
  have g₄ : Go W.G s₃ { s₃ with heap := s₃.heap.push { cls := .type "slice", data := .fields #[vl, vu, .none] } } := Go.heap (t := s₃.toks) fun b o e => Heap.get?_push_of_some _ e
  have S₄ := S₃.toG.go g₄ (.refl _ _) (z₃.go g₄.kp)
  exact wpAny_mono (h₃ Z₃ _ a _ vl vu S₄ ((r₁.mono e₂.sub).mono e₃.sub) (.new _ _ _ _) p₂ p₃) (fun _ _ p => .back g₁ e₁ (.back g₂ e₂ (.back g₃ e₃ (.back g₄ (.refl _ _) p)))) fun _ _ x => x
theorem Os.lst {value : Expr} {l u : Option Expr} {p : Pos} {ps : List PV} {lo hi : Option Int} (q : Q (.lst (pySl ps lo hi))) (hl : ps.length ≤ 1000000) : Os C E value (.Slice l u .none p) (.lst ps) lo hi Q := fun Z s _ sl vl vu S r₁ hs p₁ p₂ => by
  cases r₁ with
  | @lst a o vs n ps ho hc hd r =>
    have hl' : s.heap.IsList a vs.toArray := ⟨o, S.z.zin _ _ ho, hc, n, hd⟩
    refine tail_any hl'.typeIs slot_list_getitem.lookup (wpAny_getItem_list_slice (hsz := ?_) hl' hs p₁ p₂ .none (by simp) ?_) rfl
    · rw [slicePick_eq]
      exact Pst.push (t := s.toks) S rfl (by simp) (fun Z' hs h' => .lst h' rfl rfl ((r.sl lo hi).mono hs)) q
    · rw [List.size_toArray, r.length, sizeLine_eq]; omega
theorem Os.str {value : Expr} {l u : Option Expr} {p : Pos} {t : List Nat} {lo hi : Option Int} (q : Q (.str (pySl t lo hi))) (hl : t.length ≤ 1000000) : Os C E value (.Slice l u .none p) (.str t) lo hi Q := fun Z s _ sl vl vu S r₁ hs p₁ p₂ => by
  cases r₁ with
  | @str x tk =>
    have one : ∀ {v : Value} {i : Option Int}, IsPart v i → ∃ o : Option (Int × Tok), v = partValue o ∧ o.map (·.1) = i := fun h => by
      cases h with | none => exact ⟨.none, rfl, rfl⟩ | int i t => exact ⟨some (i, t), rfl, rfl⟩
    obtain ⟨ol, rfl, rfl⟩ := one p₁
    obtain ⟨ou, rfl, rfl⟩ := one p₂
    have hs' : s.heap.IsSlice sl ol ou .none := hs
    refine tail_any (T := "str") (typeIs_str _ _ _) slot_str_getitem.lookup (wpAny_getItem_str_slice hs' rfl ?_) rfl
    have e := slice_txt t (ol.map (·.1)) (ou.map (·.1))
    unfold sliceMade slicePicked
    simp only [Option.map_none, Option.getD_none, Str.length, List.size_toArray]
    split
    · rename_i hh
      refine .here S (.refl _ _) (.str' ?_) q
      rw [← e]
      have hlen : (Builtin.Str.strSliceIndices (ol.map (·.1)) (ou.map (·.1)) 1 t.length).length = t.length := by simpa using hh
      rw [e]
      -- the whole
      have h3 : (pySl t (ol.map (·.1)) (ou.map (·.1))).length = t.length := by
        rw [str_indices] at hlen
        unfold sliceRange at hlen
        unfold pySl
        simp only [show (1 : Int) > 0 from by omega, if_true, List.length_map, List.length_range] at hlen
        rw [List.length_drop, List.length_take]
        have := hiS_le (ou.map (·.1)) t.length
        split at hlen <;> omega
      unfold pySl at h3 ⊢
      rw [List.length_drop, List.length_take] at h3
      have h4 := hiS_le (ou.map (·.1)) t.length
      by_cases h0 : t.length = 0
      · have : t = [] := List.length_eq_zero_iff.mp h0
        subst this; simp
      · rw [show loS (ol.map (·.1)) t.length = 0 by omega, show hiS (ou.map (·.1)) t.length = t.length by omega]; simp
    · refine ⟨?_, .here S (.tok _ _ _) (.str' ?_) q⟩
      · rw [e]
        have : (pySl t (ol.map (·.1)) (ou.map (·.1))).length ≤ t.length := by unfold pySl; rw [List.length_drop, List.length_take]; omega
        simp only [Str.length, List.size_toArray]; rw [sizeLine_eq]; omega
      · simp only [e]

end
end Mine

end

section
open PySem PySem.W PyProof.Rows PySem.Calls
namespace Mine
section
variable {W : Wd} {C : Ac W} {E : Value → Shared → Prop} {ρ : Rho} {Q : PV → Prop}

/-- a call of a known callee with plain arguments -/
def Oc {W : Wd} (C : Ac W) (E : Value → Shared → Prop) (f : Value) (ps : List PV) (Q : PV → Prop) : Prop :=
  ∀ Z s vs, StG W C.A Z s → RepL Z vs ps → wpAny W.M C.A (call f vs) (Pst (W := W) Z s Q) E s

/-- who keeps the callee: a plain road -/
def Kpr (W : Wd) (f : Value) : Prop := ∀ h, (∀ b o, W.G.get? b = some o → h.get? b = some o) → ∃ k, (k = Keeper.frame ∨ k = Keeper.machine ∨ k = Keeper.boundFrame) ∧ Looks W.M h (keeperOf f) k
theorem Kpr.builtin (id : String) : Kpr W (.builtin id) := fun h _ => ⟨.machine, .inr (.inl rfl), Looks.of_pure rfl⟩
theorem Kpr.type (id : String) : Kpr W (.type id) := fun h _ => ⟨.machine, .inr (.inl rfl), Looks.of_pure rfl⟩
theorem Kpr.k {f : Value} (e : keepIn W.K f = true) : Kpr W f := fun h hk => by
  obtain ⟨k, a, b⟩ := looks_keep (M := W.M) e (W.kin.keeps hk)
  exact ⟨k, a.elim .inl (fun e => .inr (.inl e)), b⟩

theorem el_args {pos : Pos} {e : Expr} {es : List Expr} {f : Value} {P : List PV → Prop} {Z : ZMap} {s : Shared} {R : Args → Shared → Prop} (S : StE W C ρ Z s) (h : El C E ρ pos (e :: es) P)
    (he : starEach (e :: es) C.env = (false, eval e C.env) :: starEach es C.env)
    (k : ∀ vs s₁ Z₁ ps, Go W.G s s₁ → ZExt s.heap Z Z₁ → ZOk W.G Z₁ s₁.heap → RepL Z₁ vs ps → P ps → R ⟨vs, []⟩ s₁) :
    wpAny W.M C.A (evalArgs f true (backTo pos (starEach (e :: es) C.env)) []) R E s := by
  have h' := h Z s S
  rw [he] at h' ⊢
  exact evalArgs_plain (wpAny_mono h' (fun vs s₁ ⟨g, Z', ps, e, z, r, q⟩ => k _ _ _ _ g e z r q) fun _ _ x => x)
theorem RepL.append' {Z : ZMap} {v : Value} {p : PV} (r : Rep Z v p) : ∀ {vs : List Value} {ps : List PV}, RepL Z vs ps → RepL Z (vs ++ [v]) (ps ++ [p])
  | _, _, .nil => .cons r .nil
  | _, _, .cons a t => .cons a (RepL.append' r t)
theorem RepL.append {Z : ZMap} {ws : List Value} {qs : List PV} (h' : RepL Z ws qs) : ∀ {vs : List Value} {ps : List PV}, RepL Z vs ps → RepL Z (vs ++ ws) (ps ++ qs)
  | _, _, .nil => h'
  | _, _, .cons a t => .cons a (RepL.append h' t)

theorem callWith_pv {pos : Pos} {f : Value} {first : List Value} {e : Expr} {es : List Expr} {ps₀ : List PV} {Z : ZMap} {s : Shared} (S : StE W C ρ Z s) (k : Kpr W f) (r₀ : RepL Z first ps₀)
    (h : El C E ρ pos (e :: es) fun ps => Oc C E f (ps₀ ++ ps) Q)
    (he : starEach (e :: es) C.env = (false, eval e C.env) :: starEach es C.env) (hp : (backTo pos (starEach es C.env)).any (·.1) = false) :
    wpAny W.M C.A (callWith pos f first (backTo pos (starEach (e :: es) C.env)) []) (Pst (W := W) Z s Q) E s := by
  refine callWith_of (P := fun h => ∀ b o, W.G.get? b = some o → h.get? b = some o) (by rw [he]; show ((false || (backTo pos (starEach es C.env)).any (·.1)) || false) = false; rw [hp]; rfl) k ?_
  refine el_args S h he fun vs s₁ Z₁ ps g₁ e₁ z₁ r₁ q => ?_
  have S₁ := S.toG.go g₁ e₁ z₁
  exact ⟨S₁.keep, wpAny_mono (q Z₁ s₁ (first ++ vs) S₁ (r₁.append (r₀.mono e₁.sub))) (fun _ _ p => .back g₁ e₁ p) fun _ _ x => x⟩
theorem callWith_pv0 {pos : Pos} {f : Value} {first : List Value} {ps₀ : List PV} {Z : ZMap} {s : Shared} (S : StE W C ρ Z s) (k : Kpr W f) (r₀ : RepL Z first ps₀) (h : Oc C E f ps₀ Q) :
    wpAny W.M C.A (callWith pos f first (backTo pos (starEach [] C.env)) []) (Pst (W := W) Z s Q) E s := by
  refine callWith_of (P := fun h => ∀ b o, W.G.get? b = some o → h.get? b = some o) rfl k (evalArgs_nil3 ⟨S.toG.keep, ?_⟩)
  have := h Z s first S.toG r₀
  rwa [show first ++ ([] : List Value) = first by simp]

/-- f(e, ..) by a name -/
theorem Ev.call {func e : Expr} {es : List Expr} {pos : Pos} (h : Ev C E ρ func fun x => ∃ v, x = .con v ∧ Kpr W v ∧ El C E ρ pos (e :: es) fun ps => Oc C E v ps Q)
    (hf : eval (.Call func (e :: es) [] pos) C.env = (do callWith pos (← eval func C.env) [] (backTo pos (starEach (e :: es) C.env)) (backToKw pos (keywordEach [] C.env))) := by rfl)
    (he : starEach (e :: es) C.env = (false, eval e C.env) :: starEach es C.env := by rfl) (hp : (backTo pos (starEach es C.env)).any (·.1) = false := by rfl) : Ev C E ρ (.Call func (e :: es) [] pos) Q := fun Z s S => by
  refine Call_ (he := hf) (bindP (h Z s S) fun a s₁ Z₁ x g₁ e₁ z₁ r₁ ⟨v, hv, k, h₁⟩ => ?_)
  subst hv
  cases r₁
  exact wpAny_mono (callWith_pv (ps₀ := []) (S.go g₁ e₁ z₁) k .nil h₁ he hp) (fun _ _ p => .back g₁ e₁ p) fun _ _ x => x
theorem Ev.call0 {func : Expr} {pos : Pos} (h : Ev C E ρ func fun x => ∃ v, x = .con v ∧ Kpr W v ∧ Oc C E v [] Q)
    (hf : eval (.Call func [] [] pos) C.env = (do callWith pos (← eval func C.env) [] (backTo pos (starEach [] C.env)) (backToKw pos (keywordEach [] C.env))) := by rfl) : Ev C E ρ (.Call func [] [] pos) Q := fun Z s S => by
  refine Call_ (he := hf) (bindP (h Z s S) fun a s₁ Z₁ x g₁ e₁ z₁ r₁ ⟨v, hv, k, h₁⟩ => ?_)
  subst hv
  cases r₁
  exact wpAny_mono (callWith_pv0 (ps₀ := []) (S.go g₁ e₁ z₁) k .nil h₁) (fun _ _ p => .back g₁ e₁ p) fun _ _ x => x

/-- o.name, looked up for a call: the callee and itself first -/
def Gm {W : Wd} (C : Ac W) (E : Value → Shared → Prop) (name : Str) (x : PV) (P : Value → Prop) : Prop :=
  ∀ Z s a pl, StG W C.A Z s → Rep Z a x → wpAny W.M C.A (getMethod a name pl) (fun r s' => Go W.G s s' ∧ r.2 = [a] ∧ Kpr W r.1 ∧ P r.1) E s

theorem method_call {o : Expr} {name : Str} {apos pos : Pos} {args : List Expr} {Z : ZMap} {s : Shared} {P : Value → PV → Prop} (S : StE W C ρ Z s)
    (h : Ev C E ρ o fun x => Gm C E name x fun f => P f x)
    (k : ∀ f a x s₁ Z₁, StE W C ρ Z₁ s₁ → Kpr W f → Rep Z₁ a x → P f x → wpAny W.M C.A (callWith pos f [a] (backTo pos (starEach args C.env)) []) (Pst (W := W) Z₁ s₁ Q) E s₁)
    (hbase : attributeBase o name C.env (eval o C.env) = eval o C.env)
    (hfew : ((backTo pos (starEach args C.env)).all (fun x => !x.1) && (backToKw pos (keywordEach [] C.env)).all (fun x => x.1.isSome)
      && decide (args.length + ([] : List Keyword).length + (if ([] : List Keyword).isEmpty then 0 else 1) < 30)) = true)
    (hline : (apos.endLine == pos.line) = true) :
    wpAny W.M C.A (eval (.Call (.Attribute o name apos) args [] pos) C.env) (Pst (W := W) Z s Q) E s := by
  rw [arm_eval_Call, hbase]
  refine wpAny_bind (bindP (h Z s S) fun ov s₁ Z₁ x g₁ e₁ z₁ r₁ h₁ => ?_)
  have S₁ := S.go g₁ e₁ z₁
  refine wpAny_bind (wpAny_standAt ?_)
  have hform : methodCallForm (args.length + ([] : List Keyword).length) (backTo pos (starEach args C.env)) (backToKw pos (keywordEach [] C.env)) = true := hfew
  have hpos : methodCallPos true o C.env apos pos = pure pos := by unfold methodCallPos; simp [hline]
  unfold methodCall
  rw [hform]
  refine wpAny_bind (wpAny_holding (wpAny_mono (h₁ Z₁ s₁ ov _ S₁.toG r₁) (fun r s₂ ⟨g₂, hr, kp, hp⟩ => ?_) fun _ _ x => x))
  obtain ⟨f, first⟩ := r
  dsimp only at hr kp hp
  subst hr
  have z₂ := z₁.go g₂.kp
  have S₂ := S₁.go g₂ (.refl _ _) z₂
  refine wpAny_bind (wpAny_of_eq hpos ?_)
  exact wpAny_mono (k f ov x s₂ Z₁ S₂ kp r₁ hp) (fun _ _ p => .back g₁ e₁ (.back g₂ (.refl _ _) p)) fun _ _ x => x

/-- o.name(e, ..) -/
theorem Ev.meth {o e : Expr} {es : List Expr} {name : Str} {apos pos : Pos} (h : Ev C E ρ o fun x => Gm C E name x fun f => El C E ρ pos (e :: es) fun ps => Oc C E f (x :: ps) Q)
    (hbase : attributeBase o name C.env (eval o C.env) = eval o C.env := by rfl)
    (hfew : ((backTo pos (starEach (e :: es) C.env)).all (fun x => !x.1) && (backToKw pos (keywordEach [] C.env)).all (fun x => x.1.isSome)
      && decide ((e :: es).length + ([] : List Keyword).length + (if ([] : List Keyword).isEmpty then 0 else 1) < 30)) = true := by rfl)
    (hline : (apos.endLine == pos.line) = true := by rfl)
    (he : starEach (e :: es) C.env = (false, eval e C.env) :: starEach es C.env := by rfl) (hp : (backTo pos (starEach es C.env)).any (·.1) = false := by rfl) :
    Ev C E ρ (.Call (.Attribute o name apos) (e :: es) [] pos) Q := fun Z s S =>
  method_call (P := fun f x => El C E ρ pos (e :: es) fun ps => Oc C E f (x :: ps) Q) S h (fun f a x s₁ Z₁ S₁ kp r₁ hq => callWith_pv (ps₀ := [x]) S₁ kp (.cons r₁ .nil) hq he hp) hbase hfew hline
theorem Ev.meth0 {o : Expr} {name : Str} {apos pos : Pos} (h : Ev C E ρ o fun x => Gm C E name x fun f => Oc C E f [x] Q)
    (hbase : attributeBase o name C.env (eval o C.env) = eval o C.env := by rfl)
    (hline : (apos.endLine == pos.line) = true := by rfl) :
    Ev C E ρ (.Call (.Attribute o name apos) [] [] pos) Q := fun Z s S =>
  method_call (P := fun f x => Oc C E f [x] Q) S h (fun f a x s₁ Z₁ S₁ kp r₁ hq => callWith_pv0 (ps₀ := [x]) S₁ kp (.cons r₁ .nil) hq) hbase rfl hline

/-! methods of texts -/
theorem Gm.of_str {name : Str} {id : String} {l : List Nat} {P : Value → Prop} (slot : PySem.Slot "str" name id) (ty : typeOf (.builtin id) = pure (.type "method_descriptor")) (q : P (.builtin id)) : Gm C E name (.str l) P := fun Z s a pl S r => by
  cases r with
  | str l t =>
    have hq : (fun (r : Value × List Value) (s' : Shared) => Go W.G s s' ∧ r.2 = [Value.str ⟨l.toArray⟩ t] ∧ Kpr W r.1 ∧ P r.1) (Value.builtin id, [Value.str ⟨l.toArray⟩ t]) s := ⟨.refl _ _, rfl, .builtin _, q⟩
    with_reducible exact GM.of (M := W.M) _ (typeIs_str _ _ _) slot ty GM.noRef hq
theorem Gm.rfind {l : List Nat} {P : Value → Prop} (q : P (.builtin "str.rfind")) : Gm C E "rfind" (.str l) P := by with_reducible exact .of_str F.slot_str_rfind F.type_str_rfind q
theorem Gm.split {l : List Nat} {P : Value → Prop} (q : P (.builtin "str.split")) : Gm C E "split" (.str l) P := by with_reducible exact .of_str F.slot_str_split F.type_str_split q
theorem Gm.rsplit {l : List Nat} {P : Value → Prop} (q : P (.builtin "str.rsplit")) : Gm C E "rsplit" (.str l) P := by with_reducible exact .of_str F.slot_str_rsplit F.type_str_rsplit q
theorem Gm.startswith {l : List Nat} {P : Value → Prop} (q : P (.builtin "str.startswith")) : Gm C E "startswith" (.str l) P := by with_reducible exact .of_str F.slot_str_startswith F.type_str_startswith q
theorem Gm.lstrip {l : List Nat} {P : Value → Prop} (q : P (.builtin "str.lstrip")) : Gm C E "lstrip" (.str l) P := by with_reducible exact .of_str F.slot_str_lstrip F.type_str_lstrip q
theorem Gm.join {l : List Nat} {P : Value → Prop} (q : P (.builtin "str.join")) : Gm C E "join" (.str l) P := by with_reducible exact .of_str F.slot_str_join F.type_str_join q

end
end Mine

end

section
open PySem PySem.W PyProof.Rows PySem.Calls
open PySem.Builtin.Str PySem.StrLaws
namespace Mine
abbrev tx (l : List Nat) : Str := ⟨l.toArray⟩
theorem At_one (l : List Nat) (c i : Nat) : At (tx l) ⟨#[c]⟩ (tx l).length i ↔ l[i]? = some c := by
  have := subAt_one (tx l) c i
  simpa [At, tx] using this

/-- the last place of c -/
def lastIx (c : Nat) : List Nat → Option Nat
  | [] => none
  | x :: r => match lastIx c r with | some i => some (i + 1) | none => if x = c then some 0 else none
theorem lastIx_none {c : Nat} : ∀ {l : List Nat}, c ∉ l → lastIx c l = none
  | [], _ => rfl
  | x :: r, h => by
    rw [List.mem_cons, not_or] at h
    unfold lastIx; rw [lastIx_none h.2]; simp [Ne.symm h.1]
theorem lastIx_at {c : Nat} {b : List Nat} (h : c ∉ b) : ∀ a : List Nat, lastIx c (a ++ c :: b) = some a.length
  | [] => by show (match lastIx c b with | some i => some (i + 1) | none => if c = c then some 0 else none) = _; rw [lastIx_none h]; simp
  | x :: a => by show (match lastIx c (a ++ c :: b) with | some i => some (i + 1) | none => if x = c then some 0 else none) = _; rw [lastIx_at h a]; simp
theorem split_last {c : Nat} : ∀ {l : List Nat}, c ∈ l → ∃ a b, l = a ++ c :: b ∧ c ∉ b
  | x :: r, h => by
    by_cases q : c ∈ r
    · obtain ⟨a, b, rfl, hb⟩ := split_last q; exact ⟨x :: a, b, rfl, hb⟩
    · have : c = x := by rcases List.mem_cons.mp h with e | e; exact e; exact absurd e q
      exact ⟨[], r, by rw [this]; rfl, q⟩
theorem split_first {c : Nat} : ∀ {l : List Nat}, c ∈ l → ∃ a b, l = a ++ c :: b ∧ c ∉ a
  | x :: r, h => by
    by_cases q : x = c
    · exact ⟨[], r, by rw [q]; rfl, by simp⟩
    · have : c ∈ r := by rcases List.mem_cons.mp h with e | e; exact absurd e.symm q; exact e
      obtain ⟨a, b, rfl, ha⟩ := split_first this
      exact ⟨x :: a, b, rfl, by simp [Ne.symm q, ha]⟩
theorem rfind_one (l : List Nat) (c : Nat) : Txt.rfind (tx l) ⟨#[c]⟩ = (match lastIx c l with | some i => (i : Int) | none => -1) := by
  unfold Txt.rfind
  by_cases h : c ∈ l
  · obtain ⟨a, b, rfl, hb⟩ := split_last h
    rw [lastIx_at hb]
    rcases last_spec (tx (a ++ c :: b)) ⟨#[c]⟩ with ⟨_, e⟩ | ⟨i, e, hi, hk⟩
    · exact absurd ((At_one _ _ a.length).mpr (by simp)) (e a.length)
    · rw [e]
      have hi' := (At_one _ _ i).mp hi
      have : i = a.length := by
        rcases Nat.lt_trichotomy i a.length with q | q | q
        · exact absurd ((At_one _ _ a.length).mpr (by simp)) (hk _ q)
        · exact q
        · rw [List.getElem?_append_right (by omega)] at hi'
          rw [show i - a.length = (i - a.length - 1) + 1 by omega, List.getElem?_cons_succ] at hi'
          exact absurd (List.mem_of_getElem? hi') hb
      rw [this]
  · rw [lastIx_none h]
    rcases last_spec (tx l) ⟨#[c]⟩ with ⟨e, _⟩ | ⟨i, e, hi, _⟩
    · rw [e]
    · exact absurd (List.mem_of_getElem? ((At_one _ _ i).mp hi)) h

/-- the runs between c's -/
def splitL (c : Nat) : List Nat → List (List Nat)
  | [] => [[]]
  | x :: r => if x = c then [] :: splitL c r else match splitL c r with | p :: ps => (x :: p) :: ps | [] => [[x]]
def joinL (s : List Nat) : List (List Nat) → List Nat
  | [] => []
  | [x] => x
  | x :: y :: r => x ++ s ++ joinL s (y :: r)
theorem splitL_ne (c : Nat) : ∀ l, splitL c l ≠ []
  | [] => by simp [splitL]
  | x :: r => by
    unfold splitL; split
    · simp
    · split <;> simp
theorem splitL_free {c : Nat} : ∀ {l : List Nat}, c ∉ l → splitL c l = [l]
  | [], _ => rfl
  | x :: r, h => by
    rw [List.mem_cons, not_or] at h
    unfold splitL; rw [if_neg (Ne.symm h.1), splitL_free h.2]
theorem splitL_app {c : Nat} {b : List Nat} : ∀ {a : List Nat}, c ∉ a → splitL c (a ++ c :: b) = a :: splitL c b
  | [], _ => by simp [splitL]
  | x :: r, h => by
    rw [List.mem_cons, not_or] at h
    show (if x = c then [] :: splitL c (r ++ c :: b) else match splitL c (r ++ c :: b) with | p :: ps => (x :: p) :: ps | [] => [[x]]) = _
    rw [if_neg (Ne.symm h.1), splitL_app h.2]
theorem splitL_join {c : Nat} : ∀ {ps : List (List Nat)}, ps ≠ [] → (∀ p ∈ ps, c ∉ p) → splitL c (joinL [c] ps) = ps
  | [x], _, h => splitL_free (h x (by simp))
  | x :: y :: r, _, h => by
    show splitL c (x ++ [c] ++ joinL [c] (y :: r)) = _
    rw [List.append_assoc, List.singleton_append, splitL_app (h x (by simp)), splitL_join (by simp) (fun p hp => h p (List.mem_cons_of_mem _ hp))]
theorem join_toList (s : Str) : ∀ ps : List Str, (Str.join s ps).cps.toList = joinL s.cps.toList (ps.map fun p => p.cps.toList)
  | [] => rfl
  | [x] => rfl
  | x :: y :: r => by
    have ih := join_toList s (y :: r)
    show (x.cps ++ s.cps ++ (Str.join s (y :: r)).cps).toList = _
    rw [Array.toList_append, Array.toList_append, ih]; rfl
theorem split_one (l : List Nat) (c : Nat) : (Txt.split (tx l) ⟨#[c]⟩).map (fun p => p.cps.toList) = splitL c l := by
  have hj := congrArg (fun s : Str => s.cps.toList) (join_split (tx l) ⟨#[c]⟩)
  simp only at hj
  rw [join_toList] at hj
  have hf := split_free (tx l) c
  have hne : (Txt.split (tx l) ⟨#[c]⟩).map (fun p => p.cps.toList) ≠ [] := by
    unfold Txt.split
    split
    · simp
    · split
      · simp
      · simp [partsBetween]
  have := splitL_join (c := c) hne (by intro p hp; obtain ⟨q, hq, rfl⟩ := List.mem_map.mp hp; exact hf q hq)
  rw [← this]
  exact congrArg (splitL c) hj

theorem kind_of_mem {l : List Nat} {c : Nat} (h : c ∈ l) : ¬ strKind (tx l) < strKind ⟨#[c]⟩ := fun q => kind_free (tx l) c q (by simpa using h)
theorem sub_pre (a b : List Nat) : (strSub (tx (a ++ b)) 0 a.length).cps.toList = a := by
  rw [strSub_toList]; simp
theorem sub_post (a b : List Nat) (c : Nat) : (strSub (tx (a ++ c :: b)) (a.length + 1) (tx (a ++ c :: b)).length).cps.toList = b := by
  rw [strSub_toList]
  show List.take ((a ++ c :: b).length - (a.length + 1)) (List.drop (a.length + 1) (a ++ c :: b)) = b
  have e : a ++ c :: b = (a ++ [c]) ++ b := by simp
  rw [e, List.drop_left' (by simp), List.take_of_length_le (by simp; omega)]
/-- split(c, 1) -/
theorem split1_at {a b : List Nat} {c : Nat} (h : c ∉ a) : (Txt.splitMax (tx (a ++ c :: b)) ⟨#[c]⟩ 1).map (fun p => p.cps.toList) = [a, b] := by
  unfold Txt.splitMax
  have hm : c ∈ a ++ c :: b := by simp
  have h1 : (decide ((tx (a ++ c :: b)).length < (⟨#[c]⟩ : Str).length) || decide (strKind (tx (a ++ c :: b)) < strKind ⟨#[c]⟩)) = false := by
    rw [Bool.or_eq_false_iff]; exact ⟨by simp [Str.length], by simpa using kind_of_mem hm⟩
  rw [if_neg (by rw [h1]; simp)]
  have hl : limitOf (tx (a ++ c :: b)) 1 = 1 := rfl
  rw [hl]
  have ho : occurrences (tx (a ++ c :: b)) ⟨#[c]⟩ 0 (tx (a ++ c :: b)).length 1 = [a.length] := by
    have hlen := occ_length_le (tx (a ++ c :: b)) ⟨#[c]⟩ 0 (tx (a ++ c :: b)).length 1
    rcases occ_head (tx (a ++ c :: b)) ⟨#[c]⟩ 1 (Nat.le_refl _) with ⟨_, e⟩ | ⟨i, r, e, hi, hk⟩
    · exact absurd ((At_one _ _ a.length).mpr (by simp)) (e a.length)
    · rw [e] at hlen ⊢
      have hr : r = [] := by cases r with | nil => rfl | cons => simp at hlen
      have hi' := (At_one _ _ i).mp hi
      have : i = a.length := by
        rcases Nat.lt_trichotomy i a.length with q | q | q
        · rw [List.getElem?_append_left q] at hi'
          exact absurd (List.mem_of_getElem? hi') h
        · exact q
        · exact absurd ((At_one _ _ a.length).mpr (by simp)) (hk _ q)
      rw [this, hr]
  rw [ho]
  have e : partsBetween (tx (a ++ c :: b)) [a.length] (⟨#[c]⟩ : Str).length = [strSub (tx (a ++ c :: b)) 0 a.length, strSub (tx (a ++ c :: b)) (a.length + 1) (tx (a ++ c :: b)).length] := rfl
  rw [if_neg (by simp), e]
  simp only [List.map_cons, List.map_nil]
  rw [sub_pre, sub_post]

theorem startswith_one (l : List Nat) (c : Nat) : Txt.startswith (tx l) ⟨#[c]⟩ = (l.head? == some c) := by
  unfold Txt.startswith
  have h := subAt_one (tx l) c 0
  have e : l.head? = l[0]? := by cases l <;> rfl
  rw [e]
  by_cases q : l[0]? = some c
  · have := h.mpr (by simpa using q)
    rw [q]; simp only [this.2, Bool.and_true, beq_self_eq_true, decide_eq_true_eq]; exact this.1
  · have q' : (l[0]? == some c) = false := by simpa using q
    rw [q']
    cases hb : (decide (0 + (⟨#[c]⟩ : Str).length ≤ (tx l).length) && subAt (tx l) ⟨#[c]⟩ 0) with
    | false => rfl
    | true =>
      rw [Bool.and_eq_true, decide_eq_true_eq] at hb
      exact absurd (by simpa using h.mp hb) q

/-! rsplit(c, 1) -/
theorem occR_full (s sub : Str) (st : Array Nat × Nat) : ∀ (ks : List Nat), st.fst.size ≥ 1 → (forIn ks st (occRBody s sub 1)).run = st
  | [], _ => rfl
  | k :: ks, h => by
    rw [List.forIn_cons]
    have e : occRBody s sub 1 k st = pure (ForInStep.yield st) := by
      unfold occRBody; rw [if_neg (by omega)]
    rw [e]
    exact occR_full s sub st ks h
theorem occR_run (l : List Nat) (c i : Nat) (hi : l[i]? = some c) (hl : ∀ k, i < k → l[k]? ≠ some c) : ∀ (n k : Nat), k + n = l.length + 1 → k ≤ l.length - i →
    (forIn (List.range' k n) ((#[], l.length) : Array Nat × Nat) (occRBody (tx l) ⟨#[c]⟩ 1)).run.fst = #[i]
  | 0, k, h1, h2 => by have := (List.getElem?_eq_some_iff.mp hi).1; omega
  | n + 1, k, h1, h2 => by
    have hlt := (List.getElem?_eq_some_iff.mp hi).1
    rw [List.range'_succ, List.forIn_cons]
    have hlen : (tx l).length = l.length := by simp [Str.length]
    have hone : (⟨#[c]⟩ : Str).length = 1 := rfl
    by_cases q : k = l.length - i
    · have e : occRBody (tx l) ⟨#[c]⟩ 1 k (#[], l.length) = pure (ForInStep.yield (#[i], i)) := by
        unfold occRBody
        have hs := (subAt_one (tx l) c i).mpr (by simpa using hi)
        have e2 : (tx l).length - k = i := by omega
        rw [e2, if_pos ⟨⟨by simp, by rw [hone]; omega⟩, hs.2⟩]; rfl
      rw [e]
      show (forIn (List.range' (k + 1) n) ((#[i], i) : Array Nat × Nat) (occRBody (tx l) ⟨#[c]⟩ 1)).run.fst = #[i]
      rw [occR_full _ _ _ _ (by simp)]
    · have e : occRBody (tx l) ⟨#[c]⟩ 1 k (#[], l.length) = pure (ForInStep.yield (#[], l.length)) := by
        unfold occRBody
        rw [if_neg]
        rintro ⟨⟨_, h3⟩, h4⟩
        have := (subAt_one (tx l) c ((tx l).length - k)).mp ⟨by simp only [hone, hlen] at h3 ⊢; exact h3, h4⟩
        rw [hlen] at this
        exact hl (l.length - k) (by omega) (by simpa using this)
      rw [e]
      exact occR_run l c i hi hl n (k + 1) (by omega) (by omega)
theorem rsplit1_at {a b : List Nat} {c : Nat} (h : c ∉ b) : (Txt.rsplitMax (tx (a ++ c :: b)) ⟨#[c]⟩ 1).map (fun p => p.cps.toList) = [a, b] := by
  unfold Txt.rsplitMax
  have hm : c ∈ a ++ c :: b := by simp
  have h1 : (decide ((tx (a ++ c :: b)).length < (⟨#[c]⟩ : Str).length) || decide (strKind (tx (a ++ c :: b)) < strKind ⟨#[c]⟩)) = false := by
    rw [Bool.or_eq_false_iff]; exact ⟨by simp [Str.length], by simpa using kind_of_mem hm⟩
  rw [if_neg (by rw [h1]; simp)]
  have hl : limitOf (tx (a ++ c :: b)) 1 = 1 := rfl
  rw [hl]
  have ho : occurrencesFromRight (tx (a ++ c :: b)) ⟨#[c]⟩ 1 = [a.length] := by
    rw [occR_eq]
    have e : (tx (a ++ c :: b)).length = (a ++ c :: b).length := by simp [Str.length]
    rw [e, occR_run (a ++ c :: b) c a.length (by simp) (fun k hk => ?_) _ 0 (by omega) (by omega)]
    · rfl
    · intro q
      rw [List.getElem?_append_right (by omega), show k - a.length = (k - a.length - 1) + 1 by omega, List.getElem?_cons_succ] at q
      exact h (List.mem_of_getElem? q)
  rw [ho]
  have e : partsBetween (tx (a ++ c :: b)) [a.length] (⟨#[c]⟩ : Str).length = [strSub (tx (a ++ c :: b)) 0 a.length, strSub (tx (a ++ c :: b)) (a.length + 1) (tx (a ++ c :: b)).length] := rfl
  rw [if_neg (by simp), e]
  simp only [List.map_cons, List.map_nil]
  rw [sub_pre, sub_post]

theorem drop_takeWhile (p : Nat → Bool) : ∀ l : List Nat, l.drop (l.takeWhile p).length = l.dropWhile p
  | [] => rfl
  | x :: r => by
    rw [List.takeWhile_cons, List.dropWhile_cons]
    split
    · exact drop_takeWhile p r
    · rfl
theorem lstrip_one (l : List Nat) (c : Nat) : (Txt.lstripChars (tx l) ⟨#[c]⟩).cps.toList = l.dropWhile (· == c) := by
  have hg : (fun x => (#[c] : Array Nat).contains x) = (· == c) := by funext x; exact Bool.eq_iff_iff.mpr (by simp)
  unfold Txt.lstripChars Txt.stripBy
  show (if stripSame (fun x => (#[c] : Array Nat).contains x) true false (tx l) then tx l else PySem.stripped (fun x => (#[c] : Array Nat).contains x) true false (tx l)).cps.toList = _
  rw [hg]
  have hlo : stripLo (· == c) true (tx l) = (l.takeWhile (· == c)).length := rfl
  have hhi : ∀ n, stripHi (· == c) false (tx l) n = l.length := fun n => by show (tx l).length = _; simp [Str.length]
  split
  · rename_i h
    unfold stripSame at h
    rw [hlo] at h
    have h0 : (l.takeWhile (· == c)).length = 0 := by
      rw [Bool.and_eq_true, beq_iff_eq] at h; exact h.1
    rw [← drop_takeWhile, h0]; rfl
  · unfold PySem.stripped
    rw [hlo, hhi, strSub_toList]
    show List.take _ (List.drop _ l) = _
    rw [drop_takeWhile, List.take_of_length_le]
    rw [← drop_takeWhile, List.length_drop]
    omega
end Mine

end

section
open PySem PySem.W PyProof.Rows PySem.Calls
namespace Mine
section
variable {W : Wd} {C : Ac W} {E : Value → Shared → Prop} {ρ : Rho} {Q : PV → Prop}

theorem Rep.strs {Z : ZMap} : ∀ {l : List (Str × Tok)} {ls : List (List Nat)}, l.map (fun p => p.1.cps.toList) = ls → RepL Z (strValues l) (ls.map .str)
  | [], _, h => by cases h; exact .nil
  | (x, t) :: r, _, h => by cases h; exact .cons (.str' rfl) (Rep.strs rfl)

theorem Oc.len_str {l : List Nat} (q : Q (.int l.length)) (h : l.length ≤ 1000000) : Oc C E (.builtin "len") [.str l] Q := fun Z s vs S r => by
  cases r with | cons r₁ r₂ => cases r₂; cases r₁; exact SBL.len (by simp only [Str.length, List.size_toArray]; omega) (.here S (.tok _ _ _) (.int _ _) (by simpa [Str.length] using q))
theorem Oc.len_lst {ps : List PV} (q : Q (.int ps.length)) (h : ps.length ≤ 1000000) : Oc C E (.builtin "len") [.lst ps] Q := fun Z s vs S r => by
  cases r with
  | cons r₁ r₂ =>
    cases r₂
    cases r₁ with
    | @lst a o ws n ps ho hc hd r =>
      have e : (ws.toArray.size : Int) = ps.length := by rw [List.size_toArray, r.length]
      exact call_len_list ⟨o, S.z.zin _ _ ho, hc, n, hd⟩ (by omega) (.here S (.tok _ _ _) (.int _ _) (by rw [e]; exact q))
theorem Oc.len_tup {ps : List PV} (q : Q (.int ps.length)) (h : ps.length ≤ 1000000) : Oc C E (.builtin "len") [.tup ps] Q := fun Z s vs S r => by
  cases r with
  | cons r₁ r₂ =>
    cases r₂
    cases r₁ with
    | @tup a o ws n ps ho hc hd r =>
      have e : (ws.toArray.size : Int) = ps.length := by rw [List.size_toArray, r.length]
      exact PyProof.Rows.len_tuple ⟨o, S.z.zin _ _ ho, hc, n, hd⟩ (by omega) (.here S (.tok _ _ _) (.int _ _) (by rw [e]; exact q))
theorem Oc.rfind {l : List Nat} {c : Nat} (q : Q (.int (match lastIx c l with | some i => (i : Int) | none => -1))) : Oc C E (.builtin "str.rfind") [.str l, .str [c]] Q := fun Z s vs S r => by
  cases r with | cons r₁ r₂ => cases r₂ with | cons r₂ r₃ => cases r₃; cases r₁; cases r₂; exact SC.rfind (.here S (.tok _ _ _) (.int _ _) (by rw [rfind_one]; exact q))
theorem Oc.startswith {l : List Nat} {c : Nat} (q : Q (.bool (l.head? == some c))) : Oc C E (.builtin "str.startswith") [.str l, .str [c]] Q := fun Z s vs S r => by
  cases r with | cons r₁ r₂ => cases r₂ with | cons r₂ r₃ => cases r₃; cases r₁; cases r₂; exact SC.startswith (.here S (.refl _ _) (.bool _) (by rw [startswith_one]; exact q))
theorem Oc.lstrip {l : List Nat} {c : Nat} (q : Q (.str (l.dropWhile (· == c)))) (h : l.length ≤ 1000000) : Oc C E (.builtin "str.lstrip") [.str l, .str [c]] Q := fun Z s vs S r => by
  cases r with | cons r₁ r₂ => cases r₂ with | cons r₂ r₃ => cases r₃; cases r₁; cases r₂; exact SCL.lstripChars (hsz := by simp only [Str.length, List.size_toArray]; rw [sizeLine_eq]; omega) fun t' k _ => .here S (.tok _ _ _) (.str' (lstrip_one _ _)) q

/-- a list of texts, pushed -/
theorem Pst.texts {Z : ZMap} {s : Shared} {k : Nat} (l : List (Str × Tok)) (ls : List (List Nat)) (S : StG W C.A Z s) (e : l.map (fun p => p.1.cps.toList) = ls) (q : Q (.lst (ls.map .str))) :
    Pst (W := W) Z s Q (.ref s.heap.objs.size) { s with heap := s.heap.push { cls := .type "list", data := .seq (strValues l).toArray }, toks := k } :=
  Pst.push S rfl (by simp) (fun Z' hs h' => .lst h' rfl rfl (Rep.strs e)) q
theorem texts_of {l : List (Str × Tok)} {xs : List Str} {ls : List (List Nat)} (h : l.map (·.1) = xs) (h' : xs.map (fun p => p.cps.toList) = ls) : l.map (fun p => p.1.cps.toList) = ls := by
  rw [← h', ← h, List.map_map]; rfl

theorem Oc.split {l : List Nat} {c : Nat} (q : Q (.lst ((splitL c l).map .str))) (h : l.length ≤ 1000000) : Oc C E (.builtin "str.split") [.str l, .str [c]] Q := fun Z s vs S r => by
  cases r with
  | cons r₁ r₂ =>
    cases r₂ with
    | cons r₂ r₃ =>
      cases r₃; cases r₁ with
      | str l t =>
        cases r₂ with
        | str m u =>
          have hlen : (tx l).length = l.length := by simp [Str.length]
          have hs := sizeLine_eq
          have e := split_one l c
          have hn : (PySem.Builtin.Str.partsBetween (tx l) (PySem.Builtin.Str.occurrences (tx l) ⟨#[c]⟩ 0 (tx l).length ((tx l).length + 1)) (⟨#[c]⟩ : Str).length).length ≤ sizeLine := by
            have := StrLaws.occ_length_le (tx l) ⟨#[c]⟩ 0 (tx l).length ((tx l).length + 1)
            rw [length_partsBetween]; omega
          have one : Txt.split (tx l) ⟨#[c]⟩ = [tx l] → Pst (W := W) Z s Q (.ref s.heap.objs.size) { s with heap := s.heap.push { cls := .type "list", data := .seq (strValues [(tx l, t)]).toArray }, toks := s.toks } := fun e' =>
            .texts [(tx l, t)] _ S (texts_of (xs := Txt.split (tx l) ⟨#[c]⟩) e'.symm e) q
          by_cases h1 : (decide ((tx l).length < (⟨#[c]⟩ : Str).length) || decide (PySem.Builtin.Str.strKind (tx l) < PySem.Builtin.Str.strKind ⟨#[c]⟩)) = true
          · exact call_meets F.slot_str_split (typeIs_str _ _ _) F.entry_str_split (F.args_str_split_2 _ _) (meets_str_split_cannot_occur (tx l) ⟨#[c]⟩ t u h1) (one (if_pos h1))
          · have h1' := Bool.eq_false_iff.mpr h1
            by_cases h2 : (PySem.Builtin.Str.occurrences (tx l) ⟨#[c]⟩ 0 (tx l).length ((tx l).length + 1)).isEmpty = true
            · exact call_meets F.slot_str_split (typeIs_str _ _ _) F.entry_str_split (F.args_str_split_2 _ _) (meets_str_split_not_found (tx l) ⟨#[c]⟩ t u h1' rfl h2) (one ((if_neg h1).trans (if_pos h2)))
            · refine call_meets F.slot_str_split (typeIs_str _ _ _) F.entry_str_split (F.args_str_split_2 _ _) (meets_str_split_sep (tx l) ⟨#[c]⟩ t u h1' rfl (Bool.eq_false_iff.mpr h2) (by omega) hn) ?_
              have e3 : Txt.split (tx l) ⟨#[c]⟩ = _ := (if_neg h1).trans (if_neg h2)
              have := Pst.texts (C := C) (Q := Q) (k := s.toks + (PySem.Builtin.Str.partsBetween (tx l) (PySem.Builtin.Str.occurrences (tx l) ⟨#[c]⟩ 0 (tx l).length ((tx l).length + 1)) (⟨#[c]⟩ : Str).length).length) (numbered s.toks _) _ S (texts_of ((numbered_texts _ _).trans e3.symm) e) q
              rw [← strsFrom_eq] at this
              exact this

theorem Oc.split1 {a b : List Nat} {c : Nat} (hc : c ∉ a) (q : Q (.lst [.str a, .str b])) (h : (a ++ c :: b).length ≤ 1000000) : Oc C E (.builtin "str.split") [.str (a ++ c :: b), .str [c], .int 1] Q := fun Z s vs S r => by
  cases r with
  | cons r₁ r₂ =>
    cases r₂ with
    | cons r₂ r₃ =>
      cases r₃ with
      | cons r₃ r₄ =>
        cases r₄; cases r₁ with
        | str l t =>
          cases r₂ with
          | str m u =>
            cases r₃ with
            | int i v =>
              have hlen : (tx (a ++ c :: b)).length = (a ++ c :: b).length := by simp [Str.length]
              have hs := sizeLine_eq
              have e := split1_at (b := b) hc
              have hn : (PySem.Builtin.Str.partsBetween (tx (a ++ c :: b)) (PySem.Builtin.Str.occurrences (tx (a ++ c :: b)) ⟨#[c]⟩ 0 (tx (a ++ c :: b)).length (limitOf (tx (a ++ c :: b)) 1)) (⟨#[c]⟩ : Str).length).length ≤ sizeLine := by
                have := StrLaws.occ_length_le (tx (a ++ c :: b)) ⟨#[c]⟩ 0 (tx (a ++ c :: b)).length (limitOf (tx (a ++ c :: b)) 1)
                have h' : limitOf (tx (a ++ c :: b)) 1 = 1 := rfl
                rw [length_partsBetween]; omega
              have e3 := e
              unfold Txt.splitMax at e3
              by_cases h1 : (decide ((tx (a ++ c :: b)).length < (⟨#[c]⟩ : Str).length) || decide (PySem.Builtin.Str.strKind (tx (a ++ c :: b)) < PySem.Builtin.Str.strKind ⟨#[c]⟩)) = true
              · rw [if_pos h1] at e3; simp at e3
              · rw [if_neg h1] at e3
                by_cases h2 : (PySem.Builtin.Str.occurrences (tx (a ++ c :: b)) ⟨#[c]⟩ 0 (tx (a ++ c :: b)).length (limitOf (tx (a ++ c :: b)) 1)).isEmpty = true
                · rw [if_pos h2] at e3; simp at e3
                · rw [if_neg h2] at e3
                  refine call_meets F.slot_str_split (typeIs_str _ _ _) F.entry_str_split (F.args_str_split_3 _ _ _) (meets_str_split_sep_max (tx (a ++ c :: b)) ⟨#[c]⟩ 1 t u v (by decide) (Bool.eq_false_iff.mpr h1) rfl (Bool.eq_false_iff.mpr h2) (by omega) hn) ?_
                  have := Pst.texts (C := C) (Q := Q) (k := s.toks + (PySem.Builtin.Str.partsBetween (tx (a ++ c :: b)) (PySem.Builtin.Str.occurrences (tx (a ++ c :: b)) ⟨#[c]⟩ 0 (tx (a ++ c :: b)).length (limitOf (tx (a ++ c :: b)) 1)) (⟨#[c]⟩ : Str).length).length) (numbered s.toks _) [a, b] S (texts_of (numbered_texts _ _) e3) q
                  rw [← strsFrom_eq] at this
                  exact this
theorem Oc.rsplit1 {a b : List Nat} {c : Nat} (hc : c ∉ b) (q : Q (.lst [.str a, .str b])) (h : (a ++ c :: b).length ≤ 1000000) : Oc C E (.builtin "str.rsplit") [.str (a ++ c :: b), .str [c], .int 1] Q := fun Z s vs S r => by
  cases r with
  | cons r₁ r₂ =>
    cases r₂ with
    | cons r₂ r₃ =>
      cases r₃ with
      | cons r₃ r₄ =>
        cases r₄; cases r₁ with
        | str l t =>
          cases r₂ with
          | str m u =>
            cases r₃ with
            | int i v =>
              have hlen : (tx (a ++ c :: b)).length = (a ++ c :: b).length := by simp [Str.length]
              have hs := sizeLine_eq
              have e := rsplit1_at (a := a) hc
              have hn : (PySem.Builtin.Str.partsBetween (tx (a ++ c :: b)) (PySem.Builtin.Str.occurrencesFromRight (tx (a ++ c :: b)) ⟨#[c]⟩ (limitOf (tx (a ++ c :: b)) 1)) (⟨#[c]⟩ : Str).length).length ≤ sizeLine := by
                have := StrLaws.occR_length_le (tx (a ++ c :: b)) ⟨#[c]⟩ (limitOf (tx (a ++ c :: b)) 1)
                have h' : limitOf (tx (a ++ c :: b)) 1 = 1 := rfl
                rw [length_partsBetween]; omega
              have e3 := e
              unfold Txt.rsplitMax at e3
              by_cases h1 : (decide ((tx (a ++ c :: b)).length < (⟨#[c]⟩ : Str).length) || decide (PySem.Builtin.Str.strKind (tx (a ++ c :: b)) < PySem.Builtin.Str.strKind ⟨#[c]⟩)) = true
              · rw [if_pos h1] at e3; simp at e3
              · rw [if_neg h1] at e3
                by_cases h2 : (PySem.Builtin.Str.occurrencesFromRight (tx (a ++ c :: b)) ⟨#[c]⟩ (limitOf (tx (a ++ c :: b)) 1)).isEmpty = true
                · rw [if_pos h2] at e3; simp at e3
                · rw [if_neg h2] at e3
                  refine call_meets F.slot_str_rsplit (typeIs_str _ _ _) F.entry_str_rsplit (F.args_str_rsplit_3 _ _ _) (meets_str_rsplit_sep_max (tx (a ++ c :: b)) ⟨#[c]⟩ 1 t u v (by decide) (Bool.eq_false_iff.mpr h1) rfl (Bool.eq_false_iff.mpr h2) (by omega) hn) ?_
                  have := Pst.texts (C := C) (Q := Q) (k := s.toks + (PySem.Builtin.Str.partsBetween (tx (a ++ c :: b)) (PySem.Builtin.Str.occurrencesFromRight (tx (a ++ c :: b)) ⟨#[c]⟩ (limitOf (tx (a ++ c :: b)) 1)) (⟨#[c]⟩ : Str).length).length) (numbered s.toks _) [a, b] S (texts_of (numbered_texts _ _) e3) q
                  rw [← strsFrom_eq] at this
                  exact this
end
end Mine

end

section
open PySem PySem.W PyProof.Rows PySem.Calls
namespace Mine
section
variable {W : Wd} {C : Ac W} {E : Value → Shared → Prop} {ρ : Rho} {Q : PV → Prop}

/-! lists and tuples joined -/
theorem Op2.add_lst {xs ys : List PV} (q : Q (.lst (xs ++ ys))) (h : xs.length + ys.length ≤ 1000000) : Op2 C E (binaryOp .Add) (.lst xs) (.lst ys) Q := fun Z s a b S r₁ r₂ => by
  cases r₁ with
  | @lst a o vs n ps ho hc hd r =>
    cases r₂ with
    | @lst b o' ws n' ps' ho' hc' hd' r' =>
      have hs := sizeLine_eq
      have e1 := r.length
      have e2 := r'.length
      obtain ⟨_, dd, _, sl⟩ := o
      obtain ⟨_, dd', _, sl'⟩ := o'
      simp only at hc hd hc' hd'
      subst hc hd hc' hd'
      refine concat_meets ⟨_, S.z.zin _ _ ho, rfl⟩ ⟨_, S.z.zin _ _ ho', rfl⟩ noFill_list_add seq_list_add PySem.F.slot_list_add PySem.F.entry_list_add (PySem.F.args_list_add_2 _ _)
        (list_addW a b vs.toArray ws.toArray n n' dd dd' sl sl' (by simp only [List.size_toArray]; omega)) ⟨S.z.zin _ _ ho, S.z.zin _ _ ho', ?_⟩
      have e : vs.toArray ++ ws.toArray = (vs ++ ws).toArray := by simp
      rw [e]
      exact Pst.push (t := s.toks) S rfl (by simp) (fun Z' hs h' => .lst h' rfl rfl ((r'.append r).mono hs)) q
theorem Op2.add_tup {xs ys : List PV} (q : Q (.tup (xs ++ ys))) (h : xs.length + ys.length ≤ 1000000) (hx : xs ≠ []) (hy : ys ≠ []) : Op2 C E (binaryOp .Add) (.tup xs) (.tup ys) Q := fun Z s a b S r₁ r₂ => by
  cases r₁ with
  | @tup a o vs n ps ho hc hd r =>
    cases r₂ with
    | @tup b o' ws n' ps' ho' hc' hd' r' =>
      have hs := sizeLine_eq
      have e1 := r.length
      have e2 := r'.length
      obtain ⟨_, dd, _, sl⟩ := o
      obtain ⟨_, dd', _, sl'⟩ := o'
      simp only at hc hd hc' hd'
      subst hc hd hc' hd'
      have n1 : vs ≠ [] := fun e => hx (List.length_eq_zero_iff.mp (by rw [← e1, e]; rfl))
      have n2 : ws ≠ [] := fun e => hy (List.length_eq_zero_iff.mp (by rw [← e2, e]; rfl))
      refine concat_meets ⟨_, S.z.zin _ _ ho, rfl⟩ ⟨_, S.z.zin _ _ ho', rfl⟩ noFill_tuple_add seq_tuple_add PySem.F.slot_tuple_add PySem.F.entry_tuple_add (PySem.F.args_tuple_add_2 _ _)
        (tuple_addW2 a b vs.toArray ws.toArray n n' dd dd' sl sl' (by simpa using n1) (by simpa using n2) (by simp only [List.size_toArray]; omega)) ⟨S.z.zin _ _ ho, S.z.zin _ _ ho', ?_⟩
      have e : vs.toArray ++ ws.toArray = (vs ++ ws).toArray := by simp
      rw [e]
      exact Pst.push (t := s.toks) S rfl (by simp) (fun Z' hs h' => .tup h' rfl rfl ((r'.append r).mono hs)) q

/-! a tuple's part from a place on -/
theorem getItem_tuple_whole {prog : Program} {w : World} {A : Around} {E : Value → Shared → Prop} {s : Shared} {t sl : Addr} {items : Array Value} {u : Tok} {R : Value → Shared → Prop} (ht : IsTup s.heap t items) (hs : s.heap.IsSliceOf sl (.int 0 u) .none .none)
    (h : R (.ref t) s) : wpAny (model prog w) A (getItem (.ref t) (.ref sl)) R E s := by
  have hTs : s.TypeIs (.ref sl) "slice" := let ⟨os, hos, hcs, _⟩ := hs; ⟨os, hos, hcs⟩
  unfold getItem
  refine wpAny_holding (wpAny_bind (wpAny_sequenceKey ht.typeIs (by decide) ?_))
  refine wpAny_bind (wpAny_callSpecial?_slot (name := Str.ofString "__getitem__") ht.typeIs PyProof.Rows.slot_tuple_getitem
    (wpAny_call_entry PyProof.Rows.slot_tuple_getitem ht.typeIs PyProof.Rows.entry_tuple_getitem ?_ (PyProof.Rows.args_tuple_getitem _ _)))
  show wpAny _ _ (Builtin.Tuple.tupleItemsOf (.ref t) >>= _) _ _ s
  refine wpAny_bind (tupleItemsOf_ ht (wpAny_bind (wpAny_typeOf hTs ?_)))
  rw [if_pos (by decide)]
  refine wpAny_bind (sliceApplied_from (a := 0) hs (Nat.zero_le _) ?_)
  have hyes : (((0 : Nat) : Int) == 0 && (1 : Int) == 1 && (items.size - 0) == items.size) = true := by simp
  show wpAny _ _ (if (((0 : Nat) : Int) == 0 && (1 : Int) == 1 && (items.size - 0) == items.size) = true then _ else _) _ _ s
  rw [if_pos hyes]
  unfold Builtin.Tuple.tupleIsExact
  refine wpAny_bind (wpAny_bind (wpAny_typeOf ht.typeIs (wpAny_pure ?_)))
  rw [if_pos (by decide)]
  exact wpAny_bind (wpAny_rule (wpAny_pure ⟨_, rfl, wpAny_pure h⟩))
theorem Os.tup_from {value : Expr} {l u : Option Expr} {p : Pos} {ps : List PV} {a : Nat} (q : Q (.tup (ps.drop a))) (ha : a ≤ ps.length) (hl : ps.length ≤ 1000000) : Os C E value (.Slice l u .none p) (.tup ps) (some (a : Int)) .none Q := fun Z s _ sl vl vu S r₁ hs p₁ p₂ => by
  cases r₁ with
  | @tup t o vs n ps ho hc hd r =>
    have hz := sizeLine_eq
    have e1 := r.length
    have ht : IsTup s.heap t vs.toArray := ⟨o, S.z.zin _ _ ho, hc, n, hd⟩
    cases p₁; cases p₂
    refine tail_any ht.typeIs PyProof.Rows.slot_tuple_getitem.lookup ?_ rfl
    by_cases h0 : a = 0
    · subst h0
      exact getItem_tuple_whole ht hs (.here S (.refl _ _) (.tup ho hc hd r) q)
    · refine getItem_tuple_from ht hs (by omega) (by simp only [List.size_toArray]; omega) ?_ (by simp only [List.size_toArray]; omega)
      exact Pst.push (t := s.toks) S rfl (by simp) (fun Z' hs h' => .tup (n := 0) h' rfl (by simp) ((r.drop a).mono hs)) q

/-! join -/
theorem strsAre_of {Z : ZMap} : ∀ {vs : List Value} {ls : List (List Nat)}, RepL Z vs (ls.map .str) → StrsAre vs (ls.map tx)
  | [], [], _ => .nil
  | _ :: _, _ :: _, .cons h t => by cases h; exact .cons _ _ (strsAre_of t)
theorem joined (s : List Nat) (ls : List (List Nat)) : (Txt.join (tx s) (ls.map tx)).cps.toList = joinL s ls := by
  unfold Txt.join
  rw [StrLaws.glued_eq_join, join_toList, List.map_map]
  have : ((fun p : Str => p.cps.toList) ∘ tx) = id := by funext l; rfl
  rw [this, List.map_id]
theorem sum_tx : ∀ ls : List (List Nat), ((ls.map tx).map (·.length)).sum = (ls.map List.length).sum
  | [] => rfl
  | l :: r => by simp only [List.map_cons, List.sum_cons]; rw [sum_tx r]; simp [Str.length]
theorem Oc.join_lst {s : List Nat} {ls : List (List Nat)} (q : Q (.str (joinL s ls))) (h : (ls.map List.length).sum + ls.length * s.length ≤ 16000000) : Oc C E (.builtin "str.join") [.str s, .lst (ls.map .str)] Q := fun Z st vs S r => by
  cases r with
  | cons r₁ r₂ =>
    cases r₂ with
    | cons r₂ r₃ =>
      cases r₃; cases r₁ with
      | str s t =>
        cases r₂ with
        | @lst a o ws n ps ho hc hd r =>
          refine join_list (items := ws.toArray) (ys := ls.map tx) ⟨o, S.z.zin _ _ ho, hc, n, hd⟩ (strsAre_of r) ?_ fun t' k => .here S (.tok _ _ _) (.str' (joined s ls)) q
          rw [sum_tx, List.length_map]; simp only [Str.length, List.size_toArray]; omega
theorem Oc.join_tup {s : List Nat} {ls : List (List Nat)} (q : Q (.str (joinL s ls))) (h : (ls.map List.length).sum + ls.length * s.length ≤ 16000000) : Oc C E (.builtin "str.join") [.str s, .tup (ls.map .str)] Q := fun Z st vs S r => by
  cases r with
  | cons r₁ r₂ =>
    cases r₂ with
    | cons r₂ r₃ =>
      cases r₃; cases r₁ with
      | str s t =>
        cases r₂ with
        | @tup a o ws n ps ho hc hd r =>
          refine join_tuple (items := ws.toArray) (ys := ls.map tx) ⟨o, S.z.zin _ _ ho, hc, n, hd⟩ (strsAre_of r) ?_ fun t' k => .here S (.tok _ _ _) (.str' (joined s ls)) q
          rw [sum_tx, List.length_map]; simp only [Str.length, List.size_toArray]; omega

/-! range, list, isinstance, abs, int -/
theorem Oc.range1 {n : Int} (q : Q (.rng 0 n 1)) : Oc C E (.type "range") [.int n] Q := fun Z s vs S r => by
  cases r with | cons r₁ r₂ => cases r₂; cases r₁; exact call_range_1 (Pst.push S rfl (by simp) (fun Z' hs h' => .rng h') q)
theorem Oc.range2 {a b : Int} (q : Q (.rng a b 1)) : Oc C E (.type "range") [.int a, .int b] Q := fun Z s vs S r => by
  cases r with | cons r₁ r₂ => cases r₂ with | cons r₂ r₃ => cases r₃; cases r₁; cases r₂; exact call_range_2 (Pst.push S rfl (by simp) (fun Z' hs h' => .rng h') q)
theorem Oc.range3 {a b c : Int} (q : Q (.rng a b c)) (hc : c ≠ 0) (h : c.natAbs.log2 < 9000 := by decide) : Oc C E (.type "range") [.int a, .int b, .int c] Q := fun Z s vs S r => by
  cases r with | cons r₁ r₂ => cases r₂ with | cons r₂ r₃ => cases r₃ with | cons r₃ r₄ => cases r₄; cases r₁; cases r₂; cases r₃; exact call_range_3 hc (Pst.push S rfl (by simp) (fun Z' hs h' => .rng h') q) (.inl (PyProof.noPylong_of_log2 h))
theorem Oc.list_tup {ps : List PV} (q : Q (.lst ps)) (h : ps.length ≤ 1000000) : Oc C E (.type "list") [.tup ps] Q := fun Z s vs S r => by
  cases r with
  | cons r₁ r₂ =>
    cases r₂; cases r₁ with
    | @tup a o ws n ps ho hc hd r =>
      have hz := sizeLine_eq
      have e1 := r.length
      refine call_list_seq a (.inr rfl) (S.z.zin _ _ ho) hc hd (fun h' c' kp hn => ?_) (by simp only [List.size_toArray]; omega)
      have z' := S.z.go (G := W.G) (.of kp)
      exact ⟨.heap (t := s.toks) kp, zput Z s.heap.objs.size _, _, .put S.z fresh, z'.put hn (by simp), .lst (zput_at _ _ _) rfl rfl (r.mono (ZExt.put S.z fresh).sub), q⟩
theorem Oc.isi_no {K : Addr} {l : List Nat} (e : isNotIn W.K "str" K = true) (q : Q (.bool false)) : Oc C E (.builtin "isinstance") [.str l, .con (.ref K)] Q := fun Z s vs S r => by
  cases r with
  | cons r₁ r₂ =>
    cases r₂ with
    | cons r₂ r₃ =>
      cases r₃; cases r₁; cases r₂
      exact isn_call (P := fun _ => True) (W.kin.keeps S.keep) (fun M => Looks.of_pure rfl) e (by intro e; cases e) trivial str_cls (.here S (.tok _ _ _) (.bool _) q)
theorem Oc.isi_yes {K a : Addr} {fs : List (Str × PV)} (e : isIn W.K (.ref K) K = true) (q : Q (.bool true)) : Oc C E (.builtin "isinstance") [.obj K a fs, .con (.ref K)] Q := fun Z s vs S r => by
  cases r with
  | cons r₁ r₂ =>
    cases r₂ with
    | cons r₂ r₃ =>
      cases r₃; cases r₂
      cases r₁ with
      | @obj C a dx es n fs h1 h2 h3 =>
        exact isi_call (W.kin.keeps S.keep) (fun M => (Looks.ld (S.z.zin _ _ h1)).andThen .now) e (by intro e; cases e) (.here S (.refl _ _) (.bool _) q)
theorem Oc.isi_bool {b : Bool} (q : Q (.bool true)) : Oc C E (.builtin "isinstance") [.bool b, .con (.type "bool")] Q := fun Z s vs S r => by
  cases r with
  | cons r₁ r₂ =>
    cases r₂ with
    | cons r₂ r₃ => cases r₃; cases r₁; cases r₂; exact IsiPair.bool_bool (.here S (.refl _ _) (.bool _) q)
theorem Oc.abs {n : Int} (q : Q (.int (if n < 0 then -n else n))) : Oc C E (.builtin "abs") [.int n] Q := fun Z s vs S r => by
  cases r with | cons r₁ r₂ => cases r₂; cases r₁; exact call_abs_int fun u tk => .here S (.tok _ _ _) (.int _ _) q
end
end Mine

end

section
open PySem PySem.W PyProof.Rows PySem.Calls
namespace Mine

inductive Fl where
  | next | brk | cont
  | ret (p : PV)
inductive FRep (Z : ZMap) : Flow → Fl → Prop
  | next : FRep Z .next .next
  | brk : FRep Z .brk .brk
  | cont : FRep Z .cont .cont
  | ret {v : Value} {p : PV} : Rep Z v p → FRep Z (.ret v) (.ret p)

/-- lists of the frame's own that still grow: the name, the address, the items -/
abbrev Own := List (Str × Addr × List PV)

structure OwnAt (env : Env) (Z B : ZMap) (h : Heap) (x : Str) (a : Addr) (ps : List PV) : Prop where
  var : VarAt env h x (.ref a)
  at_ : ∃ n vs, h.get? a = some { cls := .type "list", data := .seq (List.toArray vs) n } ∧ RepL Z vs ps
  z : Z a = none
  b : B a = none

structure StS (W : Wd) (C : Ac W) (s₀ : Shared) (ρ : Rho) (O : Own) (Z B : ZMap) (s : Shared) : Prop where
  toE : StE W C ρ Z s
  eq : ∃ h tk, s = { s₀ with heap := h, toks := tk }
  ns : ∃ m, s.heap.Ns C.env.locals m
  zl : Z C.env.locals = none
  bl : B C.env.locals = none
  cells : ∀ x c, C.env.cells.lookup x = some c → (∃ v, s.heap.IsCell c v) ∧ Z c = none ∧ B c = none
  apart : C.env.cells.Pairwise fun x y => x.2 ≠ y.2
  bin : ∀ b o, B b = some o → ∃ o', s.heap.get? b = some o' ∧ o'.cls = o.cls ∧ o'.data = o.data ∧ (o.cls ≠ .type "frame" ∨ (∃ q, W.G.get? b = some q) → o' = o)
  own : ∀ x a ps, (x, a, ps) ∈ O → OwnAt C.env Z B s.heap x a ps
  oapart : O.Pairwise fun x y => x.2.1 ≠ y.2.1

structure ZExtB (B Z Z' : ZMap) : Prop where
  sub : ZSub Z Z'
  old : ∀ b o, B b = some o → Z' b = Z b
theorem ZExtB.refl (B Z : ZMap) : ZExtB B Z Z := ⟨.refl _, fun _ _ _ => rfl⟩
theorem ZExtB.trans {B Z₁ Z₂ Z₃ : ZMap} (x : ZExtB B Z₁ Z₂) (y : ZExtB B Z₂ Z₃) : ZExtB B Z₁ Z₃ := ⟨x.sub.trans y.sub, fun b o e => (y.old b o e).trans (x.old b o e)⟩

/-- the post of statements -/
def PsS {W : Wd} (C : Ac W) (s₀ : Shared) (Z B : ZMap) (R : Fl → Rho → Own → Prop) (f : Flow) (s' : Shared) : Prop :=
  ∃ Z' ρ' O' f', ZExtB B Z Z' ∧ StS W C s₀ ρ' O' Z' B s' ∧ FRep Z' f f' ∧ R f' ρ' O'

def Ex {W : Wd} (C : Ac W) (s₀ : Shared) (E : Value → Shared → Prop) (ρ : Rho) (O : Own) (ss : List Stmt) (R : Fl → Rho → Own → Prop) : Prop :=
  ∀ Z B s, StS W C s₀ ρ O Z B s → wpAny W.M C.A (execs ss C.env) (PsS C s₀ Z B R) E s
def Ex1 {W : Wd} (C : Ac W) (s₀ : Shared) (E : Value → Shared → Prop) (ρ : Rho) (O : Own) (st : Stmt) (R : Fl → Rho → Own → Prop) : Prop :=
  ∀ Z B s, StS W C s₀ ρ O Z B s → wpAny W.M C.A (exec st C.env) (PsS C s₀ Z B R) E s

section
variable {W : Wd} {C : Ac W} {s₀ : Shared} {E : Value → Shared → Prop} {ρ ρ' : Rho} {O : Own} {Z Z' B : ZMap} {s s' : Shared} {R : Fl → Rho → Own → Prop}

theorem StS.zextB (S : StS W C s₀ ρ O Z B s) (e : ZExt s.heap Z Z') : ZExtB B Z Z' :=
  ⟨e.sub, fun b o h => by obtain ⟨o', h', _⟩ := S.bin b o h; exact e.old b o' h'⟩
/-- after a tree that keeps all -/
theorem StS.go (S : StS W C s₀ ρ O Z B s) (g : Go W.G s s') (e : ZExt s.heap Z Z') (z : ZOk W.G Z' s'.heap) : StS W C s₀ ρ O Z' B s' := by
  have old : ∀ b, (∃ o, s.heap.get? b = some o) → Z b = none → Z' b = none := fun b ⟨o, h⟩ n => (e.old b o h).trans n
  refine ⟨S.toE.go g e z, ?_, ?_, ?_, S.bl, ?_, S.apart, ?_, ?_, S.oapart⟩
  · obtain ⟨h, t, rfl⟩ := S.eq
    obtain ⟨h', t', rfl⟩ := g.eq
    exact ⟨h', t', rfl⟩
  · obtain ⟨m, hn⟩ := S.ns; exact ⟨m, g.kp.ns hn⟩
  · obtain ⟨m, o, _, _, ho, _⟩ := S.ns
    exact old _ ⟨o, ho⟩ S.zl
  · intro x c hc
    obtain ⟨⟨v, hv⟩, h1, h2⟩ := S.cells x c hc
    exact ⟨⟨v, g.kp.cell hv⟩, old c (let ⟨o, ho, _⟩ := hv; ⟨o, ho⟩) h1, h2⟩
  · intro b o hb
    obtain ⟨o', h', hc, hd, hk⟩ := S.bin b o hb
    obtain ⟨o'', h'', hc', hd', hk'⟩ := g.kp b o' h'
    exact ⟨o'', h'', hc'.trans hc, hd'.trans hd, fun n => (hk' (by rw [hc]; exact n)).trans (hk n)⟩
  · intro x a ps hm
    have o := S.own x a ps hm
    obtain ⟨n, vs, ha, hr⟩ := o.at_
    exact ⟨o.var.go g.kp, ⟨n, vs, g.kp.get ha (.inl (by simp)), hr.mono e.sub⟩, old a ⟨_, ha⟩ o.z, o.b⟩

theorem PsS.back {Z₁ : ZMap} {f : Flow} (e : ZExtB B Z Z₁) (p : PsS C s₀ Z₁ B R f s') : PsS C s₀ Z B R f s' := by
  obtain ⟨Z', ρ', O', f', e', S', r, q⟩ := p
  exact ⟨Z', ρ', O', f', e.trans e', S', r, q⟩

theorem Ex.nil (q : R .next ρ O) : Ex C s₀ E ρ O [] R := fun Z B s S => wpAny_execs_nil ⟨Z, ρ, O, .next, .refl _ _, S, .next, q⟩
theorem Ex.cons {st : Stmt} {rest : List Stmt} (h : Ex1 C s₀ E ρ O st fun f ρ' O' => match f with | .next => Ex C s₀ E ρ' O' rest R | f => R f ρ' O') : Ex C s₀ E ρ O (st :: rest) R := fun Z B s S => by
  refine wpAny_execs_cons (wpAny_mono (h Z B s S) (fun f s₁ ⟨Z₁, ρ₁, O₁, f₁, e₁, S₁, r₁, q₁⟩ => ?_) fun _ _ x => x)
  cases r₁ with
  | next => exact wpAny_mono (q₁ Z₁ B s₁ S₁) (fun _ _ p => .back e₁ p) fun _ _ x => x
  | brk => exact ⟨Z₁, ρ₁, O₁, .brk, e₁, S₁, .brk, q₁⟩
  | cont => exact ⟨Z₁, ρ₁, O₁, .cont, e₁, S₁, .cont, q₁⟩
  | ret r => exact ⟨Z₁, ρ₁, O₁, .ret _, e₁, S₁, .ret r, q₁⟩
theorem Ex.mono {ss : List Stmt} {R' : Fl → Rho → Own → Prop} (h : Ex C s₀ E ρ O ss R) (k : ∀ f ρ O, R f ρ O → R' f ρ O) : Ex C s₀ E ρ O ss R' := fun Z B s S =>
  wpAny_mono (h Z B s S) (fun _ _ ⟨Z₁, ρ₁, O₁, f₁, e₁, S₁, r₁, q₁⟩ => ⟨Z₁, ρ₁, O₁, f₁, e₁, S₁, r₁, k _ _ _ q₁⟩) fun _ _ x => x
theorem Ex1.mono {st : Stmt} {R' : Fl → Rho → Own → Prop} (h : Ex1 C s₀ E ρ O st R) (k : ∀ f ρ O, R f ρ O → R' f ρ O) : Ex1 C s₀ E ρ O st R' := fun Z B s S =>
  wpAny_mono (h Z B s S) (fun _ _ ⟨Z₁, ρ₁, O₁, f₁, e₁, S₁, r₁, q₁⟩ => ⟨Z₁, ρ₁, O₁, f₁, e₁, S₁, r₁, k _ _ _ q₁⟩) fun _ _ x => x

/-- fewer names -/
theorem StS.weaken (S : StS W C s₀ ρ O Z B s) (h : ∀ x p, ρ'.lookup x = some p → ρ.lookup x = some p) : StS W C s₀ ρ' O Z B s :=
  { S with toE := ⟨S.toE.toG, fun x p e => S.toE.vars x p (h x p e)⟩ }
theorem Ex.weaken {ss : List Stmt} (h : Ex C s₀ E ρ' O ss R) (k : ∀ x p, ρ'.lookup x = some p → ρ.lookup x = some p) : Ex C s₀ E ρ O ss R := fun Z B s S => h Z B s (S.weaken k)

theorem Ns_same {h : Heap} {a : Addr} {m m' : Str → Option Value} (x : h.Ns a m) (y : h.Ns a m') : m = m' := by
  obtain ⟨o, es, ep, e, d, _, f⟩ := x
  obtain ⟨o', es', ep', e', d', _, f'⟩ := y
  rw [e] at e'; cases e'
  rw [d] at d'; cases d'
  funext n; exact (f n).symm.trans (f' n)

theorem frames_of' {h h' base : Heap} : ∀ {l : List Env}, (∀ b o, b ∈ l.filterMap (·.frame) → h.get? b = some o → (∀ vs, o.data ≠ .fields vs) → ∃ o', h'.get? b = some o' ∧ ∀ vs, o'.data ≠ .fields vs) → h.FunFrames base l → h'.FunFrames base l
  | [], _, _ => trivial
  | env :: rest, k, ⟨hk, ⟨L, o, hf, hn, ho, hd⟩, hr⟩ => by
    obtain ⟨o', e', d'⟩ := k L o (by rw [List.filterMap_cons, hf]; exact List.mem_cons_self) ho hd
    exact ⟨hk, ⟨L, o', hf, hn, e', d'⟩, frames_of' (fun b o hb => k b o (by rw [List.filterMap_cons, hf]; exact List.mem_cons_of_mem _ hb)) hr⟩
theorem frames_of {h h' base : Heap} (k : ∀ b o, h.get? b = some o → (∀ vs, o.data ≠ .fields vs) → ∃ o', h'.get? b = some o' ∧ ∀ vs, o'.data ≠ .fields vs) {l : List Env} (f : h.FunFrames base l) : h'.FunFrames base l := frames_of' (fun b o _ => k b o) f

/-- a name stored -/
theorem StS.store {x : Str} {v : Value} {p : PV} {T : Unit → Shared → Prop} (S : StS W C s₀ ρ O Z B s) (r : Rep Z v p) (hk : C.env.kindOf x = some .local ∨ (C.env.kindOf x = some .cell ∧ (C.env.cells.lookup x).isSome = true))
    (hO : ∀ y a ps, (y, a, ps) ∈ O → y ≠ x) (k : ∀ s', StS W C s₀ ((x, p) :: ρ) O Z B s' → T () s') : wpAny W.M C.A (storeName C.env x v) T E s := by
  obtain ⟨h₁, t₁, hs⟩ := S.eq
  have hp : (C.env.scope.kind == .class || (C.env.scope.kind == .module && C.env.locals != C.env.globals)) = false := by rw [C.hk]; rfl
  have look : ∀ {y : Str} {q : PV}, y ≠ x → ((x, p) :: ρ).lookup y = some q → ρ.lookup y = some q := fun {y q} n e => by
    rw [List.lookup_cons, show (y == x) = false from beq_eq_false_iff_ne.mpr n] at e; exact e
  have here : ∀ {q : PV}, ((x, p) :: ρ).lookup x = some q → q = p := fun {q} e => by
    rw [List.lookup_cons, beq_self_eq_true] at e; exact (Option.some.inj e).symm
  rcases hk with hl | ⟨hl, hc⟩
  · obtain ⟨m, hn⟩ := S.ns
    refine wpAny_storeName_local hl hn (fun h' hn' hs' => k _ ?_) hp
    have kp : ∀ b o, b ≠ C.env.locals → s.heap.get? b = some o → h'.get? b = some o := fun b o n e => hs'.extBut b o n e
    have var : ∀ {y : Str} {u : Value}, y ≠ x → VarAt C.env s.heap y u → VarAt C.env h' y u := fun {y u} n a => by
      rcases a with ⟨a1, m', a2, a3⟩ | ⟨a1, c, a2, a3⟩
      · refine .inl ⟨a1, _, hn', ?_⟩
        rw [if_neg n, Ns_same hn a2]; exact a3
      · refine .inr ⟨a1, c, a2, a3.sameBut hs' fun e => ?_⟩
        obtain ⟨o, es, ep, e1, e2, _⟩ := hn
        obtain ⟨o', e3, e4⟩ := a3
        rw [e, e1] at e3; cases e3
        rw [e2] at e4; cases e4
    have nz : ∀ b o, Z b = some o → b ≠ C.env.locals := fun b o e n => by rw [n, S.zl] at e; cases e
    have nb : ∀ b o, B b = some o → b ≠ C.env.locals := fun b o e n => by rw [n, S.bl] at e; cases e
    refine ⟨⟨⟨⟨fun b o e => kp b o (nz b o e) (S.toE.toG.z.zin b o e), S.toE.toG.z.zf⟩, S.toE.toG.g, ?_⟩, ?_⟩, ⟨h', _, by rw [hs]⟩, ⟨_, hn'⟩, S.zl, S.bl, ?_, S.apart, ?_, ?_, S.oapart⟩
    · obtain ⟨outer, f1, f2⟩ := S.toE.toG.ff
      refine ⟨outer, f1, frames_of (fun b o e nd => ?_) f2⟩
      by_cases q : b = C.env.locals
      · obtain ⟨o', es, ep, e1, e2, _⟩ := hn'
        exact ⟨o', by rw [q]; exact e1, fun vs e3 => by rw [e2] at e3; cases e3⟩
      · exact ⟨o, kp b o q e, nd⟩
    · intro y q e
      by_cases n : y = x
      · subst n
        rw [here e]
        exact ⟨v, .inl ⟨hl, _, hn', if_pos rfl⟩, r⟩
      · obtain ⟨u, a, ru⟩ := S.toE.vars y q (look n e)
        exact ⟨u, var n a, ru⟩
    · intro y c hc
      obtain ⟨⟨u, hu⟩, h1, h2⟩ := S.cells y c hc
      refine ⟨⟨u, hu.sameBut hs' fun e => ?_⟩, h1, h2⟩
      obtain ⟨o, es, ep, e1, e2, _⟩ := hn
      obtain ⟨o', e3, e4⟩ := hu
      rw [e, e1] at e3; cases e3
      rw [e2] at e4; cases e4
    · intro b o e
      obtain ⟨o', h', c⟩ := S.bin b o e
      exact ⟨o', kp b o' (nb b o e) h', c⟩
    · intro y a ps hm
      have o := S.own y a ps hm
      obtain ⟨n, vs, ha, hr⟩ := o.at_
      refine ⟨var (hO y a ps hm) o.var, ⟨n, vs, kp a _ (fun e => ?_) ha, hr⟩, o.z, o.b⟩
      obtain ⟨o', es, ep, e1, e2, _⟩ := hn
      rw [e, e1] at ha; cases ha; cases e2
  · obtain ⟨c, hc⟩ := Option.isSome_iff_exists.mp hc
    obtain ⟨⟨v₀, hv₀⟩, zc, bc⟩ := S.cells x c hc
    refine wpAny_storeName_cell C.hk hl hc hv₀ fun h' hc' hs' => k _ ?_
    have kp : ∀ b o, b ≠ c → s.heap.get? b = some o → h'.get? b = some o := fun b o n e => hs'.extBut b o n e
    have nL : C.env.locals ≠ c := fun e => by
      obtain ⟨m, o, es, ep, e1, e2, _⟩ := S.ns
      obtain ⟨o', e3, e4⟩ := hv₀
      rw [e, e3] at e1; cases e1
      rw [e4] at e2; cases e2
    have cellne : ∀ {y : Str} {d : Addr}, y ≠ x → C.env.cells.lookup y = some d → d ≠ c := fun {y d} n hd e => n (name_of_addr S.apart (mem_of_lookup hd) (e ▸ mem_of_lookup hc))
    have var : ∀ {y : Str} {u : Value}, y ≠ x → VarAt C.env s.heap y u → VarAt C.env h' y u := fun {y u} n a => by
      rcases a with ⟨a1, m', a2, a3⟩ | ⟨a1, d, a2, a3⟩
      · exact .inl ⟨a1, m', a2.sameBut hs' nL, a3⟩
      · exact .inr ⟨a1, d, a2, a3.sameBut hs' (cellne n a2)⟩
    have nz : ∀ b o, Z b = some o → b ≠ c := fun b o e n => by rw [n, zc] at e; cases e
    have nb : ∀ b o, B b = some o → b ≠ c := fun b o e n => by rw [n, bc] at e; cases e
    refine ⟨⟨⟨⟨fun b o e => kp b o (nz b o e) (S.toE.toG.z.zin b o e), S.toE.toG.z.zf⟩, S.toE.toG.g, ?_⟩, ?_⟩, ⟨h', t₁, by rw [hs]⟩, ?_, S.zl, S.bl, ?_, S.apart, ?_, ?_, S.oapart⟩
    · obtain ⟨outer, f1, f2⟩ := S.toE.toG.ff
      refine ⟨outer, f1, frames_of (fun b o e nd => ?_) f2⟩
      by_cases q : b = c
      · obtain ⟨o', e1, e2⟩ := hc'
        exact ⟨o', by rw [q]; exact e1, fun vs e3 => by rw [e2] at e3; cases e3⟩
      · exact ⟨o, kp b o q e, nd⟩
    · intro y q e
      by_cases n : y = x
      · subst n
        rw [here e]
        exact ⟨v, .inr ⟨hl, c, hc, hc'⟩, r⟩
      · obtain ⟨u, a, ru⟩ := S.toE.vars y q (look n e)
        exact ⟨u, var n a, ru⟩
    · obtain ⟨m, hn⟩ := S.ns; exact ⟨m, hn.sameBut hs' nL⟩
    · intro y d hd
      by_cases n : y = x
      · subst n; rw [hc] at hd; cases hd; exact ⟨⟨_, hc'⟩, zc, bc⟩
      · obtain ⟨⟨u, hu⟩, h1, h2⟩ := S.cells y d hd
        exact ⟨⟨u, hu.sameBut hs' (cellne n hd)⟩, h1, h2⟩
    · intro b o e
      obtain ⟨o', h', q⟩ := S.bin b o e
      exact ⟨o', kp b o' (nb b o e) h', q⟩
    · intro y a ps hm
      have o := S.own y a ps hm
      obtain ⟨n, vs, ha, hr⟩ := o.at_
      refine ⟨var (hO y a ps hm) o.var, ⟨n, vs, kp a _ (fun e => ?_) ha, hr⟩, o.z, o.b⟩
      obtain ⟨o', e3, e4⟩ := hv₀
      rw [e, e3] at ha; cases ha; cases e4

/-! statements -/
def canSet {W : Wd} (C : Ac W) (x : Str) : Prop := C.env.kindOf x = some .local ∨ (C.env.kindOf x = some .cell ∧ (C.env.cells.lookup x).isSome = true)
def freeOf (O : Own) (x : Str) : Prop := ∀ y a ps, (y, a, ps) ∈ O → y ≠ x
theorem freeOf.nil (x : Str) : freeOf [] x := fun _ _ _ h => nomatch h

/-- an expression, then its value at the later state -/
theorem StS.ev {e : Expr} {P : PV → Prop} {T : Value → Shared → Prop} (S : StS W C s₀ ρ O Z B s) (h : Ev C E ρ e P)
    (k : ∀ v s₁ Z₁ p, StS W C s₀ ρ O Z₁ B s₁ → ZExtB B Z Z₁ → Rep Z₁ v p → P p → T v s₁) : wpAny W.M C.A (eval e C.env) T E s :=
  bindP (h Z s S.toE) fun v s₁ Z₁ p g e z r q => k v s₁ Z₁ p (S.go g e z) (S.zextB e) r q

theorem Ex1.assign {x : Str} {value : Expr} {p' pos : Pos} (h : Ev C E ρ value fun p => R .next ((x, p) :: ρ) O) (hx : canSet C x := by exact .inl rfl) (hO : freeOf O x := by first | exact freeOf.nil _ | assumption)
    (hs : swapsWith value (some (.Name x p')) pos.line C.env = pure false := by rfl) : Ex1 C s₀ E ρ O (.Assign [.Name x p'] value pos) R := fun Z B s S => by
  refine wpAny_Assign_Name (hs := hs) (S.ev h fun v s₁ Z₁ p S₁ e₁ r₁ q => ?_)
  exact S₁.store r₁ hx hO fun s₂ S₂ => ⟨Z₁, _, O, .next, e₁, S₂, .next, q⟩
theorem Ex1.assign2 {x y : Str} {value : Expr} {p₁ p₂ pos : Pos} (h : Ev C E ρ value fun p => R .next ((y, p) :: (x, p) :: ρ) O) (hx : canSet C x := by exact .inl rfl) (hy : canSet C y := by exact .inl rfl) (hO : freeOf O x := by first | exact freeOf.nil _ | assumption) (hO' : freeOf O y := by first | exact freeOf.nil _ | assumption)
    (hw : swappedStores [.Name x p₁, .Name y p₂] value C.env = pure none := by rfl) : Ex1 C s₀ E ρ O (.Assign [.Name x p₁, .Name y p₂] value pos) R := fun Z B s S => by
  refine wpAny_Assign_two (he := rfl) (hw := hw) (S.ev h fun v s₁ Z₁ p S₁ e₁ r₁ q => ?_)
  exact wpAny_assign_Name (S₁.store r₁ hx hO fun s₂ S₂ => wpAny_assign_Name (S₂.store r₁ hy hO' fun s₃ S₃ => ⟨Z₁, _, O, .next, e₁, S₃, .next, q⟩))
theorem Ex1.aug {x : Str} {op : Operator} {value : Expr} {p' pos : Pos} {a : PV} (ha : ρ.lookup x = some a) (h : Ev C E ρ value fun b => Op2 C E (inplaceOp op) a b fun p => R .next ((x, p) :: ρ) O)
    (hx : canSet C x := by exact .inl rfl) (hO : freeOf O x := by first | exact freeOf.nil _ | assumption) : Ex1 C s₀ E ρ O (.AugAssign (.Name x p') op value pos) R := fun Z B s S => by
  have ld : ∀ {T : Value → Shared → Prop}, (∀ v, Rep Z v a → T v s) → wpAny W.M C.A (loadName C.env x) T E s := fun {T} k => by
    obtain ⟨v, hv, r⟩ := S.toE.vars x a ha
    rcases hv with ⟨hl, m, hn, hm⟩ | ⟨hl, c, hc, hcv⟩
    · exact wpAny_loadName_local C.hk hl hn hm (k v r)
    · exact wpAny_loadName_cell C.hk hl hc hcv (k v r)
  refine wpAny_AugAssign_Name (ld fun v₀ r₀ => S.ev h fun v s₁ Z₁ p S₁ e₁ r₁ q => ?_)
  refine bindP (q Z₁ s₁ v₀ v S₁.toE.toG (r₀.mono e₁.sub) r₁) fun u s₂ Z₂ p₂ g₂ e₂ z₂ r₂ q₂ => ?_
  exact (S₁.go g₂ e₂ z₂).store r₂ hx hO fun s₃ S₃ => ⟨Z₂, _, O, .next, e₁.trans (S₁.zextB e₂), S₃, .next, q₂⟩
theorem Ex1.ite {test : Expr} {body orelse : List Stmt} {pos : Pos} (h : Tv C E ρ test fun b => if b then Ex C s₀ E ρ O body R else Ex C s₀ E ρ O orelse R) : Ex1 C s₀ E ρ O (.If test body orelse pos) R := fun Z B s S => by
  refine wpAny_If (wpAny_mono (h Z s S.toE) (fun b s₁ ⟨g₁, Z₁, e₁, z₁, q⟩ => ?_) fun _ _ x => x)
  have S₁ := S.go g₁ e₁ z₁
  have e := S.zextB e₁
  cases b
  · exact wpAny_mono (q Z₁ B s₁ S₁) (fun _ _ p => .back e p) fun _ _ x => x
  · exact wpAny_mono (q Z₁ B s₁ S₁) (fun _ _ p => .back e p) fun _ _ x => x
theorem Ex1.ret {e : Expr} {pos : Pos} (h : Ev C E ρ e fun p => R (.ret p) ρ O) : Ex1 C s₀ E ρ O (.Return (some e) pos) R := fun Z B s S =>
  wpAny_Return_some (S.ev h fun v s₁ Z₁ p S₁ e₁ r₁ q => ⟨Z₁, ρ, O, .ret p, e₁, S₁, .ret r₁, q⟩)
theorem Ex1.brk {pos : Pos} (q : R .brk ρ O) : Ex1 C s₀ E ρ O (.Break pos) R := fun Z B s S => wpAny_Break ⟨Z, ρ, O, .brk, .refl _ _, S, .brk, q⟩
theorem Ex1.cont {pos : Pos} (q : R .cont ρ O) : Ex1 C s₀ E ρ O (.Continue pos) R := fun Z B s S => wpAny_Continue ⟨Z, ρ, O, .cont, .refl _ _, S, .cont, q⟩

end
end Mine

end

section
open PySem PySem.W PyProof.Rows PySem.Calls
namespace Mine
section
variable {W : Wd} {C : Ac W} {s₀ : Shared} {E : Value → Shared → Prop} {ρ ρ' : Rho} {O : Own} {Z Z' B : ZMap} {s s' : Shared} {R : Fl → Rho → Own → Prop}

/-- what an exception in a loop's turn must meet -/
def EL {W : Wd} (C : Ac W) (E : Value → Shared → Prop) : Value → Shared → Prop := notedBy W.M C.A C.env fun e s' => cameBackBy W.M C.A C.env E e s'

def WhileL {W : Wd} (C : Ac W) (s₀ : Shared) (E : Value → Shared → Prop) (test : Expr) (body : List Stmt) : Nat → Rho → Own → (Fl → Rho → Own → Prop) → Prop
  | 0, _, _, _ => False
  | n + 1, ρ, O, R => Tv C E ρ test fun b => if b then Ex C s₀ E ρ O body (fun f ρ' O' => match f with
      | .next => WhileL C s₀ E test body n ρ' O' R
      | .cont => WhileL C s₀ E test body n ρ' O' R
      | .brk => R .next ρ' O'
      | .ret q => R (.ret q) ρ' O') else R .next ρ O

theorem Ex1.while {test : Expr} {body : List Stmt} {pos : Pos} (n : Nat) (h : WhileL C s₀ (EL C E) test body n ρ O R) : Ex1 C s₀ E ρ O (.While test body [] pos) R := fun Z B s S => by
  refine wpAny_While (codeAny_whileLoop (R := fun r s' => match r with | .ok f => PsS C s₀ Z B R f s' | .error e => cameBackBy W.M C.A C.env E e s')
    (fun k s => ∃ Z' ρ' O', ZExtB B Z Z' ∧ StS W C s₀ ρ' O' Z' B s ∧ WhileL C s₀ (EL C E) test body k ρ' O' R) ?_ n ⟨Z, ρ, O, .refl _ _, S, h⟩)
  rintro k s ⟨Z₁, ρ₁, O₁, e₁, S₁, h₁⟩
  cases k with
  | zero => exact h₁.elim
  | succ k =>
    refine wpAny_mono (h₁ Z₁ s S₁.toE) (fun b s₂ ⟨g₂, Z₂, e₂, z₂, q⟩ => ?_) fun _ _ x => x
    have S₂ := S₁.go g₂ e₂ z₂
    have e₂' := e₁.trans (S₁.zextB e₂)
    cases b
    · exact wpAny_execs_nil ⟨Z₂, ρ₁, O₁, .next, e₂', S₂, .next, q⟩
    · refine wpAny_mono (q Z₂ B s₂ S₂) (fun f s₃ ⟨Z₃, ρ₃, O₃, f₃, e₃, S₃, r₃, q₃⟩ => ?_) fun _ _ x => x
      cases r₃ with
      | next => exact ⟨k, Nat.lt_succ_self k, Z₃, ρ₃, O₃, e₂'.trans e₃, S₃, q₃⟩
      | cont => exact ⟨k, Nat.lt_succ_self k, Z₃, ρ₃, O₃, e₂'.trans e₃, S₃, q₃⟩
      | brk => exact ⟨Z₃, ρ₃, O₃, .next, e₂'.trans e₃, S₃, .next, q₃⟩
      | ret r => exact ⟨Z₃, ρ₃, O₃, .ret _, e₂'.trans e₃, S₃, .ret r, q₃⟩

/-- an iterator that yields items -/
structure Feed (W : Wd) (A : Around) (Z : ZMap) (h₀ h : Heap) (I : Addr) (items : List PV) where
  fp : List Addr
  wr : List Addr
  P : Nat → Value → Prop
  St : Nat → Heap → Prop
  walks : Walks W.prog W.w A I fp wr items.length P St
  start : St 0 h
  cls : ∀ i h, St i h → ∀ b ∈ fp, ∃ o, h.get? b = some o ∧ o.cls ≠ .type "frame"
  from_ : ∀ b ∈ fp, h₀.get? b = none ∨ ∃ o, Z b = some o
  new : ∀ b ∈ wr, h₀.get? b = none
  item : ∀ i v p, P i v → items[i]? = some p → Rep Z v p

def Itr {W : Wd} (C : Ac W) (E : Value → Shared → Prop) (x : PV) (P : List PV → Prop) : Prop :=
  ∀ Z s a, StG W C.A Z s → Rep Z a x → wpAny W.M C.A (pyIter a) (fun it s' => Go W.G s s' ∧ ∃ I items, it = .ref I ∧ Nonempty (Feed W C.A Z s.heap s'.heap I items) ∧ P items) E s

def ForL {W : Wd} (C : Ac W) (s₀ : Shared) (E : Value → Shared → Prop) (t : Str) (body : List Stmt) : List PV → Rho → Own → (Fl → Rho → Own → Prop) → Prop
  | [], ρ, O, R => R .next ρ O
  | p :: ps, ρ, O, R => Ex C s₀ E ((t, p) :: ρ) O body fun f ρ' O' => match f with
      | .next => freeOf O' t ∧ ForL C s₀ E t body ps ρ' O' R
      | .cont => freeOf O' t ∧ ForL C s₀ E t body ps ρ' O' R
      | .brk => R .next ρ' O'
      | .ret q => R (.ret q) ρ' O'

/-- the zone kept by a turn: the iterator's objects too -/
def bplus (fp : List Addr) (h : Heap) (B : ZMap) : ZMap := fun b => if b ∈ fp then h.get? b else B b

/-- back to the outer kept zone -/
theorem StS.unplus {fp : List Addr} {h : Heap} (S : StS W C s₀ ρ O Z (bplus fp h B) s) (bl : B C.env.locals = none) (bc : ∀ x c, C.env.cells.lookup x = some c → B c = none)
    (bin : ∀ b o, B b = some o → b ∈ fp → ∃ o', s.heap.get? b = some o' ∧ o'.cls = o.cls ∧ o'.data = o.data ∧ (o.cls ≠ .type "frame" ∨ (∃ q, W.G.get? b = some q) → o' = o))
    (bo : ∀ b o, B b = some o → b ∈ fp → ∃ o', h.get? b = some o') : StS W C s₀ ρ O Z B s := by
  refine ⟨S.toE, S.eq, S.ns, S.zl, bl, fun x c hc => ⟨(S.cells x c hc).1, (S.cells x c hc).2.1, bc x c hc⟩, S.apart, fun b o e => ?_, fun x a ps hm => ?_, S.oapart⟩
  · by_cases q : b ∈ fp
    · exact bin b o e q
    · exact S.bin b o (by unfold bplus; rw [if_neg q]; exact e)
  · have o := S.own x a ps hm
    refine ⟨o.var, o.at_, o.z, ?_⟩
    cases e : B a with
    | none => rfl
    | some o' =>
      have hb := o.b
      unfold bplus at hb
      by_cases q : a ∈ fp
      · rw [if_pos q] at hb
        obtain ⟨o'', h''⟩ := bo a o' e q
        rw [h''] at hb; cases hb
      · rw [if_neg q, e] at hb; cases hb

theorem Ex1.for {t : Str} {iter : Expr} {body : List Stmt} {p' pos : Pos} (h : Ev C E ρ iter fun x => Itr C E x fun items => ForL C s₀ (EL C E) t body items ρ O R)
    (ht : canSet C t := by exact .inl rfl) (hO : freeOf O t := by first | exact freeOf.nil _ | assumption) (hs : ∀ x, foldedSetIterable iter C.env x = pure x := by intro _; rfl) : Ex1 C s₀ E ρ O (.For (.Name t p') iter body [] pos) R := fun Z B s S => by
  refine wpAny_For (hs := hs) (S.ev h fun a s₁ Z₁ x S₁ e₁ r₁ hi => wpAny_mono (hi Z₁ s₁ a S₁.toE.toG r₁) (fun it s₂ ⟨g₂, I, items, hit, ⟨F⟩, hl⟩ => ?_) fun _ _ x => x)
  subst hit
  have z₂ : ZOk W.G Z₁ s₂.heap := S₁.toE.toG.z.go g₂.kp
  have S₂ := S₁.go g₂ (.refl _ _) z₂
  -- the iterator's objects lie apart
  have fpL : C.env.locals ∉ F.fp := fun hm => by
    rcases F.from_ _ hm with e | ⟨o, e⟩
    · obtain ⟨m, o, es, ep, e1, _⟩ := S₁.ns; rw [e] at e1; cases e1
    · rw [S₁.zl] at e; cases e
  have fpC : ∀ x c, C.env.cells.lookup x = some c → c ∉ F.fp := fun x c hc hm => by
    obtain ⟨⟨v, o, e1, _⟩, e2, _⟩ := S₁.cells x c hc
    rcases F.from_ _ hm with e | ⟨o, e⟩
    · rw [e] at e1; cases e1
    · rw [e2] at e; cases e
  have fpO : ∀ x a ps, (x, a, ps) ∈ O → a ∉ F.fp := fun x a ps ho hm => by
    have o := S₁.own x a ps ho
    obtain ⟨n, vs, e1, _⟩ := o.at_
    rcases F.from_ _ hm with e | ⟨o', e⟩
    · rw [e] at e1; cases e1
    · rw [o.z] at e; cases e
  have wrB : ∀ b o, B b = some o → b ∉ F.wr := fun b o e hm => by
    obtain ⟨o', e', _⟩ := S₁.bin b o e
    rw [F.new b hm] at e'; cases e'
  have wrZ : ∀ b o, Z₁ b = some o → b ∉ F.wr := fun b o e hm => by
    have := S₁.toE.toG.z.zin b o e
    rw [F.new b hm] at this; cases this
  have plus : ∀ {ρ : Rho} {O : Own} {Z : ZMap} {s : Shared} {i : Nat}, F.St i s.heap → StS W C s₀ ρ O Z B s → (∀ x a ps, (x, a, ps) ∈ O → a ∉ F.fp) → StS W C s₀ ρ O Z (bplus F.fp s.heap B) s := fun {ρ O Z s i} st S fo => by
    refine ⟨S.toE, S.eq, S.ns, S.zl, by unfold bplus; rw [if_neg fpL]; exact S.bl, fun x c hc => ⟨(S.cells x c hc).1, (S.cells x c hc).2.1, by unfold bplus; rw [if_neg (fpC x c hc)]; exact (S.cells x c hc).2.2⟩, S.apart, fun b o e => ?_, fun x a ps hm => ?_, S.oapart⟩
    · unfold bplus at e
      by_cases q : b ∈ F.fp
      · rw [if_pos q] at e; exact ⟨o, e, rfl, rfl, fun _ => rfl⟩
      · rw [if_neg q] at e; exact S.bin b o e
    · have o := S.own x a ps hm
      exact ⟨o.var, o.at_, o.z, by unfold bplus; rw [if_neg (fo x a ps hm)]; exact o.b⟩
  let J : Nat → Shared → Prop := fun k s => ∃ i Z' ρ' O', k = items.length - i ∧ i ≤ items.length ∧ F.St i s.heap ∧ ZExtB (bplus F.fp s.heap B) Z₁ Z' ∧ (∀ b, b ∈ F.wr → Z' b = none) ∧ StS W C s₀ ρ' O' Z' (bplus F.fp s.heap B) s ∧
    (∀ b o, B b = some o → b ∈ F.fp → ∃ o', s.heap.get? b = some o' ∧ o'.cls = o.cls ∧ o'.data = o.data ∧ (o.cls ≠ .type "frame" ∨ (∃ q, W.G.get? b = some q) → o' = o)) ∧
    freeOf O' t ∧ ForL C s₀ (EL C E) t body (items.drop i) ρ' O' R
  have bo : ∀ {i : Nat} {h : Heap}, F.St i h → ∀ b, b ∈ F.fp → ∃ o, h.get? b = some o := fun st b hb => let ⟨o, e, _⟩ := F.cls _ _ st b hb; ⟨o, e⟩
  obtain ⟨outer, fr1, fr2⟩ := id S₁.toE.toG.ff
  have wrF : ∀ b, b ∈ outer.filterMap (·.frame) → b ∉ F.wr := fun b hb hm => by
    obtain ⟨_, o, e, _⟩ := fr2.mem hb
    rw [F.new b hm] at e; cases e
  -- the outer post out of the inner
  have out : ∀ {h : Heap} {Z' : ZMap} {ρ' : Rho} {O' : Own} {s : Shared}, (∀ b, b ∈ F.fp → b ∉ F.wr → ∃ o, h.get? b = some o) → ZExtB (bplus F.fp h B) Z₁ Z' → StS W C s₀ ρ' O' Z' (bplus F.fp h B) s →
      (∀ b o, B b = some o → b ∈ F.fp → ∃ o', s.heap.get? b = some o' ∧ o'.cls = o.cls ∧ o'.data = o.data ∧ (o.cls ≠ .type "frame" ∨ (∃ q, W.G.get? b = some q) → o' = o)) →
      ZExtB B Z Z' ∧ StS W C s₀ ρ' O' Z' B s := fun {h Z' ρ' O' s} st e S bin => by
    refine ⟨⟨e₁.sub.trans e.sub, fun b o eb => ?_⟩, S.unplus S₂.bl (fun x c hc => (S₂.cells x c hc).2.2) bin fun b o eb hb => st b hb (wrB b o eb)⟩
    rw [← e₁.old b o eb]
    by_cases q : b ∈ F.fp
    · obtain ⟨o', e'⟩ := st b q (wrB b o eb)
      exact e.old b o' (by unfold bplus; rw [if_pos q]; exact e')
    · exact e.old b o (by unfold bplus; rw [if_neg q]; exact eb)
  -- the state behind a step of the iterator
  have adv : ∀ {i : Nat} {Z' : ZMap} {ρ' : Rho} {O' : Own} {s : Shared} {h' : Heap} {tk : Nat}, F.St i s.heap → (∀ b, b ∈ F.wr → Z' b = none) → StS W C s₀ ρ' O' Z' (bplus F.fp s.heap B) s → (∀ b o, b ∉ F.wr → s.heap.get? b = some o → h'.get? b = some o) →
      StS W C s₀ ρ' O' Z' (bplus F.fp h' B) { s with heap := h', toks := tk } := fun {i Z' ρ' O' s h' tk} st wz SS kp => by
    have zk : ∀ b o, Z' b = some o → b ∉ F.wr := fun b o e hm => by rw [wz b hm] at e; cases e
    have nwr : ∀ b, b ∉ F.fp → b ∉ F.wr := fun b hb hm => hb (F.walks.sub b hm)
    have kL : ∀ o, s.heap.get? C.env.locals = some o → h'.get? C.env.locals = some o := fun o e => kp _ o (nwr _ fpL) e
    have kC : ∀ x c, C.env.cells.lookup x = some c → ∀ o, s.heap.get? c = some o → h'.get? c = some o := fun x c hc o e => kp _ o (nwr _ (fpC x c hc)) e
    have oB : ∀ x a ps, (x, a, ps) ∈ O' → a ∉ F.fp := fun x a ps hm q => by
      have o := SS.own x a ps hm
      have hb := o.b
      unfold bplus at hb
      rw [if_pos q] at hb
      obtain ⟨o', e'⟩ := bo st a q
      rw [e'] at hb; cases hb
    have var : ∀ {y : Str} {u : Value}, VarAt C.env s.heap y u → VarAt C.env h' y u := fun {y u} a => by
      rcases a with ⟨a1, m', ⟨o, es, ep, e1, e2⟩, a3⟩ | ⟨a1, d, a2, ⟨o, e1, e2⟩⟩
      · exact .inl ⟨a1, m', ⟨o, es, ep, kL o e1, e2⟩, a3⟩
      · exact .inr ⟨a1, d, a2, ⟨o, kC y d a2 o e1, e2⟩⟩
    refine ⟨⟨⟨⟨fun b o e => kp b o (zk b o e) (SS.toE.toG.z.zin b o e), SS.toE.toG.z.zf⟩, SS.toE.toG.g, ?_⟩, fun y q e => ?_⟩, ?_, ?_, SS.zl, by unfold bplus; rw [if_neg fpL]; exact S₂.bl, fun x c hc => ?_, SS.apart, fun b o e => ?_, fun x a ps hm => ?_, SS.oapart⟩
    · obtain ⟨outer', f1, f2⟩ := SS.toE.toG.ff
      rw [fr1] at f1; cases f1
      exact ⟨outer, fr1, frames_of' (fun b o hb e nd => ⟨o, kp b o (wrF b hb) e, nd⟩) f2⟩
    · obtain ⟨u, a, ru⟩ := SS.toE.vars y q e
      exact ⟨u, var a, ru⟩
    · obtain ⟨h₁, t₁, hs⟩ := SS.eq
      exact ⟨h', tk, by rw [hs]⟩
    · obtain ⟨m, o, es, ep, e1, e2⟩ := SS.ns
      exact ⟨m, o, es, ep, kL o e1, e2⟩
    · obtain ⟨⟨u, o, e1, e2⟩, e3, e4⟩ := SS.cells x c hc
      exact ⟨⟨u, o, kC x c hc o e1, e2⟩, e3, by unfold bplus; rw [if_neg (fpC x c hc)]; exact (S₂.cells x c hc).2.2⟩
    · unfold bplus at e
      by_cases q : b ∈ F.fp
      · rw [if_pos q] at e; exact ⟨o, e, rfl, rfl, fun _ => rfl⟩
      · rw [if_neg q] at e
        obtain ⟨o', h1, r'⟩ := SS.bin b o (by unfold bplus; rw [if_neg q]; exact e)
        exact ⟨o', kp b o' (nwr b q) h1, r'⟩
    · have o := SS.own x a ps hm
      obtain ⟨n, vs, e1, e2⟩ := o.at_
      exact ⟨var o.var, ⟨n, vs, kp a _ (nwr a (oB x a ps hm)) e1, e2⟩, o.z, by unfold bplus; rw [if_neg (oB x a ps hm)]; have := o.b; unfold bplus at this; rwa [if_neg (oB x a ps hm)] at this⟩
  refine codeAny_forLoop (R := fun r s' => match r with | .ok f => PsS C s₀ Z B R f s' | .error e => cameBackBy W.M C.A C.env E e s') J ?_ items.length ?_
  · rintro k s ⟨i, Z', ρ', O', rfl, hle, st, eZ, wz, SS, bin, fo, hL⟩
    by_cases hlt : i < items.length
    · refine F.walks.item i s _ _ hlt st fun v h' tk hP st' kp => ?_
      have hg : items[i]? = some items[i] := List.getElem?_eq_getElem hlt
      have rv := F.item i v _ hP hg
      have hd : items.drop i = items[i] :: items.drop (i + 1) := List.drop_eq_getElem_cons hlt
      rw [hd] at hL
      refine wpAny_assign_Name ((adv (tk := tk) st wz SS kp).store (rv.mono eZ.sub) ht fo fun s₃ S₃ => ?_)
      refine wpAny_mono (hL Z' _ s₃ S₃) (fun f s₄ ⟨Z₄, ρ₄, O₄, f₄, e₄, S₄, r₄, q₄⟩ => ?_) fun _ _ x => x
      -- what the iterator holds is kept by the turn
      have kf : ∀ b ∈ F.fp, ∀ o, h'.get? b = some o → s₄.heap.get? b = some o := fun b hb o e => by
        obtain ⟨o₁, e1, c1⟩ := F.cls _ _ st' b hb
        rw [e] at e1; cases e1
        obtain ⟨o', h1, _, _, k1⟩ := S₄.bin b o (by unfold bplus; rw [if_pos hb]; exact e)
        rw [h1, k1 (.inl c1)]
      have st₄ : F.St (i + 1) s₄.heap := F.walks.frame _ _ _ st' kf
      have same : bplus F.fp s₄.heap B = bplus F.fp h' B := by
        funext b
        unfold bplus
        by_cases q : b ∈ F.fp
        · rw [if_pos q, if_pos q]
          obtain ⟨o₁, e1, _⟩ := F.cls _ _ st' b q
          rw [e1, kf b q _ e1]
        · rw [if_neg q, if_neg q]
      have eZ₄ : ZExtB (bplus F.fp h' B) Z₁ Z₄ := by
        refine ⟨eZ.sub.trans e₄.sub, fun b o e => (e₄.old b o e).trans ?_⟩
        unfold bplus at e
        by_cases q : b ∈ F.fp
        · obtain ⟨o', e'⟩ := bo st b q
          exact eZ.old b o' (by unfold bplus; rw [if_pos q]; exact e')
        · rw [if_neg q] at e
          exact eZ.old b o (by unfold bplus; rw [if_neg q]; exact e)
      have wz₄ : ∀ b, b ∈ F.wr → Z₄ b = none := fun b hb => by
        obtain ⟨o, e⟩ := bo st' b (F.walks.sub b hb)
        rw [e₄.old b o (by unfold bplus; rw [if_pos (F.walks.sub b hb)]; exact e)]
        exact wz b hb
      have bin₄ : ∀ b o, B b = some o → b ∈ F.fp → ∃ o', s₄.heap.get? b = some o' ∧ o'.cls = o.cls ∧ o'.data = o.data ∧ (o.cls ≠ .type "frame" ∨ (∃ q, W.G.get? b = some q) → o' = o) := fun b o e hb => by
        obtain ⟨o', h1, r1⟩ := bin b o e hb
        have h2 := kp b o' (wrB b o e) h1
        exact ⟨o', kf b hb o' h2, r1⟩
      have goOn : (freeOf O₄ t ∧ ForL C s₀ (EL C E) t body (items.drop (i + 1)) ρ₄ O₄ R) → ∃ m, m < items.length - i ∧ J m s₄ := fun q =>
        ⟨items.length - (i + 1), by omega, i + 1, Z₄, ρ₄, O₄, rfl, hlt, st₄, by rw [same]; exact eZ₄, wz₄, by rw [same]; exact S₄, bin₄, q.1, q.2⟩
      have done : ZExtB B Z Z₄ ∧ StS W C s₀ ρ₄ O₄ Z₄ B s₄ := out (fun b hb _ => bo st' b hb) eZ₄ S₄ bin₄
      cases r₄ with
      | next => exact goOn q₄
      | cont => exact goOn q₄
      | brk => exact ⟨Z₄, ρ₄, O₄, .next, done.1, done.2, .next, q₄⟩
      | ret r => exact ⟨Z₄, ρ₄, O₄, .ret _, done.1, done.2, .ret r, q₄⟩
    · have hi : i = items.length := by omega
      subst hi
      refine F.walks.done s _ _ st fun h' tk kp => ?_
      rw [List.drop_length] at hL
      have S' := adv (tk := tk) st wz SS kp
      have e' : ZExtB (bplus F.fp h' B) Z₁ Z' := by
        refine ⟨eZ.sub, fun b o e => ?_⟩
        unfold bplus at e
        by_cases q : b ∈ F.fp
        · obtain ⟨o', e'⟩ := bo st b q
          exact eZ.old b o' (by unfold bplus; rw [if_pos q]; exact e')
        · rw [if_neg q] at e
          exact eZ.old b o (by unfold bplus; rw [if_neg q]; exact e)
      have done := out (fun b hb nw => by obtain ⟨o, e⟩ := bo st b hb; exact ⟨o, kp b o nw e⟩) e' S' (fun b o e hb => by
        obtain ⟨o', h1, r1⟩ := bin b o e hb
        exact ⟨o', kp b o' (wrB b o e) h1, r1⟩)
      exact wpAny_execs_nil ⟨Z', ρ', O', .next, done.1, done.2, .next, hL⟩
  · refine ⟨0, Z₁, ρ, O, rfl, Nat.zero_le _, F.start, .refl _ _, fun b hm => ?_, plus F.start S₂ fpO, fun b o e hb => S₂.bin b o e, hO, by rw [List.drop_zero]; exact hl⟩
    cases e : Z₁ b with
    | none => rfl
    | some o => exact absurd hm (wrZ b o e)
end
end Mine

end

section
open PySem PySem.W PyProof.Rows PySem.Calls
namespace Mine
section
variable {W : Wd} {C : Ac W} {s₀ : Shared} {E : Value → Shared → Prop} {ρ ρ' : Rho} {O : Own} {P : List PV → Prop}

theorem Itr.lst {ps : List PV} (q : P ps) : Itr C E (.lst ps) P := fun Z s a S r => by
  cases r with
  | @lst a o vs n ps ho hc hd r =>
    have hl : s.heap.IsList a vs.toArray := ⟨o, S.z.zin _ _ ho, hc, n, hd⟩
    have hlen := r.length
    have hne : a ≠ s.heap.objs.size := fun e => absurd (Heap.lt_size (S.z.zin _ _ ho)) (by rw [e]; exact Nat.lt_irrefl _)
    refine wpAny_pyIter_list hl ⟨.heap (t := s.toks) fun b o e => Heap.get?_push_of_some _ e, _, ps, rfl, ⟨?_⟩, q⟩
    have wk := Walks.list (prog := W.prog) (w := W.w) C.ok.hh s.heap.objs.size a hne vs.toArray
    rw [show vs.toArray.size = ps.length by rw [List.size_toArray, hlen]] at wk
    refine ⟨_, _, _, _, wk, ⟨⟨_, Heap.get?_push_size _ rfl, rfl, rfl⟩, hl.at fun o e => Heap.get?_push_of_some _ e⟩, fun i h st b hb => ?_, fun b hb => ?_, fun b hb => ?_, fun i v p hp hi => ?_⟩
    · obtain ⟨⟨o1, h1, h2, _⟩, ⟨o2, h3, h4, _⟩⟩ := st
      rcases List.mem_cons.mp hb with e | hb
      · exact ⟨o1, by rw [e]; exact h1, by rw [h2]; simp⟩
      · rw [List.mem_singleton.mp hb]; exact ⟨o2, h3, by rw [h4]; simp⟩
    · rcases List.mem_cons.mp hb with e | hb
      · rw [e]; exact .inl fresh
      · rw [List.mem_singleton.mp hb]; exact .inr ⟨o, ho⟩
    · rw [List.mem_singleton.mp hb]; exact fresh
    · obtain ⟨u, hu, ru⟩ := r.get hi
      have hp' : vs[i]? = some v := by simpa using hp
      rw [hu] at hp'; cases hp'; exact ru
theorem Itr.tup {ps : List PV} (q : P ps) : Itr C E (.tup ps) P := fun Z s a S r => by
  cases r with
  | @tup a o vs n ps ho hc hd r =>
    have hl : s.heap.IsTuple a vs.toArray := ⟨o, S.z.zin _ _ ho, hc, n, hd⟩
    have hlen := r.length
    have hne : a ≠ s.heap.objs.size := fun e => absurd (Heap.lt_size (S.z.zin _ _ ho)) (by rw [e]; exact Nat.lt_irrefl _)
    refine wpAny_pyIter_tuple hl ⟨.heap (t := s.toks) fun b o e => Heap.get?_push_of_some _ e, _, ps, rfl, ⟨?_⟩, q⟩
    have wk := Walks.tuple (prog := W.prog) (w := W.w) C.ok.hh s.heap.objs.size a hne vs.toArray
    rw [show vs.toArray.size = ps.length by rw [List.size_toArray, hlen]] at wk
    refine ⟨_, _, _, _, wk, ⟨⟨_, Heap.get?_push_size _ rfl, rfl, rfl⟩, hl.push _⟩, fun i h st b hb => ?_, fun b hb => ?_, fun b hb => ?_, fun i v p hp hi => ?_⟩
    · obtain ⟨⟨o1, h1, h2, _⟩, ⟨o2, h3, h4, _⟩⟩ := st
      rcases List.mem_cons.mp hb with e | hb
      · exact ⟨o1, by rw [e]; exact h1, by rw [h2]; simp⟩
      · rw [List.mem_singleton.mp hb]; exact ⟨o2, h3, by rw [h4]; simp⟩
    · rcases List.mem_cons.mp hb with e | hb
      · rw [e]; exact .inl fresh
      · rw [List.mem_singleton.mp hb]; exact .inr ⟨o, ho⟩
    · rw [List.mem_singleton.mp hb]; exact fresh
    · obtain ⟨u, hu, ru⟩ := r.get hi
      have hp' : vs[i]? = some v := by simpa using hp
      rw [hu] at hp'; cases hp'; exact ru
/-- the signs of a text, each a text -/
def signs (l : List Nat) : List PV := l.map fun c => .str [c]
theorem Itr.str {l : List Nat} (q : P (signs l)) : Itr C E (.str l) P := fun Z s a S r => by
  cases r with
  | str l t =>
    have hsz : (tx l).cps.size = (signs l).length := by simp [signs]
    have item : ∀ i v p, SignAt (tx l) i v → (signs l)[i]? = some p → Rep Z v p := fun i v p ⟨c, u, hc, hv⟩ hi => by
      subst hv
      have hc' : l[i]? = some c := by simpa using hc
      simp only [signs, List.getElem?_map, hc', Option.map_some] at hi
      cases hi; exact .str [c] u
    cases ha : (tx l).cps.all (· < 128)
    · refine wpAny_pyIter_wide ha ⟨.heap (t := s.toks) fun b o e => Heap.get?_push_of_some _ e, _, signs l, rfl, ⟨?_⟩, q⟩
      have wk := Walks.strWide (prog := W.prog) (w := W.w) C.ok.hh s.heap.objs.size (tx l) t
      rw [hsz] at wk
      exact ⟨_, _, _, _, wk, ⟨_, Heap.get?_push_size _ rfl, rfl, rfl⟩, fun i h st b hb => by obtain ⟨o, h1, h2, _⟩ := st; rw [List.mem_singleton.mp hb]; exact ⟨o, h1, by rw [h2]; simp⟩,
        fun b hb => by rw [List.mem_singleton.mp hb]; exact .inl fresh, fun b hb => by rw [List.mem_singleton.mp hb]; exact fresh, item⟩
    · refine wpAny_pyIter_ascii ha ⟨.heap (t := s.toks) fun b o e => Heap.get?_push_of_some _ e, _, signs l, rfl, ⟨?_⟩, q⟩
      have wk := Walks.strAscii (prog := W.prog) (w := W.w) C.ok.hh s.heap.objs.size (tx l) t
      rw [hsz] at wk
      exact ⟨_, _, _, _, wk, ⟨_, Heap.get?_push_size _ rfl, rfl, rfl⟩, fun i h st b hb => by obtain ⟨o, h1, h2, _⟩ := st; rw [List.mem_singleton.mp hb]; exact ⟨o, h1, by rw [h2]; simp⟩,
        fun b hb => by rw [List.mem_singleton.mp hb]; exact .inl fresh, fun b hb => by rw [List.mem_singleton.mp hb]; exact fresh, item⟩
/-- the ints of a range -/
def steps (a c : Int) (n : Nat) : List PV := (List.range n).map fun (i : Nat) => .int (a + i * c)
theorem Itr.rng {a b c : Int} (n : Nat) (hn : Builtin.Range.rangeSize a b c = (n : Int)) (hs : Builtin.Range.small a b c = true) (q : P (steps a c n)) : Itr C E (.rng a b c) P := fun Z s v S r => by
  cases r with
  | @rng ad lo hi st t u w ho =>
    refine wpAny_pyIter_range (S.z.zin _ _ ho) hs ⟨.heap (t := s.toks) fun b o e => Heap.get?_push_of_some _ e, _, steps a c n, rfl, ⟨?_⟩, q⟩
    have wk := (Walks.range (prog := W.prog) (w := W.w) C.ok.hh s.heap.objs.size a c n).bound
    have hlen : (steps a c n).length = n := by simp [steps]
    rw [show n = (steps a c n).length from hlen.symm] at wk
    refine ⟨_, _, _, _, wk, ?_, fun i h st b hb => ?_, fun b hb => ?_, fun b hb => ?_, fun i v p hp hi => ?_⟩
    · show IsRangeIter _ _ _ _ _
      rw [hn, hlen]; simpa using Heap.get?_push_size _ rfl
    · rw [List.mem_singleton.mp hb]; exact ⟨_, st, by simp⟩
    · rw [List.mem_singleton.mp hb]; exact .inl fresh
    · rw [List.mem_singleton.mp hb]; exact fresh
    · obtain ⟨hlt, t, rfl⟩ := hp
      rw [hlen] at hlt
      simp only [steps, List.getElem?_map, List.getElem?_range hlt, Option.map_some] at hi
      cases hi; exact .int _ _
end
end Mine

end

section
open PySem PySem.W PyProof.Rows PySem.Calls
namespace Mine

theorem AOk.le {A : Around} {n k : Nat} (h : AOk A n) (l : k ≤ n) : AOk A k := ⟨h.hh, by have := h.hd; omega, by have := h.hu; omega⟩
theorem AOk.deeper {A : Around} {n : Nat} (h : AOk A (n + 1)) (env : Env) : AOk (A.deeper env) n :=
  ⟨h.hh, by have := h.hd; show A.depth + 1 + 2 * n < _; omega, by have := h.hu; show A.units + 3 + 50 * n < _; omega⟩

/-- the contract of a def of the text -/
def Fn (W : Wd) (k : Nat) (f : Addr) (ps : List PV) (Q : PV → Prop) : Prop :=
  ∀ A Z s vs, AOk A k → StG W A Z s → RepL Z vs ps → codeAny W.M A (.call (.ref f) ⟨vs, []⟩) (fun r s' => ∃ v, r = .ok (.ret v) ∧ Pst (W := W) Z s Q v s') s

def RetQ (Q : PV → Prop) (f : Fl) (_ : Rho) (_ : Own) : Prop := match f with
  | .ret p => Q p
  | .next => Q .none
  | _ => False

/-- the activation of a plain def -/
abbrev acOf (W : Wd) (A : Around) (n : Nat) (ok : AOk A n) (qual : Str) (scope : Scope) (L f : Addr) (cd : Value) (hk : scope.kind = .function) : Ac W :=
  ⟨A, envOf qual scope L f cd, n, ok, hk, rfl, rfl⟩

theorem G_fresh {W : Wd} {A : Around} {Z : ZMap} {s : Shared} (S : StG W A Z s) : W.G.get? s.heap.objs.size = none := by
  cases e : W.G.get? s.heap.objs.size with
  | none => rfl
  | some o => have := S.keep _ _ e; rw [fresh] at this; cases this
theorem Z_fresh {W : Wd} {A : Around} {Z : ZMap} {s : Shared} (S : StG W A Z s) : Z s.heap.objs.size = none := by
  cases e : Z s.heap.objs.size with
  | none => rfl
  | some o => have := S.z.zin _ _ e; rw [fresh] at this; cases this

section
variable {W : Wd} {Q : PV → Prop}

theorem Oc.fn {C : Ac W} {E : Value → Shared → Prop} {k : Nat} {f : Addr} {ps : List PV} (h : Fn W k f ps Q) (hk : k ≤ C.n) : Oc C E (.ref f) ps Q := fun Z s vs S r =>
  wpAny_call (codeAny_mono (h C.A Z s vs (C.ok.le hk) S r) fun r s' ⟨v, e, p⟩ => by subst e; exact p)

/-- a contract by the body's walk -/
theorem Fn.intro {k : Nat} {f : Addr} {ps : List PV} {ρ : Rho} {name qual : Str} {params : Arguments} {body : List Stmt} {scope : Scope} {dV kV doc pm cdv ct oc : Value} {an od : Option Addr} {osl : Array (Option Value)} (binds : List Value → List (Str × Value))
    (ho : W.K.lookup f = some ⟨oc, od, .func (fnOf name qual params body scope dV kV doc pm an cdv ct), osl⟩) (hcd : codeIn W.K cdv qual = true)
    (hb : ∀ s vs, W.K.In s.heap → vs.length = ps.length → BindsTo s (fnOf name qual params body scope dV kV doc pm an cdv ct) ⟨vs, []⟩ (binds vs))
    (hl : ∀ vs, vs.length = ps.length → ∀ y ∈ binds vs, scope.names.lookup y.1 = some .local)
    (hr : ∀ Z vs, RepL Z vs ps → ∀ x p, ρ.lookup x = some p → ∃ v, (binds vs).reverse.lookup x = some v ∧ Rep Z v p)
    (hk : scope.kind = .function) (hcell : ∀ x ∈ scope.names, x.2 ≠ .cell) (hco : scope.isCoroutine = false) (hgen : scope.isGenerator = false)
    (h : ∀ A L s₀ E (ok : AOk A k), Ex (acOf W A k ok qual scope L f cdv hk) s₀ E ρ [] body (RetQ Q)) : Fn W (k + 1) f ps Q := fun A Z s vs ok S r => by
  have X := W.kin.keeps S.keep
  refine codeAny_call_def (fd := fnOf name qual params body scope dV kV doc pm an cdv ct) (body := body) (binds := binds vs) (by have := ok.hd; omega) (X _ _ ho) rfl (W.nolimit.keeps S.keep) (codeRec_of X hcd) rfl (hb s vs X r.length) hcell (hl vs r.length) (fun h₀ hns kp => ?_) hco hgen hk
  have okA := ok.deeper (envOf qual scope s.heap.objs.size f cdv)
  have B := h _ s.heap.objs.size s (fun e s' => wpAny W.M (A.deeper (envOf qual scope s.heap.objs.size f cdv)) (leaving (envOf qual scope s.heap.objs.size f cdv) e) (fun _ s'' => ∃ v, (.error e : Result) = .ok (.ret v) ∧ Pst (W := W) Z s Q v s'') (fun e' s'' => ∃ v, (.error e' : Result) = .ok (.ret v) ∧ Pst (W := W) Z s Q v s'') s') okA
  have S₁ : StS W (acOf W _ k okA qual scope s.heap.objs.size f cdv hk) s ρ [] Z s.heap.get? { s with heap := h₀, toks := s.toks + (binds vs).length } := by
    have hsz : h₀.Ns s.heap.objs.size _ := hns
    obtain ⟨oL, es, ep, e1, e2, e3⟩ := hsz
    refine ⟨⟨⟨⟨fun b o e => kp b o (S.z.zin b o e), S.z.zf⟩, S.g, ?_⟩, fun x p e => ?_⟩, ⟨h₀, _, rfl⟩, ⟨_, hns⟩, Z_fresh S, fresh, fun x c hc => ?_, .nil, fun b o e => ⟨o, kp b o e, rfl, rfl, fun _ => rfl⟩, fun x a ps hm => (nomatch hm), .nil⟩
    · obtain ⟨outer, f1, f2⟩ := S.ff
      refine ⟨envOf qual scope s.heap.objs.size f cdv :: outer, by show A.frames.map _ = _; rw [f1]; rfl, ?_, ⟨s.heap.objs.size, oL, rfl, G_fresh S, e1, fun vs e => by rw [e2] at e; cases e⟩, ?_⟩
      · show scope.kind ≠ .module; rw [hk]; decide
      · exact frames_of (fun b o e nd => ⟨o, kp b o e, nd⟩) f2
    · obtain ⟨v, hv, rv⟩ := hr Z vs r x p e
      refine ⟨v, .inl ⟨?_, _, hns, hv⟩, rv⟩
      have hm := mem_of_lookup hv
      exact hl vs r.length (x, v) (List.mem_reverse.mp hm)
    · cases hc
  refine wpAny_mono (B Z _ _ S₁) (fun fl s' ⟨Z', ρ', O', f', e', S', r', q'⟩ => ?_) fun _ _ x => x
  have go : Go W.G s s' := ⟨by obtain ⟨h, t, e⟩ := S'.eq; exact ⟨h, t, e⟩, S'.bin⟩
  have ze : ZExt s.heap Z Z' := ⟨e'.sub, e'.old⟩
  cases r' with
  | next => exact ⟨_, rfl, go, Z', .none, ze, S'.toE.toG.z, .none, q'⟩
  | ret rv => exact ⟨_, rfl, go, Z', _, ze, S'.toE.toG.z, rv, q'⟩
  | brk => exact q'.elim
  | cont => exact q'.elim

/-- names and values, one by one -/
theorem reverse_lookup : ∀ {names : List Str} {vs : List Value} {ps : List PV} {Z : ZMap}, names.Nodup → RepL Z vs ps → ∀ x p, (names.zip ps).lookup x = some p → ∃ v, (names.zip vs).reverse.lookup x = some v ∧ Rep Z v p
  | [], _, _, _, _, _, x, p, h => by cases h
  | n :: ns, _, _, _, _, .nil, x, p, h => by cases h
  | n :: ns, v :: vs, q :: ps, Z, hn, .cons a t, x, p, h => by
    rw [List.zip_cons_cons, List.lookup_cons] at h
    have notin : ∀ {us : List Value}, (ns.zip us).reverse.lookup n = none := fun {us} => by
      cases e : (ns.zip us).reverse.lookup n with
      | none => rfl
      | some u =>
        have := List.mem_reverse.mp (mem_of_lookup e)
        exact absurd (List.of_mem_zip this).1 (List.nodup_cons.mp hn).1
    rw [List.zip_cons_cons, List.reverse_cons]
    cases hx : x == n with
    | true =>
      rw [hx] at h; cases h
      have e := beq_iff_eq.mp hx; subst e
      refine ⟨v, ?_, a⟩
      rw [List.lookup_append, notin]
      simp
    | false =>
      rw [hx] at h
      obtain ⟨u, hu, ru⟩ := reverse_lookup (List.nodup_cons.mp hn).2 t x p h
      exact ⟨u, by rw [List.lookup_append, hu]; rfl, ru⟩
theorem Fn.plain {k : Nat} {f : Addr} {ps : List PV} (names : List Str) {name qual : Str} {params : Arguments} {body : List Stmt} {scope : Scope} {dV kV doc pm cdv ct oc : Value} {an od : Option Addr} {osl : Array (Option Value)}
    (ho : W.K.lookup f = some ⟨oc, od, .func (fnOf name qual params body scope dV kV doc pm an cdv ct), osl⟩) (hcd : codeIn W.K cdv qual = true)
    (hlen : names.length = ps.length)
    (hb : ∀ vs, vs.length = names.length → bindArgs (fnOf name qual params body scope dV kV doc pm an cdv ct) ⟨vs, []⟩ = pure (names.zip vs))
    (hl : (names.all fun y => scope.names.lookup y == some .local) = true) (hn : names.Nodup)
    (hk : scope.kind = .function) (hcell : ∀ x ∈ scope.names, x.2 ≠ .cell) (hco : scope.isCoroutine = false) (hgen : scope.isGenerator = false)
    (h : ∀ A L s₀ E (ok : AOk A k), Ex (acOf W A k ok qual scope L f cdv hk) s₀ E (names.zip ps) [] body (RetQ Q)) : Fn W (k + 1) f ps Q :=
  Fn.intro (fun vs => names.zip vs) ho hcd (fun s vs _ hv => BindsTo.of_eq (hb vs (hv.trans hlen.symm))) (fun vs _ y hy => beq_iff_eq.mp (List.all_eq_true.mp hl y.1 (List.of_mem_zip hy).1))
    (fun Z vs r x p e => reverse_lookup hn r x p e) hk hcell hco hgen h

theorem Fn.mono {k : Nat} {f : Addr} {ps : List PV} {Q' : PV → Prop} (h : Fn W k f ps Q) (q : ∀ p, Q p → Q' p) : Fn W k f ps Q' := fun A Z s vs ok S r =>
  codeAny_mono (h A Z s vs ok S r) fun _ _ ⟨v, e, g, Z', p, a, b, c, d⟩ => ⟨v, e, g, Z', p, a, b, c, q p d⟩
theorem Fn.le {k n : Nat} {f : Addr} {ps : List PV} (h : Fn W k f ps Q) (l : k ≤ n) : Fn W n f ps Q := fun A Z s vs ok S r => h A Z s vs (ok.le l) S r
end
end Mine

end

section
open PySem.Sre (M Wait Loop accepts inSet)
open PySem
namespace Mine

/-! the pattern's words, laid from parts -/
def cMark (i : Nat) : List Nat := [17, i]
def cSet (neg : Bool) (a b : Nat) : List Nat := (if neg then [21] else []) ++ [9, 0, a, b, 0, 0, 0, 0, 0, 0]
def cIn (neg : Bool) (a b : Nat) : List Nat := [13, (cSet neg a b).length + 1] ++ cSet neg a b
def cMost : Nat := 4294967295
def cRun (item : List Nat) : List Nat := [24, item.length + 4, 0, cMost] ++ item ++ [1]
def cNot (c : Nat) : List Nat := [20, c]
def cLit (c : Nat) : List Nat := [16, c]
def cAlt1 : List Nat := cIn true 67063944 1
def cAlt2 : List Nat := cLit 39 ++ cRun (cNot 39) ++ cLit 39
def cBranch : List Nat := [7, cAlt1.length + 3] ++ cAlt1 ++ [15, cAlt2.length + 5] ++ [cAlt2.length + 3] ++ cAlt2 ++ [15, 2, 0]
def cLoop : List Nat := [23, cBranch.length + 3, 0, cMost] ++ cBranch ++ [18]
def reCode : Array Nat := ([14, 4, 0, 0, cMost] ++ cMark 0 ++ cLoop ++ cMark 1 ++ cMark 2 ++ cRun (cIn false 67065864 33) ++ cMark 3 ++ cMark 4 ++ cRun [2] ++ cMark 5 ++ [1]).toArray
theorem reCode_size : reCode.size = 78 := by decide

/-- a sign that the loop's first half refuses -/
def inS1 (c : Nat) : Bool := decide (c < 256) && (reCode.getD (16 + (1 + c / 32)) 0).testBit (c % 32)
/-- a sign of a number -/
def inS2 (c : Nat) : Bool := decide (c < 256) && (reCode.getD (54 + (1 + c / 32)) 0).testBit (c % 32)

theorem acc13 (c : Nat) (sn : Sre.Seen) : ∃ sn', accepts reCode 13 c sn = .ok (!inS1 c, sn') := by
  show ∃ sn', inSet reCode c 78 15 true sn = .ok (!inS1 c, sn')
  have e1 : ∀ sn, inSet reCode c 78 15 true sn = inSet reCode c 77 16 false (sn.add 21) := fun _ => rfl
  have e2 : ∀ sn, inSet reCode c 77 16 false sn = if inS1 c then .ok (false, sn.add 9) else inSet reCode c 76 25 false (sn.add 9) := fun _ => rfl
  have e3 : ∀ sn, inSet reCode c 76 25 false sn = .ok (true, sn.add 0) := fun _ => rfl
  rw [e1, e2]
  cases inS1 c
  · rw [if_neg (by simp), e3]; exact ⟨_, rfl⟩
  · rw [if_pos rfl]; exact ⟨_, rfl⟩
theorem acc52 (c : Nat) (sn : Sre.Seen) : ∃ sn', accepts reCode 52 c sn = .ok (inS2 c, sn') := by
  show ∃ sn', inSet reCode c 78 54 true sn = .ok (inS2 c, sn')
  have e2 : ∀ sn, inSet reCode c 78 54 true sn = if inS2 c then .ok (true, sn.add 9) else inSet reCode c 77 63 true (sn.add 9) := fun _ => rfl
  have e3 : ∀ sn, inSet reCode c 77 63 true sn = .ok (false, sn.add 0) := fun _ => rfl
  rw [e2]
  cases inS2 c
  · rw [if_neg (by simp), e3]; exact ⟨_, rfl⟩
  · rw [if_pos rfl]; exact ⟨_, rfl⟩
theorem acc35 (c : Nat) (sn : Sre.Seen) : ∃ sn', accepts reCode 35 c sn = .ok (c != 39, sn') := ⟨_, rfl⟩
theorem acc73 (c : Nat) (sn : Sre.Seen) : ∃ sn', accepts reCode 73 c sn = .ok (c != 10, sn') := ⟨_, rfl⟩

theorem run_at {i : Nat} {f : Nat → Bool} (ha : ∀ c sn, ∃ sn', accepts reCode i c sn = .ok (f c, sn')) : ∀ (xs a b : List Nat) (n found : Nat) (sn : Sre.Seen), (∀ c ∈ xs, f c = true) → (∀ c, b.head? = some c → f c = false) → n = xs.length + b.length →
    ∃ sn', Sre.run reCode (a ++ xs ++ b).toArray i n a.length found sn = .ok (found + xs.length, sn')
  | [], a, b, n, found, sn, _, hb, hn => by
    cases n with
    | zero => exact ⟨sn, rfl⟩
    | succ n =>
      cases b with
      | nil => simp at hn
      | cons c b =>
        obtain ⟨sn', e⟩ := ha c sn
        refine ⟨sn', ?_⟩
        unfold Sre.run
        have : (a ++ [] ++ c :: b).toArray.getD a.length 0 = c := by simp [Array.getD]
        rw [this, e, hb c rfl]; rfl
  | c :: xs, a, b, n, found, sn, hx, hb, hn => by
    obtain ⟨n, rfl⟩ : ∃ k, n = k + 1 := ⟨xs.length + b.length, by rw [hn, List.length_cons]; omega⟩
    obtain ⟨sn₁, e⟩ := ha c sn
    obtain ⟨sn', e'⟩ := run_at ha xs (a ++ [c]) b n (found + 1) sn₁ (fun d hd => hx d (List.mem_cons_of_mem _ hd)) hb (by rw [List.length_cons] at hn; omega)
    refine ⟨sn', ?_⟩
    unfold Sre.run
    have : (a ++ c :: xs ++ b).toArray.getD a.length 0 = c := by simp [Array.getD]
    rw [this, e, hx c List.mem_cons_self]
    have e2 : a ++ [c] ++ xs ++ b = a ++ c :: xs ++ b := by simp
    rw [e2] at e'
    have e3 : (a ++ [c]).length = a.length + 1 := by simp
    rw [e3] at e'
    show Sre.run reCode (a ++ c :: xs ++ b).toArray i n (a.length + 1) (found + 1) sn₁ = _
    rw [e', List.length_cons]
    congr 2; omega

/-- a state of the machine -/
def St (x : List Nat) (pc pos : Nat) (fr : List Sre.Frame) (lp : Array Loop) (inn : Option Nat) (mk : Array (Option Nat)) (lm li : Int) (ans : Option Bool) (w hd : Nat) (sn : Sre.Seen) (om : Bool) : M :=
  { code := reCode, text := x.toArray, lim := x.length, start := 0, lastStart := x.length, wholeText := false, mustAdvance := false, pc := pc, pos := pos, handed := hd, outermost := om, marks := mk, lastmark := lm, lastindex := li, loops := lp, inner := inn, frames := fr, weight := w, answer := ans, seen := sn, outcome := none }

def stepN : Nat → M → M
  | 0, m => m
  | n + 1, m => stepN n m.step
/-- m comes to P within k steps -/
def To (k : Nat) (m : M) (P : M → Prop) : Prop := ∃ j, j ≤ k ∧ P (stepN j m)
theorem To.now {k : Nat} {m : M} {P : M → Prop} (h : P m) : To k m P := ⟨0, Nat.zero_le _, h⟩
theorem To.step {k : Nat} {m m' : M} {P : M → Prop} (e : m.step = m') (h : To k m' P) : To (k + 1) m P := by
  obtain ⟨j, hj, q⟩ := h
  subst e
  exact ⟨j + 1, by omega, q⟩
theorem stepN_add (a b : Nat) (m : M) : stepN (a + b) m = stepN b (stepN a m) := by
  induction a generalizing m with
  | zero => rw [Nat.zero_add]; rfl
  | succ a ih => rw [show a + 1 + b = (a + b) + 1 by omega]; exact ih m.step
theorem To.trans {k l : Nat} {m : M} {P Q : M → Prop} (h : To k m P) (g : ∀ m', P m' → To l m' Q) : To (k + l) m Q := by
  obtain ⟨j, hj, q⟩ := h
  obtain ⟨j', hj', q'⟩ := g _ q
  exact ⟨j + j', by omega, by rw [stepN_add]; exact q'⟩
theorem To.le {k l : Nat} {m : M} {P : M → Prop} (h : To k m P) (e : k ≤ l) : To l m P := by obtain ⟨j, hj, q⟩ := h; exact ⟨j, by omega, q⟩

theorem attempt_ok {m : M} {f : Sre.Frame} {t p : Nat} {o : Bool} (h : m.weight + 1 + f.kept.marks.size ≤ 16777216) :
    m.attempt f t p o = { m with frames := f :: m.frames, weight := m.weight + 1 + f.kept.marks.size, pc := t, pos := p, handed := p, outermost := o } := by
  unfold M.attempt; rw [if_neg (by omega)]

abbrev mk0 : Array (Option Nat) := #[some 0, none, none, none, none, none]
abbrev lp1 (c : Int) (b : Option Nat) : Array Loop := #[{ pc := 7, count := c, began := b, outer := none }]
abbrev kp1 : Sre.Kept := { lastmark := 0, lastindex := -1, whole := true, marks := #[some 0] }
theorem keep_whole {x pc pos fr lp inn ans w hd sn om} : (St x pc pos fr lp inn mk0 0 (-1) ans w hd sn om).keep true = kp1 := rfl

abbrev fMore (p : Nat) (c : Int) (b : Option Nat) (om : Bool) : Sre.Frame := { wait := .maxMore, pc := 44, pos := p, outermost := om, count := c, kept := kp1, loop := 0, began := b }
abbrev fBr (k p : Nat) (om : Bool) : Sre.Frame := { wait := .nextBranch, pc := k, pos := p, outermost := om, kept := kp1 }

theorem st43 {x p F c b w hd sn om} (hc : -1 ≤ c) (hb : b ≠ some p) (hw : w ≤ 16000000) :
    ∃ sn', (St x 43 p F (lp1 c b) (some 0) mk0 0 (-1) none w hd sn om).step = St x 11 p (fMore p (c + 1) b om :: F) (lp1 (c + 1) (some p)) (some 0) mk0 0 (-1) none (w + 2) p sn' om := by
  refine ⟨sn.add 18, ?_⟩
  have e1 : (St x 43 p F (lp1 c b) (some 0) mk0 0 (-1) none w hd sn om).step = (St x 44 p F (lp1 c b) (some 0) mk0 0 (-1) none w hd (sn.add 18) om).until_ true := rfl
  rw [e1]
  have e2 : (St x 44 p F (lp1 c b) (some 0) mk0 0 (-1) none w hd (sn.add 18) om).until_ true =
      if c + 1 < 0 then (St x 44 p F (lp1 c b) (some 0) mk0 0 (-1) none w hd (sn.add 18) om).round .maxBelow 0 (c + 1) false {}
      else if (decide (c + 1 < 4294967295) || true) && b != some p then (St x 44 p F (lp1 c b) (some 0) mk0 0 (-1) none w hd (sn.add 18) om).round .maxMore 0 (c + 1) true kp1
      else (St x 44 p F (lp1 c b) (some 0) mk0 0 (-1) none w hd (sn.add 18) om).afterLoop .maxTail 0 (c + 1) fun _ => false := rfl
  rw [e2, if_neg (by omega), if_pos (by rw [Bool.or_true, Bool.true_and]; exact bne_iff_ne.mpr hb)]
  have e3 : (St x 44 p F (lp1 c b) (some 0) mk0 0 (-1) none w hd (sn.add 18) om).round .maxMore 0 (c + 1) true kp1 =
      (St x 44 p F (lp1 (c + 1) (some p)) (some 0) mk0 0 (-1) none w hd (sn.add 18) om).attempt (fMore p (c + 1) b om) 11 p om := rfl
  rw [e3, attempt_ok (by show w + 1 + 1 ≤ _; omega)]
  rfl
theorem st11 {x p F lp w hd sn om} (hw : w ≤ 16000000) :
    ∃ sn', (St x 11 p F lp (some 0) mk0 0 (-1) none w hd sn om).step = St x 13 p (fBr 12 p om :: F) lp (some 0) mk0 0 (-1) none (w + 2) p sn' om := by
  refine ⟨sn.add 7, ?_⟩
  have e : (St x 11 p F lp (some 0) mk0 0 (-1) none w hd sn om).step = (St x 11 p F lp (some 0) mk0 0 (-1) none w hd (sn.add 7) om).attempt (fBr 12 p om) 13 p om := rfl
  rw [e, attempt_ok (by show w + 1 + 1 ≤ _; omega)]
  rfl
theorem getD_at (a : List Nat) (c : Nat) (b : List Nat) : (a ++ c :: b).toArray.getD a.length 0 = c := by simp [Array.getD]
/-- a one-sign word at a sign -/
theorem st_one {a b : List Nat} {c pc wd k0 : Nat} {f : Nat → Bool} {F lp inn mk lm li w hd sn om} (ha : ∀ c sn, ∃ sn', accepts reCode pc c sn = .ok (f c, sn'))
    (he : (St (a ++ c :: b) pc a.length F lp inn mk lm li none w hd sn om).step =
      (if a.length ≥ (a ++ c :: b).length then (St (a ++ c :: b) pc a.length F lp inn mk lm li none w hd (sn.add k0) om).say false else
      match accepts reCode pc ((a ++ c :: b).toArray.getD a.length 0) (sn.add k0) with
      | .error why => (St (a ++ c :: b) pc a.length F lp inn mk lm li none w hd (sn.add k0) om).stick why
      | .ok (false, seen) => (St (a ++ c :: b) pc a.length F lp inn mk lm li none w hd seen om).say false
      | .ok (true, seen) => St (a ++ c :: b) (pc + wd) (a.length + 1) F lp inn mk lm li none w hd seen om) := by rfl) :
    ∃ sn', (St (a ++ c :: b) pc a.length F lp inn mk lm li none w hd sn om).step =
      if f c then St (a ++ c :: b) (pc + wd) (a.length + 1) F lp inn mk lm li none w hd sn' om else St (a ++ c :: b) pc a.length F lp inn mk lm li (some false) w hd sn' om := by
  obtain ⟨sn', e⟩ := ha c (sn.add k0)
  refine ⟨sn', ?_⟩
  rw [he, if_neg (by simp), getD_at, e]
  cases f c <;> rfl
theorem st13 {a b : List Nat} {c : Nat} {F lp inn mk lm li w hd sn om} : ∃ sn', (St (a ++ c :: b) 13 a.length F lp inn mk lm li none w hd sn om).step =
      if (!inS1 c) = true then St (a ++ c :: b) 26 (a.length + 1) F lp inn mk lm li none w hd sn' om else St (a ++ c :: b) 13 a.length F lp inn mk lm li (some false) w hd sn' om :=
  st_one (k0 := 13) (wd := 13) acc13
theorem acc29 (c : Nat) (sn : Sre.Seen) : ∃ sn', accepts reCode 29 c sn = .ok (c == 39, sn') := ⟨_, rfl⟩
theorem acc38 (c : Nat) (sn : Sre.Seen) : ∃ sn', accepts reCode 38 c sn = .ok (c == 39, sn') := ⟨_, rfl⟩
theorem st29 {a b : List Nat} {c : Nat} {F lp inn mk lm li w hd sn om} : ∃ sn', (St (a ++ c :: b) 29 a.length F lp inn mk lm li none w hd sn om).step =
      if (c == 39) = true then St (a ++ c :: b) 31 (a.length + 1) F lp inn mk lm li none w hd sn' om else St (a ++ c :: b) 29 a.length F lp inn mk lm li (some false) w hd sn' om :=
  st_one (k0 := 16) (wd := 2) acc29
theorem st38 {a b : List Nat} {c : Nat} {F lp inn mk lm li w hd sn om} : ∃ sn', (St (a ++ c :: b) 38 a.length F lp inn mk lm li none w hd sn om).step =
      if (c == 39) = true then St (a ++ c :: b) 40 (a.length + 1) F lp inn mk lm li none w hd sn' om else St (a ++ c :: b) 38 a.length F lp inn mk lm li (some false) w hd sn' om :=
  st_one (k0 := 16) (wd := 2) acc38
theorem st_end13 {x : List Nat} {F lp inn mk lm li w hd sn om} : ∃ sn', (St x 13 x.length F lp inn mk lm li none w hd sn om).step = St x 13 x.length F lp inn mk lm li (some false) w hd sn' om := by
  refine ⟨sn.add 13, ?_⟩
  have e : (St x 13 x.length F lp inn mk lm li none w hd sn om).step = if x.length ≥ x.length then (St x 13 x.length F lp inn mk lm li none w hd (sn.add 13) om).say false else
      match accepts reCode 13 (x.toArray.getD x.length 0) (sn.add 13) with
      | .error why => (St x 13 x.length F lp inn mk lm li none w hd (sn.add 13) om).stick why
      | .ok (false, seen) => (St x 13 x.length F lp inn mk lm li none w hd seen om).say false
      | .ok (true, seen) => St x 26 (x.length + 1) F lp inn mk lm li none w hd seen om := rfl
  rw [e, if_pos (Nat.le_refl _)]; rfl
theorem st_end29 {x : List Nat} {F lp inn mk lm li w hd sn om} : ∃ sn', (St x 29 x.length F lp inn mk lm li none w hd sn om).step = St x 29 x.length F lp inn mk lm li (some false) w hd sn' om := by
  refine ⟨sn.add 16, ?_⟩
  have e : (St x 29 x.length F lp inn mk lm li none w hd sn om).step = if x.length ≥ x.length then (St x 29 x.length F lp inn mk lm li none w hd (sn.add 16) om).say false else
      match accepts reCode 29 (x.toArray.getD x.length 0) (sn.add 16) with
      | .error why => (St x 29 x.length F lp inn mk lm li none w hd (sn.add 16) om).stick why
      | .ok (false, seen) => (St x 29 x.length F lp inn mk lm li none w hd seen om).say false
      | .ok (true, seen) => St x 31 (x.length + 1) F lp inn mk lm li none w hd seen om := rfl
  rw [e, if_pos (Nat.le_refl _)]; rfl
theorem st26 {x p F lp inn mk lm li w hd sn om} : ∃ sn', (St x 26 p F lp inn mk lm li none w hd sn om).step = St x 43 p F lp inn mk lm li none w hd sn' om := ⟨_, rfl⟩
theorem st40 {x p F lp inn mk lm li w hd sn om} : ∃ sn', (St x 40 p F lp inn mk lm li none w hd sn om).step = St x 43 p F lp inn mk lm li none w hd sn' om := ⟨_, rfl⟩
/-- the first half has failed -/
theorem st_alt2 {x p q pc F lp w hd sn om om'} (hw : w ≤ 16000000) (h2 : 2 ≤ w) :
    (St x pc q (fBr 12 p om :: F) lp (some 0) mk0 0 (-1) (some false) w hd sn om').step = St x 29 p (fBr 28 p om :: F) lp (some 0) mk0 0 (-1) none w p sn om := by
  have e : (St x pc q (fBr 12 p om :: F) lp (some 0) mk0 0 (-1) (some false) w hd sn om').step = (St x 12 p F lp (some 0) mk0 0 (-1) none (w - (1 + 1)) hd sn om).attempt (fBr 28 p om) 29 p om := rfl
  rw [e, attempt_ok (by show w - 2 + 1 + 1 ≤ _; omega)]
  show _ = St x 29 p (fBr 28 p om :: F) lp (some 0) mk0 0 (-1) none w p sn om
  have : w - (1 + 1) + 1 + 1 = w := by omega
  show St x 29 p (fBr 28 p om :: F) lp (some 0) mk0 0 (-1) none (w - (1 + 1) + 1 + 1) p sn om = _
  rw [this]
theorem st_alt3 {x p q pc F lp w hd sn om om'} :
    (St x pc q (fBr 28 p om :: F) lp (some 0) mk0 0 (-1) (some false) w hd sn om').step = St x 28 p F lp (some 0) mk0 0 (-1) (some false) (w - 2) hd sn om := rfl
abbrev fTail (p : Nat) (c : Int) (om : Bool) : Sre.Frame := { wait := .maxTail, pc := 44, pos := p, outermost := om, count := c, kept := { lastmark := 0, lastindex := -1 }, loop := 0 }
theorem st_tail {x p q pc F c b b' w hd sn om om'} (hw : w ≤ 16000000) :
    (St x pc q (fMore p c b om :: F) (lp1 c b') (some 0) mk0 0 (-1) (some false) w hd sn om').step = St x 44 p (fTail p c om :: F) (lp1 (c - 1) b) none mk0 0 (-1) none (w - 2 + 1) p sn om := by
  have e : (St x pc q (fMore p c b om :: F) (lp1 c b') (some 0) mk0 0 (-1) (some false) w hd sn om').step = (St x 44 p F (lp1 (c - 1) b) none mk0 0 (-1) none (w - (1 + 1)) hd sn om).attempt (fTail p c om) 44 p om := rfl
  rw [e, attempt_ok (by show w - 2 + 1 + 0 ≤ _; omega)]
  rfl
end Mine

end

section
open PySem.Sre (M Wait Loop accepts inSet)
open PySem
namespace Mine

theorem st_run {xs a b : List Nat} {pc nx k0 : Nat} {f : Nat → Bool} {fr : Nat → Sre.Frame} {ks : Nat} {F lp inn mk lm li w hd sn om}
    (ha : ∀ c sn, ∃ sn', accepts reCode (pc + 4) c sn = .ok (f c, sn')) (hx : ∀ c ∈ xs, f c = true) (hb : ∀ c, b.head? = some c → f c = false)
    (hl : (a ++ xs ++ b).length < cMost) (hk : ∀ n, (fr n).kept.marks.size = ks) (hw : w + 1 + ks ≤ 16777216)
    (he : (St (a ++ xs ++ b) pc a.length F lp inn mk lm li none w hd sn om).step =
      (if ((0 : Nat) : Int) > ((a ++ xs ++ b).length : Int) - (a.length : Nat) then (St (a ++ xs ++ b) pc a.length F lp inn mk lm li none w hd (sn.add 24) om).say false else
      match Sre.run reCode (a ++ xs ++ b).toArray (pc + 4) (min cMost (((a ++ xs ++ b).length : Int) - (a.length : Nat)).toNat) a.length 0 ((sn.add 24).add k0) with
      | .error why => (St (a ++ xs ++ b) pc a.length F lp inn mk lm li none w hd (sn.add 24) om).stick why
      | .ok (n, seen) => if n < 0 then (St (a ++ xs ++ b) pc a.length F lp inn mk lm li none w hd seen om).say false else
        (St (a ++ xs ++ b) pc (a.length + n) F lp inn mk lm li none w hd seen om).attempt (fr n) nx (a.length + n) om) := by rfl) :
    ∃ sn', (St (a ++ xs ++ b) pc a.length F lp inn mk lm li none w hd sn om).step = St (a ++ xs ++ b) nx (a.length + xs.length) (fr xs.length :: F) lp inn mk lm li none (w + 1 + ks) (a.length + xs.length) sn' om := by
  have hn : min cMost (((a ++ xs ++ b).length : Int) - (a.length : Nat)).toNat = xs.length + b.length := by
    rw [List.length_append, List.length_append] at hl ⊢; omega
  obtain ⟨sn', e⟩ := run_at ha xs a b (xs.length + b.length) 0 ((sn.add 24).add k0) hx hb rfl
  refine ⟨sn', ?_⟩
  rw [he, if_neg (by rw [List.length_append, List.length_append]; omega), hn, e]
  show (if 0 + xs.length < 0 then _ else _) = _
  rw [if_neg (by omega), Nat.zero_add, attempt_ok (by rw [hk]; exact hw), hk]
  rfl

abbrev fGive (pc p n : Nat) (k : Sre.Kept) (om : Bool) : Sre.Frame := { wait := .giveBack, pc := pc, pos := p, outermost := om, count := n, kept := k }
theorem st31 {xs a b : List Nat} {F lp w hd sn om} (hx : ∀ c ∈ xs, (c != 39) = true) (hb : ∀ c, b.head? = some c → (c != 39) = false) (hl : (a ++ xs ++ b).length < cMost) (hw : w ≤ 16000000) :
    ∃ sn', (St (a ++ xs ++ b) 31 a.length F lp (some 0) mk0 0 (-1) none w hd sn om).step = St (a ++ xs ++ b) 38 (a.length + xs.length) (fGive 31 (a.length + xs.length) xs.length kp1 om :: F) lp (some 0) mk0 0 (-1) none (w + 1 + 1) (a.length + xs.length) sn' om :=
  st_run (k0 := 20) (fr := fun n => fGive 31 (a.length + n) n kp1 om) (ks := 1) acc35 hx hb hl (fun _ => rfl) (by omega)
abbrev kp0 (lm li : Int) : Sre.Kept := { lastmark := lm, lastindex := li }
theorem st48 {xs a b : List Nat} {F lp mk lm li w hd sn om} (hx : ∀ c ∈ xs, inS2 c = true) (hb : ∀ c, b.head? = some c → inS2 c = false) (hl : (a ++ xs ++ b).length < cMost) (hw : w ≤ 16000000) :
    ∃ sn', (St (a ++ xs ++ b) 48 a.length F lp none mk lm li none w hd sn om).step = St (a ++ xs ++ b) 65 (a.length + xs.length) (fGive 48 (a.length + xs.length) xs.length (kp0 lm li) om :: F) lp none mk lm li none (w + 1 + 0) (a.length + xs.length) sn' om :=
  st_run (k0 := 13) (fr := fun n => fGive 48 (a.length + n) n (kp0 lm li) om) (ks := 0) acc52 hx hb hl (fun _ => rfl) (by omega)
theorem st69 {xs a b : List Nat} {F lp mk lm li w hd sn om} (hx : ∀ c ∈ xs, (c != 10) = true) (hb : ∀ c, b.head? = some c → (c != 10) = false) (hl : (a ++ xs ++ b).length < cMost) (hw : w ≤ 16000000) :
    ∃ sn', (St (a ++ xs ++ b) 69 a.length F lp none mk lm li none w hd sn om).step = St (a ++ xs ++ b) 75 (a.length + xs.length) (fGive 69 (a.length + xs.length) xs.length (kp0 lm li) om :: F) lp none mk lm li none (w + 1 + 0) (a.length + xs.length) sn' om :=
  st_run (k0 := 2) (fr := fun n => fGive 69 (a.length + n) n (kp0 lm li) om) (ks := 0) acc73 hx hb hl (fun _ => rfl) (by omega)

theorem st5 {x F lp w hd sn om} : ∃ sn', (St x 5 0 F lp none #[none, none, none, none, none, none] (-1) (-1) none w hd sn om).step = St x 7 0 F lp none mk0 0 (-1) none w hd sn' om := ⟨_, rfl⟩
abbrev fClose (p : Nat) (om : Bool) : Sre.Frame := { wait := .closeLoop, pc := 7, pos := p, outermost := om, loop := 0 }
theorem st7 {x p F w hd sn om} (hw : w ≤ 16000000) : ∃ sn', (St x 7 p F #[] none mk0 0 (-1) none w hd sn om).step = St x 43 p (fClose p om :: F) (lp1 (-1) none) (some 0) mk0 0 (-1) none (w + 1 + 0) p sn' om := by
  refine ⟨sn.add 23, ?_⟩
  have e : (St x 7 p F #[] none mk0 0 (-1) none w hd sn om).step = (St x 7 p F (lp1 (-1) none) (some 0) mk0 0 (-1) none w hd (sn.add 23) om).attempt (fClose p om) 43 p om := rfl
  rw [e, attempt_ok (by show w + 1 + 0 ≤ _; omega)]
  rfl
theorem st44 {x p F lp w hd sn om} : ∃ sn', (St x 44 p F lp none mk0 0 (-1) none w hd sn om).step = St x 46 p F lp none #[some 0, some p, none, none, none, none] 1 1 none w hd sn' om := ⟨sn.add 17, by with_unfolding_all rfl⟩
theorem st46 {x p q F lp w hd sn om} : ∃ sn', (St x 46 p F lp none #[some 0, some q, none, none, none, none] 1 1 none w hd sn om).step = St x 48 p F lp none #[some 0, some q, some p, none, none, none] 2 1 none w hd sn' om := ⟨sn.add 17, by with_unfolding_all rfl⟩
theorem st65 {x p q r F lp w hd sn om} : ∃ sn', (St x 65 p F lp none #[some 0, some q, some r, none, none, none] 2 1 none w hd sn om).step = St x 67 p F lp none #[some 0, some q, some r, some p, none, none] 3 2 none w hd sn' om := ⟨sn.add 17, by with_unfolding_all rfl⟩
theorem st67 {x p q r t F lp w hd sn om} : ∃ sn', (St x 67 p F lp none #[some 0, some q, some r, some t, none, none] 3 2 none w hd sn om).step = St x 69 p F lp none #[some 0, some q, some r, some t, some p, none] 4 2 none w hd sn' om := ⟨sn.add 17, by with_unfolding_all rfl⟩
theorem st75 {x p q r t u F lp w hd sn om} : ∃ sn', (St x 75 p F lp none #[some 0, some q, some r, some t, some u, none] 4 2 none w hd sn om).step = St x 77 p F lp none #[some 0, some q, some r, some t, some u, some p] 5 3 none w hd sn' om := ⟨sn.add 17, by with_unfolding_all rfl⟩
theorem st77 {x p F lp inn mk lm li w hd sn om} : ∃ sn', (St x 77 p F lp inn mk lm li none w hd sn om).step = St x 77 p F lp inn mk lm li (some true) w p sn' om := by
  refine ⟨sn.add 1, ?_⟩
  have e : (St x 77 p F lp inn mk lm li none w hd sn om).step = if (om && ((false && p != x.length) || (false && p == 0))) = true then (St x 77 p F lp inn mk lm li none w hd (sn.add 1) om).say false else St x 77 p F lp inn mk lm li (some true) w p (sn.add 1) om := rfl
  rw [e, if_neg (by simp)]

/-- frames that hand a yes on -/
def fOk (f : Sre.Frame) : Bool := match f.wait with | .nextStart | .nextBranch | .giveBack | .closeLoop | .maxMore | .maxTail => true | _ => false
structure MDone (mk : Array (Option Nat)) (lm li : Int) (hd : Nat) (m : M) : Prop where
  out : m.outcome = some .matched
  marks : m.marks = mk
  lastm : m.lastmark = lm
  lasti : m.lastindex = li
  handed : m.handed = hd
  start : m.start = 0
theorem pops {mk lm li hd} : ∀ (F : List Sre.Frame) (m : M), F.all fOk = true → m.outcome = none → m.answer = some true → m.frames = F → m.marks = mk → m.lastmark = lm → m.lastindex = li → m.handed = hd → m.start = 0 → To (F.length + 1) m (MDone mk lm li hd)
  | [], m, _, ho, ha, hf, h1, h2, h3, h4, h5 => by
    obtain ⟨⟩ := m
    cases ho; cases ha; cases hf
    exact .step rfl (.now ⟨rfl, h1, h2, h3, h4, h5⟩)
  | f :: F, m, hF, ho, ha, hf, h1, h2, h3, h4, h5 => by
    rw [List.all_cons, Bool.and_eq_true] at hF
    obtain ⟨⟩ := m
    cases ho; cases ha; cases hf
    obtain ⟨wait, pc, pos, om, count, kept, loop, began⟩ := f
    refine To.step rfl ?_
    cases wait <;> first | exact pops F _ hF.2 rfl rfl rfl h1 h2 h3 h4 h5 | exact absurd hF.1 (by simp [fOk])

/-- what the loop takes: signs it admits, and runs in quotes -/
inductive Pre : List Nat → Prop
  | nil : Pre []
  | one {c : Nat} {l : List Nat} : inS1 c = false → Pre l → Pre (c :: l)
  | quo {i l : List Nat} : (∀ c ∈ i, c ≠ 39) → Pre l → Pre (39 :: (i ++ 39 :: l))

/-- before the loop's end word -/
def Lo (x : List Nat) (p W : Nat) (m : M) : Prop := ∃ F c b w hd sn om, m = St x 43 p F (lp1 c b) (some 0) mk0 0 (-1) none w hd sn om ∧ -1 ≤ c ∧ (∀ q, b = some q → q < p) ∧ F.all fOk = true ∧ F.length ≤ W ∧ w ≤ W

theorem To.st {k : Nat} {m : M} {P : M → Prop} {α : Type} {g : α → M} (e : ∃ a, m.step = g a) (h : ∀ a, To k (g a) P) : To (k + 1) m P := by
  obtain ⟨a, e⟩ := e; exact .step e (h a)

theorem loop_turns : ∀ {t : List Nat}, Pre t → ∀ (a r : List Nat) (W : Nat) (m : M), (a ++ t ++ r).length < cMost → W + 4 * t.length ≤ 16000000 → Lo (a ++ t ++ r) a.length W m → To (4 * t.length) m (Lo (a ++ t ++ r) (a.length + t.length) (W + 4 * t.length))
  | _, .nil, a, r, W, m, _, _, h => .now (by simpa using h)
  | _, @Pre.one c l hc ht, a, r, W, m, hl, hw, ⟨F, c0, b, w, hd, sn, om, e, h1, h2, h3, h4, h5⟩ => by
    have ex : a ++ c :: l ++ r = a ++ c :: (l ++ r) := by simp
    have ex2 : (a ++ [c]) ++ l ++ r = a ++ c :: l ++ r := by simp
    rw [List.length_cons] at hw
    subst e
    have hb : b ≠ some a.length := fun e => absurd (h2 _ e) (Nat.lt_irrefl _)
    have ih := fun m' W' => loop_turns ht (a ++ [c]) r W' m' (by rw [ex2]; exact hl)
    rw [ex2] at ih
    have el : 4 * (c :: l).length = 4 + 4 * l.length := by rw [List.length_cons]; omega
    rw [el]
    refine To.trans (Q := _) (P := Lo (a ++ c :: l ++ r) (a ++ [c]).length (W + 4)) ?_ fun m' hm => ?_
    · refine .st (st43 h1 hb (by omega)) fun sn1 => .st (st11 (by omega)) fun sn2 => ?_
      rw [ex]
      refine .st st13 fun sn3 => ?_
      rw [hc]
      refine .st st26 fun sn4 => .now ?_
      exact ⟨_, c0 + 1, some a.length, _, _, _, _, by rw [List.length_append]; rfl, by omega, fun q e => by cases e; simp, by simp [fOk, h3], by simp; omega, by omega⟩
    · have := ih m' (W + 4) (by omega) hm
      rw [List.length_append, List.length_singleton] at this
      have e3 : a.length + 1 + l.length = a.length + (c :: l).length := by rw [List.length_cons]; omega
      rw [e3, show W + 4 + 4 * l.length = W + (4 + 4 * l.length) by omega] at this
      exact this
  | _, @Pre.quo i l hi ht, a, r, W, m, hl, hw, ⟨F, c0, b, w, hd, sn, om, e, h1, h2, h3, h4, h5⟩ => by
    have ex : a ++ (39 :: (i ++ 39 :: l)) ++ r = a ++ 39 :: (i ++ 39 :: (l ++ r)) := by simp
    have ex1 : a ++ (39 :: (i ++ 39 :: l)) ++ r = (a ++ [39]) ++ i ++ (39 :: (l ++ r)) := by simp
    have ex3 : a ++ (39 :: (i ++ 39 :: l)) ++ r = (a ++ [39] ++ i) ++ 39 :: (l ++ r) := by simp
    have ex2 : (a ++ [39] ++ i ++ [39]) ++ l ++ r = a ++ (39 :: (i ++ 39 :: l)) ++ r := by simp
    have elen : (39 :: (i ++ 39 :: l)).length = i.length + l.length + 2 := by simp; omega
    rw [elen] at hw ⊢
    subst e
    have hb : b ≠ some a.length := fun e => absurd (h2 _ e) (Nat.lt_irrefl _)
    have ih := fun m' W' => loop_turns ht (a ++ [39] ++ i ++ [39]) r W' m' (by rw [ex2]; exact hl)
    rw [ex2] at ih
    refine To.le (k := 8 + 4 * l.length) ?_ (by omega)
    refine To.trans (P := Lo (a ++ (39 :: (i ++ 39 :: l)) ++ r) (a ++ [39] ++ i ++ [39]).length (W + 8)) ?_ fun m' hm => ?_
    · refine .st (st43 h1 hb (by omega)) fun sn1 => .st (st11 (by omega)) fun sn2 => ?_
      rw [ex]
      refine .st st13 fun sn3 => ?_
      rw [if_neg (by decide)]
      refine .step (st_alt2 (by omega) (by omega)) ?_
      refine .st st29 fun sn4 => ?_
      rw [if_pos (show ((39 : Nat) == 39) = true from rfl), ← ex, ex1, show a.length + 1 = (a ++ [39]).length by simp]
      refine .st (st31 (fun c hc => bne_iff_ne.mpr (hi c hc)) (fun c hc => by cases hc; rfl) (by rw [← ex1]; exact hl) (by omega)) fun sn5 => ?_
      rw [← ex1, ex3, ← List.length_append]
      refine .st st38 fun sn6 => ?_
      rw [if_pos (show ((39 : Nat) == 39) = true from rfl), ← ex3]
      refine .st st40 fun sn7 => .now ?_
      have e9 : (a ++ [39] ++ i ++ [39]).length = (a ++ [39] ++ i).length + 1 := by simp only [List.length_append, List.length_singleton]
      rw [e9]
      refine ⟨fGive 31 (a ++ [39] ++ i).length i.length kp1 om :: fBr 28 a.length om :: fMore a.length (c0 + 1) b om :: F, c0 + 1, some a.length, w + 2 + 2 + 1 + 1, _, sn7, om, rfl, by omega, fun q e => ?_, by simp [fOk, h3], by simp only [List.length_cons]; omega, by omega⟩
      cases e; simp only [List.length_append]; omega
    · have := ih m' (W + 8) (by omega) hm
      have e3 : (a ++ [39] ++ i ++ [39]).length + l.length = a.length + (i.length + l.length + 2) := by simp; omega
      rw [e3] at this
      obtain ⟨j, hj, F, c, b, w, hd, sn, om, q1, q2, q3, q4, q5, q6⟩ := this
      exact ⟨j, hj, F, c, b, w, hd, sn, om, q1, q2, q3, q4, by omega, by omega⟩

/-- what the marks say -/
abbrev mks (a b c : Nat) : Array (Option Nat) := #[some 0, some a, some a, some b, some b, some c]

theorem search_to {pre core suf : List Nat} (hp : Pre pre) (hc : ∀ c ∈ core, inS2 c = true) (hs : ∀ c, suf.head? = some c → inS2 c = false) (hh : ∀ c, (core ++ suf).head? = some c → inS1 c = true ∧ c ≠ 39)
    (hn : ∀ c ∈ suf, c ≠ 10) (hl : (pre ++ core ++ suf).length ≤ 3000000) :
    To (100 + 8 * (pre ++ core ++ suf).length) (Sre.forSearch reCode (pre ++ core ++ suf).toArray 3 0 (pre ++ core ++ suf).length false)
      (MDone (mks pre.length (pre.length + core.length) (pre ++ core ++ suf).length) 5 3 (pre ++ core ++ suf).length) := by
  have hl' : (pre ++ core ++ suf).length < cMost := Nat.lt_of_le_of_lt hl (by decide)
  have hpl : pre.length ≤ (pre ++ core ++ suf).length := by simp
  let fStart : Sre.Frame := { wait := .nextStart, pc := 5, pos := 0, outermost := true }
  have e0 : Sre.forSearch reCode (pre ++ core ++ suf).toArray 3 0 (pre ++ core ++ suf).length false = St (pre ++ core ++ suf) 5 0 [fStart] #[] none #[none, none, none, none, none, none] (-1) (-1) none 1 0 (({} : Sre.Seen).add 14) true := rfl
  rw [e0]
  refine To.le (k := 2 + (4 * pre.length + (16 + (4 * pre.length + 20)))) ?_ (by omega)
  refine To.trans (P := Lo (pre ++ core ++ suf) 0 2) ?_ fun m hm => ?_
  · refine .st st5 fun sn => .st (st7 (by omega)) fun sn2 => .now ⟨_, -1, none, _, _, _, _, rfl, by omega, fun q e => (nomatch e), rfl, by simp, by omega⟩
  have lt := loop_turns hp [] (core ++ suf) 2 m (by simpa using hl') (by omega) (by simpa [List.append_assoc] using hm)
  rw [show ([] : List Nat) ++ pre ++ (core ++ suf) = pre ++ core ++ suf by simp, show ([] : List Nat).length + pre.length = pre.length by simp] at lt
  refine lt.trans fun m hm => ?_
  obtain ⟨F, c, b, w, hd, sn, om, e, h1, h2, h3, h4, h5⟩ := hm
  subst e
  have hb : b ≠ some pre.length := fun e => absurd (h2 _ e) (Nat.lt_irrefl _)
  -- the loop's last, failing turn
  have turn : To 7 (St (pre ++ core ++ suf) 43 pre.length F (lp1 c b) (some 0) mk0 0 (-1) none w hd sn om)
      (fun m => ∃ w hd sn lp, m = St (pre ++ core ++ suf) 44 pre.length (fTail pre.length (c + 1) om :: F) lp none mk0 0 (-1) none w hd sn om ∧ w ≤ 4 * pre.length + 10) := by
    refine .st (st43 h1 hb (by omega)) fun sn1 => .st (st11 (by omega)) fun sn2 => ?_
    have fin : ∀ sn3 w2 hd3, w2 = w + 4 → To 2 (St (pre ++ core ++ suf) 29 pre.length (fBr 28 pre.length om :: fMore pre.length (c + 1) b om :: F) (lp1 (c + 1) (some pre.length)) (some 0) mk0 0 (-1) (some false) w2 hd3 sn3 om)
        (fun m => ∃ w hd sn lp, m = St (pre ++ core ++ suf) 44 pre.length (fTail pre.length (c + 1) om :: F) lp none mk0 0 (-1) none w hd sn om ∧ w ≤ 4 * pre.length + 10) := fun sn3 w2 hd3 e => by
      refine .step st_alt3 (.step (st_tail (by omega)) (.now ⟨_, _, _, _, rfl, by omega⟩))
    cases hcs : core ++ suf with
    | nil =>
      have e1 : core = [] := (List.append_eq_nil_iff.mp hcs).1
      have e2 : suf = [] := (List.append_eq_nil_iff.mp hcs).2
      subst e1; subst e2
      have e3 : pre.length = (pre ++ [] ++ []).length := by simp
      rw [e3]
      refine .st st_end13 fun sn3 => .step (st_alt2 (by omega) (by omega)) (.st st_end29 fun sn4 => ?_)
      rw [← e3]
      exact fin _ _ _ rfl
    | cons d r =>
      have hd' := hh d (by rw [hcs]; rfl)
      have e3 : pre ++ core ++ suf = pre ++ d :: r := by rw [List.append_assoc, hcs]
      rw [e3] at fin ⊢
      refine .st st13 fun sn3 => ?_
      rw [hd'.1, if_neg (by decide)]
      refine .step (st_alt2 (by omega) (by omega)) (.st st29 fun sn4 => ?_)
      rw [if_neg (by simpa using hd'.2)]
      exact fin _ _ _ rfl
  refine To.le (k := 7 + (9 + (4 * pre.length + 20))) ?_ (by omega)
  refine turn.trans fun m hm => ?_
  obtain ⟨w, hd, sn, lp, rfl, hw⟩ := hm
  -- behind the loop
  refine To.le (k := 8 + (4 * pre.length + 20)) ?_ (by omega)
  refine To.trans (P := fun m => ∃ w sn lp F', m = St (pre ++ core ++ suf) 77 (pre ++ core ++ suf).length F' lp none (mks pre.length (pre.length + core.length) (pre ++ core ++ suf).length) 5 3 (some true) w (pre ++ core ++ suf).length sn om ∧ F'.all fOk = true ∧ F'.length ≤ 4 * pre.length + 10) ?_ fun m hm => ?_
  · refine .st st44 fun sn => .st st46 fun sn => .st (st48 hc hs hl' (by omega)) fun sn => ?_
    refine .st st65 fun sn => .st st67 fun sn => ?_
    have e4 : pre ++ core ++ suf = (pre ++ core) ++ suf ++ [] := by simp
    have e5 : pre.length + core.length = (pre ++ core).length := by simp
    have s69 := fun F lp mk lm li w hd sn om hw => @st69 suf (pre ++ core) [] F lp mk lm li w hd sn om (fun c h => bne_iff_ne.mpr (hn c h)) (fun c h => by cases h) (by rw [← e4]; exact hl') hw
    rw [← e4, ← e5] at s69
    refine .st (s69 _ _ _ _ _ _ _ _ _ (by omega)) fun sn => ?_
    have e6 : pre.length + core.length + suf.length = (pre ++ core ++ suf).length := by simp; omega
    rw [e6]
    refine .st st75 fun sn => .st st77 fun sn => .now ⟨_, _, _, _, rfl, by simp [fOk, h3], by simp; omega⟩
  · obtain ⟨w, sn, lp, F', rfl, hF, hFl⟩ := hm
    exact (pops F' _ hF rfl rfl rfl rfl rfl rfl rfl rfl).le (by omega)
end Mine

end

section
open PySem PySem.W PyProof.Rows PySem.Calls
namespace Mine
theorem slot_re_search : PySem.Slot "re.Pattern" "search" "re.Pattern.search" :=
  .of (owner := "re.Pattern") (n := "search") (by rw [typeLookup_type, builtinLookup_eq_fast]; kernel_rfl) (by decide +kernel) (by decide +kernel) (by decide +kernel)
    (by first | exact .inl (by decide +kernel) | exact .inr (by decide +kernel)) (by rw [isSubtype_type]; kernel_rfl)
theorem type_re_search : typeOf (.builtin "re.Pattern.search") = pure (.type "method_descriptor") := by show builtinType _ = _; rw [builtinType_eq_fast]; kernel_rfl
theorem entry_re_search : entryFor table "re.Pattern.search" = some Builtin.«re.Pattern.search» := entryFor_of_tree (by kernel_rfl)
theorem slot_re_groups : PySem.Slot "re.Match" "groups" "re.Match.groups" :=
  .of (owner := "re.Match") (n := "groups") (by rw [typeLookup_type, builtinLookup_eq_fast]; kernel_rfl) (by decide +kernel) (by decide +kernel) (by decide +kernel)
    (by first | exact .inl (by decide +kernel) | exact .inr (by decide +kernel)) (by rw [isSubtype_type]; kernel_rfl)
theorem type_re_groups : typeOf (.builtin "re.Match.groups") = pure (.type "method_descriptor") := by show builtinType _ = _; rw [builtinType_eq_fast]; kernel_rfl
theorem entry_re_groups : entryFor table "re.Match.groups" = some Builtin.«re.Match.groups» := entryFor_of_tree (by kernel_rfl)
theorem plain_re_Pattern : PlainAttrs "re.Pattern" :=
  ⟨⟨"object.__getattribute__", by rw [typeLookup_type, builtinLookup_eq_fast]; kernel_rfl, by decide +kernel⟩, by rw [typeLookup_type, builtinLookup_eq_fast]; kernel_rfl⟩
theorem plain_re_Match : PlainAttrs "re.Match" :=
  ⟨⟨"object.__getattribute__", by rw [typeLookup_type, builtinLookup_eq_fast]; kernel_rfl, by decide +kernel⟩, by rw [typeLookup_type, builtinLookup_eq_fast]; kernel_rfl⟩
theorem args_re_search (a b : Value) : argsOk "re.Pattern.search" ⟨[a, b], []⟩ := by
  unfold argsOk; kernel_rfl
theorem args_re_groups (a : Value) : argsOk "re.Match.groups" ⟨[a], []⟩ := by
  unfold argsOk; kernel_rfl

theorem step_fix {m : Sre.M} (h : m.outcome.isSome = true) : ∀ n, stepN n m = m
  | 0 => rfl
  | n + 1 => by
    show stepN n m.step = m
    have : m.step = m := by unfold Sre.M.step; rw [if_pos h]
    rw [this]; exact step_fix h n
theorem runFor_eq : ∀ (n : Nat) (m : Sre.M), m.runFor n = stepN n m
  | 0, m => rfl
  | n + 1, m => by
    unfold Sre.M.runFor
    by_cases h : m.outcome.isSome = true
    · rw [if_pos h, step_fix h]
    · rw [if_neg h]; exact runFor_eq n m.step
theorem wp_drive {M : Model} {A : Around} {E : Value → Shared → Prop} {s : Shared} {P : Sre.M → Prop} (hP : ∀ m, P m → m.outcome.isSome = true) : ∀ (turns j : Nat) (m : Sre.M), P (stepN j m) → j < 4 * turns →
    wpAny M A (Builtin.Re.reDrive turns m) (fun m' s' => s' = s ∧ P m') E s
  | 0, j, m, _, h => by omega
  | turns + 1, j, m, hp, h => by
    unfold Builtin.Re.reDrive
    show wpAny M A (if (m.runFor 4).outcome.isSome then pure (m.runFor 4) else do rule "sre.turn"; Builtin.Re.reDrive turns (m.runFor 4)) _ E s
    rw [runFor_eq]
    by_cases h4 : (stepN 4 m).outcome.isSome = true
    · rw [if_pos h4]
      refine wpAny_pure ⟨rfl, ?_⟩
      have : stepN j m = stepN 4 m := by
        by_cases hj : j ≤ 4
        · have e := stepN_add j (4 - j) m
          rw [step_fix (hP _ hp), show j + (4 - j) = 4 by omega] at e
          exact e.symm
        · have e := stepN_add 4 (j - 4) m
          rw [step_fix h4, show 4 + (j - 4) = j by omega] at e
          exact e
      rw [← this]; exact hp
    · rw [if_neg h4]
      refine wpAny_bind (wpAny_rule ?_)
      have hj : 4 < j := by
        refine Nat.lt_of_not_le fun hj => h4 ?_
        have e := stepN_add j (4 - j) m
        rw [step_fix (hP _ hp), show j + (4 - j) = 4 by omega] at e
        rw [e]; exact hP _ hp
      have e := stepN_add 4 (j - 4) m
      rw [show 4 + (j - 4) = j by omega] at e
      rw [e] at hp
      exact wp_drive hP turns (j - 4) _ hp (by omega)

theorem wp_rules {M : Model} {A : Around} {E : Value → Shared → Prop} {s : Shared} (m : Sre.M) : ∀ l : List Nat,
    wpAny M A (forIn l PUnit.unit fun i (_ : PUnit) => if m.seen.has i then do rule (Sre.names.getD i ""); pure (ForInStep.yield PUnit.unit) else pure (ForInStep.yield PUnit.unit)) (fun _ s' => s' = s) E s
  | [] => by rw [List.forIn_nil]; exact wpAny_pure rfl
  | i :: l => by
    rw [List.forIn_cons]
    refine wpAny_bind ?_
    split
    · exact wpAny_bind (wpAny_rule (wpAny_pure (wp_rules m l)))
    · exact wpAny_pure (wp_rules m l)

theorem wp_runToEnd {M : Model} {A : Around} {E : Value → Shared → Prop} {s : Shared} {mk lm li hd k} {m : Sre.M} (h : To k m (MDone mk lm li hd)) (hk : k ≤ 100000000) {R : Option Sre.M → Shared → Prop} (q : ∀ m', MDone mk lm li hd m' → R (some m') s) :
    wpAny M A (Builtin.Re.reRunToEnd m) R E s := by
  obtain ⟨j, hj, hm⟩ := h
  unfold Builtin.Re.reRunToEnd
  refine wpAny_bind (wpAny_mono (wp_drive (s := s) (fun m h => by rw [h.out]; rfl) (2 ^ 64) j m hm (by omega)) (fun m' s' ⟨e, d⟩ => ?_) fun _ _ x => x)
  subst e
  refine wpAny_bind (wpAny_mono (wp_rules m' (List.range Sre.names.size)) (fun _ s'' e => ?_) fun _ _ x => x)
  subst e
  rw [d.out]
  exact wpAny_pure (q m' d)
end Mine

end

section
open PySem PySem.W PyProof.Rows PySem.Calls
namespace Mine

/-- the pattern object of the text -/
def RePat (W : Wd) (p : Addr) : Prop := ∃ a0 a1 a3 a4 u u' c sl oc od items n sl', W.K.lookup p = some ⟨.type "re.Pattern", none, .fields #[a0, a1, .int 3 u, a3, a4, .ref c, .int 0 u'], sl⟩ ∧
  W.K.lookup c = some ⟨oc, od, .seq items n, sl'⟩ ∧ (Array.map Builtin.Re.reRawOf items).map (fun x => x.toNat) = reCode

section
variable {W : Wd} {C : Ac W} {E : Value → Shared → Prop} {ρ : Rho} {Q : PV → Prop}

theorem Gm.search {p : Addr} {P : Value → Prop} (hp : RePat W p) (q : P (.builtin "re.Pattern.search")) : Gm C E "search" (.con (.ref p)) P := fun Z s a pl S r => by
  cases r
  obtain ⟨a0, a1, a3, a4, u, u', c, sl, oc, od, items, n, sl', hp, hc, codeBack⟩ := hp
  have ho := (W.kin.keeps S.keep) _ _ hp
  have hT : s.TypeIs (.ref p) "re.Pattern" := ⟨_, ho, rfl⟩
  have hq : (fun (r : Value × List Value) (s' : Shared) => Go W.G s s' ∧ r.2 = [Value.ref p] ∧ Kpr W r.1 ∧ P r.1) (Value.builtin "re.Pattern.search", [Value.ref p]) s := ⟨.refl _ _, rfl, .builtin _, q⟩
  with_reducible exact getMethod_builtin hT plain_re_Pattern slot_re_search type_re_search (fun a e => by cases e; exact ⟨_, ho, rfl⟩) hq
theorem Gm.groups {x : List Nat} {sp : List Int} {P : Value → Prop} (q : P (.builtin "re.Match.groups")) : Gm C E "groups" (.mat x sp) P := fun Z s a pl S r => by
  cases r with
  | @mat a T x t pat p l i spans n h1 h2 =>
    have ho := S.z.zin _ _ h1
    have hT : s.TypeIs (.ref a) "re.Match" := ⟨_, ho, rfl⟩
    have hq : (fun (r : Value × List Value) (s' : Shared) => Go W.G s s' ∧ r.2 = [Value.ref a] ∧ Kpr W r.1 ∧ P r.1) (Value.builtin "re.Match.groups", [Value.ref a]) s := ⟨.refl _ _, rfl, .builtin _, q⟩
    with_reducible exact getMethod_builtin hT plain_re_Match slot_re_groups type_re_groups (fun a e => by cases e; exact ⟨_, ho, rfl⟩) hq

theorem newMatch {A A' : Around} {Z : ZMap} {s : Shared} {x : List Nat} {t : Tok} {p : Addr} {a b : Nat} {m : Sre.M} (S : StG W A Z s) (h : MDone (mks a b x.length) 5 3 x.length m) (hab : a ≤ b) (hb : b ≤ x.length) (q : Q (.mat x [0, x.length, 0, a, a, b, b, x.length])) :
    wpAny W.M A' (Builtin.Re.reNewMatch (.ref p) (.str (tx x) t) 3 0 x.length m) (Pst (W := W) Z s Q) E s := by
  unfold Builtin.Re.reNewMatch
  simp only [h.marks, h.lastm, h.lasti, h.handed, h.start]
  have hany : (List.range 3).any (fun g => match (mks a b x.length).getD (2 * g) none, (mks a b x.length).getD (2 * g + 1) none with | some b, some e => ((2 * g + 1 : Nat) : Int) ≤ 5 && e < b | _, _ => false) = false := by
    show ((decide (((1 : Nat) : Int) ≤ 5) && decide (a < 0)) || ((decide (((3 : Nat) : Int) ≤ 5) && decide (b < a)) || ((decide (((5 : Nat) : Int) ≤ 5) && decide (x.length < b)) || false))) = false
    rw [decide_eq_false (show ¬ a < 0 by omega), decide_eq_false (show ¬ b < a by omega), decide_eq_false (show ¬ x.length < b by omega)]
    simp
  rw [if_neg (by refine Bool.eq_false_iff.mp ?_; exact hany)]
  refine wpAny_bind (wpAny_newTuple ?_ (by show 8 ≤ sizeLine; rw [sizeLine_eq]; omega))
  let oT : Obj := { cls := .type "tuple", data := .seq (([0, x.length, 0, a, a, b, b, x.length] : List Int).map rawInt).toArray }
  have g₁ : Go W.G s { s with heap := s.heap.push oT } := Go.heap (t := s.toks) fun b o e => Heap.get?_push_of_some _ e
  have z₁ : ZExt s.heap Z (zput Z s.heap.objs.size oT) := .put S.z fresh
  have S₁ : StG W A (zput Z s.heap.objs.size oT) { s with heap := s.heap.push oT } := S.go g₁ z₁ (ZOk.put (S.z.go g₁.kp) (Heap.get?_push_size _ rfl) (by simp [oT]))
  refine wpAny_newObj_type ?_ (by show 6 ≤ sizeLine + 2; rw [sizeLine_eq]; omega)
  exact .back g₁ z₁ (Pst.push (t := s.toks) S₁ rfl (by simp) (fun Z' hs h' => .mat h' (hs _ _ (zput_at _ _ _))) q)

theorem Oc.search {p : Addr} {x pre core suf : List Nat} (hp : RePat W p) (hx : x = pre ++ core ++ suf) (h1 : Pre pre) (h2 : ∀ c ∈ core, inS2 c = true) (h3 : ∀ c, suf.head? = some c → inS2 c = false) (h4 : ∀ c, (core ++ suf).head? = some c → inS1 c = true ∧ c ≠ 39)
    (h5 : ∀ c ∈ suf, c ≠ 10) (hl : x.length ≤ 1000000) (q : Q (.mat x [0, x.length, 0, pre.length, pre.length, (pre.length + core.length : Nat), (pre.length + core.length : Nat), x.length])) :
    Oc C E (.builtin "re.Pattern.search") [.con (.ref p), .str x] Q := fun Z s vs S r => by
  cases r with
  | cons r₁ r₂ =>
    cases r₂ with
    | cons r₂ r₃ =>
      cases r₃; cases r₁
      cases r₂ with
      | str x t =>
        obtain ⟨a0, a1, a3, a4, u, u', c, sl, oc, od, items, n, sl', hp, hc, codeBack⟩ := hp
        have X := W.kin.keeps S.keep
        have ho := X _ _ hp
        have hoc := X _ _ hc
        refine wpAny_call_entry slot_re_search ⟨_, ho, rfl⟩ entry_re_search ?_ (args_re_search _ _)
        unfold Builtin.«re.Pattern.search» Builtin.Re.reTarget
        refine wpAny_bind (wpAny_bind (wpAny_of_eq (show Builtin.Re.reNamed "re.Pattern.search" "search" ["string", "pos", "endpos"] 1 [.str (tx x) t] [] = pure [some (.str (tx x) t), none, none] from rfl) ?_))
        refine wpAny_bind (wpAny_pure (wpAny_bind (wpAny_pure ?_)))
        refine wpAny_bind (wpAny_fieldsOf ho rfl ?_)
        refine wpAny_bind (wpAny_of_eq (show Builtin.Re.reTextOf (.str (tx x) t) = pure (x.toArray, 0) from rfl) ?_)
        refine wpAny_bind (wpAny_pure ?_)
        refine wpAny_bind (wpAny_bind (wpAny_seqItems hoc rfl (wpAny_pure ?_)))
        refine wpAny_pure ?_
        have e1 : min ((2 ^ 63 - 1 : Int)).toNat x.toArray.size = x.length := by
          rw [List.size_toArray]; omega
        have e0 : min (0 : Int).toNat x.toArray.size = 0 := by simp
        show wpAny _ _ (Builtin.Re.reAnswer ⟨.ref p, .str (tx x) t, (Array.map Builtin.Re.reRawOf items).map (fun x => x.toNat), x.toArray, 0, 3, min (0 : Int).toNat x.toArray.size, min ((2 ^ 63 - 1 : Int)).toNat x.toArray.size⟩
          (Sre.forSearch ((Array.map Builtin.Re.reRawOf items).map (fun x => x.toNat)) x.toArray 3 (min (0 : Int).toNat x.toArray.size) (min ((2 ^ 63 - 1 : Int)).toNat x.toArray.size) false)) _ _ s
        rw [codeBack, e0, e1]
        have run := search_to h1 h2 h3 h4 h5 (by rw [← hx]; omega)
        rw [← hx] at run
        have hlen : x.length = pre.length + core.length + suf.length := by rw [hx]; simp only [List.length_append]
        have hk : 100 + 8 * x.length ≤ 100000000 := by omega
        generalize Sre.forSearch reCode x.toArray 3 0 x.length false = m0 at run ⊢
        generalize 100 + 8 * x.length = k at run hk
        unfold Builtin.Re.reAnswer
        refine wpAny_bind (wp_runToEnd run hk ?_)
        intro m hm
        dsimp only
        refine wpAny_bind (wpAny_mono (newMatch (p := p) (t := t) S hm (by omega) (by omega) q) (fun v s' h => wpAny_pure ⟨v, rfl, h⟩) fun _ _ x => x)

theorem reSliceE {M : Model} {A : Around} {s : Shared} {x : List Nat} {b e : Nat} {R : Value → Shared → Prop} (hl : x.length ≤ 1000000) (h : R (.str (tx ((x.take e).drop b)) s.toks) { s with toks := s.toks + 1 }) : wpAny M A (Builtin.Re.reSlice x.toArray 0 b e) R E s := by
  have e1 : (⟨x.toArray.extract b e⟩ : Str) = tx ((x.take e).drop b) := by
    congr 1; apply Array.ext'; simp [List.drop_take]
  show wpAny M A (mkStr ⟨x.toArray.extract b e⟩) R E s
  rw [e1]
  refine wpAny_mkStr h ?_
  have : ((x.take e).drop b).length ≤ x.length := by rw [List.length_drop, List.length_take]; omega
  simp only [Str.length, List.size_toArray]; rw [sizeLine_eq]; omega

theorem Oc.groups {pre core suf : List Nat} (hl : (pre ++ core ++ suf).length ≤ 1000000) (q : Q (.tup [.str pre, .str core, .str suf])) :
    Oc C E (.builtin "re.Match.groups") [.mat (pre ++ core ++ suf) [0, (pre ++ core ++ suf).length, 0, pre.length, pre.length, (pre.length + core.length : Nat), (pre.length + core.length : Nat), (pre ++ core ++ suf).length]] Q := fun Z s vs S r => by
  cases r with
  | cons r₁ r₂ =>
    cases r₂
    cases r₁ with
    | @mat a T x t pat p l i spans n h1 h2 =>
      have ho := S.z.zin _ _ h1
      have hT := S.z.zin _ _ h2
      refine wpAny_call_entry slot_re_groups ⟨_, ho, rfl⟩ entry_re_groups ?_ (args_re_groups _)
      unfold Builtin.«re.Match.groups» Builtin.Re.reWithDefault
      refine wpAny_bind (wpAny_bind (wpAny_of_eq (show Builtin.Re.reNamed "re.Match.groups" "groups" ["default"] 0 [] [] = pure [none] from rfl) ?_))
      unfold Builtin.Re.reFound
      refine wpAny_bind (wpAny_bind (wpAny_fieldsOf ho rfl (wpAny_bind (wpAny_bind (wpAny_seqItems hT rfl (wpAny_pure (wpAny_pure (wpAny_pure ?_))))))))
      have one : ∀ (x : Builtin.Re.ReFound) (g b e : Nat) (s : Shared) (R : Value → Shared → Prop), x.spans.getD (2 * g) (-1) = (b : Int) → x.spans.getD (2 * g + 1) (-1) = (e : Int) → x.fields.getD 0 .none = .str (tx (pre ++ core ++ suf)) t →
          R (.str (tx (((pre ++ core ++ suf).take e).drop b)) s.toks) { s with toks := s.toks + 1 } → wpAny W.M C.A.in1 (Builtin.Re.reGroupText x g .none) R E s := fun x g b e s R hb he hf h => by
        unfold Builtin.Re.reGroupText
        rw [hb, he, hf]
        show wpAny _ _ (if (decide ((b : Int) < 0) || decide ((e : Int) < 0)) = true then _ else _) _ _ _
        rw [if_neg (by rw [decide_eq_false (by omega), decide_eq_false (by omega)]; decide)]
        refine wpAny_bind (wpAny_of_eq (show Builtin.Re.reTextOf (.str (tx (pre ++ core ++ suf)) t) = pure ((pre ++ core ++ suf).toArray, 0) from rfl) ?_)
        exact reSliceE hl h
      have e1 : ((pre ++ core ++ suf).take pre.length).drop 0 = pre := by rw [List.append_assoc]; simp
      have e2 : ((pre ++ core ++ suf).take (pre.length + core.length)).drop pre.length = core := by
        rw [← List.length_append, List.take_left' rfl]; simp
      have e3 : ((pre ++ core ++ suf).take (pre ++ core ++ suf).length).drop (pre.length + core.length) = suf := by
        rw [List.take_length, ← List.length_append]; simp
      have three : ∀ (F : Nat → Sem Value) (R : List Value → Shared → Prop) (s : Shared) (n : Nat), n = 3 → wpAny W.M C.A.in1 (F 0) (fun u s => wpAny W.M C.A.in1 (F 1) (fun v s => wpAny W.M C.A.in1 (F 2) (fun w s => R [u, v, w] s) E s) E s) E s →
          wpAny W.M C.A.in1 (List.mapM F (List.range n)) R E s := fun F R s n hn h => by
        subst hn
        show wpAny _ _ (List.mapM F [0, 1, 2]) R E s
        rw [List.mapM_cons, List.mapM_cons, List.mapM_cons, List.mapM_nil]
        refine wpAny_bind (wpAny_mono h (fun u s h => ?_) fun _ _ x => x)
        refine wpAny_bind (wpAny_bind (wpAny_mono h (fun u s h => ?_) fun _ _ x => x))
        refine wpAny_bind (wpAny_bind (wpAny_mono h (fun u s h => ?_) fun _ _ x => x))
        exact wpAny_bind (wpAny_pure (wpAny_pure (wpAny_pure (wpAny_pure h))))
      refine wpAny_bind (three _ _ _ _ (by simp) (one _ 1 0 pre.length _ _ (by simp [Builtin.Re.reRawOf, rawInt]) (by simp [Builtin.Re.reRawOf, rawInt]) rfl (one _ 2 pre.length (pre.length + core.length) _ _ (by simp [Builtin.Re.reRawOf, rawInt]) (by simp [Builtin.Re.reRawOf, rawInt]) rfl (one _ 3 (pre.length + core.length) (pre ++ core ++ suf).length _ _ (by simp [Builtin.Re.reRawOf, rawInt]) (by generalize (pre ++ core ++ suf).length = k; simp [Builtin.Re.reRawOf, rawInt]) rfl ?_))))
      rw [e1, e2, e3]
      refine wpAny_bind (wpAny_newTuple ?_ (by show 3 ≤ sizeLine; rw [sizeLine_eq]; omega))
      refine wpAny_pure ⟨_, rfl, ?_⟩
      refine Pst.push S rfl (by simp) (fun Z' hs h' => .tup h' rfl rfl ?_) q
      exact .cons (.str _ _) (.cons (.str _ _) (.cons (.str _ _) .nil))
end
end Mine

end

section
open PySem PySem.W PyProof.Rows PySem.Calls
namespace Mine

/-- what a class says of reading and of storing -/
structure CF (W : Wd) (C : Addr) : Prop where
  ga : findIn W.K (.ref C) "__getattribute__" = some (some (.builtin "object.__getattribute__"))
  gk : findIn W.K (.ref C) "__getattr__" = some none
  sa : findIn W.K (.ref C) "__setattr__" = some (some (.builtin "object.__setattr__"))
  hd : hasDictIn W.K C = true
  po : plainOver W.K C = true

theorem isStr_str (x name : Str) (t : Tok) : (Value.str x t).isStr name = (x == name) := rfl
theorem RepE.get {Z : ZMap} {name : Str} {p : PV} : ∀ {es : List DictEntry} {fs : List (Str × PV)}, RepE Z es fs → fs.lookup name = some p → ∃ v, getL name es = some (some v) ∧ Rep Z v p
  | _, _, .nil, h => by cases h
  | _, _, @RepE.cons _ k x t v q es fs r rs, h => by
    rw [List.lookup_cons] at h
    have ef : (⟨k, .str x t, v⟩ :: es : List DictEntry).find? (·.key.isStr name) = if (x == name) = true then some ⟨k, .str x t, v⟩ else es.find? (·.key.isStr name) := by
      rw [List.find?_cons]
      show (match (x == name) with | true => _ | false => _) = _
      cases x == name <;> rfl
    unfold getL
    rw [ef]
    cases hx : x == name with
    | true =>
      have : (name == x) = true := by rw [beq_iff_eq] at hx ⊢; exact hx.symm
      rw [this] at h; cases h
      exact ⟨v, rfl, r⟩
    | false =>
      have : (name == x) = false := by
        rw [beq_eq_false_iff_ne] at hx ⊢; exact fun e => hx e.symm
      rw [this] at h
      obtain ⟨u, hu, ru⟩ := RepE.get rs h
      unfold getL at hu
      refine ⟨u, ?_, ru⟩
      cases hf : es.find? (·.key.isStr name) with
      | none => rw [hf] at hu; dsimp only at hu; split at hu <;> cases hu
      | some e => rw [hf] at hu; exact hu
theorem RepE.noRef {Z : ZMap} : ∀ {es : List DictEntry} {fs : List (Str × PV)}, RepE Z es fs → es.any (·.refKey) = false
  | _, _, .nil => rfl
  | _, _, .cons _ rs => by rw [List.any_cons, RepE.noRef rs]; rfl
theorem RepE.find_none {Z : ZMap} {name : Str} : ∀ {es : List DictEntry} {fs : List (Str × PV)}, RepE Z es fs → fs.lookup name = none → es.find? (·.key.isStr name) = none
  | _, _, .nil, _ => rfl
  | _, _, @RepE.cons _ k x t v q es fs r rs, h => by
    rw [List.lookup_cons] at h
    rw [List.find?_cons]
    show (match (x == name) with | true => some _ | false => es.find? (·.key.isStr name)) = none
    cases hx : name == x with
    | true => rw [hx] at h; cases h
    | false =>
      rw [hx] at h
      have : (x == name) = false := by
        rw [beq_eq_false_iff_ne] at hx ⊢; exact fun e => hx e.symm
      rw [this]; exact RepE.find_none rs h
theorem RepE.miss {Z : ZMap} {name : Str} {es : List DictEntry} {fs : List (Str × PV)} (r : RepE Z es fs) (h : fs.lookup name = none) : getL name es = some none := by
  unfold getL; rw [r.find_none h, r.noRef]; rfl
theorem RepE.length {Z : ZMap} : ∀ {es : List DictEntry} {fs : List (Str × PV)}, RepE Z es fs → es.length = fs.length
  | _, _, .nil => rfl
  | _, _, .cons _ rs => by rw [List.length_cons, List.length_cons, RepE.length rs]
theorem RepE.snoc {Z : ZMap} {k : Int} {x : Str} {t : Tok} {v : Value} {p : PV} (r : Rep Z v p) : ∀ {es : List DictEntry} {fs : List (Str × PV)}, RepE Z es fs → RepE Z (es ++ [⟨k, .str x t, v⟩]) (fs ++ [(x, p)])
  | _, _, .nil => .cons r .nil
  | _, _, .cons a rs => .cons a (RepE.snoc r rs)
theorem RepE.putL {Z : ZMap} {name : Str} {es : List DictEntry} {fs : List (Str × PV)} (r : RepE Z es fs) (h : fs.lookup name = none) (k : Int) (key v : Value) : putL name k key v es = es ++ [⟨k, key, v⟩] := by
  rw [← putL_find]
  have := r.find_none h
  rw [List.find?_eq_none] at this
  rw [show es.findIdx? (fun x => x.key.isStr name) = none from List.findIdx?_eq_none_iff.mpr fun e he => by simpa using this e he]
theorem RepE.putN {Z : ZMap} {name : Str} {es : List DictEntry} {fs : List (Str × PV)} (r : RepE Z es fs) (h : fs.lookup name = none) (n : Nat) : putN name es n = n + 1 := by
  unfold PySem.W.putN
  have := r.find_none h
  rw [List.find?_eq_none] at this
  rw [if_neg]
  rw [List.any_eq_true]
  rintro ⟨e, he, h⟩
  exact this e he h

def PV.handed : PV → Bool
  | .con _ => false
  | _ => true
theorem handed_of {Z : ZMap} {v : Value} {p : PV} (r : Rep Z v p) (h : p.handed = true) : handedIn v = true := by
  cases r <;> first | rfl | cases h

section
variable {W : Wd} {C : Ac W} {E : Value → Shared → Prop} {ρ : Rho} {Q : PV → Prop}

theorem Ev.attr {e : Expr} {name : Str} {pos : Pos} (h : Ev C E ρ e fun x => ∃ K a fs p, x = .obj K a fs ∧ CF W K ∧ findIn W.K (.ref K) name = some Option.none ∧ fs.lookup name = some p ∧ p.handed = true ∧ Q p)
    (he : eval (.Attribute e name pos) C.env = (do
      let o ← eval e C.env
      standAt pos.atName
      let r ← holding [o] (getAttr o name true)
      letTemporaryGo e o r
      pure r) := by with_unfolding_all rfl) : Ev C E ρ (.Attribute e name pos) Q := fun Z s S => by
  refine Attribute_any_ (he := he) (bindP (h Z s S) fun v s₁ Z₁ x g₁ e₁ z₁ r₁ ⟨K, a, fs, p, hx, cf, hf, hl, hh, q⟩ => ?_)
  subst hx
  cases r₁ with
  | @obj C a dx es n fs h1 h2 h3 =>
    have S₁ := (S.go g₁ e₁ z₁).toG
    obtain ⟨u, hu, ru⟩ := h3.get hl
    refine get_value (od := some (dictOf es n)) (W.kin.keeps S₁.keep) ⟨z₁.zin _ _ h1, rfl, rfl, z₁.zin _ _ h2⟩ cf.ga (findObj_own (v := u) cf.hd hf rfl hu) (handed_of ru hh) ?_
    exact .back g₁ e₁ (.here S₁ (.tok _ _ _) ru q)
theorem Gm.inst {K a f : Addr} {name : Str} {fs : List (Str × PV)} {P : Value → Prop} (cf : CF W K) (hf : findIn W.K (.ref K) name = some (some (.ref f))) (ht : isFn W.K (.ref f) = true) (hk : keepIn W.K (.ref f) = true) (hl : fs.lookup name = Option.none) (q : P (.ref f)) :
    Gm C E name (.obj K a fs) P := fun Z s v pl S r => by
  cases r with
  | @obj C a dx es n fs h1 h2 h3 =>
    exact method_fn (od := some (dictOf es n)) (W.kin.keeps S.keep) ⟨S.z.zin _ _ h1, rfl, rfl, S.z.zin _ _ h2⟩ cf.ga cf.gk hf (beq_iff_eq.mp ht) (by show (lookIn name (dictOf es n)).map _ = _; rw [lookIn_dict, h3.miss hl]; rfl) ⟨.refl _ _, rfl, .k hk, q⟩
end
end Mine

end

section
open PySem PySem.W PyProof.Rows PySem.Calls
namespace Mine

/-- all objects of a heap but two -/
def others (h : Heap) (d L : Addr) : List (Addr × Obj) := (List.range h.objs.size).filterMap fun a => if a = d ∨ a = L then none else (h.get? a).map fun o => (a, o)
theorem mem_others {h : Heap} {d L : Addr} {p : Addr × Obj} : p ∈ others h d L ↔ h.get? p.1 = some p.2 ∧ p.1 ≠ d ∧ p.1 ≠ L := by
  unfold others
  rw [List.mem_filterMap]
  constructor
  · rintro ⟨a, _, e⟩
    split at e
    · cases e
    · rename_i hn
      obtain ⟨o, ho, rfl⟩ := Option.map_eq_some_iff.mp e
      exact ⟨ho, fun e => hn (.inl e), fun e => hn (.inr e)⟩
  · rintro ⟨h1, h2, h3⟩
    refine ⟨p.1, List.mem_range.mpr (Heap.lt_size h1), ?_⟩
    rw [if_neg (by rintro (e | e); exact h2 e; exact h3 e), h1]; rfl
theorem empty_get (a : Addr) : (⟨#[], {}⟩ : Heap).get? a = none := by simp [Heap.get?]

/-- an instance that is being laid -/
structure Slf (W : Wd) (K x dx : Addr) (Z B : ZMap) (s : Shared) (es : List DictEntry) (n : Nat) (fs : List (Str × PV)) : Prop where
  inst : Z x = some (instObj K dx)
  at_ : s.heap.get? dx = some (dictOf es n)
  rep : RepE Z es fs
  zd : Z dx = none
  bd : B dx = none
  gd : W.G.get? dx = none

section
variable {W : Wd} {C : Ac W} {s₀ : Shared} {E : Value → Shared → Prop} {ρ : Rho} {Z B : ZMap} {s : Shared} {K x dx : Addr} {es : List DictEntry} {n : Nat} {fs : List (Str × PV)}

theorem setDict {name : Str} {v : Value} {p : PV} {T : Unit → Shared → Prop} (S : StS W C s₀ ρ [] Z B s) (I : Slf W K x dx Z B s es n fs) (nl : dx ≠ C.env.locals) (nc : C.env.cells = []) (cf : CF W K) (ht : takerIn W.K K name = some none)
    (hl : fs.lookup name = none) (hz : fs.length ≤ 900) (rv : Rep Z v p)
    (k : ∀ s' es' n', StS W C s₀ ρ [] Z B s' → Slf W K x dx Z B s' es' n' (fs ++ [(name, p)]) → T () s') : wpAny W.M C.A (setAttr (.ref x) name v) T E s := by
  obtain ⟨m, hn⟩ := S.ns
  have X := W.kin.keeps S.toE.toG.keep
  have N : News ⟨#[], {}⟩ C.env.locals s.heap ([] ++ (dx, dictOf es n) :: others s.heap dx C.env.locals) := fun q hq => by
    rcases List.mem_cons.mp hq with rfl | hq
    · exact ⟨I.at_, nl, empty_get _⟩
    · obtain ⟨a, b, c⟩ := mem_others.mp hq
      exact ⟨a, c, empty_get _⟩
  have F : Fr ⟨#[], {}⟩ C.env.locals s.heap m := ⟨hn, fun b o e => (by rw [empty_get] at e; cases e), Nat.zero_le _⟩
  have inst : InstAt s.heap x (instObj K dx) K (some (dictOf es n)) := ⟨S.toE.toG.z.zin _ _ I.inst, rfl, rfl, I.at_⟩
  refine set_plain X inst cf.sa (osa_dict (s := { s with toks := s.toks + 1 }) (od' := dictOf (es ++ [⟨PyData.keyHash W.w.params name, .str name (s.toks + 1), v⟩]) (n + 1)) (es := es ++ [⟨PyData.keyHash W.w.params name, .str name (s.toks + 1), v⟩]) (n := n + 1) F N X inst rfl cf.po ht cf.hd ?_ (fun _ h => nomatch h) (fun q hq => (mem_others.mp hq).2.1) ?_ rfl ?_ fun h' F' N' => ?_)
  · rw [lookIn_dict, I.rep.miss hl]; rfl
  · rw [putName_dict, I.rep.putL hl, I.rep.putN hl]
  · rw [List.length_append, I.rep.length, List.length_singleton]; omega
  · have kp : ∀ b o, b ≠ dx → b ≠ C.env.locals → s.heap.get? b = some o → h'.get? b = some o := fun b o n1 n2 e => (N' (b, o) (by simp only [List.nil_append]; exact List.mem_cons_of_mem _ (mem_others.mpr ⟨e, n1, n2⟩))).1
    have D := (N' (dx, dictOf (es ++ [⟨PyData.keyHash W.w.params name, .str name (s.toks + 1), v⟩]) (n + 1)) (by simp)).1
    have nz : ∀ b o, Z b = some o → b ≠ dx := fun b o e q => by rw [q, I.zd] at e; cases e
    have nzL : ∀ b o, Z b = some o → b ≠ C.env.locals := fun b o e q => by rw [q, S.zl] at e; cases e
    have S' : StS W C s₀ ρ [] Z B { s with heap := h', toks := s.toks + 1 + 1 } := by
      refine ⟨⟨⟨⟨fun b o e => kp b o (nz b o e) (nzL b o e) (S.toE.toG.z.zin b o e), S.toE.toG.z.zf⟩, S.toE.toG.g, ?_⟩, ?_⟩, ?_, ⟨m, F'.ns⟩, S.zl, S.bl, ?_, S.apart, ?_, fun _ _ _ h => (nomatch h), .nil⟩
      · obtain ⟨outer, f1, f2⟩ := S.toE.toG.ff
        refine ⟨outer, f1, frames_of (fun b o e nd => ?_) f2⟩
        by_cases q : b = C.env.locals
        · obtain ⟨o', es, ep, e1, e2, _⟩ := F'.ns
          exact ⟨o', by rw [q]; exact e1, fun vs e3 => by rw [e2] at e3; cases e3⟩
        · by_cases q' : b = dx
          · exact ⟨_, by rw [q']; exact D, fun vs e => by cases e⟩
          · exact ⟨o, kp b o q' q e, nd⟩
      · intro y q e
        obtain ⟨u, a, ru⟩ := S.toE.vars y q e
        refine ⟨u, ?_, ru⟩
        rcases a with ⟨a1, m', a2, a3⟩ | ⟨a1, c, a2, _⟩
        · exact .inl ⟨a1, m, F'.ns, by rw [Ns_same hn a2]; exact a3⟩
        · rw [nc] at a2; cases a2
      · obtain ⟨h₁, t₁, hs⟩ := S.eq
        exact ⟨h', _, by rw [hs]⟩
      · intro y c hc; rw [nc] at hc; cases hc
      · intro b o e
        obtain ⟨o', h1, r⟩ := S.bin b o e
        exact ⟨o', kp b o' (fun q => by rw [q, I.bd] at e; cases e) (fun q => by rw [q, S.bl] at e; cases e) h1, r⟩
    exact k _ _ _ S' ⟨I.inst, D, I.rep.snoc rv, I.zd, I.bd, I.gd⟩

theorem Slf.go {Z' : ZMap} {s' : Shared} (I : Slf W K x dx Z B s es n fs) (g : Go W.G s s') (e : ZExt s.heap Z Z') : Slf W K x dx Z' B s' es n fs :=
  ⟨e.sub _ _ I.inst, g.kp.get I.at_ (.inl (by simp)), I.rep.mono e.sub, (e.old _ _ I.at_).trans I.zd, I.bd, I.gd⟩

/-- statements that lay an instance -/
def Exi {W : Wd} (C : Ac W) (s₀ : Shared) (E : Value → Shared → Prop) (K x dx : Addr) (ρ : Rho) (fs : List (Str × PV)) (ss : List Stmt) (R : List (Str × PV) → Prop) : Prop :=
  ∀ Z B s es n, StS W C s₀ ρ [] Z B s → Slf W K x dx Z B s es n fs → wpAny W.M C.A (execs ss C.env) (fun f s' => f = .next ∧ ∃ Z' es' n' fs', ZExtB B Z Z' ∧ StS W C s₀ ρ [] Z' B s' ∧ Slf W K x dx Z' B s' es' n' fs' ∧ R fs') E s

variable {R : List (Str × PV) → Prop}
theorem Exi.nil (q : R fs) : Exi C s₀ E K x dx ρ fs [] R := fun Z B s es n S I => wpAny_execs_nil ⟨rfl, Z, es, n, fs, .refl _ _, S, I, q⟩
theorem Exi.store {name y : Str} {value : Expr} {rest : List Stmt} {p₁ p₂ pos : Pos} (nl : dx ≠ C.env.locals) (nc : C.env.cells = []) (cf : CF W K) (ht : takerIn W.K K name = some none) (hl : fs.lookup name = none) (hz : fs.length ≤ 900)
    (hy : ρ.lookup y = some (.con (.ref x))) (hd : (y == ("__debug__" : Str)) = false) (hs : swapsWith value (some (.Attribute (.Name y p₁) name p₂)) pos.line C.env = pure false)
    (h : Ev C E ρ value fun p => Exi C s₀ E K x dx ρ (fs ++ [(name, p)]) rest R) : Exi C s₀ E K x dx ρ fs (.Assign [.Attribute (.Name y p₁) name p₂] value pos :: rest) R := fun Z B s es n S I => by
  refine wpAny_execs_cons (plainObj_wpAny_Assign_Attribute (hs := hs) (bindP (h Z s S.toE) fun v s₁ Z₁ p g₁ e₁ z₁ r₁ q => ?_))
  have S₁ := S.go g₁ e₁ z₁
  have I₁ := I.go g₁ e₁
  refine bindP (Ev.var (Q := fun p => p = .con (.ref x)) hy rfl hd Z₁ s₁ S₁.toE) fun u s₂ Z₂ p₂ g₂ e₂ z₂ r₂ q₂ => ?_
  subst q₂
  cases r₂
  have S₂ := S₁.go g₂ e₂ z₂
  have I₂ := I₁.go g₂ e₂
  refine setDict S₂ I₂ nl nc cf ht hl hz (r₁.mono e₂.sub) fun s₃ es' n' S₃ I₃ => ?_
  refine wpAny_mono (q Z₂ B s₃ es' n' S₃ I₃) (fun f s₄ ⟨hf, Z₄, es₄, n₄, fs₄, e₄, r⟩ => ⟨hf, Z₄, es₄, n₄, fs₄, ((S.zextB e₁).trans (S₁.zextB e₂)).trans e₄, r⟩) fun _ _ x => x
/-- the value reads the instance as it stands -/
theorem Exi.storeSelf {name y : Str} {value : Expr} {rest : List Stmt} {p₁ p₂ pos : Pos} (nl : dx ≠ C.env.locals) (nc : C.env.cells = []) (cf : CF W K) (ht : takerIn W.K K name = some none) (hl : fs.lookup name = none) (hz : fs.length ≤ 900)
    (hy : ρ.lookup y = some (.con (.ref x))) (hd : (y == ("__debug__" : Str)) = false) (hs : swapsWith value (some (.Attribute (.Name y p₁) name p₂)) pos.line C.env = pure false)
    (h : Ev C E ((y, .obj K x fs) :: ρ) value fun p => ∃ i, p = .int i ∧ Exi C s₀ E K x dx ρ (fs ++ [(name, .int i)]) rest R) : Exi C s₀ E K x dx ρ fs (.Assign [.Attribute (.Name y p₁) name p₂] value pos :: rest) R := fun Z B s es n S I => by
  have ze : ZSub Z (zput Z dx (dictOf es n)) := fun b o e => by
    unfold zput
    by_cases q : b = dx
    · subst q; rw [I.zd] at e; cases e
    · rw [if_neg q]; exact e
  have zo : ZOk W.G (zput Z dx (dictOf es n)) s.heap := S.toE.toG.z.put I.at_ (by simp)
  have SE : StE W C ((y, .obj K x fs) :: ρ) (zput Z dx (dictOf es n)) s := by
    refine ⟨⟨zo, fun b o e => ze _ _ (S.toE.toG.g b o e), S.toE.toG.ff⟩, fun z p e => ?_⟩
    rw [List.lookup_cons] at e
    cases hz : z == y with
    | true =>
      rw [hz] at e; cases e
      have := beq_iff_eq.mp hz; subst this
      obtain ⟨v, a, r⟩ := S.toE.vars z _ hy
      cases r
      exact ⟨_, a, .obj (ze _ _ I.inst) (zput_at _ _ _) (I.rep.mono ze)⟩
    | false =>
      rw [hz] at e
      obtain ⟨v, a, r⟩ := S.toE.vars z _ e
      exact ⟨v, a, r.mono ze⟩
  refine wpAny_execs_cons (plainObj_wpAny_Assign_Attribute (hs := hs) (bindP (h _ s SE) fun v s₁ Z₁ p g₁ e₁ z₁ r₁ ⟨i, hi, q⟩ => ?_))
  subst hi
  have S₁ : StS W C s₀ ρ [] Z B s₁ := S.go g₁ (.refl _ _) (S.toE.toG.z.go g₁.kp)
  have I₁ : Slf W K x dx Z B s₁ es n fs := I.go g₁ (.refl _ _)
  refine bindP (Ev.var (Q := fun p => p = .con (.ref x)) hy rfl hd Z s₁ S₁.toE) fun u s₂ Z₂ p₂ g₂ e₂ z₂ r₂ q₂ => ?_
  subst q₂
  cases r₂
  have S₂ := S₁.go g₂ e₂ z₂
  have I₂ := I₁.go g₂ e₂
  cases r₁
  refine setDict S₂ I₂ nl nc cf ht hl hz (.int i _) fun s₃ es' n' S₃ I₃ => ?_
  refine wpAny_mono (q Z₂ B s₃ es' n' S₃ I₃) (fun f s₄ ⟨hf, Z₄, es₄, n₄, fs₄, e₄, r⟩ => ⟨hf, Z₄, es₄, n₄, fs₄, (S₁.zextB e₂).trans e₄, r⟩) fun _ _ x => x

/-- the contract of an __init__ -/
def Init (W : Wd) (k : Nat) (K f : Addr) (ps : List PV) (Q : List (Str × PV) → Prop) : Prop :=
  ∀ A Z s vs x dx, AOk A k → StG W A Z s → Z x = some (instObj K dx) → s.heap.get? dx = some (dictOf [] 0) → Z dx = none → W.G.get? dx = none → RepL Z vs ps →
    codeAny W.M A (.call (.ref f) ⟨.ref x :: vs, []⟩) (fun r s' => r = .ok (.ret .none) ∧ (∃ h tk, s' = { s with heap := h, toks := tk }) ∧ (∀ b o, b ≠ dx → s.heap.get? b = some o → ∃ o', s'.heap.get? b = some o' ∧ o'.cls = o.cls ∧ o'.data = o.data ∧ (o.cls ≠ .type "frame" ∨ (∃ q, W.G.get? b = some q) → o' = o)) ∧
      ∃ Z' es n fs, ZSub Z Z' ∧ (∀ b o, b ≠ dx → s.heap.get? b = some o → Z' b = Z b) ∧ ZOk W.G Z' s'.heap ∧ s'.heap.get? dx = some (dictOf es n) ∧ RepE Z' es fs ∧ Z' dx = none ∧ Q fs) s

theorem tc_weight (K : Addr) (vs : List Value) : Code.weight (.builtin "type.__call__" ⟨.ref K :: vs, []⟩) ≤ 2 := by
  have e : Code.weight (.builtin "type.__call__" ⟨.ref K :: vs, []⟩) = 1 := by kernel_rfl
  rw [e]; omega
theorem tc_units (K : Addr) (vs : List Value) : Code.cUnits (.builtin "type.__call__" ⟨.ref K :: vs, []⟩) = 1 := by kernel_rfl
theorem tc_envs (K : Addr) (vs : List Value) : Code.envs (.builtin "type.__call__" ⟨.ref K :: vs, []⟩) = [] := by kernel_rfl
theorem under_ok {A : Around} {k : Nat} (h : AOk A (k + 1)) (K : Addr) (vs : List Value) : AOk (A.under (.builtin "type.__call__" ⟨.ref K :: vs, []⟩)) k :=
  ⟨h.hh, by have := h.hd; have := tc_weight K vs; show A.depth + Code.weight _ + 2 * k < _; omega, by have := h.hu; show A.units + Code.cUnits _ + 50 * k < _; rw [tc_units]; omega⟩
theorem under_frames (A : Around) (K : Addr) (vs : List Value) : (A.under (.builtin "type.__call__" ⟨.ref K :: vs, []⟩)).frames = A.frames := by
  unfold Around.under; rw [tc_envs]; rfl

theorem Oc.make {C : Ac W} {E : Value → Shared → Prop} {k : Nat} {f : Addr} {ps : List PV} {Q : PV → Prop} (h : Init W k K f ps fun fs => ∀ a, Q (.obj K a fs)) (hk : k + 1 ≤ C.n) (hm : makesIn W.K K = true) (hi : findIn W.K (.ref K) "__init__" = some (some (.ref f)))
    (ht : typeIn W.K (.ref f) = some (.type "function")) (hne : ((some (Value.ref f)) != some (Value.builtin "object.__init__")) = true := by rfl) : Oc C E (.ref K) ps Q := fun Z s vs S r => by
  obtain ⟨hh, g, d, t, os⟩ := s
  have X := W.kin.keeps S.keep
  refine wpAny_call (make_core (makes_of X hm) (looks_findIn X hi) (fun self => bind_fn X self ht) (.inl hne) ?_)
  let dx := hh.objs.size
  let h₁ := hh.push emptyDict
  let h₂ := h₁.push (instObj K dx)
  have k2 : ∀ b o, hh.get? b = some o → h₂.get? b = some o := fun b o e => Heap.get?_push_of_some _ (Heap.get?_push_of_some _ e)
  have hsz : h₁.objs.size = dx + 1 := Heap.size_push _ _
  have hd : h₂.get? dx = some emptyDict := Heap.get?_push_of_some _ (Heap.get?_push_size _ rfl)
  have hx : h₂.get? (dx + 1) = some (instObj K dx) := by rw [← hsz]; exact Heap.get?_push_size _ rfl
  have fx : hh.get? (dx + 1) = none := by
    cases e : hh.get? (dx + 1) with
    | none => rfl
    | some o => exact absurd (Heap.lt_size e) (by show ¬ hh.objs.size + 1 < hh.objs.size; omega)
  have ze : ZExt hh Z (zput Z (dx + 1) (instObj K dx)) := .put S.z fx
  have zo : ZOk W.G (zput Z (dx + 1) (instObj K dx)) h₂ := ZOk.put (S.z.go (.of k2)) hx (by simp)
  have zdx : zput Z (dx + 1) (instObj K dx) dx = none := by
    unfold zput; rw [if_neg (Nat.ne_of_lt (Nat.lt_succ_self _))]; exact Z_fresh S
  have S₂ : StG W (C.A.under (.builtin "type.__call__" ⟨.ref K :: vs, []⟩)) (zput Z (dx + 1) (instObj K dx)) ⟨h₂, g, d, t, os⟩ := by
    have S' := S.go (s' := ⟨h₂, g, d, t, os⟩) ⟨⟨h₂, t, rfl⟩, .of k2⟩ ze zo
    exact ⟨S'.z, S'.g, by rw [under_frames]; exact S'.ff⟩
  refine codeAny_mono (h _ _ ⟨h₂, g, d, t, os⟩ vs (dx + 1) dx (under_ok (C.ok.le hk) _ _) S₂ (zput_at _ _ _) hd zdx (G_fresh S) (r.mono ze.sub)) ?_
  rintro _ s' ⟨rfl, ⟨h', tk, rfl⟩, kp, Z', es, n, fs, zs, zold, zok, hdx, re, zn, q⟩
  refine ⟨rfl, ?_⟩
  have ne : ∀ b o, hh.get? b = some o → b ≠ dx := fun b o e q => absurd (Heap.lt_size e) (by rw [q]; exact Nat.lt_irrefl _)
  have zs' : ZSub Z' (zput Z' dx (dictOf es n)) := fun b o e => by
    unfold zput
    by_cases q : b = dx
    · subst q; rw [zn] at e; cases e
    · rw [if_neg q]; exact e
  refine ⟨⟨⟨h', tk, rfl⟩, fun b o e => kp b o (ne b o e) (k2 b o e)⟩, zput Z' dx (dictOf es n), .obj K (dx + 1) fs, ⟨(ze.sub.trans zs).trans zs', fun b o e => ?_⟩, zok.put hdx (by simp), ?_, q _⟩
  · have n1 := ne b o e
    have : zput Z' dx (dictOf es n) b = Z' b := by unfold zput; rw [if_neg n1]
    rw [this, zold b o n1 (k2 b o e)]
    exact ze.old b o e
  · exact .obj (zs' _ _ (zs _ _ (zput_at _ _ _))) (zput_at _ _ _) (re.mono zs')

/-- an __init__ by its body's walk -/
theorem Init.plain {k : Nat} {f : Addr} {ps : List PV} {Q : List (Str × PV) → Prop} (names : List Str) (binds : List Value → List (Str × Value)) {name qual : Str} {params : Arguments} {body : List Stmt} {scope : Scope} {dV kV doc pm cdv ct oc : Value} {an od : Option Addr} {osl : Array (Option Value)}
    (ho : W.K.lookup f = some ⟨oc, od, .func (fnOf name qual params body scope dV kV doc pm an cdv ct), osl⟩) (hcd : codeIn W.K cdv qual = true)
    (hlen : names.length = ps.length + 1)
    (hb : ∀ s vs, W.K.In s.heap → vs.length = names.length → BindsTo s (fnOf name qual params body scope dV kV doc pm an cdv ct) ⟨vs, []⟩ (names.zip vs))
    (hl : (names.all fun y => scope.names.lookup y == some .local) = true) (hn : names.Nodup)
    (hk : scope.kind = .function) (hcell : ∀ x ∈ scope.names, x.2 ≠ .cell) (hco : scope.isCoroutine = false) (hgen : scope.isGenerator = false)
    (h : ∀ A L s₀ E x dx (ok : AOk A k), dx ≠ L → Exi (acOf W A k ok qual scope L f cdv hk) s₀ E K x dx (names.zip (.con (.ref x) :: ps)) [] body Q) : Init W (k + 1) K f ps Q := fun A Z s vs x dx ok S zx hd zd gd r => by
  have X := W.kin.keeps S.keep
  have rr : RepL Z (.ref x :: vs) (.con (.ref x) :: ps) := .cons (.con _) r
  have hvl : (Value.ref x :: vs).length = names.length := by rw [List.length_cons, r.length, hlen]
  refine codeAny_call_def (fd := fnOf name qual params body scope dV kV doc pm an cdv ct) (body := body) (binds := names.zip (.ref x :: vs)) (by have := ok.hd; omega) (X _ _ ho) rfl (W.nolimit.keeps S.keep) (codeRec_of X hcd) rfl
    (hb s _ X hvl) hcell (fun y hy => beq_iff_eq.mp (List.all_eq_true.mp hl y.1 (List.of_mem_zip hy).1)) (fun h₀ hns kp => ?_) hco hgen hk
  have okA := ok.deeper (envOf qual scope s.heap.objs.size f cdv)
  let R := fun (r : Result) (s' : Shared) => r = .ok (.ret .none) ∧ (∃ h tk, s' = { s with heap := h, toks := tk }) ∧ (∀ b o, b ≠ dx → s.heap.get? b = some o → ∃ o', s'.heap.get? b = some o' ∧ o'.cls = o.cls ∧ o'.data = o.data ∧ (o.cls ≠ .type "frame" ∨ (∃ q, W.G.get? b = some q) → o' = o)) ∧
      ∃ Z' es n fs, ZSub Z Z' ∧ (∀ b o, b ≠ dx → s.heap.get? b = some o → Z' b = Z b) ∧ ZOk W.G Z' s'.heap ∧ s'.heap.get? dx = some (dictOf es n) ∧ RepE Z' es fs ∧ Z' dx = none ∧ Q fs
  have dL : dx ≠ s.heap.objs.size := fun e => absurd (Heap.lt_size hd) (by rw [e]; exact Nat.lt_irrefl _)
  have bd := h _ s.heap.objs.size s (fun e s' => wpAny W.M (A.deeper (envOf qual scope s.heap.objs.size f cdv)) (leaving (envOf qual scope s.heap.objs.size f cdv) e) (fun _ s'' => R (.error e) s'') (fun e' s'' => R (.error e') s'') s') x dx okA dL
  let B : ZMap := fun b => if b = dx then none else s.heap.get? b
  have S₁ : StS W (acOf W _ k okA qual scope s.heap.objs.size f cdv hk) s (names.zip (.con (.ref x) :: ps)) [] Z B { s with heap := h₀, toks := s.toks + (names.zip (.ref x :: vs)).length } := by
    have hsz : h₀.Ns s.heap.objs.size _ := hns
    obtain ⟨oL, es, ep, e1, e2, e3⟩ := hsz
    refine ⟨⟨⟨⟨fun b o e => kp b o (S.z.zin b o e), S.z.zf⟩, S.g, ?_⟩, fun y p e => ?_⟩, ⟨h₀, _, rfl⟩, ⟨_, hns⟩, Z_fresh S, ?_, fun x c hc => ?_, .nil, fun b o e => ?_, fun x a ps hm => (nomatch hm), .nil⟩
    · obtain ⟨outer, f1, f2⟩ := S.ff
      refine ⟨envOf qual scope s.heap.objs.size f cdv :: outer, by show A.frames.map _ = _; rw [f1]; rfl, ?_, ⟨s.heap.objs.size, oL, rfl, G_fresh S, e1, fun vs e => by rw [e2] at e; cases e⟩, ?_⟩
      · show scope.kind ≠ .module; rw [hk]; decide
      · exact frames_of (fun b o e nd => ⟨o, kp b o e, nd⟩) f2
    · obtain ⟨v, hv, rv⟩ := reverse_lookup hn rr y p e
      refine ⟨v, .inl ⟨?_, _, hns, hv⟩, rv⟩
      have hm := mem_of_lookup hv
      exact beq_iff_eq.mp (List.all_eq_true.mp hl y (List.of_mem_zip (List.mem_reverse.mp hm)).1)
    · show (if s.heap.objs.size = dx then none else _) = none
      rw [if_neg dL.symm]; exact fresh
    · cases hc
    · dsimp only [B] at e
      split at e
      · cases e
      · exact ⟨o, kp b o e, rfl, rfl, fun _ => rfl⟩
  have I₁ : Slf W K x dx Z B { s with heap := h₀, toks := s.toks + (names.zip (.ref x :: vs)).length } [] 0 [] := ⟨zx, kp _ _ hd, .nil, zd, if_pos rfl, gd⟩
  refine wpAny_mono (bd Z B _ [] 0 S₁ I₁) (fun fl s' hh => ?_) fun _ _ x => x
  obtain ⟨rfl, Z', es', n', fs', ze, S', I', q⟩ := hh
  refine ⟨rfl, S'.eq, fun b o n e => S'.bin b o (by dsimp only [B]; rw [if_neg n]; exact e), Z', es', n', fs', ze.sub, fun b o n e => ze.old b o (by dsimp only [B]; rw [if_neg n]; exact e), S'.toE.toG.z, I'.at_, I'.rep, I'.zd, q⟩
end
end Mine

end

section
open PySem PySem.W PyProof.Rows PySem.Calls
namespace Mine
section
variable {W : Wd} {C : Ac W} {s₀ : Shared} {E : Value → Shared → Prop} {ρ : Rho} {O : Own} {Z B : ZMap} {s : Shared} {R : Fl → Rho → Own → Prop} {Q : PV → Prop}

theorem iadd_int' {a b : Int} (q : Q (.int (a + b))) : Op2 C E (inplaceOp .Add) (.int a) (.int b) Q := fun Z s _ _ S r₁ r₂ => by
  cases r₁; cases r₂; exact PyProof.Rows.iadd_int (.here S (.tok _ _ _) (.int _ _) q)

/-- f'..{e}' of a text sign by sign and a text -/
theorem Ev.fstr2 {x : Str} {e : Expr} {k : Nat} {p₁ p₂ pos : Pos} (h : Ev C E ρ e fun v => ∃ l, v = .str l ∧ Q (.str (x.cps.toList ++ l)) ∧ x.cps.toList.length + l.length ≤ 1000000) (hx : x.cps.toList.length ≤ 1000 := by decide) :
    Ev C E ρ (.JoinedStr [.Constant (.str x) k p₁, .FormattedValue e (-1) Option.none p₂] pos) Q := fun Z s S => by
  refine wpAny_JoinedStr ?_
  show wpAny _ _ (eval (.Constant (.str x) k p₁) C.env) _ _ _
  have hxl : x.length = x.cps.toList.length := by simp [Str.length]
  have fin : ∀ l : List Nat, x.cps.toList.length + l.length ≤ 1000000 → (Str.empty ++ x ++ tx l).length ≤ sizeLine ∧ (Str.empty ++ x ++ tx l).cps.toList = x.cps.toList ++ l ∧ (Str.empty ++ x).length ≤ sizeLine := fun l hl => by
    have e1 : (Str.empty ++ x ++ tx l).cps.toList = x.cps.toList ++ l := by
      show ((#[] ++ x.cps) ++ l.toArray).toList = _; simp
    refine ⟨?_, e1, ?_⟩
    · have : (Str.empty ++ x ++ tx l).length = (Str.empty ++ x ++ tx l).cps.toList.length := by simp [Str.length]
      rw [this, e1, List.length_append, sizeLine_eq]; omega
    · have : (Str.empty ++ x).length = x.length := by show (#[] ++ x.cps).size = _; simp [Str.length]
      rw [this, hxl, sizeLine_eq]; omega
  refine wpAny_Constant_str ⟨x, _, rfl, (fin [] (by simp only [List.length_nil]; omega)).2.2, ?_⟩
  have g₁ : Go W.G s { s with toks := s.toks + 1 } := .tok _ _ _
  have S₁ := S.go g₁ (.refl _ _) (S.toG.z.go g₁.kp)
  refine wpAny_FormattedValue_plain (bindP (h Z _ S₁) fun v s₂ Z₂ p g₂ e₂ z₂ r₂ ⟨l, hp, q, hl⟩ => ?_)
  subst hp
  have S₂ := (S₁.go g₂ e₂ z₂).toG
  obtain ⟨f1, f2, _⟩ := fin l hl
  cases r₂ with
  | str l t =>
    have out : ∀ s₃ : Shared, Go W.G s₂ s₃ → Pst (W := W) Z s Q (.str (Str.empty ++ x ++ tx l) s₃.toks) { s₃ with toks := s₃.toks + 1 } := fun s₃ g₃ =>
      .back g₁ (.refl _ _) (.back g₂ e₂ (.here S₂ (g₃.trans (.tok _ _ _)) (.str' f2) q))
    exact wpAny_formatField_str ⟨_, _, rfl, f1, f1, out _ (.refl _ _)⟩ ⟨_, _, rfl, f1, f1, out _ (.tok _ _ _)⟩ (by simp only [Str.length, List.size_toArray]; rw [sizeLine_eq]; omega)

def nameOf : Expr → Str × Pos
  | .Name x p => (x, p)
  | _ => (⟨#[]⟩, default)
theorem StS.storeAll (nps : List (Str × Pos)) : ∀ {vs : List Value} {ps : List PV} {ρ : Rho} {s : Shared} {T : Unit → Shared → Prop}, StS W C s₀ ρ O Z B s → RepL Z vs ps → nps.length = ps.length → (∀ q ∈ nps, canSet C q.1) → (∀ q ∈ nps, freeOf O q.1) →
    (∀ s', StS W C s₀ (((nps.map (·.1)).zip ps).reverse ++ ρ) O Z B s' → T () s') → wpAny W.M C.A (assignInOrder (nps.map fun q => PySem.assign (.Name q.1 q.2) C.env) vs) T E s := by
  induction nps with
  | nil =>
    intro vs ps ρ s T S r hl _ _ k
    cases r with
    | nil => exact wpAny_assignInOrder_none (k s S)
    | cons a t => cases hl
  | cons q nps ih =>
    intro vs ps ρ s T S r hl hc hf k
    cases r with
    | nil => cases hl
    | cons a t =>
      refine wpAny_assignInOrder_more (wpAny_assign_Name (S.store a (hc q List.mem_cons_self) (hf q List.mem_cons_self) fun s₁ S₁ => ?_))
      refine ih S₁ t (Nat.succ.inj hl) (fun q hq => hc q (List.mem_cons_of_mem _ hq)) (fun q hq => hf q (List.mem_cons_of_mem _ hq)) fun s' S' => k s' ?_
      rw [List.map_cons, List.zip_cons_cons, List.reverse_cons, List.append_assoc]
      exact S'

theorem Ex1.unpack {elts : List Expr} {k : Nat} {value : Expr} {tpos pos : Pos} (h : Ev C E ρ value fun v => ∃ ps, (v = .tup ps ∨ v = .lst ps) ∧ ps.length = elts.length ∧ R .next (((elts.map nameOf).map (·.1)).zip ps |>.reverse |> (· ++ ρ)) O)
    (ht : (assignEach elts C.env).map (·.2) = (elts.map nameOf).map fun q => PySem.assign (.Name q.1 q.2) C.env := by rfl) (hstar : (assignEach elts C.env).findIdx? (·.1) = none := by rfl)
    (hcl : ((elts.map nameOf).all fun q => C.env.kindOf q.1 == some .local) = true := by rfl) (hf : ∀ q ∈ elts.map nameOf, freeOf O q.1 := by intro _ _; exact freeOf.nil _)
    (hs : swapsWithSole [.Tuple elts k tpos] value pos.line C.env = pure false := by rfl) (hw : swappedStores [.Tuple elts k tpos] value C.env = pure none := by rfl) :
    Ex1 C s₀ E ρ O (.Assign [.Tuple elts k tpos] value pos) R := fun Z B s S => by
  have hc : ∀ q ∈ elts.map nameOf, canSet C q.1 := fun q hq => .inl (beq_iff_eq.mp (List.all_eq_true.mp hcl q hq))
  have hlen : (assignEach elts C.env).length = elts.length := by
    have := congrArg List.length ht
    simpa using this
  refine Assign_Tuple (hs := hs) (hw := hw) (S.ev h fun v s₁ Z₁ p S₁ e₁ r₁ ⟨ps, hp, hl, q⟩ => ?_)
  rcases hp with rfl | rfl
  · cases r₁ with
    | @tup a o vs n ps ho hcl hd r =>
      have hT : s₁.heap.IsTuple a vs.toArray := ⟨o, S₁.toE.toG.z.zin _ _ ho, hcl, n, hd⟩
      refine wpAny_assign_Tuple C.ok.hh hT (by rw [hlen, List.size_toArray, r.length, hl]) hstar fun h' he => ?_
      rw [ht]
      have g : Go W.G s₁ { s₁ with heap := h' } := .heap (t := s₁.toks) fun b o e => he b o (Nat.ne_of_lt (Heap.lt_size e)) e
      have S₂ := S₁.go g (.refl _ _) (S₁.toE.toG.z.go g.kp)
      exact StS.storeAll (elts.map nameOf) S₂ r (by simpa using hl.symm) hc hf fun s' S' => ⟨Z₁, _, O, .next, e₁, S', .next, q⟩
  · cases r₁ with
    | @lst a o vs n ps ho hcl hd r =>
      have hT : s₁.heap.IsList a vs.toArray := ⟨o, S₁.toE.toG.z.zin _ _ ho, hcl, n, hd⟩
      have hn : (assignEach elts C.env).length = vs.toArray.size := by rw [hlen, List.size_toArray, r.length, hl]
      rw [assign_Tuple]
      refine wpAny_bind (wpAny_standAt ?_)
      unfold PySem.unpack
      rw [hn, hstar]
      refine wpAny_bind (wpAny_holding (kun_itemsOf C.ok.hh hT fun h' he => ?_))
      rw [ht]
      have g : Go W.G s₁ { s₁ with heap := h' } := .heap (t := s₁.toks) fun b o e => he b o (Nat.ne_of_lt (Heap.lt_size e)) e
      have S₂ := S₁.go g (.refl _ _) (S₁.toE.toG.z.go g.kp)
      exact StS.storeAll (elts.map nameOf) S₂ r (by simpa using hl.symm) hc hf fun s' S' => ⟨Z₁, _, O, .next, e₁, S', .next, q⟩
end
end Mine

end

section
open PySem PySem.W PyProof.Rows PySem.Calls
namespace Mine

theorem relabel_kind (scope : Scope) (env : Env) : (relabel scope env).kind = scope.kind := rfl
/-- the activation of a list comprehension -/
abbrev cAc {W : Wd} (C : Ac W) (scope : Scope) (cl : List (Str × Addr)) (L : Addr) (hk : scope.kind = .function) : Ac W :=
  ⟨C.A, compEnvC scope cl L C.env, C.n, C.ok, hk, C.hg, C.hb⟩

def Ct {W : Wd} (C : Ac W) (E : Value → Shared → Prop) (ρ : Rho) : List Expr → (Bool → Prop) → Prop
  | [], P => P true
  | [c], P => Tv C E ρ c P
  | _, _ => False
def CompL {W : Wd} (C : Ac W) (E : Value → Shared → Prop) (t : Str) (elt : Expr) (ifs : List Expr) (ρ : Rho) : List PV → List PV → (List PV → Prop) → Prop
  | [], acc, P => P acc
  | p :: ps, acc, P => Ct C E ((t, p) :: ρ) ifs fun ok => if ok then Ev C E ((t, p) :: ρ) elt fun y => CompL C E t elt ifs ρ ps (acc ++ [y]) P else CompL C E t elt ifs ρ ps acc P

structure CJ {W : Wd} {A : Around} {Z₁ : ZMap} {s₁ : Shared} {h₂ : Heap} {I : Addr} {items : List PV} (F : Feed W A Z₁ s₁.heap h₂ I items) (D L : Addr) (i : Nat) (Z' : ZMap) (ys : List Value) (ps : List PV) (s : Shared) : Prop where
  eq : ∃ h tk, s = { s₁ with heap := h, toks := tk }
  st : F.St i s.heap
  kp : Kp W.G s₁.heap s.heap
  ze : ZExt s₁.heap Z₁ Z'
  zo : ZOk W.G Z' s.heap
  zw : ∀ b, b ∈ F.wr → Z' b = none
  zD : Z' D = none
  zL : Z' L = none
  dl : s.heap.PlainList D ys.toArray
  rl : RepL Z' ys ps
  len : ps.length ≤ i
  ns : ∃ m, s.heap.Ns L m

section
variable {W : Wd} {C : Ac W} {E : Value → Shared → Prop} {Z₁ : ZMap} {s₁ s₂ : Shared} {I : Addr} {items : List PV} {D L : Addr} {i : Nat} {Z' Z'' : ZMap} {ys : List Value} {ps : List PV} {s s' : Shared}

theorem CJ.go {F : Feed W C.A Z₁ s₁.heap s₂.heap I items} (J : CJ F D L i Z' ys ps s) (g : Go W.G s s') (e : ZExt s.heap Z' Z'') (z : ZOk W.G Z'' s'.heap) : CJ F D L i Z'' ys ps s' := by
  have cls := F.cls _ _ J.st
  refine ⟨?_, F.walks.frame _ _ _ J.st fun b hb o ho => ?_, J.kp.trans g.kp, J.ze.trans J.kp e, z, fun b hb => ?_, ?_, ?_, ?_, J.rl.mono e.sub, J.len, ?_⟩
  · obtain ⟨h, t, rfl⟩ := J.eq
    obtain ⟨h', t', rfl⟩ := g.eq
    exact ⟨h', t', rfl⟩
  · obtain ⟨o', e1, c1⟩ := cls b hb
    rw [ho] at e1; cases e1
    exact g.kp.get ho (.inl c1)
  · obtain ⟨o, e1, _⟩ := cls b (F.walks.sub b hb)
    rw [e.old b o e1]; exact J.zw b hb
  · obtain ⟨n, h⟩ := J.dl; rw [e.old _ _ h]; exact J.zD
  · obtain ⟨m, o, _, _, h, _⟩ := J.ns; rw [e.old _ _ h]; exact J.zL
  · obtain ⟨n, h⟩ := J.dl; exact ⟨n, g.kp.get h (.inl (by simp))⟩
  · obtain ⟨m, h⟩ := J.ns; exact ⟨m, g.kp.ns h⟩

theorem comp_core {t : Str} {px : Pos} {elt iter : Expr} {ifs : List Expr} {scope : Scope} {cl : List (Str × Addr)} {pos : Pos} {ρ ρc : Rho} {P : List PV → Prop} {RR : Value → Addr → Result → Shared → Prop}
    (S₁ : StG W C.A Z₁ s₁) (g₂ : Go W.G s₁ s₂) (F : Feed W C.A Z₁ s₁.heap s₂.heap I items) (hlen : items.length ≤ 1000000)
    (vars : ∀ x p, ρ.lookup x = some p → ∃ v, VarAt C.env s₁.heap x v ∧ Rep Z₁ v p)
    (hv : ∀ x p, ρc.lookup x = some p → (x == t) = false ∧ ρ.lookup x = some p ∧ C.env.kindOf x = some .cell ∧ (relabel scope C.env).names.lookup x = some .cell ∧ cl.lookup x = C.env.cells.lookup x)
    (hcell : ∀ y ∈ scope.names, y.2 ≠ .cell) (hk : scope.kind = .function) (hx : scope.names.lookup t = some .local)
    (h : ∀ L E, CompL (cAc C scope cl L hk) E t elt ifs ρc items [] P)
    (hRR : ∀ D L h' tk Z' ps m', D ≠ L → s₁.heap.get? D = none → s₁.heap.get? L = none → Kp W.G s₁.heap h' → h'.Ns L m' → ZExt s₁.heap Z₁ Z' → ZOk W.G Z' h' → Rep Z' (.ref D) (.lst ps) → Z' L = none → P ps → RR (.ref D) L (.ok .next) { s₁ with heap := h', toks := tk }) :
    wpAny W.M C.A (newList []) (fun acc s₃ => wpAny W.M C.A (newFunctionEnv scope C.env.globals cl [] C.env.qual none .none (some C.env)) (fun cenv s₄ =>
      codeAny W.M C.A (.compStart (.ListComp elt [⟨.Name t px, iter, ifs, 0⟩] scope pos) 0 (.ref I) acc { cenv with scope := relabel scope C.env }) (RR acc cenv.locals) s₄) E s₃) E s₂ := by
  refine wpAny_newObj_type (wpAny_newFunctionEnv hcell (by intro y hy; simp at hy) (fun h₁ hns₁ hsb₁ => ?_) hk)
  dsimp only at hns₁ hsb₁ ⊢
  generalize hH2 : s₂.heap.push { cls := .type "list", dict := none, data := .seq ([] : List Value).toArray } = H2 at hns₁ hsb₁ ⊢
  have hC : H2.objs.size = s₂.heap.objs.size + 1 := by rw [← hH2, Heap.size_push]
  have hDC : s₂.heap.objs.size ≠ H2.objs.size := by rw [hC]; exact Nat.ne_of_lt (Nat.lt_succ_self _)
  have fr : ∀ {a : Addr}, s₂.heap.objs.size ≤ a → s₂.heap.get? a = none := fun {a} ha => by
    cases e : s₂.heap.get? a with
    | none => rfl
    | some o' => exact absurd (Heap.lt_size e) (Nat.not_lt.mpr ha)
  have fD : s₂.heap.get? s₂.heap.objs.size = none := fr (Nat.le_refl _)
  have fL : s₂.heap.get? H2.objs.size = none := fr (by rw [hC]; exact Nat.le_succ _)
  have up : ∀ {a : Addr}, s₂.heap.get? a = none → s₁.heap.get? a = none := fun {a} e => by
    cases e1 : s₁.heap.get? a with
    | none => rfl
    | some o => obtain ⟨o', e', _⟩ := g₂.kp a o e1; rw [e] at e'; cases e'
  have old : ∀ b o, s₂.heap.get? b = some o → h₁.get? b = some o := fun b o e => hsb₁.extBut b o (fun q => by rw [q, fL] at e; cases e) (Heap.get?_push_of_some _ (hH2 ▸ Heap.get?_push_of_some _ e))
  have hacc : h₁.PlainList s₂.heap.objs.size #[] := ⟨_, hsb₁.extBut _ _ hDC (Heap.get?_push_of_some _ (hH2 ▸ Heap.get?_push_size _ rfl))⟩
  have hst₁ : F.St 0 h₁ := F.walks.frame _ _ _ F.start fun b _ o e => old b o e
  have wrZ : ∀ b o, Z₁ b = some o → b ∉ F.wr := fun b o e hm => by
    have := S₁.z.zin b o e; rw [F.new b hm] at this; cases this
  have zn : ∀ {a : Addr}, s₁.heap.get? a = none → Z₁ a = none := fun {a} e => by
    cases e1 : Z₁ a with
    | none => rfl
    | some o => have := S₁.z.zin a o e1; rw [e] at this; cases this
  have fpS : ∀ b ∈ F.fp, ∃ o, s₂.heap.get? b = some o := fun b hb => let ⟨o, e, _⟩ := F.cls _ _ F.start b hb; ⟨o, e⟩
  have Dfp : s₂.heap.objs.size ∉ F.fp := fun hm => by obtain ⟨o, e⟩ := fpS _ hm; rw [fD] at e; cases e
  have Lfp : H2.objs.size ∉ F.fp := fun hm => by obtain ⟨o, e⟩ := fpS _ hm; rw [fL] at e; cases e
  have hh : (relabel scope C.env).names.lookup t = some .local := lookup_relabel_local hx
  have loop : ∀ s₃ : Shared, s₃ = { s₂ with heap := h₁, toks := s₂.toks + ([] : List (Str × Value)).length } →
      codeAny W.M C.A (.compLoop (.ListComp elt [⟨.Name t px, iter, ifs, 0⟩] scope pos) 0 (.ref I) (.ref s₂.heap.objs.size) (compEnvC scope cl H2.objs.size C.env))
        (RR (.ref s₂.heap.objs.size) H2.objs.size) s₃ := by
    rintro s₃ rfl
    let EN := notedBy W.M C.A (compEnvC scope cl H2.objs.size C.env) fun e s' => RR (.ref s₂.heap.objs.size) H2.objs.size (.error e) s'
    let C' := cAc C scope cl H2.objs.size hk
    refine codeAny_compLoop_tests (fun k s => ∃ i Z' ys ps, k = items.length + 1 - i ∧ i ≤ items.length ∧ CJ F s₂.heap.objs.size H2.objs.size i Z' ys ps s ∧ CompL C' EN t elt ifs ρc (items.drop i) ps P) ?_ (items.length + 1) ?_
    · rintro k s ⟨i, Z', ys, ps, rfl, hle, J, hL⟩
      have wrs : ∀ b o, s₁.heap.get? b = some o → b ∉ F.wr := fun b o e hm => by rw [F.new b hm] at e; cases e
      -- a step of the iterator
      have step : ∀ {h' : Heap} {tk : Nat}, (∀ b o, b ∉ F.wr → s.heap.get? b = some o → h'.get? b = some o) → Kp W.G s₁.heap h' ∧ ZOk W.G Z' h' ∧ h'.PlainList s₂.heap.objs.size ys.toArray ∧ (∃ m, h'.Ns H2.objs.size m) := fun {h' tk} kp => by
        refine ⟨fun b o e => ?_, ⟨fun b o e => kp b o (fun hm => by rw [J.zw b hm] at e; cases e) (J.zo.zin b o e), J.zo.zf⟩, ?_, ?_⟩
        · obtain ⟨o', e', r⟩ := J.kp b o e
          exact ⟨o', kp b o' (wrs b o e) e', r⟩
        · obtain ⟨n, e⟩ := J.dl; exact ⟨n, kp _ _ (fun hm => Dfp (F.walks.sub _ hm)) e⟩
        · obtain ⟨m, o, es, ep, e1, e2⟩ := J.ns; exact ⟨m, o, es, ep, kp _ _ (fun hm => Lfp (F.walks.sub _ hm)) e1, e2⟩
      by_cases hlt : i < items.length
      · refine F.walks.item i s _ _ hlt J.st fun v h' tk hP st' kp => ?_
        obtain ⟨k1, k2, k3, m, k4⟩ := step (tk := tk) kp
        have hg : items[i]? = some items[i] := List.getElem?_eq_getElem hlt
        have rv := F.item i v _ hP hg
        rw [List.drop_eq_getElem_cons hlt] at hL
        refine wpAny_assign_Name (wpAny_storeName_local (env := compEnvC scope cl H2.objs.size C.env) hh k4 (fun h₅ hn₅ hs₅ => ?_) (by show (scope.kind == .class || (scope.kind == .module && _)) = false; rw [hk]; rfl))
        dsimp only at hn₅ hs₅
        have k5 : ∀ b o, b ≠ H2.objs.size → h'.get? b = some o → h₅.get? b = some o := fun b o n e => hs₅.extBut b o n e
        have sne : ∀ b o, s₁.heap.get? b = some o → b ≠ H2.objs.size := fun b o e q => by rw [q, up fL] at e; cases e
        have J₅ : CJ F s₂.heap.objs.size H2.objs.size (i + 1) Z' ys ps { s with heap := h₅, toks := tk + 1 } := by
          refine ⟨?_, F.walks.frame _ _ _ st' fun b hb o e => k5 b o (fun q => Lfp (q ▸ hb)) e, fun b o e => ?_, J.ze, ⟨fun b o e => k5 b o (fun q => by rw [q, J.zL] at e; cases e) (k2.zin b o e), J.zo.zf⟩, J.zw, J.zD, J.zL, ?_, J.rl, Nat.le_succ_of_le J.len, ⟨_, hn₅⟩⟩
          · obtain ⟨h, tk', rfl⟩ := J.eq; exact ⟨h₅, tk + 1, rfl⟩
          · obtain ⟨o', e', r⟩ := k1 b o e; exact ⟨o', k5 b o' (sne b o e) e', r⟩
          · obtain ⟨n, e⟩ := k3; exact ⟨n, k5 _ _ hDC e⟩
        have goJ : ∀ {s : Shared} {i : Nat} {Z' : ZMap} {ys : List Value} {ps : List PV}, CJ F s₂.heap.objs.size H2.objs.size i Z' ys ps s → Go W.G s₁ s := fun J => ⟨J.eq, J.kp⟩
        have mkE : StE W C' ((t, items[i]) :: ρc) Z' { s with heap := h₅, toks := tk + 1 } := by
          refine ⟨S₁.go (goJ J₅) J₅.ze J₅.zo, fun x p e => ?_⟩
          rw [List.lookup_cons] at e
          cases hxt : x == t with
          | true =>
            rw [hxt] at e; cases e
            have := beq_iff_eq.mp hxt; subst this
            exact ⟨v, .inl ⟨hh, _, hn₅, if_pos rfl⟩, rv.mono J.ze.sub⟩
          | false =>
            rw [hxt] at e
            obtain ⟨_, a1, a2, a3, a4⟩ := hv x p e
            obtain ⟨u, a, ru⟩ := vars x p a1
            rcases a with ⟨b1, _⟩ | ⟨b1, c, b2, b3⟩
            · rw [a2] at b1; cases b1
            · exact ⟨u, .inr ⟨a3, c, a4.trans b2, J₅.kp.cell b3⟩, ru.mono J.ze.sub⟩
        -- behind the element's value
        have tail : ∀ {Z₅ : ZMap} {s₅ : Shared}, CJ F s₂.heap.objs.size H2.objs.size (i + 1) Z₅ ys ps s₅ → StE W C' ((t, items[i]) :: ρc) Z₅ s₅ → (ok : Bool) → (if ok then Ev C' EN ((t, items[i]) :: ρc) elt fun y => CompL C' EN t elt ifs ρc (items.drop (i + 1)) (ps ++ [y]) P else CompL C' EN t elt ifs ρc (items.drop (i + 1)) ps P) →
            (if ok = true then wpAny W.M C.A (eval elt (compEnvC scope cl H2.objs.size C.env)) (fun x s₄ =>
              wpAny W.M C.A (call (.builtin "list.append") [.ref s₂.heap.objs.size, x]) (fun _ s₅ => ∃ m, m < items.length + 1 - i ∧ ∃ i Z' ys ps, m = items.length + 1 - i ∧ i ≤ items.length ∧ CJ F s₂.heap.objs.size H2.objs.size i Z' ys ps s₅ ∧ CompL C' EN t elt ifs ρc (items.drop i) ps P) EN s₄) EN s₅
            else ∃ m, m < items.length + 1 - i ∧ ∃ i Z' ys ps, m = items.length + 1 - i ∧ i ≤ items.length ∧ CJ F s₂.heap.objs.size H2.objs.size i Z' ys ps s₅ ∧ CompL C' EN t elt ifs ρc (items.drop i) ps P) := fun {Z₅ s₅} J₅ SE ok q => by
          cases ok with
          | false => exact ⟨items.length + 1 - (i + 1), by omega, i + 1, Z₅, ys, ps, rfl, hlt, J₅, q⟩
          | true =>
            refine (show wpAny W.M C.A _ _ _ _ from bindP (q Z₅ s₅ SE) fun y s₆ Z₆ p g₆ e₆ z₆ r₆ hq => ?_)
            have J₆ := J₅.go g₆ e₆ z₆
            refine wpAny_list_append_plain J₆.dl (fun h₇ hl₇ hs₇ => ?_) (by have h1 := J₆.len; have h2 := J₆.rl.length; have := sizeLine_eq; rw [List.size_toArray]; omega)
            have k7 : ∀ b o, b ≠ s₂.heap.objs.size → s₆.heap.get? b = some o → h₇.get? b = some o := fun b o n e => hs₇.extBut b o n e
            have sneD : ∀ b o, s₁.heap.get? b = some o → b ≠ s₂.heap.objs.size := fun b o e q => by rw [q, up fD] at e; cases e
            refine ⟨items.length + 1 - (i + 1), by omega, i + 1, Z₆, ys ++ [y], ps ++ [p], rfl, hlt, ?_, hq⟩
            refine ⟨?_, F.walks.frame _ _ _ J₆.st fun b hb o e => k7 b o (fun q => Dfp (q ▸ hb)) e, fun b o e => ?_, J₆.ze, ⟨fun b o e => k7 b o (fun q => by rw [q, J₆.zD] at e; cases e) (J₆.zo.zin b o e), J₆.zo.zf⟩, J₆.zw, J₆.zD, J₆.zL, ?_, RepL.append' r₆ J₆.rl, ?_, ?_⟩
            · obtain ⟨h, tk', rfl⟩ := J₆.eq; exact ⟨h₇, _, rfl⟩
            · obtain ⟨o', e', r⟩ := J₆.kp b o e; exact ⟨o', k7 b o' (sneD b o e) e', r⟩
            · rw [show (ys ++ [y]).toArray = ys.toArray.push y by simp]; exact hl₇
            · rw [List.length_append, List.length_singleton]; have := J.len; omega
            · obtain ⟨m, o, es, ep, e1, e2⟩ := J₆.ns; exact ⟨m, o, es, ep, k7 _ _ hDC.symm e1, e2⟩
        have hL' : Ct C' EN ((t, items[i]) :: ρc) ifs fun ok => if ok then Ev C' EN ((t, items[i]) :: ρc) elt fun y => CompL C' EN t elt ifs ρc (items.drop (i + 1)) (ps ++ [y]) P else CompL C' EN t elt ifs ρc (items.drop (i + 1)) ps P := hL
        cases ifs with
        | nil => exact wpAny_tests_nil (tail J₅ mkE true hL')
        | cons c rest =>
          cases rest with
          | nil =>
            refine wpAny_tests_one (wpAny_mono (hL' Z' _ mkE) (fun ok s₆ ⟨g₆, Z₆, e₆, z₆, q⟩ => ?_) fun _ _ x => x)
            exact tail (J₅.go g₆ e₆ z₆) (mkE.go g₆ e₆ z₆) ok q
          | cons _ _ => exact hL'.elim
      · have hi : i = items.length := by omega
        subst hi
        refine F.walks.done s _ _ J.st fun h' tk kp => ?_
        obtain ⟨k1, k2, ⟨n, k3⟩, m, k4⟩ := step (tk := tk) kp
        rw [List.drop_length] at hL
        obtain ⟨h, tk', rfl⟩ := J.eq
        have fz : ZSub Z' (zput Z' s₂.heap.objs.size { cls := .type "list", data := .seq ys.toArray n }) := fun b o e => by
          unfold zput
          by_cases q : b = s₂.heap.objs.size
          · rw [q, J.zD] at e; cases e
          · rw [if_neg q]; exact e
        refine hRR s₂.heap.objs.size H2.objs.size h' tk (zput Z' s₂.heap.objs.size { cls := .type "list", data := .seq ys.toArray n }) ps m hDC (up fD) (up fL) k1 k4 ⟨J.ze.sub.trans fz, fun b o e => ?_⟩ (k2.put k3 (by simp)) (.lst (zput_at _ _ _) rfl rfl (J.rl.mono fz)) ?_ hL
        · unfold zput
          rw [if_neg (fun q => by rw [q, up fD] at e; cases e)]
          exact J.ze.old b o e
        · unfold zput; rw [if_neg hDC.symm]; exact J.zL
    · refine ⟨0, Z₁, [], [], rfl, Nat.zero_le _, ⟨?_, hst₁, fun b o e => ?_, .refl _ _, ⟨fun b o e => ?_, S₁.z.zf⟩, fun b hb => ?_, zn (up fD), zn (up fL), hacc, .nil, Nat.zero_le _, ⟨_, hns₁⟩⟩, by rw [List.drop_zero]; exact h _ _⟩
      · obtain ⟨h, tk, rfl⟩ := g₂.eq; exact ⟨h₁, _, rfl⟩
      · obtain ⟨o', e', r⟩ := g₂.kp b o e; exact ⟨o', old b o' e', r⟩
      · exact old b o (g₂.kp.get (S₁.z.zin b o e) (S₁.z.zf b o e))
      · cases e : Z₁ b with
        | none => rfl
        | some o => exact absurd hb (wrZ b o e)
  exact codeAny_compStart_list (loop _ rfl) (F.walks.self 0 _ _ _ hst₁ (loop _ rfl))
end
end Mine

end

section
open PySem PySem.W PyProof.Rows PySem.Calls
namespace Mine
section
variable {W : Wd} {C : Ac W} {s₀ : Shared} {E : Value → Shared → Prop} {ρ : Rho} {O : Own} {Z B : ZMap} {s : Shared} {R : Fl → Rho → Own → Prop} {Q : PV → Prop}

/-- an object that nobody leans on is changed -/
theorem StS.drop {L : Addr} {h' : Heap} {tk : Nat} (S : StS W C s₀ ρ O Z B s) (kp : ∀ b o, b ≠ L → s.heap.get? b = some o → h'.get? b = some o) (zl : Z L = none) (bl : B L = none) (nl : L ≠ C.env.locals) (nc : ∀ x c, C.env.cells.lookup x = some c → c ≠ L)
    (no : ∀ x a ps, (x, a, ps) ∈ O → a ≠ L) (nf : ∀ outer, C.A.frames = some outer → L ∉ outer.filterMap (·.frame)) : StS W C s₀ ρ O Z B { s with heap := h', toks := tk } := by
  have var : ∀ {y : Str} {u : Value}, VarAt C.env s.heap y u → VarAt C.env h' y u := fun {y u} a => by
    rcases a with ⟨a1, m', ⟨o, es, ep, e1, e2⟩, a3⟩ | ⟨a1, d, a2, ⟨o, e1, e2⟩⟩
    · exact .inl ⟨a1, m', ⟨o, es, ep, kp _ o nl.symm e1, e2⟩, a3⟩
    · exact .inr ⟨a1, d, a2, ⟨o, kp _ o (nc y d a2) e1, e2⟩⟩
  refine ⟨⟨⟨⟨fun b o e => kp b o (fun q => by rw [q, zl] at e; cases e) (S.toE.toG.z.zin b o e), S.toE.toG.z.zf⟩, S.toE.toG.g, ?_⟩, fun y q e => ?_⟩, ?_, ?_, S.zl, S.bl, fun x c hc => ?_, S.apart, fun b o e => ?_, fun x a ps hm => ?_, S.oapart⟩
  · obtain ⟨outer, f1, f2⟩ := S.toE.toG.ff
    exact ⟨outer, f1, frames_of' (fun b o hb e nd => ⟨o, kp b o (fun q => nf outer f1 (q ▸ hb)) e, nd⟩) f2⟩
  · obtain ⟨u, a, ru⟩ := S.toE.vars y q e
    exact ⟨u, var a, ru⟩
  · obtain ⟨h₁, t₁, hs⟩ := S.eq
    exact ⟨h', tk, by rw [hs]⟩
  · obtain ⟨m, o, es, ep, e1, e2⟩ := S.ns
    exact ⟨m, o, es, ep, kp _ o nl.symm e1, e2⟩
  · obtain ⟨⟨u, o, e1, e2⟩, e3, e4⟩ := S.cells x c hc
    exact ⟨⟨u, o, kp _ o (nc x c hc) e1, e2⟩, e3, e4⟩
  · obtain ⟨o', h1, r'⟩ := S.bin b o e
    exact ⟨o', kp b o' (fun q => by rw [q, bl] at e; cases e) h1, r'⟩
  · have o := S.own x a ps hm
    obtain ⟨n, vs, e1, e2⟩ := o.at_
    exact ⟨var o.var, ⟨n, vs, kp a _ (no x a ps hm) e1, e2⟩, o.z, o.b⟩
theorem StS.plus1 {L : Addr} (S : StS W C s₀ ρ O Z B s) (nl : L ≠ C.env.locals) (nc : ∀ x c, C.env.cells.lookup x = some c → c ≠ L) (no : ∀ x a ps, (x, a, ps) ∈ O → a ≠ L) : StS W C s₀ ρ O Z (bplus [L] s.heap B) s := by
  have ne : ∀ {b : Addr}, b ≠ L → bplus [L] s.heap B b = B b := fun {b} n => by unfold bplus; rw [if_neg (by simpa using n)]
  refine ⟨S.toE, S.eq, S.ns, S.zl, by rw [ne nl.symm]; exact S.bl, fun x c hc => ⟨(S.cells x c hc).1, (S.cells x c hc).2.1, by rw [ne (nc x c hc)]; exact (S.cells x c hc).2.2⟩, S.apart, fun b o e => ?_, fun x a ps hm => ?_, S.oapart⟩
  · by_cases q : b = L
    · unfold bplus at e
      rw [if_pos (by simp [q])] at e
      exact ⟨o, e, rfl, rfl, fun _ => rfl⟩
    · rw [ne q] at e; exact S.bin b o e
  · have o := S.own x a ps hm
    exact ⟨o.var, o.at_, o.z, by rw [ne (no x a ps hm)]; exact o.b⟩
theorem StS.minus1 {L : Addr} {h : Heap} (S : StS W C s₀ ρ O Z (bplus [L] h B) s) (bL : B L = none) : StS W C s₀ ρ O Z B s := by
  have le : ∀ {b : Addr} {o : Obj}, B b = some o → bplus [L] h B b = some o := fun {b o} e => by
    unfold bplus; rw [if_neg (by rintro q; rw [List.mem_singleton.mp q, bL] at e; cases e)]; exact e
  have nn : ∀ {b : Addr}, bplus [L] h B b = none → B b = none := fun {b} e => by
    cases q : B b with
    | none => rfl
    | some o => rw [le q] at e; cases e
  exact ⟨S.toE, S.eq, S.ns, S.zl, nn S.bl, fun x c hc => ⟨(S.cells x c hc).1, (S.cells x c hc).2.1, nn (S.cells x c hc).2.2⟩, S.apart, fun b o e => S.bin b o (le e), fun x a ps hm => let o := S.own x a ps hm; ⟨o.var, o.at_, o.z, nn o.b⟩, S.oapart⟩

theorem Ev.comp {t : Str} {px pos : Pos} {elt iter : Expr} {ifs : List Expr} {scope : Scope} {cl : List (Str × Addr)} (ρc : Rho) (hk : scope.kind = .function)
    (h : Ev C E ρ iter fun x => Itr C E x fun items => items.length ≤ 1000000 ∧ ∀ L E, CompL (cAc C scope cl L hk) E t elt ifs ρc items [] fun ps => Q (.lst ps))
    (hclos : closureFor scope C.env = pure cl)
    (hv : ∀ x p, ρc.lookup x = some p → (x == t) = false ∧ ρ.lookup x = some p ∧ C.env.kindOf x = some .cell ∧ (relabel scope C.env).names.lookup x = some .cell ∧ cl.lookup x = C.env.cells.lookup x)
    (hcell : ∀ y ∈ scope.names, y.2 ≠ .cell) (hnames : ∀ y ∈ scope.names, y.2 = .local → scope.names.lookup y.1 = some .local) (hx : scope.names.lookup t = some .local)
    (hs : ∀ x, foldedSetIterable iter C.env x = pure x := by intro _; rfl) : Ev C E ρ (.ListComp elt [⟨.Name t px, iter, ifs, 0⟩] scope pos) Q := fun Z s S => by
  rw [eval_ListComp]
  refine wpAny_comprehension_free (use := Option.none) rfl hs hclos hk hnames (bindP (h Z s S) fun a s₁ Z₁ x g₁ e₁ z₁ r₁ hi => ?_)
  have S₁ := S.go g₁ e₁ z₁
  refine wpAny_mono (hi Z₁ s₁ a S₁.toG r₁) (fun it s₂ ⟨g₂, I, items, hit, ⟨F⟩, hlen, hl⟩ => ?_) fun _ _ x => x
  subst hit
  refine comp_core (RR := fun acc C' => compPost W.M C.A E Option.none (Pst (W := W) Z s Q) acc C') S₁.toG g₂ F hlen S₁.vars hv hcell hk hx hl ?_
  intro D L h' tk Z' ps m' hDL fD fL kp hn ze zo r zL q
  refine ⟨m', hn, fun h'' hs => .back g₁ e₁ ⟨⟨?_, fun b o e => ?_⟩, Z', _, ze, ⟨fun b o e => ?_, zo.zf⟩, r, q⟩⟩
  · exact ⟨h'', tk, rfl⟩
  · obtain ⟨o', e', c⟩ := kp b o e
    exact ⟨o', hs.extBut b o' (fun q => by rw [q, fL] at e; cases e) e', c⟩
  · exact hs.extBut b o (fun q => by rw [q, zL] at e; cases e) (zo.zin b o e)

/-- x = [.. for ..], the name local: the list is stored before the block's variables go -/
theorem Ex1.assignComp {t y : Str} {px py pos spos : Pos} {elt iter : Expr} {ifs : List Expr} {scope : Scope} {cl : List (Str × Addr)} (ρc : Rho) (hk : scope.kind = .function)
    (h : Ev C E ρ iter fun x => Itr C E x fun items => items.length ≤ 1000000 ∧ ∀ L E, CompL (cAc C scope cl L hk) E t elt ifs ρc items [] fun ps => R .next ((y, .lst ps) :: ρ) O)
    (hclos : closureFor scope C.env = pure cl)
    (hv : ∀ x p, ρc.lookup x = some p → (x == t) = false ∧ ρ.lookup x = some p ∧ C.env.kindOf x = some .cell ∧ (relabel scope C.env).names.lookup x = some .cell ∧ cl.lookup x = C.env.cells.lookup x)
    (hcell : ∀ y ∈ scope.names, y.2 ≠ .cell) (hnames : ∀ y ∈ scope.names, y.2 = .local → scope.names.lookup y.1 = some .local) (hx : scope.names.lookup t = some .local)
    (hsw : swapsWith (.ListComp elt [⟨.Name t px, iter, ifs, 0⟩] scope pos) (some (.Name y py)) spos.line C.env = pure true)
    (hy : canSet C y) (hO : freeOf O y)
    (hs : ∀ x, foldedSetIterable iter C.env x = pure x := by intro _; rfl) : Ex1 C s₀ E ρ O (.Assign [.Name y py] (.ListComp elt [⟨.Name t px, iter, ifs, 0⟩] scope pos) spos) R := fun Z B s S => by
  rw [exec_Assign_Name_used _ _ _ _ hsw]
  refine wpAny_bind (wpAny_standAt (wpAny_bind ?_))
  show wpAny _ C.A (do let _ ← comprehension (.ListComp elt [⟨.Name t px, iter, ifs, 0⟩] scope pos) scope C.env _ (newList []) false (eval iter C.env) (some (PySem.assign (.Name y py) C.env))) _ _ s
  refine wpAny_bind (wpAny_mono (wpAny_comprehension_free (use := some (PySem.assign (.Name y py) C.env)) (Q := fun _ s' => PsS C s₀ Z B R .next s') rfl hs hclos hk hnames
    (S.ev h fun a s₁ Z₁ x S₁ e₁ r₁ hi => wpAny_mono (hi Z₁ s₁ a S₁.toE.toG r₁) (fun it s₂ ⟨g₂, I, items, hit, ⟨F⟩, hlen, hl⟩ => ?_) fun _ _ e => e)) (fun _ s' hq => wpAny_pure (wpAny_pure hq)) fun _ _ e => e)
  subst hit
  refine comp_core (RR := fun acc C' => compPost W.M C.A E (some (PySem.assign (.Name y py) C.env)) (fun _ s' => PsS C s₀ Z B R .next s') acc C') S₁.toE.toG g₂ F hlen S₁.toE.vars hv hcell hk hx hl ?_
  intro D L h' tk Z' ps m' hDL fD fL kp hn ze zo r zL q
  show wpAny _ C.A (PySem.assign (.Name y py) C.env (.ref D)) _ _ _
  have ne : ∀ {b : Addr}, (∃ o, s₁.heap.get? b = some o) → b ≠ L := fun {b} ⟨o, e⟩ q => by rw [q, fL] at e; cases e
  have nl : L ≠ C.env.locals := fun e => by obtain ⟨m, o, _, _, e1, _⟩ := S₁.ns; exact ne ⟨o, e1⟩ e.symm
  have nc : ∀ x c, C.env.cells.lookup x = some c → c ≠ L := fun x c hc => by obtain ⟨⟨v, o, e1, _⟩, _⟩ := S₁.cells x c hc; exact ne ⟨o, e1⟩
  have no : ∀ x a ps, (x, a, ps) ∈ O → a ≠ L := fun x a ps hm => by obtain ⟨n, vs, e1, _⟩ := (S₁.own x a ps hm).at_; exact ne ⟨_, e1⟩
  have bL : B L = none := by
    cases e : B L with
    | none => rfl
    | some o => obtain ⟨o', e', _⟩ := S₁.bin L o e; rw [fL] at e'; cases e'
  have S₃ : StS W C s₀ ρ O Z' B { s₁ with heap := h', toks := tk } := S₁.go ⟨⟨h', tk, rfl⟩, kp⟩ ze zo
  obtain ⟨oL, hoL⟩ : ∃ o, h'.get? L = some o := let ⟨o, _, _, e, _⟩ := hn; ⟨o, e⟩
  refine wpAny_assign_Name ((S₃.plus1 nl nc no).store r hy hO fun s₄ S₄ => ?_)
  obtain ⟨o', e', cl', dt', _⟩ := S₄.bin L oL (by unfold bplus; rw [if_pos (by simp)]; exact hoL)
  have hn₄ : s₄.heap.Ns L m' := by
    obtain ⟨o, es, ep, e1, e2, r⟩ := hn
    rw [hoL] at e1; cases e1
    exact ⟨o', es, ep, e', dt'.trans e2, r⟩
  refine ⟨m', hn₄, fun h'' hs => ?_⟩
  have S₅ := (S₄.minus1 bL).drop (h' := h'') (tk := s₄.toks) (fun b o n e => hs.extBut b o n e) zL bL nl nc no (fun outer f1 hb => by
    obtain ⟨outer', f1', f2⟩ := S₁.toE.toG.ff
    rw [f1] at f1'; cases f1'
    obtain ⟨_, o, e, _⟩ := f2.mem hb
    exact ne ⟨o, e⟩ rfl)
  exact ⟨Z', _, O, .next, e₁.trans (S₁.zextB ze), S₅, .next, q⟩
end
end Mine

end

section
open PySem PySem.W PyProof.Rows PySem.Calls
namespace Mine

mutual
def pd : PV → PyData
  | .bool b => .bool b
  | .int i => .int i
  | .str l => .str (tx l)
  | .tup ps => .tuple (pdL ps)
  | .lst ps => .list (pdL ps)
  | _ => .none
def pdL : List PV → List PyData
  | [] => []
  | p :: ps => pd p :: pdL ps
end
/-- a sign of Python's -/
def okC (l : List Nat) : Prop := ∀ c ∈ l, c < 1114112
mutual
inductive Dat : Nat → PV → Prop
  | none {n : Nat} : Dat n .none
  | bool {n : Nat} {b : Bool} : Dat n (.bool b)
  | int {n : Nat} {i : Int} : Dat n (.int i)
  | str {n : Nat} {l : List Nat} : okC l → Dat n (.str l)
  | tup {n : Nat} {ps : List PV} : DatL n ps → Dat (n + 1) (.tup ps)
  | lst {n : Nat} {ps : List PV} : DatL n ps → Dat (n + 1) (.lst ps)
inductive DatL : Nat → List PV → Prop
  | nil {n : Nat} : DatL n []
  | cons {n : Nat} {p : PV} {ps : List PV} : Dat n p → DatL n ps → DatL n (p :: ps)
end

mutual
theorem Dat.lay : ∀ {n : Nat} {p : PV}, Dat n p → (pd p).canLay0 = true ∧ (pd p).depth ≤ n ∧ PySem.SeqAt.noMix (pd p) (pd p) = true
  | _, _, .none => by simp [pd, PyData.canLay0, PyData.depth, PySem.SeqAt.noMix]
  | _, _, .bool => by simp [pd, PyData.canLay0, PyData.depth, PySem.SeqAt.noMix]
  | _, _, .int => by simp [pd, PyData.canLay0, PyData.depth, PySem.SeqAt.noMix]
  | _, _, @Dat.str n l h => by
    refine ⟨?_, by simp [pd, PyData.depth], by simp [pd, PySem.SeqAt.noMix]⟩
    simp only [pd, PyData.canLay0, PyData.strOk]
    have h : ∀ c ∈ l, c < 1114112 := h
    simpa using h
  | _, _, .tup h => by
    obtain ⟨a, b, c⟩ := DatL.lay h
    refine ⟨by simpa [pd, PyData.canLay0] using a, by simp only [pd, PyData.depth]; omega, by simpa [pd, PySem.SeqAt.noMix] using c⟩
  | _, _, .lst h => by
    obtain ⟨a, b, c⟩ := DatL.lay h
    refine ⟨by simpa [pd, PyData.canLay0] using a, by simp only [pd, PyData.depth]; omega, by simpa [pd, PySem.SeqAt.noMix] using c⟩
theorem DatL.lay : ∀ {n : Nat} {ps : List PV}, DatL n ps → PyData.canLayAll0 (pdL ps) = true ∧ PyData.depthAll (pdL ps) ≤ n ∧ PySem.SeqAt.noMixAll (pdL ps) (pdL ps) = true
  | _, _, .nil => by simp [pdL, PyData.canLayAll0, PyData.depthAll, PySem.SeqAt.noMixAll]
  | _, _, .cons h t => by
    obtain ⟨a, b, c⟩ := Dat.lay h
    obtain ⟨a', b', c'⟩ := DatL.lay t
    refine ⟨by simp [pdL, PyData.canLayAll0, a, a'], by simp only [pdL, PyData.depthAll]; omega, by simp [pdL, PySem.SeqAt.noMixAll, c, c']⟩
end
mutual
theorem Dat.reads {Z : ZMap} {h : Heap} (zi : ∀ b o, Z b = some o → h.get? b = some o) : ∀ {n : Nat} {p : PV} {v : Value}, Dat n p → Rep Z v p → ∃ as, Reads h v (pd p) as
  | _, _, _, .none, .none => ⟨_, .none⟩
  | _, _, _, .bool, .bool b => ⟨_, by simpa [pd] using Reads.bool b⟩
  | _, _, _, .int, .int i t => ⟨_, by simpa [pd] using Reads.int i t⟩
  | _, _, _, .str _, .str l t => ⟨_, by simpa [pd] using Reads.str _ t⟩
  | _, _, _, .tup h', .tup h1 h2 h3 h4 => by
    obtain ⟨as, r⟩ := DatL.reads zi h' h4
    exact ⟨as, by simp only [pd]; exact .tuple (zi _ _ h1) h2 h3 (by simpa using r)⟩
  | _, _, _, .lst h', .lst h1 h2 h3 h4 => by
    obtain ⟨as, r⟩ := DatL.reads zi h' h4
    exact ⟨_ :: as, by simp only [pd]; exact .list (zi _ _ h1) h2 h3 (by simpa using r)⟩
theorem DatL.reads {Z : ZMap} {h : Heap} (zi : ∀ b o, Z b = some o → h.get? b = some o) : ∀ {n : Nat} {ps : List PV} {vs : List Value}, DatL n ps → RepL Z vs ps → ∃ as, ReadsAll h vs (pdL ps) as
  | _, _, _, .nil, .nil => ⟨_, by simpa [pdL] using ReadsAll.nil⟩
  | _, _, _, .cons d ds, .cons r rs => by
    obtain ⟨as, x⟩ := Dat.reads zi d r
    obtain ⟨bs, y⟩ := DatL.reads zi ds rs
    exact ⟨as ++ bs, by simp only [pdL]; exact .cons x y⟩
end
section
variable {W : Wd} {C : Ac W} {E : Value → Shared → Prop} {Q : PV → Prop}
theorem Op2.eq_same {p : PV} {n : Nat} (d : Dat n p) (hn : n ≤ 64) (h2 : 2 ≤ C.n) (q : Q (.bool true)) : Op2 C E (compareOp .Eq) p p Q := fun Z s a b S ra rb => by
  obtain ⟨as, xa⟩ := d.reads S.z.zin ra
  obtain ⟨bs, xb⟩ := d.reads S.z.zin rb
  obtain ⟨l1, l2, l3⟩ := d.lay
  have sh : PySem.SeqAt.shaped (pd p) = true := by unfold PySem.SeqAt.shaped; rw [l1, Bool.true_and, decide_eq_true_eq]; omega
  refine eq_dataH_same xa xb sh sh (by have := C.ok.hu; omega) l3 ?_
  rw [PySem.Spec.same_self]
  exact .here S (.refl _ _) (.bool _) q
end
end Mine

end

section
open PySem PySem.W PyProof.Rows PySem.Calls
namespace Mine

def noStmt : Stmt := .Pass default
def stmtAt (p : Program) (i : Nat) : Stmt := p.main.body.getD i noStmt
def subAt (s : Stmt) (i : Nat) : Stmt := match s with | .ClassDef _ _ _ body _ _ _ _ _ _ _ => body.getD i noStmt | _ => noStmt
def dName (s : Stmt) : Str := match s with | .FunctionDef n _ _ _ _ _ _ _ _ _ => n | _ => ⟨#[]⟩
def dArgs (s : Stmt) : Arguments := match s with | .FunctionDef _ a _ _ _ _ _ _ _ _ => a | _ => default
def dBody (s : Stmt) : List Stmt := match s with | .FunctionDef _ _ b _ _ _ _ _ _ _ => b | _ => []
def dScope (s : Stmt) : Scope := match s with | .FunctionDef _ _ _ _ _ _ c _ _ _ => c | _ => default

/-- the def st of the text stands at f, with dV for its defaults -/
def HasFnD (W : Wd) (st : Stmt) (qual : Str) (f : Addr) (dV : Value) : Prop :=
  ∃ doc pm an cdv ct oc od osl, W.K.lookup f = some ⟨oc, od, .func (fnOf (dName st) qual (dArgs st) (dBody st) (dScope st) dV .none doc pm an cdv ct), osl⟩ ∧ codeIn W.K cdv qual = true
abbrev HasFn (W : Wd) (st : Stmt) (qual : Str) (f : Addr) : Prop := HasFnD W st qual f .none

theorem Fn.of {W : Wd} {st : Stmt} {qual : Str} {f : Addr} {k : Nat} {ps : List PV} {Q : PV → Prop} (H : HasFn W st qual f) (names : List Str) (hlen : names.length = ps.length)
    (hb : ∀ doc pm an cdv ct vs, vs.length = names.length → bindArgs (fnOf (dName st) qual (dArgs st) (dBody st) (dScope st) .none .none doc pm an cdv ct) ⟨vs, []⟩ = pure (names.zip vs))
    (hl : (names.all fun y => (dScope st).names.lookup y == some .local) = true) (hn : names.Nodup)
    (hk : (dScope st).kind = .function) (hcell : ∀ x ∈ (dScope st).names, x.2 ≠ .cell) (hco : (dScope st).isCoroutine = false) (hgen : (dScope st).isGenerator = false)
    (h : ∀ A L s₀ E cdv (ok : AOk A k), Ex (acOf W A k ok qual (dScope st) L f cdv hk) s₀ E (names.zip ps) [] (dBody st) (RetQ Q)) : Fn W (k + 1) f ps Q := by
  obtain ⟨doc, pm, an, cdv, ct, oc, od, osl, ho, hc⟩ := H
  exact Fn.plain names ho hc hlen (fun vs hv => hb doc pm an cdv ct vs hv) hl hn hk hcell hco hgen fun A L s₀ E ok => h A L s₀ E cdv ok
end Mine
namespace Mine
theorem lit (s : String) : (Str.ofString s).cps.toList = s.toList.map Char.toNat := by rw [Str.ofString_eq_toList]
theorem Ev.strl {W : Wd} {C : Ac W} {E : Value → Shared → Prop} {ρ : Rho} {Q : PV → Prop} {x : Str} {l : List Nat} {k : Nat} {pos : Pos} (e : x.cps.toList = l) (q : Q (.str l)) : Ev C E ρ (.Constant (.str x) k pos) Q := by subst e; exact Ev.str q
theorem Ev.strq {W : Wd} {C : Ac W} {E : Value → Shared → Prop} {ρ : Rho} {Q : PV → Prop} {x : String} {k : Nat} {pos : Pos} (q : ∀ l, x.toList.map Char.toNat = l → Q (.str l)) : Ev C E ρ (.Constant (.str (Str.ofString x)) k pos) Q := Ev.strl (lit x) (q _ rfl)
theorem ifD {p : Prop} [Decidable p] {A B : Prop} (h1 : p → A) (h2 : ¬p → B) : if decide p = true then A else B := by
  by_cases h : p
  · rw [if_pos (decide_eq_true h)]; exact h1 h
  · rw [if_neg (by simpa using h)]; exact h2 h
theorem ifN {p : Prop} [Decidable p] {A B : Prop} (h1 : ¬p → A) (h2 : p → B) : if (!decide p) = true then A else B := by
  by_cases h : p
  · rw [if_neg (by simp [h])]; exact h2 h
  · rw [if_pos (by simp [h])]; exact h1 h
theorem ifC {c : Bool} {A B : Prop} (e : c = true) (h : A) : if c = true then A else B := by rw [if_pos e]; exact h
theorem ifF {c : Bool} {A B : Prop} (e : c = false) (h : B) : if c = true then A else B := by rw [if_neg (by simp [e])]; exact h
theorem ifS {l : List Nat} {A B : Prop} (h1 : l ≠ [] → A) (h2 : l = [] → B) : if (!l.isEmpty) = true then A else B := by
  cases l with
  | nil => exact h2 rfl
  | cons => exact h1 (by simp)
theorem Oc.fn' {W : Wd} {C : Ac W} {E : Value → Shared → Prop} {k : Nat} {f : Addr} {ps : List PV} {Q Q' : PV → Prop} (h : Fn W k f ps Q') (hk : k ≤ C.n) (q : ∀ p, Q' p → Q p) : Oc C E (.ref f) ps Q := Oc.fn (h.mono q) hk
abbrev Vr (ρ : Rho) (x : Str) (p : PV) : Prop := ρ.lookup x = some p
theorem ForL.ind {W : Wd} {C : Ac W} {s₀ : Shared} {E : Value → Shared → Prop} {t : Str} {body : List Stmt} {R : Fl → Rho → Own → Prop} (I : List PV → Rho → Own → Prop) (h0 : ∀ ρ O, I [] ρ O → R .next ρ O)
    (hs : ∀ p ps ρ O, I (p :: ps) ρ O → Ex C s₀ E ((t, p) :: ρ) O body fun f ρ' O' => match f with
      | .next => freeOf O' t ∧ I ps ρ' O'
      | .cont => freeOf O' t ∧ I ps ρ' O'
      | .brk => R .next ρ' O'
      | .ret q => R (.ret q) ρ' O') : ∀ ps ρ O, I ps ρ O → ForL C s₀ E t body ps ρ O R
  | [], ρ, O, h => h0 ρ O h
  | p :: ps, ρ, O, h => Ex.mono (hs p ps ρ O h) fun f ρ' O' q => by
    cases f with
    | next => exact ⟨q.1, ForL.ind I h0 hs ps ρ' O' q.2⟩
    | cont => exact ⟨q.1, ForL.ind I h0 hs ps ρ' O' q.2⟩
    | brk => exact q
    | ret r => exact q
theorem WhileL.ind {W : Wd} {C : Ac W} {s₀ : Shared} {E : Value → Shared → Prop} {test : Expr} {body : List Stmt} {R : Fl → Rho → Own → Prop} (I : Nat → Rho → Own → Prop)
    (hs : ∀ n ρ O, I n ρ O → Tv C E ρ test fun b => if b then 0 < n ∧ Ex C s₀ E ρ O body (fun f ρ' O' => match f with
      | .next => I (n - 1) ρ' O'
      | .cont => I (n - 1) ρ' O'
      | .brk => R .next ρ' O'
      | .ret q => R (.ret q) ρ' O') else R .next ρ O) : ∀ n ρ O, I n ρ O → WhileL C s₀ E test body (n + 1) ρ O R
  | n, ρ, O, h => Tv.mono (hs n ρ O h) fun b q => by
    cases b with
    | false => exact q
    | true =>
      obtain ⟨h0, q⟩ := q
      match n, h0, q with
      | n + 1, _, q =>
        refine Ex.mono q fun f ρ' O' q => ?_
        cases f with
        | next => exact WhileL.ind I hs n ρ' O' q
        | cont => exact WhileL.ind I hs n ρ' O' q
        | brk => exact q
        | ret r => exact q
end Mine
namespace Mine
theorem Oc.rfind' {W : Wd} {C : Ac W} {E : Value → Shared → Prop} {Q : PV → Prop} {l : List Nat} {c : Nat} (q1 : ∀ i : Nat, lastIx c l = some i → Q (.int i)) (q2 : lastIx c l = none → Q (.int (-1))) : Oc C E (.builtin "str.rfind") [.str l, .str [c]] Q := by
  refine Oc.rfind ?_
  cases h : lastIx c l with
  | none => exact q2 h
  | some i => exact q1 i h
theorem lastIx_lt {c : Nat} : ∀ {l : List Nat} {i : Nat}, lastIx c l = some i → i < l.length := fun {l i} h => by
  by_cases hc : c ∈ l
  · obtain ⟨a, b, rfl, hb⟩ := split_last hc
    rw [lastIx_at hb] at h; cases h; simp
  · rw [lastIx_none hc] at h; cases h
theorem pySl_upto {l : List Nat} {k : Int} {i : Nat} (h : k = (i : Int) - l.length) (hi : i < l.length) : pySl l none (some k) = l.take i := by
  unfold pySl hiS loS
  dsimp only
  rw [clipS_neg (by omega) (by omega)]
  have : (k + l.length).toNat = i := by omega
  rw [this]; simp
theorem Oc.join4 {W : Wd} {C : Ac W} {E : Value → Shared → Prop} {Q : PV → Prop} {a b c d : List Nat} (q : Q (.str (a ++ b ++ c ++ d))) (h : a.length + b.length + c.length + d.length ≤ 16000000) : Oc C E (.builtin "str.join") [.str [], .tup ([.str a, .str b] ++ [.str c, .str d])] Q := by
  have e : ([.str a, .str b] ++ [.str c, .str d] : List PV) = [a, b, c, d].map .str := rfl
  rw [e]
  refine Oc.join_tup ?_ (by simp; omega)
  have : joinL [] [a, b, c, d] = a ++ b ++ c ++ d := by simp [joinL]
  rw [this]; exact q
end Mine
namespace Mine
theorem bl_len : bootBuiltins (Str.ofString "len") = some (.builtin "len") := by rfl
theorem bl_range : bootBuiltins (Str.ofString "range") = some (.type "range") := by rfl
theorem bl_list : bootBuiltins (Str.ofString "list") = some (.type "list") := by rfl
theorem bl_isinstance : bootBuiltins (Str.ofString "isinstance") = some (.builtin "isinstance") := by rfl
theorem bl_bool : bootBuiltins (Str.ofString "bool") = some (.type "bool") := by rfl
theorem bl_sum : bootBuiltins (Str.ofString "sum") = some (.builtin "sum") := by rfl
theorem bl_max : bootBuiltins (Str.ofString "max") = some (.builtin "max") := by rfl
theorem bl_abs : bootBuiltins (Str.ofString "abs") = some (.builtin "abs") := by rfl
theorem bl_zip : bootBuiltins (Str.ofString "zip") = some (.type "zip") := by rfl
theorem bl_int : bootBuiltins (Str.ofString "int") = some (.type "int") := by rfl
/-- a text of the pattern, its number between a front and a back -/
structure Spl (x pre core suf : List Nat) : Prop where
  eq : x = pre ++ core ++ suf
  hpre : Pre pre
  hcore : ∀ c ∈ core, inS2 c = true
  hsuf : ∀ c, suf.head? = some c → inS2 c = false
  head : ∀ c, (core ++ suf).head? = some c → inS1 c = true ∧ c ≠ 39
  line : ∀ c ∈ suf, c ≠ 10
theorem Oc.search' {W : Wd} {C : Ac W} {E : Value → Shared → Prop} {Q : PV → Prop} {p : Addr} {x pre core suf : List Nat} (h : Spl x pre core suf) (hp : RePat W p) (hl : x.length ≤ 1000000) (q : Q (.mat x [0, x.length, 0, pre.length, pre.length, (pre.length + core.length : Nat), (pre.length + core.length : Nat), x.length])) :
    Oc C E (.builtin "re.Pattern.search") [.con (.ref p), .str x] Q := Oc.search hp h.eq h.hpre h.hcore h.hsuf h.head h.line hl q
theorem Oc.groups' {W : Wd} {C : Ac W} {E : Value → Shared → Prop} {Q : PV → Prop} {x pre core suf : List Nat} (h : Spl x pre core suf) (hl : x.length ≤ 1000000) (q : Q (.tup [.str pre, .str core, .str suf])) :
    Oc C E (.builtin "re.Match.groups") [.mat x [0, x.length, 0, pre.length, pre.length, (pre.length + core.length : Nat), (pre.length + core.length : Nat), x.length]] Q := by
  obtain ⟨e⟩ := h; subst e; exact Oc.groups hl q

theorem Init.of {W : Wd} {st : Stmt} {qual : Str} {f K T : Addr} {k : Nat} {ps : List PV} {Q : List (Str × PV) → Prop} {o : Obj} {items : Array Value} {n : Nat} (H : HasFnD W st qual f (.ref T)) (hT : W.K.lookup T = some o) (hs : o.data = .seq items n) (names : List Str) (hlen : names.length = ps.length + 1)
    (hb : ∀ doc pm an cdv ct vs, vs.length = names.length → ∃ k, bindArgs (fnOf (dName st) qual (dArgs st) (dBody st) (dScope st) (.ref T) .none doc pm an cdv ct) ⟨vs, []⟩ = seqItems? (.ref T) >>= k ∧ k (some items) = pure (names.zip vs))
    (hl : (names.all fun y => (dScope st).names.lookup y == some .local) = true) (hn : names.Nodup)
    (hk : (dScope st).kind = .function) (hcell : ∀ x ∈ (dScope st).names, x.2 ≠ .cell) (hco : (dScope st).isCoroutine = false) (hgen : (dScope st).isGenerator = false)
    (h : ∀ A L s₀ E x dx cdv (ok : AOk A k), dx ≠ L → Exi (acOf W A k ok qual (dScope st) L f cdv hk) s₀ E K x dx (names.zip (.con (.ref x) :: ps)) [] (dBody st) Q) : Init W (k + 1) K f ps Q := by
  obtain ⟨doc, pm, an, cdv, ct, oc, od, osl, ho, hc⟩ := H
  refine Init.plain names (fun vs => names.zip vs) ho hc hlen (fun s vs X hv => ?_) hl hn hk hcell hco hgen fun A L s₀ E x dx ok n => h A L s₀ E x dx cdv ok n
  obtain ⟨k, e1, e2⟩ := hb doc pm an cdv ct vs hv
  exact binds_K X rfl hT hs e1 e2
end Mine
namespace Mine
/-- a statement, then the rest from what it leaves -/
theorem Ex.cut {W : Wd} {C : Ac W} {s₀ : Shared} {E : Value → Shared → Prop} {ρ : Rho} {O : Own} {st : Stmt} {rest : List Stmt} {R : Fl → Rho → Own → Prop} (I : Rho → Prop) (h1 : Ex1 C s₀ E ρ O st fun f ρ' O' => f = .next ∧ O' = O ∧ I ρ') (h2 : ∀ ρ', I ρ' → Ex C s₀ E ρ' O rest R) : Ex C s₀ E ρ O (st :: rest) R :=
  Ex.cons (Ex1.mono h1 fun f ρ' O' ⟨e1, e2, q⟩ => by subst e1; subst e2; exact h2 ρ' q)
inductive Halves : List Nat → List Nat → List Nat → List Nat → List Nat → List Nat → Prop
  | one {x pre num suf : List Nat} : 59 ∉ x → Spl x pre num suf → Halves x pre num suf (45 :: pre) suf
  | two {p n pre num suf npre nnum nsuf : List Nat} : 59 ∉ p → Spl p pre num suf → Spl n npre nnum nsuf → Halves (p ++ 59 :: n) pre num suf npre nsuf
inductive Power : List Nat → List Nat → Option (List Nat) → Prop
  | none {num : List Nat} : 69 ∉ num → Power num num none
  | some {a e : List Nat} : 69 ∉ a → Power (a ++ 69 :: e) a (some e)
inductive Point : List Nat → List Nat → List Nat → Prop
  | none {n : List Nat} : 46 ∉ n → Point n n []
  | some {a b : List Nat} : 46 ∉ b → Point (a ++ 46 :: b) a b
end Mine
namespace Mine
theorem mem_mid {c : Nat} {a b : List Nat} : c ∈ a ++ c :: b := List.mem_append_right _ List.mem_cons_self
end Mine
namespace Mine
theorem Ev.fstrq {W : Wd} {C : Ac W} {E : Value → Shared → Prop} {ρ : Rho} {Q : PV → Prop} {x : String} {e : Expr} {k : Nat} {p₁ p₂ pos : Pos} (h : ∀ l0, x.toList.map Char.toNat = l0 → Ev C E ρ e fun v => ∃ l, v = .str l ∧ (Q (.str (l0 ++ l)) ∧ l0.length + l.length ≤ 1000000)) (hx : (Str.ofString x).cps.toList.length ≤ 1000 := by decide) :
    Ev C E ρ (.JoinedStr [.Constant (.str (Str.ofString x)) k p₁, .FormattedValue e (-1) Option.none p₂] pos) Q := by
  refine Ev.fstr2 (Ev.mono (h _ rfl) ?_) hx
  rintro p ⟨l, e1, e2, e3⟩
  exact ⟨l, e1, by rw [lit]; exact e2, by rw [lit]; exact e3⟩
end Mine
namespace Mine
theorem Init.mono {W : Wd} {k : Nat} {K f : Addr} {ps : List PV} {Q Q' : List (Str × PV) → Prop} (h : Init W k K f ps Q) (q : ∀ r, Q r → Q' r) : Init W k K f ps Q' := fun A Z s vs x dx a b c d e g r =>
  codeAny_mono (h A Z s vs x dx a b c d e g r) fun _ _ ⟨e1, e2, e3, Z', es, n, fs, e4, e5, e6, e7, e8, e9, e10⟩ => ⟨e1, e2, e3, Z', es, n, fs, e4, e5, e6, e7, e8, e9, q _ e10⟩
end Mine

end

section
open PySem PySem.W PyProof.Rows PySem.Calls
namespace Mine
/-! tables of the text -/
def valOf (s : Stmt) : Expr := match s with | .Assign _ v _ => v | _ => .Constant .none 0 default
def eltsOf (e : Expr) : List Expr := match e with | .Tuple es _ _ => es | _ => []
def exStr (e : Expr) : List Nat := match e with | .Constant (.str s) _ _ => s.cps.toList | _ => []
def exInt (e : Expr) : Int := match e with | .Constant (.int i) _ _ => i | _ => 0
def strTab (s : Stmt) : List (List Nat) := (eltsOf (valOf s)).map exStr
def intTab (s : Stmt) : List Int := (eltsOf (valOf s)).map exInt
def strTab2 (s : Stmt) : List (List (List Nat)) := (eltsOf (valOf s)).map fun e => (eltsOf e).map exStr

section
variable {W : Wd} {C : Ac W} {E : Value → Shared → Prop} {ρ : Rho} {Q : PV → Prop}
theorem Op2.mod_nat {a : Nat} {b : Int} (hb : 0 < b) (q : Q (.int ((a % b.toNat : Nat) : Int))) : Op2 C E (binaryOp .Mod) (.int (a : Int)) (.int b) Q := by
  refine Op2.mod_int ?_ (by omega)
  have e : (a : Int).fmod b = ((a % b.toNat : Nat) : Int) := by
    rw [Int.fmod_eq_emod_of_nonneg _ (by omega)]
    have h : b = (b.toNat : Int) := (Int.toNat_of_nonneg (by omega)).symm
    rw [Int.natCast_emod, ← h]
  rw [e]; exact q
theorem Op2.div_nat {a : Nat} {b : Int} (hb : 0 < b) (h : b.natAbs.log2 < 9000) (q : Q (.int ((a / b.toNat : Nat) : Int))) : Op2 C E (binaryOp .FloorDiv) (.int (a : Int)) (.int b) Q := by
  refine Op2.div_int ?_ (by omega) h
  have e : (a : Int).fdiv b = ((a / b.toNat : Nat) : Int) := by
    rw [Int.fdiv_eq_ediv_of_nonneg _ (by omega)]
    have h : b = (b.toNat : Int) := (Int.toNat_of_nonneg (by omega)).symm
    rw [Int.natCast_ediv, ← h]
  rw [e]; exact q
theorem getIdx_map {α : Type} {f : α → PV} {l : List α} {i : Nat} (d : α) (h : i < l.length) : getIdx (l.map f) (i : Int) = some (f (l.getD i d)) := by
  rw [getIdx_nat (by omega), Int.toNat_natCast, List.getElem?_map, List.getElem?_eq_getElem h]
  simp [List.getD, List.getElem?_eq_getElem h]
theorem Ot.tupI {α : Type} {value slice : Expr} {f : α → PV} {l : List α} {i : Nat} (d : α) (h : i < l.length) (h2 : l.length ≤ 100000) (q : Q (f (l.getD i d))) (hs : SubOps slice := by intro _ _; rfl) : Ot C E value slice (.tup (l.map f)) (.int (i : Int)) Q :=
  Ot.tup (getIdx_map d h) q (by omega) (by omega) hs
/-- places from the last to the first -/
def downs : Nat → List PV
  | 0 => []
  | m + 1 => .int (m : Int) :: downs m
theorem steps_cons (a c : Int) (n : Nat) : steps a c (n + 1) = .int a :: steps (a + c) c n := by
  unfold steps
  rw [List.range_succ_eq_map, List.map_cons, List.map_map]
  congr 1
  · simp
  · apply List.map_congr_left
    intro i _
    show PV.int _ = PV.int _
    congr 1
    simp only [Nat.succ_eq_add_one, Int.natCast_add, Int.natCast_one, Int.add_mul, Int.one_mul]
    omega
theorem steps_down : ∀ n : Nat, steps ((n : Int) - 1) (-1) n = downs n
  | 0 => rfl
  | n + 1 => by
    rw [steps_cons, show ((n + 1 : Nat) : Int) - 1 = (n : Int) by omega, show (n : Int) + -1 = (n : Int) - 1 by omega, steps_down n]; rfl
theorem small_of {a b c : Int} {n : Nat} (e : Builtin.Range.rangeSize a b c = (n : Int)) (ha : -1000000000 ≤ a ∧ a ≤ 1000000000) (hb : -1000000000 ≤ b ∧ b ≤ 1000000000) (hc : -1000000000 ≤ c ∧ c ≤ 1000000000) (hn : n ≤ 1000000000) : Builtin.Range.small a b c = true := by
  unfold Builtin.Range.small
  rw [e]
  have fits : ∀ i : Int, -4000000000 ≤ i → i ≤ 4000000000 → Builtin.Range.rangeFitsLong i = true := fun i h1 h2 => by
    unfold Builtin.Range.rangeFitsLong
    rw [Bool.and_eq_true, decide_eq_true_eq, decide_eq_true_eq]
    have : (2 : Int) ^ 63 = 9223372036854775808 := by decide
    omega
  simp [fits a (by omega) (by omega), fits b (by omega) (by omega), fits c (by omega) (by omega), fits n (by omega) (by omega)]
  right
  split
  · exact fits _ (by omega) (by omega)
  · exact fits _ (by omega) (by omega)
theorem Itr.downs {n : Nat} {P : List PV → Prop} {a : Int} (ha : a = (n : Int) - 1) (hn : n < 1000000) (q : P (downs n)) : Itr C E (.rng a (-1) (-1)) P := by
  subst ha
  have e : Builtin.Range.rangeSize ((n : Int) - 1) (-1) (-1) = (n : Int) := by
    unfold Builtin.Range.rangeSize
    rw [if_neg (by omega)]
    by_cases h : (n : Int) - 1 > -1
    · rw [if_pos h, show -(-1 : Int) = 1 by rfl, Int.ediv_one]; omega
    · rw [if_neg h]; omega
  exact Itr.rng n e (small_of e (by omega) (by omega) (by omega) (by omega)) (by rw [steps_down]; exact q)
/-- places from i on, n of them -/
def ups : Nat → Nat → List PV
  | _, 0 => []
  | i, n + 1 => .int (i : Int) :: ups (i + 1) n
theorem steps_up : ∀ n i : Nat, steps (i : Int) 1 n = ups i n
  | 0, i => rfl
  | n + 1, i => by rw [steps_cons, show (i : Int) + 1 = ((i + 1 : Nat) : Int) by omega, steps_up n]; rfl
theorem Itr.ups {P : List PV → Prop} {b : Int} (n : Nat) (hb : b = (n : Int)) (hn : n < 1000000) (q : P (ups 0 n)) : Itr C E (.rng 0 b 1) P := by
  subst hb
  have e : Builtin.Range.rangeSize 0 (n : Int) 1 = (n : Int) := by
    unfold Builtin.Range.rangeSize
    rw [if_pos (by omega)]
    by_cases h : (0 : Int) < n
    · rw [if_pos h, Int.ediv_one]; omega
    · rw [if_neg h]; omega
  exact Itr.rng n e (small_of e (by omega) (by omega) (by omega) (by omega)) (by have := steps_up n 0; rw [show ((0 : Nat) : Int) = 0 by rfl] at this; rw [this]; exact q)
end
end Mine
namespace Mine
section
variable {W : Wd} {C : Ac W} {E : Value → Shared → Prop} {ρ : Rho} {Q : PV → Prop}
theorem Ot.tupK {α : Type} {value slice : Expr} {f : α → PV} {l : List α} {k : Int} (i : Nat) (hk : k = (i : Int)) (d : α) (h : i < l.length) (h2 : l.length ≤ 100000) (q : Q (f (l.getD i d))) (hs : SubOps slice := by intro _ _; rfl) : Ot C E value slice (.tup (l.map f)) (.int k) Q := by
  subst hk; exact Ot.tupI d h h2 q hs
end
end Mine
namespace Mine
theorem getD_len {t : List (List Nat)} {n : Nat} (h : (t.all fun l => decide (l.length ≤ n)) = true) (i : Nat) : (t.getD i []).length ≤ n := by
  by_cases hi : i < t.length
  · have := List.all_eq_true.mp h t[i] (List.getElem_mem hi)
    simp only [List.getD, List.getElem?_eq_getElem hi, Option.getD_some]
    exact of_decide_eq_true this
  · have : t.getD i [] = [] := by simp [List.getD, List.getElem?_eq_none (Nat.le_of_not_lt hi)]
    rw [this]; exact Nat.zero_le _
end Mine
namespace Mine
section
variable {W : Wd} {C : Ac W} {E : Value → Shared → Prop} {ρ : Rho} {Q : PV → Prop}
theorem Op2.mod_lit {a n : Nat} (hn : 0 < n) (q : Q (.int ((a % (@OfNat.ofNat Nat n _) : Nat) : Int))) : Op2 C E (binaryOp .Mod) (.int (a : Int)) (.int (@OfNat.ofNat Int n instOfNat)) Q :=
  Op2.mod_nat (b := ((n : Nat) : Int)) (by omega) (by rw [Int.toNat_natCast]; exact q)
theorem Op2.div_lit {a n : Nat} (hn : 0 < n) (h : n.log2 < 9000) (q : Q (.int ((a / (@OfNat.ofNat Nat n _) : Nat) : Int))) : Op2 C E (binaryOp .FloorDiv) (.int (a : Int)) (.int (@OfNat.ofNat Int n instOfNat)) Q :=
  Op2.div_nat (b := ((n : Nat) : Int)) (by omega) (by simpa using h) (by rw [Int.toNat_natCast]; exact q)
end
theorem nd_f {p : Prop} [Decidable p] (h : p) : (!decide p) = false := by simp [h]
theorem nd_t {p : Prop} [Decidable p] (h : ¬ p) : (!decide p) = true := by simp [h]
end Mine

end

section
open PySem
namespace Mine
/-- fronts, read sign by sign -/
def preB : List Nat → Bool → Bool
  | [], q => !q
  | c :: r, false => if c = 39 then preB r true else !inS1 c && preB r false
  | c :: r, true => if c = 39 then preB r false else preB r true
theorem preB_ok : ∀ l : List Nat, (preB l false = true → Pre l) ∧ (preB l true = true → ∃ i r, l = i ++ 39 :: r ∧ (∀ c ∈ i, c ≠ 39) ∧ Pre r)
  | [] => ⟨fun _ => .nil, fun h => by simp [preB] at h⟩
  | c :: r => by
    obtain ⟨ih1, ih2⟩ := preB_ok r
    constructor
    · intro h
      unfold preB at h
      by_cases q : c = 39
      · rw [if_pos q] at h
        obtain ⟨i, r', e, hi, hp⟩ := ih2 h
        rw [e, q]; exact .quo hi hp
      · rw [if_neg q, Bool.and_eq_true, Bool.not_eq_true'] at h
        exact .one h.1 (ih1 h.2)
    · intro h
      unfold preB at h
      by_cases q : c = 39
      · rw [if_pos q] at h
        exact ⟨[], r, by rw [q]; rfl, by simp, ih1 h⟩
      · rw [if_neg q] at h
        obtain ⟨i, r', e, hi, hp⟩ := ih2 h
        refine ⟨c :: i, r', by rw [e]; rfl, fun d hd => ?_, hp⟩
        rcases List.mem_cons.mp hd with rfl | hd
        · exact q
        · exact hi d hd
def headB (l : List Nat) : Bool := match l with | [] => true | c :: _ => inS1 c && c != 39
def sufB (l : List Nat) : Bool := (match l with | [] => true | c :: _ => !inS2 c) && l.all (· != 10)
theorem Spl.of {pre core suf : List Nat} (h1 : preB pre false = true) (h2 : core.all inS2 = true) (h3 : sufB suf = true) (h4 : headB (core ++ suf) = true) : Spl (pre ++ core ++ suf) pre core suf := by
  unfold sufB at h3
  rw [Bool.and_eq_true] at h3
  refine ⟨rfl, (preB_ok pre).1 h1, fun c hc => List.all_eq_true.mp h2 c hc, fun c hc => ?_, fun c hc => ?_, fun c hc => ?_⟩
  · cases suf with
    | nil => cases hc
    | cons d r => cases hc; simpa using h3.1
  · cases e : core ++ suf with
    | nil => rw [e] at hc; cases hc
    | cons d r =>
      rw [e] at hc h4; cases hc
      unfold headB at h4
      rw [Bool.and_eq_true] at h4
      exact ⟨h4.1, bne_iff_ne.mp h4.2⟩
  · exact bne_iff_ne.mp (List.all_eq_true.mp h3.2 c hc)
theorem headB_app {a b : List Nat} (h : headB a = true) (ne : a ≠ []) : headB (a ++ b) = true := by
  cases a with
  | nil => exact absurd rfl ne
  | cons => exact h
end Mine
namespace Mine
open PySem.W PyProof.Rows PySem.Calls
/-- a block that maps -/
theorem CompL.map {W : Wd} {C : Ac W} {E : Value → Shared → Prop} {t : Str} {elt : Expr} {ρ : Rho} {P : List PV → Prop} (g : PV → PV) : ∀ (items acc : List PV), (∀ p ∈ items, Ev C E ((t, p) :: ρ) elt fun y => y = g p) → P (acc ++ items.map g) → CompL C E t elt [] ρ items acc P
  | [], acc, _, q => by simpa [CompL] using q
  | p :: ps, acc, h, q => by
    show Ev C E ((t, p) :: ρ) elt fun y => CompL C E t elt [] ρ ps (acc ++ [y]) P
    refine Ev.mono (h p List.mem_cons_self) fun y e => ?_
    subst e
    exact CompL.map g ps _ (fun p hp => h p (List.mem_cons_of_mem _ hp)) (by simpa using q)
theorem CompL.step {W : Wd} {C : Ac W} {E : Value → Shared → Prop} {t : Str} {elt : Expr} {ρ : Rho} {P : List PV → Prop} {p : PV} {ps acc : List PV} (h : Ev C E ((t, p) :: ρ) elt fun y => CompL C E t elt [] ρ ps (acc ++ [y]) P) : CompL C E t elt [] ρ (p :: ps) acc P := h
theorem CompL.done {W : Wd} {C : Ac W} {E : Value → Shared → Prop} {t : Str} {elt : Expr} {ifs : List Expr} {ρ : Rho} {P : List PV → Prop} {acc : List PV} (h : P acc) : CompL C E t elt ifs ρ [] acc P := h
/-- an int's remainder as a natural number -/
def modN (b : Nat) (n : Int) : Nat := (n.fmod b).toNat
theorem modN_eq {b : Nat} (hb : 0 < b) (n : Int) : n.fmod b = (modN b n : Int) := by
  unfold modN
  rw [Int.toNat_of_nonneg]
  rw [Int.fmod_eq_emod_of_nonneg _ (by omega)]
  exact Int.emod_nonneg _ (by omega)
end Mine
namespace Mine
theorem pySl_take {α : Type} (l : List α) (k : Nat) : pySl l none (some (k : Int)) = l.take k := by
  unfold pySl loS hiS
  dsimp only
  rw [List.drop_zero]
  have : clipS (k : Int) l.length = min k l.length := by unfold clipS; rw [if_neg (by omega)]; omega
  rw [this]
  by_cases h : k ≤ l.length
  · rw [Nat.min_eq_left h]
  · rw [Nat.min_eq_right (by omega), List.take_of_length_le (Nat.le_refl _), List.take_of_length_le (by omega)]
theorem hv_nil {W : Wd} {C : Ac W} {scope : Scope} {cl : List (Str × Addr)} {t : Str} {ρ : Rho} : ∀ x p, List.lookup x ([] : Rho) = some p → (x == t) = false ∧ ρ.lookup x = some p ∧ C.env.kindOf x = some .cell ∧ (relabel scope C.env).names.lookup x = some .cell ∧ cl.lookup x = C.env.cells.lookup x := fun x p h => by cases h
theorem hv_one {W : Wd} {C : Ac W} {scope : Scope} {cl : List (Str × Addr)} {t y : Str} {q : PV} {ρ : Rho} (h1 : (y == t) = false) (h2 : ρ.lookup y = some q) (h3 : C.env.kindOf y = some .cell) (h4 : (relabel scope C.env).names.lookup y = some .cell) (h5 : cl.lookup y = C.env.cells.lookup y) :
    ∀ x p, List.lookup x ([(y, q)] : Rho) = some p → (x == t) = false ∧ ρ.lookup x = some p ∧ C.env.kindOf x = some .cell ∧ (relabel scope C.env).names.lookup x = some .cell ∧ cl.lookup x = C.env.cells.lookup x := fun x p h => by
  rw [List.lookup_cons] at h
  cases e : x == y with
  | true =>
    rw [e] at h; cases h
    have := beq_iff_eq.mp e; subst this
    exact ⟨h1, h2, h3, h4, h5⟩
  | false => rw [e] at h; cases h
theorem cells_of {scope : Scope} (h : (scope.names.all fun y => y.2 != .cell) = true) : ∀ y ∈ scope.names, y.2 ≠ .cell := fun y hy e => by
  have := List.all_eq_true.mp h y hy
  rw [e] at this; exact absurd this (by decide)
theorem names_of {scope : Scope} (h : (scope.names.all fun y => y.2 != .local || scope.names.lookup y.1 == some .local) = true) : ∀ y ∈ scope.names, y.2 = .local → scope.names.lookup y.1 = some .local := fun y hy e => by
  have := List.all_eq_true.mp h y hy
  rw [e] at this
  exact beq_iff_eq.mp (by simpa using this)
end Mine

end

section
open PySem PySem.W PyProof.Rows PySem.Calls
namespace Mine

theorem mg_none {K : Frag} {h : Heap} {mg : Str → Option Value} {n : Str} (X : K.In h) (G : h.Ns mainGlobals mg) (e : nsIn K mainGlobals n = some none) : mg n = none := by
  obtain ⟨o, es, ep, ho, hd, _, hf⟩ := G
  unfold nsIn at e
  split at e
  · rename_i c d es' n' sl q
    have := X _ _ q
    rw [ho] at this; cases this
    cases hd
    split at e
    · cases e
    · rename_i hn
      rw [← hf n]; unfold nsFind findBy; rw [← Array.find?_toList, hn]; rfl
  · cases e

/-- the world of a law -/
def mkW {p : Program} {loose : List Str} {mean : ExcName → Option Value} {mg mb : Str → Option Value} {h : Heap} (prog : Program) (w : World) (K : Frag) (KX : K.In h) (T : Top p loose mean mg mb h) : Wd :=
  ⟨prog, w, h, K, mg, mb, KX, T.g, T.b, T.nolimit, T.nodigits, T.builtins⟩

theorem repInts {Z : ZMap} : ∀ {vs : List Value} {ns : List Int}, IntsAre vs ns → RepL Z vs (ns.map PV.int)
  | _, _, .nil => .nil
  | _, _, .cons k t r => .cons (.int k t) (repInts r)

theorem fin {W : Wd} {s₁ : Shared} (hG : W.G = s₁.heap) {env : Env} {A : Around} (ok : AOk A 6) (hfr : A.frames = some [env]) (hk : env.scope.kind = .function) (hg : env.globals = mainGlobals) (hb : env.builtins = builtinsNs)
    (hf : env.frame = some env.locals) (hL : env.locals = s₁.heap.objs.size) {h₁ : Heap} {tk₁ : Nat} {m : Str → Option Value} (F : Fr s₁.heap s₁.heap.objs.size h₁ m)
    {a : Addr} {vs : List Value} {ns : List Int} (hl : s₁.heap.IsList a vs.toArray) (hi : IntsAre vs ns) (hms : m "script" = some (.ref a)) (hks : env.kindOf "script" = some .local)
    (hcells : ∀ x c, env.cells.lookup x = some c → (∃ v, h₁.IsCell c v) ∧ s₁.heap.get? c = none) (hap : env.cells.Pairwise fun x y => x.2 ≠ y.2) {body : List Stmt} {E : Value → Shared → Prop} {post : Flow → Shared → Prop}
    (hex : Ex (⟨A, env, 6, ok, hk, hg, hb⟩ : Ac W) s₁ E [("script", .lst (ns.map .int))] [] body (RetQ fun p => p = .bool true))
    (hpost : ∀ s', (∀ b o, s₁.heap.get? b = some o → s'.heap.get? b = some o) → s'.os = s₁.os → s'.gens = s₁.gens → post (.ret (.bool true)) s') :
    wpAny (model W.prog W.w) A (execs body env) post E { s₁ with heap := h₁, toks := tk₁ } := by
  have fr : s₁.heap.get? env.locals = none := by rw [hL]; exact fresh
  obtain ⟨o, ho, hcl, n, hd⟩ := hl
  have S : StS W (⟨A, env, 6, ok, hk, hg, hb⟩ : Ac W) s₁ [("script", .lst (ns.map .int))] [] s₁.heap.get? s₁.heap.get? { s₁ with heap := h₁, toks := tk₁ } := by
    have hns := F.ns
    rw [← hL] at hns
    refine ⟨⟨⟨⟨fun b o e => F.keep b o e, fun b o e => .inr ⟨o, by rw [hG]; exact e⟩⟩, fun b o e => by rw [hG] at e; exact e, ?_⟩, fun x p e => ?_⟩, ⟨h₁, tk₁, rfl⟩, ⟨m, hns⟩, fr, fr, fun x c hc => ?_, hap, fun b o e => ⟨o, F.keep b o e, rfl, rfl, fun _ => rfl⟩, fun _ _ _ h => (nomatch h), .nil⟩
    · refine ⟨[env], hfr, ?_⟩
      obtain ⟨oL, es, ep, e1, e2, _⟩ := hns
      exact ⟨by rw [hk]; decide, ⟨env.locals, oL, hf, by rw [hG]; exact fr, e1, fun vs e => by rw [e2] at e; cases e⟩, trivial⟩
    · rw [List.lookup_cons] at e
      cases h : x == ("script" : Str) with
      | false => rw [h] at e; cases e
      | true =>
        rw [h] at e; cases e
        have := beq_iff_eq.mp h; subst this
        exact ⟨.ref a, .inl ⟨hks, m, hns, hms⟩, .lst ho hcl hd (by simpa using repInts hi)⟩
    · obtain ⟨x1, x2⟩ := hcells x c hc
      exact ⟨x1, x2, x2⟩
  refine wpAny_mono (hex _ _ _ S) (fun fl s' ⟨Z', ρ', O', f', e', S', r', q'⟩ => ?_) fun _ _ x => x
  cases r' with
  | ret rv =>
    have q' : _ = PV.bool true := q'
    subst q'
    cases rv
    obtain ⟨h', tk', hs'⟩ := S'.eq
    refine hpost s' (fun b o e => ?_) (by rw [hs']) (by rw [hs'])
    obtain ⟨o', h1, _, _, k⟩ := S'.bin b o e
    rw [h1, k (.inr ⟨o, by rw [hG]; exact e⟩)]
  | next => cases (show PV.none = PV.bool true from q')
  | brk => exact q'.elim
  | cont => exact q'.elim
end Mine

end

section
open PySem PySem.W PyProof.Rows PySem.Calls
namespace Mine
local macro_rules | `(tactic| kas_types) => `(tactic| first
  | ((with_reducible show Ex _ _ _ _ _ [] _); refine Ex.nil ?_)
  | ((with_reducible show Ex _ _ _ _ _ (_ :: _) _); refine Ex.cons ?_)
  | ((with_reducible show Ex1 _ _ _ _ _ (Stmt.If _ _ _ _) _); refine Ex1.ite ?_)
  | ((with_reducible show Ex1 _ _ _ _ _ (Stmt.Return (some _) _) _); refine Ex1.ret ?_)
  | ((with_reducible show Ex1 _ _ _ _ _ (Stmt.Assign [Expr.Name _ _] _ _) _); refine Ex1.assign ?_)
  | ((with_reducible show Ex1 _ _ _ _ _ (Stmt.Assign [Expr.Name _ _, Expr.Name _ _] _ _) _); refine Ex1.assign2 ?_)
  | ((with_reducible show Ex1 _ _ _ _ _ (Stmt.Assign [Expr.Tuple _ _ _] _ _) _); refine Ex1.unpack ?_)
  | ((with_reducible show Ex1 _ _ _ _ _ (Stmt.AugAssign (Expr.Name _ _) _ _ _) _); refine Ex1.aug (by first | rfl | assumption) ?_)
  | ((with_reducible show Ex1 _ _ _ _ _ (Stmt.Break _) _); refine Ex1.brk ?_)
  | ((with_reducible show Ex1 _ _ _ _ _ (Stmt.Continue _) _); refine Ex1.cont ?_)
  | ((with_reducible show Ev _ _ _ (Expr.Name _ _) _); first | refine Ev.var (by first | rfl | assumption) ?_ | ((with_reducible show Ev _ _ _ (Expr.Name (Str.ofString "len") _) _); refine Ev.boot (by assumption) bl_len ?_) | ((with_reducible show Ev _ _ _ (Expr.Name (Str.ofString "range") _) _); refine Ev.boot (by assumption) bl_range ?_) | ((with_reducible show Ev _ _ _ (Expr.Name (Str.ofString "list") _) _); refine Ev.boot (by assumption) bl_list ?_) | ((with_reducible show Ev _ _ _ (Expr.Name (Str.ofString "isinstance") _) _); refine Ev.boot (by assumption) bl_isinstance ?_) | ((with_reducible show Ev _ _ _ (Expr.Name (Str.ofString "bool") _) _); refine Ev.boot (by assumption) bl_bool ?_) | ((with_reducible show Ev _ _ _ (Expr.Name (Str.ofString "sum") _) _); refine Ev.boot (by assumption) bl_sum ?_) | ((with_reducible show Ev _ _ _ (Expr.Name (Str.ofString "max") _) _); refine Ev.boot (by assumption) bl_max ?_) | ((with_reducible show Ev _ _ _ (Expr.Name (Str.ofString "abs") _) _); refine Ev.boot (by assumption) bl_abs ?_) | ((with_reducible show Ev _ _ _ (Expr.Name (Str.ofString "zip") _) _); refine Ev.boot (by assumption) bl_zip ?_) | ((with_reducible show Ev _ _ _ (Expr.Name (Str.ofString "int") _) _); refine Ev.boot (by assumption) bl_int ?_) | refine Ev.glob (by assumption) (by assumption) ?_ | refine Ev.glob (by assumption) (Rep.con _) ?_)
  | ((with_reducible show Ev _ _ _ (Expr.Constant (Const.int _) _ _) _); refine Ev.int ?_)
  | ((with_reducible show Ev _ _ _ (Expr.Constant (Const.str _) _ _) _); (refine Ev.strq fun litL litH => ?_); (simp at litH); (subst litH))
  | ((with_reducible show Ev _ _ _ (Expr.Constant (Const.bool _) _ _) _); refine Ev.bool ?_)
  | ((with_reducible show Ev _ _ _ (Expr.Constant Const.none _ _) _); refine Ev.none ?_)
  | ((with_reducible show Ev _ _ _ (Expr.BinOp _ _ _ _) _); refine Ev.binop ?_)
  | ((with_reducible show Ev _ _ _ (Expr.UnaryOp _ _ _) _); refine Ev.unop ?_)
  | ((with_reducible show Ev _ _ _ (Expr.Compare _ [_] [_] _) _); refine Ev.cmp ?_)
  | ((with_reducible show Ev _ _ _ (Expr.IfExp _ _ _ _) _); refine Ev.ifexp ?_)
  | ((with_reducible show Ev _ _ _ (Expr.BoolOp _ _ _) _); refine Ev.boolop ?_)
  | ((with_reducible show Ev _ _ _ (Expr.Tuple _ _ _) _); refine Ev.tuple ?_)
  | ((with_reducible show Ev _ _ _ (Expr.List _ _) _); refine Ev.list ?_)
  | ((with_reducible show Ev _ _ _ (Expr.Subscript _ (Expr.Slice _ _ Option.none _) _) _); refine Ev.slice ?_)
  | ((with_reducible show Ev _ _ _ (Expr.Subscript _ _ _) _); refine Ev.item ?_)
  | ((with_reducible show Ev _ _ _ (Expr.Call (Expr.Attribute _ _ _) [] [] _) _); refine Ev.meth0 ?_)
  | ((with_reducible show Ev _ _ _ (Expr.Call (Expr.Attribute _ _ _) _ [] _) _); refine Ev.meth ?_)
  | ((with_reducible show Ev _ _ _ (Expr.Call _ [] [] _) _); refine Ev.call0 ?_)
  | ((with_reducible show Ev _ _ _ (Expr.Call _ _ [] _) _); refine Ev.call ?_)
  | ((with_reducible show Ev _ _ _ (Expr.JoinedStr [Expr.Constant _ _ _, Expr.FormattedValue _ _ _ _] _) _); (refine Ev.fstrq fun litL litH => ?_); (simp at litH); (subst litH))
  | ((with_reducible show Eo _ _ _ Option.none _); refine Eo.none ?_)
  | ((with_reducible show Eo _ _ _ (some _) _); refine Eo.some ?_)
  | ((with_reducible show El _ _ _ _ [] _); refine El.nil ?_)
  | ((with_reducible show El _ _ _ _ (_ :: _) _); refine El.cons ?_)
  | ((with_reducible show Eb _ _ _ _ _ [_] _); refine Eb.one ?_)
  | ((with_reducible show Eb _ _ _ _ BoolOp.And (_ :: _ :: _) _); refine Eb.and ?_)
  | ((with_reducible show Eb _ _ _ _ BoolOp.Or (_ :: _ :: _) _); refine Eb.or ?_)
  | ((with_reducible show Tv _ _ _ (Expr.Compare _ [_] [_] _) _); refine Tv.cmp ?_)
  | ((with_reducible show Tv _ _ _ (Expr.UnaryOp UnaryOp.Not _ _) _); refine Tv.not ?_)
  | ((with_reducible show Tv _ _ _ (Expr.BoolOp _ _ _) _); refine Tv.boolop ?_)
  | ((with_reducible show Tv _ _ _ _ _); refine Tv.value ?_)
  | ((with_reducible show Ta _ _ _ BoolOp.And [] _); refine Ta.and_nil ?_)
  | ((with_reducible show Ta _ _ _ BoolOp.Or [] _); refine Ta.or_nil ?_)
  | ((with_reducible show Ta _ _ _ BoolOp.And (_ :: _) _); refine Ta.and ?_)
  | ((with_reducible show Ta _ _ _ BoolOp.Or (_ :: _) _); refine Ta.or ?_)
  | with_reducible refine ifC (by with_unfolding_all rfl) ?_
  | with_reducible refine ifF (by with_unfolding_all rfl) ?_
  | with_reducible refine ifC (decide_eq_true (by assumption)) ?_
  | with_reducible refine ifC (decide_eq_true mem_mid) ?_
  | with_reducible refine ifF (decide_eq_false (by assumption)) ?_
  | with_reducible refine ifF (decide_eq_false (by omega)) ?_
  | with_reducible refine ifC (decide_eq_true (by omega)) ?_
  | with_reducible refine ifF (nd_f (by omega)) ?_
  | with_reducible refine ifC (nd_t (by omega)) ?_
  | with_reducible refine ifD (fun _ => ?_) (fun _ => ?_)
  | with_reducible refine ifN (fun _ => ?_) (fun _ => ?_)
  | with_reducible refine ifS (fun _ => ?_) (fun _ => ?_)
  | with_reducible refine Ob1.of_bool ?_
  | with_reducible refine Ob1.of_none ?_
  | ((with_reducible show _ ∧ (_ : Nat) ≤ 1000000); (refine And.intro ?_ (by first | omega | (simp; done) | (simp; omega))))
  | with_reducible refine Ob1.of_str ?_ ?_
  | with_reducible refine Op2.add_int ?_
  | with_reducible refine Op2.sub_int ?_
  | with_reducible refine Op2.eq_int ?_
  | with_reducible refine Op2.ne_int ?_
  | with_reducible refine Op2.lt_int ?_
  | with_reducible refine Op2.le_int ?_
  | with_reducible refine Op2.gt_int ?_
  | with_reducible refine Op2.ge_int ?_
  | with_reducible refine Op1.neg_int ?_
  | with_reducible refine iadd_int' ?_
  | with_reducible refine Op2.eq_str ?_
  | with_reducible refine Op2.ne_str ?_
  | with_reducible refine Op2.in_one ?_
  | with_reducible refine Op2.is_none_none ?_
  | with_reducible refine Op2.isnot_none_none ?_
  | ((with_reducible show Op2 _ _ (compareOp CmpOp.Is) _ PV.none _); refine Op2.is_none (by exact trivial) ?_)
  | ((with_reducible show Op2 _ _ (compareOp CmpOp.IsNot) _ PV.none _); refine Op2.isnot_none (by exact trivial) ?_)
  | with_reducible refine Oc.rfind' (fun _ _ => ?_) (fun _ => ?_)
  | (refine Oc.search' (by assumption) (by assumption) (by assumption) ?_)
  | (refine Oc.groups' (by assumption) (by assumption) ?_)
  | (refine Oc.split1 (by assumption) ?_ ?_)
  | (refine Oc.rsplit1 (by assumption) ?_ ?_)
  | with_reducible refine Op2.mod_lit (by decide) ?_
  | with_reducible refine Op2.div_lit (by decide) (by decide) ?_
  | with_reducible refine Oc.range3 ?_ (by decide)
  | with_reducible refine Op2.mul_str ?_ ?_ ?_
  | (refine Ot.tupI default (Nat.lt_of_lt_of_le (Nat.mod_lt _ (by decide)) (by decide)) (by decide) ?_)
  | ((with_reducible show Ot _ _ _ _ (PV.lst (_ :: _)) _ _); (refine Ot.lst rfl ?_))
  | ((with_reducible show Ot _ _ _ _ (PV.tup (_ :: _)) _ _); (refine Ot.tup rfl ?_))
  | with_reducible refine Oc.len_str ?_ ?_
  | with_reducible refine Oc.len_lst ?_ ?_
  | with_reducible refine Oc.len_tup ?_ ?_
  | with_reducible refine Os.str ?_ ?_
  | with_reducible refine Os.lst ?_ ?_
  | with_reducible refine Op2.add_str ?_ ?_
  | with_reducible refine Oc.lstrip ?_ ?_
  | with_reducible refine Op2.add_tup ?_ ?_ ?_ ?_
  | with_reducible refine Oc.join4 ?_ ?_
  | ((with_reducible show Ev _ _ _ (Expr.Attribute _ _ _) _); (refine Ev.attr ?_))
  | ((with_reducible show Exists _); ((refine ⟨_, _, _, _, rfl, (by assumption), (by assumption), (by first | rfl | assumption), (by first | rfl | assumption), ?_⟩)))
  | (refine Gm.inst (by assumption) (by assumption) (by assumption) (by assumption) rfl ?_)
  | (refine Gm.search (by assumption) ?_)
  | with_reducible refine Oc.startswith ?_
  | with_reducible refine Oc.range1 ?_
  | with_reducible refine Oc.range2 ?_
  | with_reducible refine Oc.isi_bool ?_
  | with_reducible refine Gm.rfind ?_
  | with_reducible refine Gm.split ?_
  | with_reducible refine Gm.rsplit ?_
  | with_reducible refine Gm.startswith ?_
  | with_reducible refine Gm.lstrip ?_
  | with_reducible refine Gm.join ?_
  | with_reducible refine Gm.groups ?_
  | ((with_reducible show Exists _); (with_reducible refine ⟨_, rfl, Kpr.builtin _, ?_⟩))
  | ((with_reducible show Exists _); (with_reducible refine ⟨_, rfl, Kpr.type _, ?_⟩))
  | ((with_reducible show Exists _); (refine ⟨_, rfl, Kpr.k (by assumption), ?_⟩))
  | ((with_reducible show Exists _); ((refine ⟨_, .inl rfl, rfl, ?_⟩)))
  | ((with_reducible show Exists _); ((refine ⟨_, .inr rfl, rfl, ?_⟩)))
  | ((with_reducible show Exists _); (with_reducible refine ⟨_, rfl, ?_⟩))
  | dsimp only)

abbrev pw := PySem.Challenge.pw_fy0002_02
def prec : List Nat → Int → Int → Int × Int
  | [], a, b => (a, b)
  | c :: r, a, b => if c ∈ [64, 48] then prec r (a + 1) (b + 1) else if c = 35 then prec r a (b + 1) else if c = 44 then prec r a b else (a, b)

theorem fn_prec {W : Wd} {f : Addr} (H : HasFn W (stmtAt pw 6) "parse_precision" f) (l : List Nat) : Fn W 1 f [.str l] fun p => p = .tup [.int (prec l 0 0).1, .int (prec l 0 0).2] := by
  refine Fn.of H ["p"] rfl (fun doc pm an cdv ct vs hv => ?_) (by decide +kernel) (by decide) rfl (by decide +kernel) rfl rfl fun A L s₀ E cdv ok => ?_
  · match vs, hv with
    | [v], _ => rfl
  · refine Ex.cons (Ex1.assign2 (Ev.int ?_))
    refine Ex.cons (Ex1.for (Ev.var rfl (Itr.str ?_)))
    refine ForL.ind (fun ps ρ O => O = [] ∧ ∃ r a b, ps = signs r ∧ Vr ρ "min" (.int a) ∧ Vr ρ "max" (.int b) ∧ prec r a b = prec l 0 0) ?_ ?_ _ _ _ ⟨rfl, l, 0, 0, rfl, rfl, rfl, rfl⟩
    · rintro ρ O ⟨rfl, r, a, b, hr, h1, h2, h3⟩
      have : r = [] := by cases r with | nil => rfl | cons => cases hr
      subst this
      rw [← h3]
      repeat' kas_types
      exact rfl
    · rintro p ps ρ O ⟨rfl, r, a, b, hr, h1, h2, h3⟩
      cases r with
      | nil => cases hr
      | cons c r =>
        cases hr
        rw [← h3]
        repeat' kas_types
        all_goals (try (refine ⟨freeOf.nil _, rfl, r, _, _, rfl, (by first | rfl | assumption), (by first | rfl | assumption), ?_⟩))
        all_goals simp_all [prec, RetQ]

def grp (l : List Nat) : Int × Int := match lastIx 44 l with
  | none => (1000, 1000)
  | some i => match lastIx 44 (l.take i) with
    | none => (l.length - i - 1, l.length - i - 1)
    | some j => (l.length - i - 1, l.length - (l.length - i - 1) - j - 2)

theorem fn_grp {W : Wd} {f : Addr} (H : HasFn W (stmtAt pw 4) "parse_grouping" f) (hlen : W.mg "len" = none) (l : List Nat) (hl : l.length ≤ 1000000) : Fn W 1 f [.str l] fun p => p = .tup [.int (grp l).1, .int (grp l).2] := by
  refine Fn.of H ["p"] rfl (fun doc pm an cdv ct vs hv => ?_) (by decide +kernel) (by decide) rfl (by decide +kernel) rfl rfl fun A L s₀ E cdv ok => ?_
  · match vs, hv with
    | [v], _ => rfl
  · refine Ex.cons (Ex1.assign (Ev.call ?_))
    repeat' kas_types
    all_goals (try assumption)
    all_goals (try assumption)
    · rename_i i hi j hj
      have lt := lastIx_lt hi
      rw [pySl_upto (i := i) (by omega) lt] at hj
      simp [RetQ, grp, hi, hj]
    · rename_i i hi hj
      have lt := lastIx_lt hi
      rw [pySl_upto (i := i) (by omega) lt] at hj
      simp [RetQ, grp, hi, hj]
    · rename_i hi
      simp [RetQ, grp, hi]

def scl (x : List Nat) : Int := if 37 ∈ x then 2 else if 8240 ∈ x then 3 else 0
theorem fn_scl {W : Wd} {f K x : Addr} (H : HasFn W (subAt (stmtAt pw 8) 2) "NumberPattern.compute_scale" f) (cf : CF W K) (h1 : findIn W.K (.ref K) "prefix" = some none) (h2 : findIn W.K (.ref K) "suffix" = some none) {fs : List (Str × PV)} {a b c d : List Nat}
    (f1 : Vr fs "prefix" (.tup [.str a, .str b])) (f2 : Vr fs "suffix" (.tup [.str c, .str d])) (hl : a.length + b.length + c.length + d.length ≤ 1000000) : Fn W 1 f [.obj K x fs] fun p => p = .int (scl (a ++ b ++ c ++ d)) := by
  refine Fn.of H ["self"] rfl (fun doc pm an cdv ct vs hv => ?_) (by decide +kernel) (by decide) rfl (by decide +kernel) rfl rfl fun A L s₀ E cdv ok => ?_
  · match vs, hv with
    | [v], _ => rfl
  · refine Ex.cons (Ex1.assign (Ev.int ?_))
    repeat' kas_types
    all_goals (first | omega | simp_all [scl, RetQ])

theorem fn_match {W : Wd} {f p : Addr} (H : HasFn W (stmtAt pw 5) "_match_number" f) (hg : W.mg "_number_pattern_re" = some (.ref p)) (hp : RePat W p) {x pre core suf : List Nat} (h : Spl x pre core suf) (hl : x.length ≤ 1000000) :
    Fn W 1 f [.str x] fun p => p = .tup [.str pre, .str core, .str suf] := by
  refine Fn.of H ["pattern"] rfl (fun doc pm an cdv ct vs hv => ?_) (by decide +kernel) (by decide) rfl (by decide +kernel) rfl rfl fun A L s₀ E cdv ok => ?_
  · match vs, hv with
    | [v], _ => rfl
  · refine Ex.cons (Ex1.assign (Ev.meth ?_))
    repeat' kas_types
    exact rfl

/-- what the class says of its instances -/
structure NP (W : Wd) (K : Addr) : Prop where
  cf : CF W K
  free : (["pattern", "prefix", "suffix", "number_pattern", "grouping", "int_prec", "frac_prec", "exp_prec", "exp_plus", "scale"] : List Str).all (fun x => findIn W.K (.ref K) x == some none && takerIn W.K K x == some none) = true
theorem NP.find {W : Wd} {K : Addr} (N : NP W K) {x : Str} (h : x ∈ (["pattern", "prefix", "suffix", "number_pattern", "grouping", "int_prec", "frac_prec", "exp_prec", "exp_plus", "scale"] : List Str)) : findIn W.K (.ref K) x = some none := by
  have := List.all_eq_true.mp N.free x h
  rw [Bool.and_eq_true] at this
  exact beq_iff_eq.mp this.1
theorem NP.take {W : Wd} {K : Addr} (N : NP W K) {x : Str} (h : x ∈ (["pattern", "prefix", "suffix", "number_pattern", "grouping", "int_prec", "frac_prec", "exp_prec", "exp_plus", "scale"] : List Str)) : takerIn W.K K x = some none := by
  have := List.all_eq_true.mp N.free x h
  rw [Bool.and_eq_true] at this
  exact beq_iff_eq.mp this.2

abbrev npFields (x : PV) (a b c d : List Nat) (g ip fp ep pl num : PV) : List (Str × PV) :=
  [("pattern", x), ("prefix", .tup [.str a, .str b]), ("suffix", .tup [.str c, .str d]), ("number_pattern", num), ("grouping", g), ("int_prec", ip), ("frac_prec", fp), ("exp_prec", ep), ("exp_plus", pl), ("scale", .int (scl (a ++ b ++ c ++ d)))]

theorem fn_init {W : Wd} {f fs K T : Addr} {o : Obj} {dv : Value} {n : Nat} (H : HasFnD W (subAt (stmtAt pw 8) 0) "NumberPattern.__init__" f (.ref T)) (hT : W.K.lookup T = some o) (hs : o.data = .seq #[dv] n)
    (Hs : HasFn W (subAt (stmtAt pw 8) 2) "NumberPattern.compute_scale" fs) (N : NP W K) (hsc : findIn W.K (.ref K) "compute_scale" = some (some (.ref fs))) (hfn : isFn W.K (.ref fs) = true) (hkp : keepIn W.K (.ref fs) = true)
    (x : PV) (a b c d : List Nat) (g ip fp ep pl num : PV) (hl : a.length + b.length + c.length + d.length ≤ 1000000) :
    Init W 2 K f [x, .tup [.str a, .str b], .tup [.str c, .str d], g, ip, fp, ep, pl, num] fun r => r = npFields x a b c d g ip fp ep pl num := by
  refine Init.of H hT hs ["self", "pattern", "prefix", "suffix", "grouping", "int_prec", "frac_prec", "exp_prec", "exp_plus", "number_pattern"] rfl (fun doc pm an cdv ct vs hv => ?_) (by decide +kernel) (by decide) rfl (by decide +kernel) rfl rfl fun A L s₀ E sx dx cdv ok nl => ?_
  · match vs, hv with
    | [v0, v1, v2, v3, v4, v5, v6, v7, v8, v9], _ => exact ⟨_, rfl, rfl⟩
  · have cf := N.cf
    have p1 := N.find (x := "prefix") (by decide)
    have p2 := N.find (x := "suffix") (by decide)
    refine Exi.store nl rfl cf (N.take (by decide)) rfl (by simp) rfl (by decide) rfl (Ev.var rfl ?_)
    refine Exi.store nl rfl cf (N.take (by decide)) rfl (by simp) rfl (by decide) rfl (Ev.var rfl ?_)
    refine Exi.store nl rfl cf (N.take (by decide)) rfl (by simp) rfl (by decide) rfl (Ev.var rfl ?_)
    refine Exi.store nl rfl cf (N.take (by decide)) rfl (by simp) rfl (by decide) rfl (Ev.var rfl ?_)
    refine Exi.store nl rfl cf (N.take (by decide)) rfl (by simp) rfl (by decide) rfl (Ev.var rfl ?_)
    refine Exi.store nl rfl cf (N.take (by decide)) rfl (by simp) rfl (by decide) rfl (Ev.var rfl ?_)
    refine Exi.store nl rfl cf (N.take (by decide)) rfl (by simp) rfl (by decide) rfl (Ev.var rfl ?_)
    refine Exi.store nl rfl cf (N.take (by decide)) rfl (by simp) rfl (by decide) rfl (Ev.var rfl ?_)
    refine Exi.store nl rfl cf (N.take (by decide)) rfl (by simp) rfl (by decide) rfl (Ev.var rfl ?_)
    refine Exi.storeSelf nl rfl cf (N.take (by decide)) rfl (by simp) rfl (by decide) rfl (Ev.meth0 (Ev.var rfl ?_))
    refine Gm.inst cf hsc hfn hkp rfl (Oc.fn' (fn_scl Hs cf p1 p2 (a := a) (b := b) (c := c) (d := d) rfl rfl hl) (Nat.le_refl _) ?_)
    rintro _ rfl
    exact ⟨_, rfl, Exi.nil rfl⟩

def powPrec : Option (List Nat) → PV
  | some (c :: r) => .tup [.int (prec ((c :: r).dropWhile (· == 43)) 0 0).1, .int (prec ((c :: r).dropWhile (· == 43)) 0 0).2]
  | _ => .none
def powPlus : Option (List Nat) → PV
  | some (c :: r) => .bool (c == 43)
  | _ => .none

def optPV : Option (List Nat) → PV
  | some e => .str e
  | none => .none

/-- the text's own names -/
structure Tops (W : Wd) (K : Addr) : Prop where
  np : NP W K
  hlen : W.mg "len" = none
  hisi : W.mg "isinstance" = none
  hnp : W.mg "NumberPattern" = some (.ref K)
  knp : keepIn W.K (.ref K) = true
  isn : isNotIn W.K "str" K = true
  isy : isIn W.K (.ref K) K = true
  mks : makesIn W.K K = true
  fm : ∃ f p, HasFn W (stmtAt pw 5) "_match_number" f ∧ W.mg "_match_number" = some (.ref f) ∧ keepIn W.K (.ref f) = true ∧ W.mg "_number_pattern_re" = some (.ref p) ∧ RePat W p
  fp : ∃ f, HasFn W (stmtAt pw 6) "parse_precision" f ∧ W.mg "parse_precision" = some (.ref f) ∧ keepIn W.K (.ref f) = true
  fg : ∃ f, HasFn W (stmtAt pw 4) "parse_grouping" f ∧ W.mg "parse_grouping" = some (.ref f) ∧ keepIn W.K (.ref f) = true
  fi : ∃ f fs T o dv n, HasFnD W (subAt (stmtAt pw 8) 0) "NumberPattern.__init__" f (.ref T) ∧ W.K.lookup T = some o ∧ o.data = .seq #[dv] n ∧ findIn W.K (.ref K) "__init__" = some (some (.ref f)) ∧ typeIn W.K (.ref f) = some (.type "function") ∧
    HasFn W (subAt (stmtAt pw 8) 2) "NumberPattern.compute_scale" fs ∧ findIn W.K (.ref K) "compute_scale" = some (some (.ref fs)) ∧ isFn W.K (.ref fs) = true ∧ keepIn W.K (.ref fs) = true
  fpat : ∃ f, HasFn W (stmtAt pw 7) "parse_pattern" f ∧ W.mg "parse_pattern" = some (.ref f) ∧ keepIn W.K (.ref f) = true

theorem fn_pat {W : Wd} {K f : Addr} (X : Tops W K) (H : HasFn W (stmtAt pw 7) "parse_pattern" f) {x pre num suf npre nsuf number int frac : List Nat} {exp : Option (List Nat)} (h1 : Halves x pre num suf npre nsuf) (h2 : Power num number exp) (h3 : Point number int frac)
    (hr : ¬ (64 ∈ number ∧ 46 ∈ number ∧ 48 ∈ number)) (hl : x.length ≤ 100000) (hl2 : pre.length + npre.length + suf.length + nsuf.length ≤ 1000000) (hl3 : num.length ≤ 100000) (hl4 : pre.length ≤ 100000) :
    Fn W 4 f [.str x] fun p => ∃ a, p = .obj K a (npFields (.str x) pre npre suf nsuf (.tup [.int (grp int).1, .int (grp int).2]) (.tup [.int (prec int 0 0).1, .int (prec int 0 0).2]) (.tup [.int (prec frac 0 0).1, .int (prec frac 0 0).2]) (powPrec exp) (powPlus exp) (.str number)) := by
  obtain ⟨N, hlen, hisi, hnp, knp, isn, isy, mk, ⟨fm, p, Hm, gm, km, gp, rp⟩, ⟨fp, Hp, gpp, kp⟩, ⟨fg, Hg, gg, kg⟩, ⟨fi, fs, T, o, dv, n, Hi, hT, hs, hi, ti, Hs, hsc, is, ks⟩, _⟩ := X
  refine Fn.of H ["pattern"] rfl (fun doc pm an cdv ct vs hv => ?_) (by decide +kernel) (by decide) rfl (by decide +kernel) rfl rfl fun A L s₀ E cdv ok => ?_
  · match vs, hv with
    | [v], _ => rfl
  · refine Ex.cut (fun ρ => Vr ρ "pattern" (.str x)) (Ex1.ite (Tv.value (Ev.call ?_))) ?_
    · repeat' kas_types
      refine Oc.isi_no isn ?_
      repeat' kas_types
      exact ⟨rfl, rfl, rfl⟩
    intro ρ v1
    refine Ex.cut (fun ρ => Vr ρ "pattern" (.str x) ∧ Vr ρ "pos_pattern" (.str x)) (Ex1.assign (Ev.var v1 ⟨rfl, rfl, v1, rfl⟩)) ?_
    rintro ρ ⟨v1, v2⟩
    have lm : ∀ {x pre core suf : List Nat}, Spl x pre core suf → x.length ≤ 100000 → Fn W 1 fm [.str x] fun p => p = .tup [.str pre, .str core, .str suf] := fun h hl => fn_match Hm gp rp h (by omega)
    refine Ex.cut (fun ρ => Vr ρ "pattern" (.str x) ∧ Vr ρ "pos_prefix" (.str pre) ∧ Vr ρ "number" (.str num) ∧ Vr ρ "pos_suffix" (.str suf) ∧ Vr ρ "neg_prefix" (.str npre) ∧ Vr ρ "neg_suffix" (.str nsuf)) (Ex1.ite (Tv.cmp ?_)) ?_
    · cases h1 with
      | one hx sp =>
        repeat' kas_types
        refine Oc.fn' (lm sp hl) (Nat.le_of_ble_eq_true rfl) ?_
        rintro _ rfl
        repeat' kas_types
        exact ⟨rfl, rfl, v1, rfl, rfl, rfl, rfl, rfl⟩
      | two hx sp sn =>
        rw [List.length_append, List.length_cons] at hl
        repeat' kas_types
        · refine Oc.fn' (lm sp (by omega)) (Nat.le_of_ble_eq_true rfl) ?_
          rintro _ rfl
          repeat' kas_types
          refine Oc.fn' (lm sn (by omega)) (Nat.le_of_ble_eq_true rfl) ?_
          rintro _ rfl
          repeat' kas_types
          exact ⟨rfl, rfl, v1, rfl, rfl, rfl, rfl, rfl⟩
        · simp; omega
    rintro ρ ⟨v1, v2, v3, v4, v5, v6⟩
    refine Ex.cut (fun ρ => Vr ρ "pattern" (.str x) ∧ Vr ρ "pos_prefix" (.str pre) ∧ Vr ρ "number" (.str number) ∧ Vr ρ "pos_suffix" (.str suf) ∧ Vr ρ "neg_prefix" (.str npre) ∧ Vr ρ "neg_suffix" (.str nsuf) ∧ Vr ρ "exp" (optPV exp)) (Ex1.ite (Tv.cmp ?_)) ?_
    · cases h2 with
      | none hn =>
        repeat' kas_types
        exact ⟨rfl, rfl, v1, v2, v3, v4, v5, v6, rfl⟩
      | some hn =>
        repeat' kas_types
        · exact ⟨rfl, rfl, v1, v2, rfl, v4, v5, v6, rfl⟩
        · omega
    rintro ρ ⟨v1, v2, v3, v4, v5, v6, v7⟩
    refine Ex.cut (fun ρ => Vr ρ "pattern" (.str x) ∧ Vr ρ "pos_prefix" (.str pre) ∧ Vr ρ "number" (.str number) ∧ Vr ρ "pos_suffix" (.str suf) ∧ Vr ρ "neg_prefix" (.str npre) ∧ Vr ρ "neg_suffix" (.str nsuf) ∧ Vr ρ "exp" (optPV exp)) (Ex1.ite (Tv.boolop ?_)) ?_
    · repeat' kas_types
      · rename_i a b c
        exact absurd ⟨a, b, c⟩ hr
      all_goals exact ⟨rfl, rfl, v1, v2, v3, v4, v5, v6, v7⟩
    rintro ρ ⟨v1, v2, v3, v4, v5, v6, v7⟩
    have hnl : number.length ≤ 100000 := by
      cases h2 with
      | none => exact hl3
      | some => rw [List.length_append] at hl3; omega
    refine Ex.cut (fun ρ => Vr ρ "pattern" (.str x) ∧ Vr ρ "pos_prefix" (.str pre) ∧ Vr ρ "number" (.str number) ∧ Vr ρ "pos_suffix" (.str suf) ∧ Vr ρ "neg_prefix" (.str npre) ∧ Vr ρ "neg_suffix" (.str nsuf) ∧ Vr ρ "exp" (optPV exp) ∧
      Vr ρ "integer" (.str int) ∧ Vr ρ "fraction" (.str frac)) (Ex1.ite (Tv.cmp ?_)) ?_
    · cases h3 with
      | none hn =>
        repeat' kas_types
        exact ⟨rfl, rfl, v1, v2, v3, v4, v5, v6, v7, rfl, rfl⟩
      | some hn =>
        repeat' kas_types
        · exact ⟨rfl, rfl, v1, v2, v3, v4, v5, v6, v7, rfl, rfl⟩
        · omega
    rintro ρ ⟨v1, v2, v3, v4, v5, v6, v7, v8, v9⟩
    have hil : int.length ≤ 100000 := by
      cases h3 with
      | none => exact hnl
      | some => rw [List.length_append] at hnl; omega
    refine Ex.cons (Ex1.assign (Ev.call ?_))
    repeat' kas_types
    refine Oc.fn' (fn_prec Hp int) (Nat.le_of_ble_eq_true rfl) ?_
    rintro _ rfl
    refine Ex.cons (Ex1.assign (Ev.call ?_))
    repeat' kas_types
    refine Oc.fn' (fn_prec Hp frac) (Nat.le_of_ble_eq_true rfl) ?_
    rintro _ rfl
    refine Ex.cut (fun ρ => Vr ρ "pattern" (.str x) ∧ Vr ρ "pos_prefix" (.str pre) ∧ Vr ρ "number" (.str number) ∧ Vr ρ "pos_suffix" (.str suf) ∧ Vr ρ "neg_prefix" (.str npre) ∧ Vr ρ "neg_suffix" (.str nsuf) ∧
      Vr ρ "integer" (.str int) ∧ Vr ρ "int_prec" (.tup [.int (prec int 0 0).1, .int (prec int 0 0).2]) ∧ Vr ρ "frac_prec" (.tup [.int (prec frac 0 0).1, .int (prec frac 0 0).2]) ∧ Vr ρ "exp_prec" (powPrec exp) ∧ Vr ρ "exp_plus" (powPlus exp)) (Ex1.ite (Tv.value (Ev.var v7 ?_))) ?_
    · match exp, h2, v7 with
      | none, h2, v7 =>
        unfold optPV
        repeat' kas_types
        exact ⟨rfl, rfl, v1, v2, v3, v4, v5, v6, v8, rfl, rfl, rfl, rfl⟩
      | some [], h2, v7 =>
        refine Ob1.of_str (l := []) ?_ (by simp)
        repeat' kas_types
        exact ⟨rfl, rfl, v1, v2, v3, v4, v5, v6, v8, rfl, rfl, rfl, rfl⟩
      | some (c :: r), h2, v7 =>
        have hel : (c :: r).length ≤ 100000 := by
          cases h2 with
          | some => rw [List.length_append] at hl3; simp only [List.length_cons] at hl3 ⊢; omega
        refine Ob1.of_str (l := c :: r) ?_ (by omega)
        unfold optPV at v7
        repeat' kas_types
        · refine Oc.fn' (fn_prec Hp _) (Nat.le_of_ble_eq_true rfl) ?_
          rintro _ rfl
          repeat' kas_types
          exact ⟨rfl, rfl, v1, v2, v3, v4, v5, v6, v8, rfl, rfl, rfl, rfl⟩
        · omega
    rintro ρ ⟨v1, v2, v3, v4, v5, v6, v7, v8, v9, v10, v11⟩
    refine Ex.cons (Ex1.assign (Ev.call ?_))
    repeat' kas_types
    refine Oc.fn' (fn_grp Hg hlen int (by omega)) (Nat.le_of_ble_eq_true rfl) ?_
    rintro _ rfl
    repeat' kas_types
    refine Oc.make ((fn_init Hi hT hs Hs N hsc is ks (.str x) pre npre suf nsuf _ _ _ _ _ _ hl2).mono ?_) (Nat.le_of_ble_eq_true rfl) mk hi ti
    rintro _ rfl a
    exact ⟨a, rfl⟩

/-- marks laid from the last on, signs of groups between -/
def mk (far : Int) : List Nat → Int → List Nat → List Nat
  | [], _, t => t
  | c :: r, left, t => if left - 1 = 0 ∧ r ≠ [] then mk far r far (44 :: c :: t) else mk far r (left - 1) (c :: t)

theorem mk_len (far : Int) : ∀ (l : List Nat) (left : Int) (t : List Nat), (mk far l left t).length ≤ 2 * l.length + t.length
  | [], _, t => by simp [mk]
  | c :: r, left, t => by
    unfold mk
    split
    · have := mk_len far r far (44 :: c :: t); simp at this ⊢; omega
    · have := mk_len far r (left - 1) (c :: t); simp at this ⊢; omega

theorem take_succ_rev {l : List Nat} {m : Nat} (h : m < l.length) : (l.take (m + 1)).reverse = l[m] :: (l.take m).reverse := by
  rw [List.take_add_one, List.getElem?_eq_getElem h]; simp

theorem fn_marked {W : Wd} {f : Addr} (H : HasFn W (stmtAt pw 16) "_law_marked" f) (hlen : W.mg "len" = none) (hran : W.mg "range" = none) (marks : List Nat) (near far : Int) (hl : marks.length ≤ 1000) :
    Fn W 1 f [.str marks, .int near, .int far] fun p => p = .str (mk far marks.reverse near []) := by
  refine Fn.of H ["marks", "near", "far"] rfl (fun doc pm an cdv ct vs hv => ?_) (by decide +kernel) (by decide) rfl (by decide +kernel) rfl rfl fun A L s₀ E cdv ok => ?_
  · match vs, hv with
    | [v, v2, v3], _ => rfl
  · refine Ex.cut (fun ρ => Vr ρ "marks" (.str marks) ∧ Vr ρ "near" (.int near) ∧ Vr ρ "far" (.int far) ∧ Vr ρ "text" (.str [])) (Ex1.assign ?_) ?_
    · repeat' kas_types
      exact ⟨rfl, rfl, rfl, rfl, rfl, rfl⟩
    rintro ρ ⟨v1, v2, v3, v4⟩
    refine Ex.cut (fun ρ => Vr ρ "marks" (.str marks) ∧ Vr ρ "far" (.int far) ∧ Vr ρ "text" (.str []) ∧ Vr ρ "left" (.int near)) (Ex1.assign ?_) ?_
    · repeat' kas_types
      exact ⟨rfl, rfl, v1, v3, v4, rfl⟩
    rintro ρ ⟨v1, v3, v4, v5⟩
    refine Ex.cons (Ex1.for (Ev.call ?_))
    repeat' kas_types
    · refine Itr.downs (n := marks.length) rfl (by omega) ?_
      refine ForL.ind (fun ps ρ O => O = [] ∧ ∃ m left t, m ≤ marks.length ∧ ps = downs m ∧ Vr ρ "marks" (.str marks) ∧ Vr ρ "far" (.int far) ∧ Vr ρ "text" (.str t) ∧ Vr ρ "left" (.int left) ∧ t.length + 2 * m ≤ 2 * marks.length ∧ mk far (marks.take m).reverse left t = mk far marks.reverse near []) ?_ ?_ _ _ _
        ⟨rfl, marks.length, near, [], Nat.le_refl _, rfl, v1, v3, v4, v5, by simp, by rw [List.take_length]⟩
      · rintro ρ O ⟨rfl, m, left, t, hm, hp, w1, w2, w3, w4, ht, e⟩
        cases m with
        | succ m => cases hp
        | zero =>
          repeat' kas_types
          show _ = _
          rw [← e]; rfl
      · rintro p ps ρ O ⟨rfl, m, left, t, hm, hp, w1, w2, w3, w4, ht, e⟩
        cases m with
        | zero => cases hp
        | succ m =>
          injection hp with h1 h2
          subst h1; subst h2
          rw [take_succ_rev (by omega)] at e
          repeat' kas_types
          refine Ot.str (c := marks[m]) (by rw [getIdx_nat (by omega), Int.toNat_natCast, List.getElem?_eq_getElem (by omega)]) ?_
          have hne : (m : Int) = 0 ∨ (List.take m marks).reverse ≠ [] := by
            cases m with
            | zero => exact .inl rfl
            | succ k =>
              refine .inr fun h => ?_
              have := congrArg List.length h
              rw [List.length_reverse, List.length_take, List.length_nil] at this
              omega
          repeat' kas_types
          all_goals (try (simp only [List.length_append, List.length_cons, List.length_nil]; omega))
          all_goals refine ⟨freeOf.nil _, rfl, m, _, _, by omega, rfl, (by first | rfl | assumption), (by first | rfl | assumption), (by first | rfl | assumption), (by first | rfl | assumption), ?_, ?_⟩
          all_goals (try (simp only [List.length_append, List.length_cons, List.length_nil]; omega))
          all_goals rw [← e]
          all_goals (rw [mk])
          all_goals first
            | (rw [if_pos ⟨by assumption, by rcases hne with h | h; (exact absurd h (by omega)); exact h⟩]; rfl)
            | (rw [if_neg (by rintro ⟨a, b⟩; omega)]; rfl)
            | (rw [if_neg (by rintro ⟨a, b⟩; apply b; have h0 : m = 0 := by omega
                              subst h0; rfl)]; rfl)
    all_goals omega
/-! the laid pattern -/
def tFronts : List (List Nat) := strTab (stmtAt pw 10)
def tBacks : List (List Nat) := strTab (stmtAt pw 11)
def tOther : List (List (List Nat)) := strTab2 (stmtAt pw 12)
def tCores : List (List Nat) := strTab (stmtAt pw 13)
def tScales : List Int := intTab (stmtAt pw 14)

def sgn (d0 : Nat) : Nat := d0 / 64 % 5
def frontF (d0 : Nat) : List Nat := tFronts.getD (d0 % 8) [] ++ (if sgn d0 = 1 then [37] else if sgn d0 = 3 then [8240] else [])
def backF (d0 : Nat) : List Nat := (if sgn d0 = 2 then [37] else if sgn d0 = 4 then [8240] else []) ++ tBacks.getD (d0 / 8 % 8) []
def hshF (d1 : Nat) : Nat := d1 % 5
def lstF (d1 : Nat) : Nat := if d1 % 5 + d1 / 5 % 5 = 0 then 1 else d1 / 5 % 5
def sigF (d1 : Nat) : Nat := d1 / 25 % 4
def mrkF (d1 : Nat) : List Nat := if sigF d1 = 3 then List.replicate (lstF d1) 64 ++ List.replicate (hshF d1) 35 else List.replicate (hshF d1) 35 ++ List.replicate (lstF d1) 48
def nearF (d2 : Nat) : Nat := d2 % 5
def farF (d2 : Nat) : Nat := d2 / 5 % 3 + 1
def core0 (d1 d2 : Nat) : List Nat := mk (farF d2) (mrkF d1).reverse (nearF d2) []
def grpF (d1 d2 : Nat) : Int × Int := if nearF d2 = 0 ∨ hshF d1 + lstF d1 ≤ nearF d2 then (1000, 1000) else if hshF d1 + lstF d1 ≤ nearF d2 + farF d2 then ((nearF d2 : Nat), (nearF d2 : Nat)) else ((nearF d2 : Nat), (farF d2 : Nat))
def fracF (d1 d3 : Nat) : List Nat := if ¬ sigF d1 = 3 ∧ ¬ d3 % 4 = 0 then 46 :: (List.replicate (d3 / 4 % 4) 48 ++ List.replicate (d3 / 16 % 3) 35) else []
def coreF (d1 d2 d3 : Nat) : List Nat := core0 d1 d2 ++ fracF d1 d3
def frF (d1 d3 : Nat) : Int × Int := if ¬ sigF d1 = 3 ∧ ¬ d3 % 4 = 0 then ((d3 / 4 % 4 : Nat), ((d3 / 4 % 4 : Nat) : Int) + (d3 / 16 % 3 : Nat)) else (0, 0)
def tailF (d4 : Nat) : List Nat := if 0 < d4 % 4 then (if d4 / 4 % 2 = 1 then [69, 43] else [69]) ++ List.replicate (d4 % 4) 48 else []
def powF (d4 : Nat) : PV := if 0 < d4 % 4 then .tup [.int (d4 % 4 : Nat), .int (d4 % 4 : Nat)] else .none
def plusF (d4 : Nat) : List Nat := if 0 < d4 % 4 then (if d4 / 4 % 2 = 1 then [112, 108, 117, 115] else [98, 97, 114, 101]) else [110, 111, 110, 101]
def otherF (d5 j : Nat) : List Nat := (tOther.getD (d5 / 3 % 4) []).getD j []
def textF (d0 d1 d2 d3 d4 : Nat) : List Nat := frontF d0 ++ coreF d1 d2 d3 ++ tailF d4 ++ backF d0
def text2F (d0 d1 d2 d3 d4 d5 : Nat) : List Nat := if d5 % 3 = 0 then textF d0 d1 d2 d3 d4 else textF d0 d1 d2 d3 d4 ++ [59] ++ otherF d5 0 ++ tCores.getD (d5 / 12 % 4) [] ++ otherF d5 1
def nfrontF (d0 d5 : Nat) : List Nat := if d5 % 3 = 0 then 45 :: frontF d0 else otherF d5 0
def nbackF (d0 d5 : Nat) : List Nat := if d5 % 3 = 0 then backF d0 else otherF d5 1

def laidF (d0 d1 d2 d3 d4 d5 : Nat) : PV := .tup [.str (text2F d0 d1 d2 d3 d4 d5), .tup [.str (frontF d0), .str (nfrontF d0 d5)], .tup [.str (backF d0), .str (nbackF d0 d5)],
  .tup [.int (grpF d1 d2).1, .int (grpF d1 d2).2], .tup [.int (lstF d1 : Nat), .int ((hshF d1 : Nat) + (lstF d1 : Nat))], .tup [.int (frF d1 d3).1, .int (frF d1 d3).2], powF d4, .str (plusF d4), .str (coreF d1 d2 d3), .int (tScales.getD (sgn d0) 0)]

/-- the law's own tables and defs -/
structure Law (W : Wd) (K : Addr) : Prop where
  tops : Tops W K
  hran : W.mg "range" = none
  hlist : W.mg "list" = none
  hbool : W.mg "bool" = none
  t1 : ∃ v, W.mg "_law_fronts" = some v ∧ Rep W.G.get? v (.tup (tFronts.map .str))
  t2 : ∃ v, W.mg "_law_backs" = some v ∧ Rep W.G.get? v (.tup (tBacks.map .str))
  t3 : ∃ v, W.mg "_law_other" = some v ∧ Rep W.G.get? v (.tup (tOther.map fun l => .tup (l.map .str)))
  t4 : ∃ v, W.mg "_law_cores" = some v ∧ Rep W.G.get? v (.tup (tCores.map .str))
  t5 : ∃ v, W.mg "_law_scales" = some v ∧ Rep W.G.get? v (.tup (tScales.map .int))
  t6 : ∃ v, W.mg "_law_rest" = some v ∧ Rep W.G.get? v (.tup ((intTab (stmtAt pw 15)).map .int))
  f1 : ∃ f, HasFn W (stmtAt pw 16) "_law_marked" f ∧ W.mg "_law_marked" = some (.ref f) ∧ keepIn W.K (.ref f) = true
  f2 : ∃ f, HasFn W (stmtAt pw 17) "_law_laid" f ∧ W.mg "_law_laid" = some (.ref f) ∧ keepIn W.K (.ref f) = true
  f3 : ∃ f, HasFn W (stmtAt pw 18) "_law_fields" f ∧ W.mg "_law_fields" = some (.ref f) ∧ keepIn W.K (.ref f) = true

theorem sgn_lt (d0 : Nat) : sgn d0 < 5 := Nat.mod_lt _ (by decide)

theorem oth2 (i : Nat) (h : i < 4) : (tOther.getD i []).length = 2 := (by decide +kernel : ∀ i < 4, (tOther.getD i []).length = 2) i h
theorem oth3 (d5 j : Nat) : (otherF d5 j).length ≤ 10 := by
  have h : ∀ i < 4, ((tOther.getD i []).all fun l => decide (l.length ≤ 10)) = true := by decide +kernel
  exact getD_len (h _ (Nat.mod_lt _ (by decide))) j

theorem fn_laid {W : Wd} {K f : Addr} (X : Law W K) (H : HasFn W (stmtAt pw 17) "_law_laid" f) (d0 d1 d2 d3 d4 d5 : Nat) :
    Fn W 2 f [.lst [.int (d0 : Nat), .int (d1 : Nat), .int (d2 : Nat), .int (d3 : Nat), .int (d4 : Nat), .int (d5 : Nat)]] fun p => p = laidF d0 d1 d2 d3 d4 d5 := by
  obtain ⟨tops, hran, hlist, hbool, ⟨w1, g1, r1⟩, ⟨w2, g2, r2⟩, ⟨w3, g3, r3⟩, ⟨w4, g4, r4⟩, ⟨w5, g5, r5⟩, _, ⟨fm, Hm, gm, km⟩, _, _⟩ := X
  have hlen := tops.hlen
  refine Fn.of H ["draws"] rfl (fun doc pm an cdv ct vs hv => ?_) (by decide +kernel) (by decide) rfl (by decide +kernel) rfl rfl fun A L s₀ E cdv ok => ?_
  · match vs, hv with
    | [v], _ => rfl
  · generalize hdl : PV.lst [.int (d0 : Nat), .int (d1 : Nat), .int (d2 : Nat), .int (d3 : Nat), .int (d4 : Nat), .int (d5 : Nat)] = dl
    refine Ex.cut (fun ρ => Vr ρ "draws" dl ∧ Vr ρ "front" (.str (tFronts.getD (d0 % 8) []))) (Ex1.assign ?_) ?_
    · subst hdl
      repeat' kas_types
      exact ⟨rfl, rfl, rfl, rfl⟩
    rintro ρ ⟨v0, v1⟩
    refine Ex.cut (fun ρ => Vr ρ "draws" dl ∧ Vr ρ "front" (.str (tFronts.getD (d0 % 8) [])) ∧ Vr ρ "back" (.str (tBacks.getD (d0 / 8 % 8) []))) (Ex1.assign ?_) ?_
    · subst hdl
      repeat' kas_types
      exact ⟨rfl, rfl, v0, v1, rfl⟩
    rintro ρ ⟨v0, v1, v2⟩
    refine Ex.cut (fun ρ => Vr ρ "draws" dl ∧ Vr ρ "front" (.str (tFronts.getD (d0 % 8) [])) ∧ Vr ρ "back" (.str (tBacks.getD (d0 / 8 % 8) [])) ∧ Vr ρ "sign" (.int (sgn d0 : Nat))) (Ex1.assign ?_) ?_
    · subst hdl
      repeat' kas_types
      exact ⟨rfl, rfl, v0, v1, v2, rfl⟩
    rintro ρ ⟨v0, v1, v2, v3⟩
    have hs := sgn_lt d0
    have lf := getD_len (t := tFronts) (n := 10) (by decide +kernel) (d0 % 8)
    have lb := getD_len (t := tBacks) (n := 10) (by decide +kernel) (d0 / 8 % 8)
    refine Ex.cut (fun ρ => Vr ρ "draws" dl ∧ Vr ρ "sign" (.int (sgn d0 : Nat)) ∧ Vr ρ "front" (.str (frontF d0)) ∧ Vr ρ "back" (.str (backF d0))) (Ex1.ite (Tv.cmp ?_)) ?_
    · obtain h | h | h | h | h : sgn d0 = 0 ∨ sgn d0 = 1 ∨ sgn d0 = 2 ∨ sgn d0 = 3 ∨ sgn d0 = 4 := by omega
      all_goals repeat' kas_types
      all_goals first
        | (simp only [List.length_cons, List.length_nil]; omega)
        | exact ⟨rfl, rfl, v0, v3, (by first | (simp only [frontF, h]; rfl) | (rw [show frontF d0 = tFronts.getD (d0 % 8) [] from by simp [frontF, h]]; exact v1)), (by first | (simp only [backF, h]; rfl) | (rw [show backF d0 = tBacks.getD (d0 / 8 % 8) [] from by simp [backF, h]]; exact v2))⟩
    clear v0 v1 v2 v3
    rintro ρ ⟨v0, v1, v2, v3⟩
    have lff : (frontF d0).length ≤ 11 := by unfold frontF; rw [List.length_append]; split <;> (try split) <;> simp only [List.length_cons, List.length_nil] <;> omega
    have lbb : (backF d0).length ≤ 11 := by unfold backF; rw [List.length_append]; split <;> (try split) <;> simp only [List.length_cons, List.length_nil] <;> omega
    -- marks
    refine Ex.cut (fun ρ => Vr ρ "draws" dl ∧ Vr ρ "sign" (.int (sgn d0 : Nat)) ∧ Vr ρ "front" (.str (frontF d0)) ∧ Vr ρ "back" (.str (backF d0)) ∧ Vr ρ "hashes" (.int (hshF d1 : Nat))) (Ex1.assign ?_) ?_
    · subst hdl
      repeat' kas_types
      exact ⟨rfl, rfl, v0, v1, v2, v3, rfl⟩
    clear v0 v1 v2 v3
    rintro ρ ⟨v0, v1, v2, v3, v4⟩
    refine Ex.cut (fun ρ => Vr ρ "draws" dl ∧ Vr ρ "sign" (.int (sgn d0 : Nat)) ∧ Vr ρ "front" (.str (frontF d0)) ∧ Vr ρ "back" (.str (backF d0)) ∧ Vr ρ "hashes" (.int (hshF d1 : Nat)) ∧ Vr ρ "least" (.int (d1 / 5 % 5 : Nat))) (Ex1.assign ?_) ?_
    · subst hdl
      repeat' kas_types
      exact ⟨rfl, rfl, v0, v1, v2, v3, v4, rfl⟩
    clear v0 v1 v2 v3 v4
    rintro ρ ⟨v0, v1, v2, v3, v4, v5⟩
    refine Ex.cut (fun ρ => Vr ρ "draws" dl ∧ Vr ρ "sign" (.int (sgn d0 : Nat)) ∧ Vr ρ "front" (.str (frontF d0)) ∧ Vr ρ "back" (.str (backF d0)) ∧ Vr ρ "hashes" (.int (hshF d1 : Nat)) ∧ Vr ρ "least" (.int (lstF d1 : Nat))) (Ex1.ite (Tv.cmp ?_)) ?_
    · by_cases h : d1 % 5 + d1 / 5 % 5 = 0
      all_goals repeat' kas_types
      all_goals first
        | exact ⟨rfl, rfl, v0, v1, v2, v3, v4, (by simp only [lstF, if_pos h]; rfl)⟩
        | exact ⟨rfl, rfl, v0, v1, v2, v3, v4, (by simp only [lstF, if_neg h]; exact v5)⟩
        | (exfalso; unfold hshF at *; omega)
    clear v0 v1 v2 v3 v4 v5
    rintro ρ ⟨v0, v1, v2, v3, v4, v5⟩
    refine Ex.cut (fun ρ => Vr ρ "draws" dl ∧ Vr ρ "sign" (.int (sgn d0 : Nat)) ∧ Vr ρ "front" (.str (frontF d0)) ∧ Vr ρ "back" (.str (backF d0)) ∧ Vr ρ "hashes" (.int (hshF d1 : Nat)) ∧ Vr ρ "least" (.int (lstF d1 : Nat)) ∧ Vr ρ "whole" (.int ((hshF d1 : Nat) + (lstF d1 : Nat)))) (Ex1.assign ?_) ?_
    · repeat' kas_types
      exact ⟨rfl, rfl, v0, v1, v2, v3, v4, v5, rfl⟩
    clear v0 v1 v2 v3 v4 v5
    rintro ρ ⟨v0, v1, v2, v3, v4, v5, v6⟩
    refine Ex.cut (fun ρ => Vr ρ "draws" dl ∧ Vr ρ "sign" (.int (sgn d0 : Nat)) ∧ Vr ρ "front" (.str (frontF d0)) ∧ Vr ρ "back" (.str (backF d0)) ∧ Vr ρ "hashes" (.int (hshF d1 : Nat)) ∧ Vr ρ "least" (.int (lstF d1 : Nat)) ∧ Vr ρ "whole" (.int ((hshF d1 : Nat) + (lstF d1 : Nat))) ∧
      Vr ρ "significant" (.bool (decide (((sigF d1 : Nat) : Int) = 3)))) (Ex1.assign ?_) ?_
    · subst hdl
      repeat' kas_types
      exact ⟨rfl, rfl, v0, v1, v2, v3, v4, v5, v6, rfl⟩
    clear v0 v1 v2 v3 v4 v5 v6
    rintro ρ ⟨v0, v1, v2, v3, v4, v5, v6, v7⟩
    have hh : hshF d1 < 5 := Nat.mod_lt _ (by decide)
    have hl : lstF d1 ≤ 5 := by unfold lstF; split <;> omega
    refine Ex.cut (fun ρ => Vr ρ "draws" dl ∧ Vr ρ "sign" (.int (sgn d0 : Nat)) ∧ Vr ρ "front" (.str (frontF d0)) ∧ Vr ρ "back" (.str (backF d0)) ∧ Vr ρ "least" (.int (lstF d1 : Nat)) ∧ Vr ρ "whole" (.int ((hshF d1 : Nat) + (lstF d1 : Nat))) ∧
      Vr ρ "significant" (.bool (decide (((sigF d1 : Nat) : Int) = 3))) ∧ Vr ρ "marks" (.str (mrkF d1))) (Ex1.ite (Tv.value ?_)) ?_
    · by_cases h : sigF d1 = 3
      all_goals repeat' kas_types
      all_goals first
        | exact ⟨rfl, rfl, v0, v1, v2, v3, v5, v6, v7, (by simp only [mrkF, if_pos h]; rfl)⟩
        | exact ⟨rfl, rfl, v0, v1, v2, v3, v5, v6, v7, (by simp only [mrkF, if_neg h]; rfl)⟩
        | omega
        | (simp only [List.length_replicate]; omega)
    clear v0 v1 v2 v3 v4 v5 v6 v7
    rintro ρ ⟨v0, v1, v2, v3, v5, v6, v7, v8⟩
    have hml : (mrkF d1).length ≤ 10 := by unfold mrkF; split <;> simp <;> omega
    refine Ex.cut (fun ρ => Vr ρ "draws" dl ∧ Vr ρ "sign" (.int (sgn d0 : Nat)) ∧ Vr ρ "front" (.str (frontF d0)) ∧ Vr ρ "back" (.str (backF d0)) ∧ Vr ρ "least" (.int (lstF d1 : Nat)) ∧ Vr ρ "whole" (.int ((hshF d1 : Nat) + (lstF d1 : Nat))) ∧
      Vr ρ "significant" (.bool (decide (((sigF d1 : Nat) : Int) = 3))) ∧ Vr ρ "marks" (.str (mrkF d1)) ∧ Vr ρ "near" (.int (nearF d2 : Nat))) (Ex1.assign ?_) ?_
    · subst hdl
      repeat' kas_types
      exact ⟨rfl, rfl, v0, v1, v2, v3, v5, v6, v7, v8, rfl⟩
    clear v0 v1 v2 v3 v5 v6 v7 v8
    rintro ρ ⟨v0, v1, v2, v3, v5, v6, v7, v8, v9⟩
    refine Ex.cut (fun ρ => Vr ρ "draws" dl ∧ Vr ρ "sign" (.int (sgn d0 : Nat)) ∧ Vr ρ "front" (.str (frontF d0)) ∧ Vr ρ "back" (.str (backF d0)) ∧ Vr ρ "least" (.int (lstF d1 : Nat)) ∧ Vr ρ "whole" (.int ((hshF d1 : Nat) + (lstF d1 : Nat))) ∧
      Vr ρ "significant" (.bool (decide (((sigF d1 : Nat) : Int) = 3))) ∧ Vr ρ "marks" (.str (mrkF d1)) ∧ Vr ρ "near" (.int (nearF d2 : Nat)) ∧ Vr ρ "far" (.int (farF d2 : Nat))) (Ex1.assign ?_) ?_
    · subst hdl
      repeat' kas_types
      exact ⟨rfl, rfl, v0, v1, v2, v3, v5, v6, v7, v8, v9, rfl⟩
    clear v0 v1 v2 v3 v5 v6 v7 v8 v9
    rintro ρ ⟨v0, v1, v2, v3, v5, v6, v7, v8, v9, v10⟩
    have hcl : (core0 d1 d2).length ≤ 20 := by
      have := mk_len (farF d2) (mrkF d1).reverse (nearF d2) []
      unfold core0; simp at this; omega
    refine Ex.cut (fun ρ => Vr ρ "draws" dl ∧ Vr ρ "sign" (.int (sgn d0 : Nat)) ∧ Vr ρ "front" (.str (frontF d0)) ∧ Vr ρ "back" (.str (backF d0)) ∧ Vr ρ "least" (.int (lstF d1 : Nat)) ∧ Vr ρ "whole" (.int ((hshF d1 : Nat) + (lstF d1 : Nat))) ∧
      Vr ρ "significant" (.bool (decide (((sigF d1 : Nat) : Int) = 3))) ∧ Vr ρ "near" (.int (nearF d2 : Nat)) ∧ Vr ρ "far" (.int (farF d2 : Nat)) ∧ Vr ρ "core" (.str (core0 d1 d2))) (Ex1.assign (Ev.call ?_)) ?_
    · repeat' kas_types
      refine Oc.fn' (fn_marked Hm hlen hran (mrkF d1) _ _ (by omega)) (Nat.le_of_ble_eq_true rfl) ?_
      rintro _ rfl
      exact ⟨rfl, rfl, v0, v1, v2, v3, v5, v6, v7, v9, v10, rfl⟩
    clear v0 v1 v2 v3 v5 v6 v7 v8 v9 v10
    rintro ρ ⟨v0, v1, v2, v3, v5, v6, v7, v9, v10, v11⟩
    refine Ex.cut (fun ρ => Vr ρ "draws" dl ∧ Vr ρ "sign" (.int (sgn d0 : Nat)) ∧ Vr ρ "front" (.str (frontF d0)) ∧ Vr ρ "back" (.str (backF d0)) ∧ Vr ρ "least" (.int (lstF d1 : Nat)) ∧ Vr ρ "whole" (.int ((hshF d1 : Nat) + (lstF d1 : Nat))) ∧
      Vr ρ "significant" (.bool (decide (((sigF d1 : Nat) : Int) = 3))) ∧ Vr ρ "near" (.int (nearF d2 : Nat)) ∧ Vr ρ "far" (.int (farF d2 : Nat)) ∧ Vr ρ "core" (.str (core0 d1 d2)) ∧ Vr ρ "groups" (.tup [.int (nearF d2 : Nat), .int (farF d2 : Nat)])) (Ex1.assign ?_) ?_
    · repeat' kas_types
      exact ⟨rfl, rfl, v0, v1, v2, v3, v5, v6, v7, v9, v10, v11, rfl⟩
    clear v0 v1 v2 v3 v5 v6 v7 v9 v10 v11
    rintro ρ ⟨v0, v1, v2, v3, v5, v6, v7, v9, v10, v11, v12⟩
    refine Ex.cut (fun ρ => Vr ρ "draws" dl ∧ Vr ρ "sign" (.int (sgn d0 : Nat)) ∧ Vr ρ "front" (.str (frontF d0)) ∧ Vr ρ "back" (.str (backF d0)) ∧ Vr ρ "least" (.int (lstF d1 : Nat)) ∧ Vr ρ "whole" (.int ((hshF d1 : Nat) + (lstF d1 : Nat))) ∧
      Vr ρ "significant" (.bool (decide (((sigF d1 : Nat) : Int) = 3))) ∧ Vr ρ "core" (.str (core0 d1 d2)) ∧ Vr ρ "groups" (.tup [.int (grpF d1 d2).1, .int (grpF d1 d2).2])) (Ex1.ite (Tv.boolop ?_)) ?_
    · by_cases h : nearF d2 = 0 ∨ hshF d1 + lstF d1 ≤ nearF d2
      · repeat' kas_types
        all_goals first
          | exact ⟨rfl, rfl, v0, v1, v2, v3, v5, v6, v7, v11, (by simp only [grpF, if_pos h]; rfl)⟩
          | (exfalso; omega)
      · by_cases h2 : hshF d1 + lstF d1 ≤ nearF d2 + farF d2
        all_goals repeat' kas_types
        all_goals first
          | exact ⟨rfl, rfl, v0, v1, v2, v3, v5, v6, v7, v11, (by simp only [grpF, if_neg h, if_pos h2]; rfl)⟩
          | exact ⟨rfl, rfl, v0, v1, v2, v3, v5, v6, v7, v11, (by simp only [grpF, if_neg h, if_neg h2]; exact v12)⟩
          | (exfalso; omega)
    clear v0 v1 v2 v3 v5 v6 v7 v9 v10 v11 v12
    rintro ρ ⟨v0, v1, v2, v3, v5, v6, v7, v11, v12⟩
    -- the fraction
    refine Ex.cut (fun ρ => Vr ρ "draws" dl ∧ Vr ρ "sign" (.int (sgn d0 : Nat)) ∧ Vr ρ "front" (.str (frontF d0)) ∧ Vr ρ "back" (.str (backF d0)) ∧ Vr ρ "least" (.int (lstF d1 : Nat)) ∧ Vr ρ "whole" (.int ((hshF d1 : Nat) + (lstF d1 : Nat))) ∧
      Vr ρ "significant" (.bool (decide (((sigF d1 : Nat) : Int) = 3))) ∧ Vr ρ "core" (.str (core0 d1 d2)) ∧ Vr ρ "groups" (.tup [.int (grpF d1 d2).1, .int (grpF d1 d2).2]) ∧ Vr ρ "fraction" (.tup [.int 0, .int 0])) (Ex1.assign ?_) ?_
    · repeat' kas_types
      exact ⟨rfl, rfl, v0, v1, v2, v3, v5, v6, v7, v11, v12, rfl⟩
    clear v0 v1 v2 v3 v5 v6 v7 v11 v12
    rintro ρ ⟨v0, v1, v2, v3, v5, v6, v7, v11, v12, v13⟩
    refine Ex.cut (fun ρ => Vr ρ "draws" dl ∧ Vr ρ "sign" (.int (sgn d0 : Nat)) ∧ Vr ρ "front" (.str (frontF d0)) ∧ Vr ρ "back" (.str (backF d0)) ∧ Vr ρ "least" (.int (lstF d1 : Nat)) ∧ Vr ρ "whole" (.int ((hshF d1 : Nat) + (lstF d1 : Nat))) ∧
      Vr ρ "core" (.str (coreF d1 d2 d3)) ∧ Vr ρ "groups" (.tup [.int (grpF d1 d2).1, .int (grpF d1 d2).2]) ∧ Vr ρ "fraction" (.tup [.int (frF d1 d3).1, .int (frF d1 d3).2])) (Ex1.ite (Tv.boolop ?_)) ?_
    · by_cases h1 : sigF d1 = 3
      · have e1 : coreF d1 d2 d3 = core0 d1 d2 := by simp [coreF, fracF, h1]
        have e2 : frF d1 d3 = (0, 0) := by simp [frF, h1]
        rw [e1, e2]
        repeat' kas_types
        exact ⟨rfl, rfl, v0, v1, v2, v3, v5, v6, v11, v12, v13⟩
      · by_cases h2 : d3 % 4 = 0
        · have e1 : coreF d1 d2 d3 = core0 d1 d2 := by simp [coreF, fracF, h2]
          have e2 : frF d1 d3 = (0, 0) := by simp [frF, h2]
          rw [e1, e2]
          subst hdl
          repeat' kas_types
          exact ⟨rfl, rfl, v0, v1, v2, v3, v5, v6, v11, v12, v13⟩
        · have e1 : coreF d1 d2 d3 = core0 d1 d2 ++ [46] ++ List.replicate (d3 / 4 % 4) 48 ++ List.replicate (d3 / 16 % 3) 35 := by simp [coreF, fracF, h1, h2]
          have e2 : frF d1 d3 = (((d3 / 4 % 4 : Nat) : Int), ((d3 / 4 % 4 : Nat) : Int) + (d3 / 16 % 3 : Nat)) := by simp [frF, h1, h2]
          rw [e1, e2]
          subst hdl
          repeat' kas_types
          all_goals first
            | exact ⟨rfl, rfl, v0, v1, v2, v3, v5, v6, rfl, v12, rfl⟩
            | omega
            | (simp only [List.length_append, List.length_replicate, List.length_cons, List.length_nil]; omega)
    clear v0 v1 v2 v3 v5 v6 v7 v11 v12 v13
    rintro ρ ⟨v0, v1, v2, v3, v5, v6, v11, v12, v13⟩
    refine Ex.cut (fun ρ => Vr ρ "draws" dl ∧ Vr ρ "sign" (.int (sgn d0 : Nat)) ∧ Vr ρ "front" (.str (frontF d0)) ∧ Vr ρ "back" (.str (backF d0)) ∧ Vr ρ "least" (.int (lstF d1 : Nat)) ∧ Vr ρ "whole" (.int ((hshF d1 : Nat) + (lstF d1 : Nat))) ∧
      Vr ρ "core" (.str (coreF d1 d2 d3)) ∧ Vr ρ "groups" (.tup [.int (grpF d1 d2).1, .int (grpF d1 d2).2]) ∧ Vr ρ "fraction" (.tup [.int (frF d1 d3).1, .int (frF d1 d3).2]) ∧ Vr ρ "tail" (.str [])) (Ex1.assign ?_) ?_
    · repeat' kas_types
      exact ⟨rfl, rfl, v0, v1, v2, v3, v5, v6, v11, v12, v13, rfl⟩
    clear v0 v1 v2 v3 v5 v6 v11 v12 v13
    rintro ρ ⟨v0, v1, v2, v3, v5, v6, v11, v12, v13, v14⟩
    refine Ex.cut (fun ρ => Vr ρ "draws" dl ∧ Vr ρ "sign" (.int (sgn d0 : Nat)) ∧ Vr ρ "front" (.str (frontF d0)) ∧ Vr ρ "back" (.str (backF d0)) ∧ Vr ρ "least" (.int (lstF d1 : Nat)) ∧ Vr ρ "whole" (.int ((hshF d1 : Nat) + (lstF d1 : Nat))) ∧
      Vr ρ "core" (.str (coreF d1 d2 d3)) ∧ Vr ρ "groups" (.tup [.int (grpF d1 d2).1, .int (grpF d1 d2).2]) ∧ Vr ρ "fraction" (.tup [.int (frF d1 d3).1, .int (frF d1 d3).2]) ∧ Vr ρ "tail" (.str []) ∧ Vr ρ "power" .none) (Ex1.assign ?_) ?_
    · repeat' kas_types
      exact ⟨rfl, rfl, v0, v1, v2, v3, v5, v6, v11, v12, v13, v14, rfl⟩
    clear v0 v1 v2 v3 v5 v6 v11 v12 v13 v14
    rintro ρ ⟨v0, v1, v2, v3, v5, v6, v11, v12, v13, v14, v15⟩
    refine Ex.cut (fun ρ => Vr ρ "draws" dl ∧ Vr ρ "sign" (.int (sgn d0 : Nat)) ∧ Vr ρ "front" (.str (frontF d0)) ∧ Vr ρ "back" (.str (backF d0)) ∧ Vr ρ "least" (.int (lstF d1 : Nat)) ∧ Vr ρ "whole" (.int ((hshF d1 : Nat) + (lstF d1 : Nat))) ∧
      Vr ρ "core" (.str (coreF d1 d2 d3)) ∧ Vr ρ "groups" (.tup [.int (grpF d1 d2).1, .int (grpF d1 d2).2]) ∧ Vr ρ "fraction" (.tup [.int (frF d1 d3).1, .int (frF d1 d3).2]) ∧ Vr ρ "tail" (.str []) ∧ Vr ρ "power" .none ∧ Vr ρ "plus" (.str [110, 111, 110, 101])) (Ex1.assign ?_) ?_
    · repeat' kas_types
      exact ⟨rfl, rfl, v0, v1, v2, v3, v5, v6, v11, v12, v13, v14, v15, rfl⟩
    clear v0 v1 v2 v3 v5 v6 v11 v12 v13 v14 v15
    rintro ρ ⟨v0, v1, v2, v3, v5, v6, v11, v12, v13, v14, v15, v16⟩
    refine Ex.cut (fun ρ => Vr ρ "draws" dl ∧ Vr ρ "sign" (.int (sgn d0 : Nat)) ∧ Vr ρ "front" (.str (frontF d0)) ∧ Vr ρ "back" (.str (backF d0)) ∧ Vr ρ "least" (.int (lstF d1 : Nat)) ∧ Vr ρ "whole" (.int ((hshF d1 : Nat) + (lstF d1 : Nat))) ∧
      Vr ρ "core" (.str (coreF d1 d2 d3)) ∧ Vr ρ "groups" (.tup [.int (grpF d1 d2).1, .int (grpF d1 d2).2]) ∧ Vr ρ "fraction" (.tup [.int (frF d1 d3).1, .int (frF d1 d3).2]) ∧ Vr ρ "tail" (.str []) ∧ Vr ρ "power" .none ∧ Vr ρ "plus" (.str [110, 111, 110, 101]) ∧ Vr ρ "places" (.int (d4 % 4 : Nat))) (Ex1.assign ?_) ?_
    · subst hdl
      repeat' kas_types
      exact ⟨rfl, rfl, v0, v1, v2, v3, v5, v6, v11, v12, v13, v14, v15, v16, rfl⟩
    clear v0 v1 v2 v3 v5 v6 v11 v12 v13 v14 v15 v16
    rintro ρ ⟨v0, v1, v2, v3, v5, v6, v11, v12, v13, v14, v15, v16, v17⟩
    refine Ex.cut (fun ρ => Vr ρ "draws" dl ∧ Vr ρ "sign" (.int (sgn d0 : Nat)) ∧ Vr ρ "front" (.str (frontF d0)) ∧ Vr ρ "back" (.str (backF d0)) ∧ Vr ρ "least" (.int (lstF d1 : Nat)) ∧ Vr ρ "whole" (.int ((hshF d1 : Nat) + (lstF d1 : Nat))) ∧
      Vr ρ "core" (.str (coreF d1 d2 d3)) ∧ Vr ρ "groups" (.tup [.int (grpF d1 d2).1, .int (grpF d1 d2).2]) ∧ Vr ρ "fraction" (.tup [.int (frF d1 d3).1, .int (frF d1 d3).2]) ∧ Vr ρ "tail" (.str (tailF d4)) ∧ Vr ρ "power" (powF d4) ∧ Vr ρ "plus" (.str (plusF d4))) (Ex1.ite (Tv.cmp ?_)) ?_
    · by_cases h : 0 < d4 % 4
      · by_cases h2 : d4 / 4 % 2 = 1
        · have e1 : tailF d4 = [69, 43] ++ List.replicate (d4 % 4) 48 := by simp [tailF, h, h2]
          have e2 : plusF d4 = [112, 108, 117, 115] := by simp [plusF, h, h2]
          rw [e1, e2, show powF d4 = .tup [.int (d4 % 4 : Nat), .int (d4 % 4 : Nat)] from if_pos h]
          subst hdl
          repeat' kas_types
          all_goals first
            | exact ⟨rfl, rfl, v0, v1, v2, v3, v5, v6, v11, v12, v13, rfl, rfl, rfl⟩
            | omega
            | (simp only [List.length_append, List.length_replicate, List.length_cons, List.length_nil]; omega)
        · have e1 : tailF d4 = [69] ++ List.replicate (d4 % 4) 48 := by simp [tailF, h, h2]
          have e2 : plusF d4 = [98, 97, 114, 101] := by simp [plusF, h, h2]
          rw [e1, e2, show powF d4 = .tup [.int (d4 % 4 : Nat), .int (d4 % 4 : Nat)] from if_pos h]
          subst hdl
          repeat' kas_types
          all_goals first
            | exact ⟨rfl, rfl, v0, v1, v2, v3, v5, v6, v11, v12, v13, rfl, rfl, rfl⟩
            | omega
            | (simp only [List.length_append, List.length_replicate, List.length_cons, List.length_nil]; omega)
      · have e1 : tailF d4 = [] := if_neg h
        have e2 : plusF d4 = [110, 111, 110, 101] := if_neg h
        rw [e1, e2, show powF d4 = .none from if_neg h]
        repeat' kas_types
        exact ⟨rfl, rfl, v0, v1, v2, v3, v5, v6, v11, v12, v13, v14, v15, v16⟩
    clear v0 v1 v2 v3 v5 v6 v11 v12 v13 v14 v15 v16 v17
    rintro ρ ⟨v0, v1, v2, v3, v5, v6, v11, v12, v13, v14, v15, v16⟩
    have hcl2 : (coreF d1 d2 d3).length ≤ 30 := by
      unfold coreF fracF; split <;> simp only [List.length_append, List.length_replicate, List.length_cons, List.length_nil] <;> omega
    have htl : (tailF d4).length ≤ 6 := by
      unfold tailF; split <;> (try split) <;> simp only [List.length_append, List.length_replicate, List.length_cons, List.length_nil] <;> omega
    refine Ex.cut (fun ρ => Vr ρ "draws" dl ∧ Vr ρ "sign" (.int (sgn d0 : Nat)) ∧ Vr ρ "front" (.str (frontF d0)) ∧ Vr ρ "back" (.str (backF d0)) ∧ Vr ρ "least" (.int (lstF d1 : Nat)) ∧ Vr ρ "whole" (.int ((hshF d1 : Nat) + (lstF d1 : Nat))) ∧
      Vr ρ "core" (.str (coreF d1 d2 d3)) ∧ Vr ρ "groups" (.tup [.int (grpF d1 d2).1, .int (grpF d1 d2).2]) ∧ Vr ρ "fraction" (.tup [.int (frF d1 d3).1, .int (frF d1 d3).2]) ∧ Vr ρ "power" (powF d4) ∧ Vr ρ "plus" (.str (plusF d4)) ∧ Vr ρ "text" (.str (textF d0 d1 d2 d3 d4))) (Ex1.assign ?_) ?_
    · repeat' kas_types
      all_goals first
        | exact ⟨rfl, rfl, v0, v1, v2, v3, v5, v6, v11, v12, v13, v15, v16, rfl⟩
        | omega
        | (simp only [List.length_append]; omega)
    clear v0 v1 v2 v3 v5 v6 v11 v12 v13 v14 v15 v16
    rintro ρ ⟨v0, v1, v2, v3, v5, v6, v11, v12, v13, v15, v16, v18⟩
    refine Ex.cut (fun ρ => Vr ρ "draws" dl ∧ Vr ρ "sign" (.int (sgn d0 : Nat)) ∧ Vr ρ "front" (.str (frontF d0)) ∧ Vr ρ "back" (.str (backF d0)) ∧ Vr ρ "least" (.int (lstF d1 : Nat)) ∧ Vr ρ "whole" (.int ((hshF d1 : Nat) + (lstF d1 : Nat))) ∧
      Vr ρ "core" (.str (coreF d1 d2 d3)) ∧ Vr ρ "groups" (.tup [.int (grpF d1 d2).1, .int (grpF d1 d2).2]) ∧ Vr ρ "fraction" (.tup [.int (frF d1 d3).1, .int (frF d1 d3).2]) ∧ Vr ρ "power" (powF d4) ∧ Vr ρ "plus" (.str (plusF d4)) ∧ Vr ρ "text" (.str (textF d0 d1 d2 d3 d4)) ∧
      Vr ρ "fronts" (.tup [.str (frontF d0), .str (45 :: frontF d0)])) (Ex1.assign ?_) ?_
    · repeat' kas_types
      all_goals first
        | exact ⟨rfl, rfl, v0, v1, v2, v3, v5, v6, v11, v12, v13, v15, v16, v18, rfl⟩
        | (simp only [List.length_cons, List.length_nil]; omega)
    clear v0 v1 v2 v3 v5 v6 v11 v12 v13 v15 v16 v18
    rintro ρ ⟨v0, v1, v2, v3, v5, v6, v11, v12, v13, v15, v16, v18, v19⟩
    refine Ex.cut (fun ρ => Vr ρ "draws" dl ∧ Vr ρ "sign" (.int (sgn d0 : Nat)) ∧ Vr ρ "front" (.str (frontF d0)) ∧ Vr ρ "back" (.str (backF d0)) ∧ Vr ρ "least" (.int (lstF d1 : Nat)) ∧ Vr ρ "whole" (.int ((hshF d1 : Nat) + (lstF d1 : Nat))) ∧
      Vr ρ "core" (.str (coreF d1 d2 d3)) ∧ Vr ρ "groups" (.tup [.int (grpF d1 d2).1, .int (grpF d1 d2).2]) ∧ Vr ρ "fraction" (.tup [.int (frF d1 d3).1, .int (frF d1 d3).2]) ∧ Vr ρ "power" (powF d4) ∧ Vr ρ "plus" (.str (plusF d4)) ∧ Vr ρ "text" (.str (textF d0 d1 d2 d3 d4)) ∧
      Vr ρ "fronts" (.tup [.str (frontF d0), .str (45 :: frontF d0)]) ∧ Vr ρ "backs" (.tup [.str (backF d0), .str (backF d0)])) (Ex1.assign ?_) ?_
    · repeat' kas_types
      exact ⟨rfl, rfl, v0, v1, v2, v3, v5, v6, v11, v12, v13, v15, v16, v18, v19, rfl⟩
    clear v0 v1 v2 v3 v5 v6 v11 v12 v13 v15 v16 v18 v19
    rintro ρ ⟨v0, v1, v2, v3, v5, v6, v11, v12, v13, v15, v16, v18, v19, v20⟩
    refine Ex.cut (fun ρ => Vr ρ "sign" (.int (sgn d0 : Nat)) ∧ Vr ρ "least" (.int (lstF d1 : Nat)) ∧ Vr ρ "whole" (.int ((hshF d1 : Nat) + (lstF d1 : Nat))) ∧
      Vr ρ "core" (.str (coreF d1 d2 d3)) ∧ Vr ρ "groups" (.tup [.int (grpF d1 d2).1, .int (grpF d1 d2).2]) ∧ Vr ρ "fraction" (.tup [.int (frF d1 d3).1, .int (frF d1 d3).2]) ∧ Vr ρ "power" (powF d4) ∧ Vr ρ "plus" (.str (plusF d4)) ∧ Vr ρ "text" (.str (text2F d0 d1 d2 d3 d4 d5)) ∧
      Vr ρ "fronts" (.tup [.str (frontF d0), .str (nfrontF d0 d5)]) ∧ Vr ρ "backs" (.tup [.str (backF d0), .str (nbackF d0 d5)])) (Ex1.ite (Tv.cmp ?_)) ?_
    · by_cases h : d5 % 3 = 0
      · rw [show text2F d0 d1 d2 d3 d4 d5 = textF d0 d1 d2 d3 d4 from if_pos h, show nfrontF d0 d5 = 45 :: frontF d0 from if_pos h, show nbackF d0 d5 = backF d0 from if_pos h]
        subst hdl
        repeat' kas_types
        exact ⟨rfl, rfl, v1, v5, v6, v11, v12, v13, v15, v16, v18, v19, v20⟩
      · rw [show text2F d0 d1 d2 d3 d4 d5 = textF d0 d1 d2 d3 d4 ++ [59] ++ otherF d5 0 ++ tCores.getD (d5 / 12 % 4) [] ++ otherF d5 1 from if_neg h, show nfrontF d0 d5 = otherF d5 0 from if_neg h, show nbackF d0 d5 = otherF d5 1 from if_neg h]
        subst hdl
        have l2 := oth2 (d5 / 3 % 4) (Nat.mod_lt _ (by decide))
        have l3 := oth3 d5 0
        have l4 := oth3 d5 1
        have l5 := getD_len (t := tCores) (n := 10) (by decide +kernel) (d5 / 12 % 4)
        repeat' kas_types
        · refine Ot.tupK 0 rfl default (Nat.lt_of_lt_of_le (by decide : 0 < 2) (Nat.le_of_eq l2.symm)) (Nat.le_trans (Nat.le_of_eq l2) (by decide)) ?_
          repeat' kas_types
          · refine Ot.tupK 1 rfl default (Nat.lt_of_lt_of_le (by decide : 1 < 2) (Nat.le_of_eq l2.symm)) (Nat.le_trans (Nat.le_of_eq l2) (by decide)) ?_
            repeat' kas_types
            · refine Ot.tupK 0 rfl default (Nat.lt_of_lt_of_le (by decide : 0 < 2) (Nat.le_of_eq l2.symm)) (Nat.le_trans (Nat.le_of_eq l2) (by decide)) ?_
              repeat' kas_types
              refine Ot.tupK 1 rfl default (Nat.lt_of_lt_of_le (by decide : 1 < 2) (Nat.le_of_eq l2.symm)) (Nat.le_trans (Nat.le_of_eq l2) (by decide)) ?_
              repeat' kas_types
              exact ⟨rfl, rfl, v1, v5, v6, v11, v12, v13, v15, v16, rfl, rfl, rfl⟩
            all_goals
              show (textF d0 d1 d2 d3 d4 ++ [59] ++ otherF d5 0 ++ tCores.getD (d5 / 12 % 4) []).length + (otherF d5 1).length ≤ 16000000
              simp only [textF, List.length_append, List.length_cons, List.length_nil]; omega
          all_goals first
            | (show (textF d0 d1 d2 d3 d4 ++ [59] ++ otherF d5 0).length + (tCores.getD (d5 / 12 % 4) []).length ≤ 16000000
               simp only [textF, List.length_append, List.length_cons, List.length_nil]; omega)
            | (show (textF d0 d1 d2 d3 d4 ++ [59]).length + (otherF d5 0).length ≤ 16000000
               simp only [textF, List.length_append, List.length_cons, List.length_nil]; omega)
        all_goals
          show (textF d0 d1 d2 d3 d4).length + 1 ≤ 16000000
          simp only [textF, List.length_append]; omega
    clear v0 v1 v2 v3 v5 v6 v11 v12 v13 v15 v16 v18 v19 v20
    rintro ρ ⟨v1, v5, v6, v11, v12, v13, v15, v16, v18, v19, v20⟩
    repeat' kas_types
    exact rfl

def frontG (i s : Nat) : List Nat := tFronts.getD i [] ++ (if s = 1 then [37] else if s = 3 then [8240] else [])
def backG (j s : Nat) : List Nat := (if s = 2 then [37] else if s = 4 then [8240] else []) ++ tBacks.getD j []
def mrkG (sig : Bool) (h l : Nat) : List Nat := if sig then List.replicate l 64 ++ List.replicate h 35 else List.replicate h 35 ++ List.replicate l 48
def coreG (sig : Bool) (h l near far : Nat) : List Nat := mk (far + 1 : Nat) (mrkG sig h l).reverse near []
def toldG (w near far : Nat) : Int × Int := if near = 0 ∨ w ≤ near then (1000, 1000) else if w ≤ near + (far + 1) then ((near : Nat), (near : Nat)) else ((near : Nat), (far + 1 : Nat))
def coreChk (sig : Bool) (h l near far : Nat) : Bool :=
  let c := coreG sig h l near far
  decide (grp c = toldG (h + l) near far) && decide (prec c 0 0 = ((l : Int), (h : Int) + l)) && c.all inS2 && headB c && !c.isEmpty && decide (46 ∉ c) && decide (69 ∉ c) && decide (59 ∉ c) && (sig || decide (64 ∉ c))
theorem core_all : ∀ sig ∈ [true, false], ∀ h < 5, ∀ l < 5, h + l = 0 ∨ ∀ near < 5, ∀ far < 3, coreChk sig h l near far = true := by decide +kernel
theorem front_all : ∀ i < 8, ∀ s < 5, (preB (frontG i s) false && decide (59 ∉ frontG i s)) = true := by decide +kernel
theorem back_all : ∀ i < 8, ∀ s < 5, (sufB (backG i s) && decide (59 ∉ backG i s)) = true := by decide +kernel
def fracG (z m : Nat) : List Nat := List.replicate z 48 ++ List.replicate m 35
theorem frac_all : ∀ z < 4, ∀ m < 3, (decide (prec (fracG z m) 0 0 = ((z : Int), (z : Int) + m)) && (fracG z m).all inS2 && decide (46 ∉ fracG z m) && decide (69 ∉ fracG z m) && decide (59 ∉ fracG z m)) = true := by decide +kernel
def othG (k j : Nat) : List Nat := (tOther.getD k []).getD j []
theorem neg_all : ∀ k < 4, ∀ c < 4, (preB (othG k 0) false && (tCores.getD c []).all inS2 && sufB (othG k 1) && headB (tCores.getD c [] ++ othG k 1)) = true := by decide +kernel
theorem scl_all : ∀ s < 5, ∀ i < 8, ∀ j < 8, (decide (scl (frontG i s ++ (45 :: frontG i s) ++ backG j s ++ backG j s) = tScales.getD s 0) && (List.range 4).all fun k => decide (scl (frontG i s ++ othG k 0 ++ backG j s ++ othG k 1) = tScales.getD s 0)) = true := by decide +kernel
theorem core_eq (d1 d2 : Nat) : core0 d1 d2 = coreG (decide (sigF d1 = 3)) (hshF d1) (lstF d1) (nearF d2) (d2 / 5 % 3) := by
  have : mrkF d1 = mrkG (decide (sigF d1 = 3)) (hshF d1) (lstF d1) := by
    unfold mrkF mrkG
    by_cases h : sigF d1 = 3 <;> simp [h]
  unfold core0 coreG; rw [this]; rfl
def plusOf : PV → List Nat
  | .bool true => [112, 108, 117, 115]
  | .bool false => [98, 97, 114, 101]
  | _ => [110, 111, 110, 101]
def fracOf (d1 d3 : Nat) : List Nat := if ¬ sigF d1 = 3 ∧ ¬ d3 % 4 = 0 then fracG (d3 / 4 % 4) (d3 / 16 % 3) else []
def expOf (d4 : Nat) : Option (List Nat) := if 0 < d4 % 4 then some ((if d4 / 4 % 2 = 1 then [43] else []) ++ List.replicate (d4 % 4) 48) else none

structure CoreOk (d1 d2 d3 d4 : Nat) : Prop where
  g : grp (core0 d1 d2) = grpF d1 d2
  p : prec (core0 d1 d2) 0 0 = ((lstF d1 : Int), (hshF d1 : Int) + lstF d1)
  fr : prec (fracOf d1 d3) 0 0 = frF d1 d3
  pt : Point (coreF d1 d2 d3) (core0 d1 d2) (fracOf d1 d3)
  hr : ¬ (64 ∈ coreF d1 d2 d3 ∧ 46 ∈ coreF d1 d2 d3 ∧ 48 ∈ coreF d1 d2 d3)
  pw : Power (coreF d1 d2 d3 ++ tailF d4) (coreF d1 d2 d3) (expOf d4)
  s2 : (coreF d1 d2 d3 ++ tailF d4).all inS2 = true
  hd : headB (core0 d1 d2) = true
  ne : core0 d1 d2 ≠ []
  n59 : 59 ∉ coreF d1 d2 d3 ++ tailF d4
  pp : powPrec (expOf d4) = powF d4
  pl : plusOf (powPlus (expOf d4)) = plusF d4
theorem core_ok (d1 d2 d3 d4 : Nat) : CoreOk d1 d2 d3 d4 := by
  have hsh : hshF d1 < 5 := Nat.mod_lt _ (by decide)
  have hls : lstF d1 < 5 := by unfold lstF; split <;> omega
  have hne : ¬ hshF d1 + lstF d1 = 0 := by
    unfold lstF hshF; split <;> omega
  have hnr : nearF d2 < 5 := Nat.mod_lt _ (by decide)
  have hfr : d2 / 5 % 3 < 3 := Nat.mod_lt _ (by decide)
  have key : coreChk (decide (sigF d1 = 3)) (hshF d1) (lstF d1) (nearF d2) (d2 / 5 % 3) = true := by
    have := core_all (decide (sigF d1 = 3)) (by by_cases h : sigF d1 = 3 <;> simp [h]) _ hsh _ hls
    rcases this with h | h
    · exact absurd h hne
    · exact h _ hnr _ hfr
  unfold coreChk at key
  rw [← core_eq] at key
  simp only [Bool.and_eq_true, decide_eq_true_eq, Bool.or_eq_true, Bool.not_eq_true', List.isEmpty_eq_false_iff] at key
  obtain ⟨⟨⟨⟨⟨⟨⟨⟨k1, k2⟩, k3⟩, k4⟩, k5⟩, k6⟩, k7⟩, k8⟩, k9⟩ := key
  have fk := frac_all _ (Nat.mod_lt (d3 / 4) (by decide : 0 < 4)) _ (Nat.mod_lt (d3 / 16) (by decide : 0 < 3))
  simp only [Bool.and_eq_true, decide_eq_true_eq] at fk
  obtain ⟨⟨⟨⟨f1, f2⟩, f3⟩, f4⟩, f5⟩ := fk
  have hfrac : fracF d1 d3 = if ¬ sigF d1 = 3 ∧ ¬ d3 % 4 = 0 then 46 :: fracOf d1 d3 else [] := by
    unfold fracF fracOf; split <;> rfl
  have n69 : 69 ∉ coreF d1 d2 d3 := by
    unfold coreF; rw [List.mem_append, hfrac]
    rintro (h | h)
    · exact k7 h
    · split at h
      · rename_i c
        rcases List.mem_cons.mp h with h | h
        · cases h
        · unfold fracOf at h; rw [if_pos c] at h; exact f4 h
      · cases h
  have n59 : 59 ∉ coreF d1 d2 d3 := by
    unfold coreF; rw [List.mem_append, hfrac]
    rintro (h | h)
    · exact k8 h
    · split at h
      · rename_i c
        rcases List.mem_cons.mp h with h | h
        · cases h
        · unfold fracOf at h; rw [if_pos c] at h; exact f5 h
      · cases h
  have s2 : (coreF d1 d2 d3).all inS2 = true := by
    unfold coreF; rw [List.all_append, k3, hfrac]
    split
    · rename_i c
      unfold fracOf; rw [if_pos c, List.all_cons, f2]; rfl
    · rfl
  refine ⟨?_, ?_, ?_, ?_, ?_, ?_, ?_, k4, k5, ?_, ?_, ?_⟩
  · rw [k1]; unfold toldG grpF farF
    simp only [← Nat.add_assoc]
  · exact k2
  · unfold fracOf frF
    split
    · exact f1
    · rfl
  · unfold coreF; rw [hfrac]
    split
    · rename_i c
      refine .some ?_
      unfold fracOf; rw [if_pos c]; exact f3
    · rename_i c
      unfold fracOf
      rw [if_neg c, List.append_nil]
      exact .none k6
  · rintro ⟨h1, h2, h3⟩
    unfold coreF at h1 h2
    rw [List.mem_append, hfrac] at h1 h2
    by_cases c : ¬ sigF d1 = 3 ∧ ¬ d3 % 4 = 0
    · rw [if_pos c] at h1
      rcases h1 with h1 | h1
      · rcases k9 with k9 | k9
        · exact c.1 k9
        · exact k9 h1
      · rcases List.mem_cons.mp h1 with h1 | h1
        · cases h1
        · unfold fracOf fracG at h1; rw [if_pos c] at h1
          simp [List.mem_append, List.mem_replicate] at h1
    · rw [if_neg c] at h2
      rcases h2 with h2 | h2
      · exact k6 h2
      · cases h2
  · unfold tailF expOf
    split
    · have : (if d4 / 4 % 2 = 1 then [69, 43] else [69]) ++ List.replicate (d4 % 4) 48 = 69 :: ((if d4 / 4 % 2 = 1 then [43] else []) ++ List.replicate (d4 % 4) 48) := by split <;> rfl
      rw [this]; exact .some n69
    · rw [List.append_nil]; exact .none n69
  · rw [List.all_append, s2]
    unfold tailF
    split
    · rw [List.all_append, List.all_replicate]; split <;> (split <;> decide)
    · rfl
  · rw [List.mem_append]
    rintro (h | h)
    · exact n59 h
    · unfold tailF at h
      split at h
      · rw [List.mem_append, List.mem_replicate] at h
        split at h <;> simp at h
      · cases h
  · unfold expOf powF
    have hp : d4 % 4 < 4 := Nat.mod_lt _ (by decide)
    by_cases h : 0 < d4 % 4
    · rw [if_pos h, if_pos h]
      obtain e | e | e : d4 % 4 = 1 ∨ d4 % 4 = 2 ∨ d4 % 4 = 3 := by omega
      all_goals (rw [e]; split <;> rfl)
    · rw [if_neg h, if_neg h]; rfl
  · unfold expOf plusF
    have hp : d4 % 4 < 4 := Nat.mod_lt _ (by decide)
    by_cases h : 0 < d4 % 4
    · rw [if_pos h, if_pos h]
      obtain e | e | e : d4 % 4 = 1 ∨ d4 % 4 = 2 ∨ d4 % 4 = 3 := by omega
      all_goals (rw [e]; split <;> rfl)
    · rw [if_neg h, if_neg h]; rfl

theorem halves_ok (d0 d1 d2 d3 d4 d5 : Nat) : Halves (text2F d0 d1 d2 d3 d4 d5) (frontF d0) (coreF d1 d2 d3 ++ tailF d4) (backF d0) (nfrontF d0 d5) (nbackF d0 d5) := by
  have X := core_ok d1 d2 d3 d4
  have hs := sgn_lt d0
  have fa := front_all _ (Nat.mod_lt d0 (by decide : 0 < 8)) _ hs
  have ba := back_all _ (Nat.mod_lt (d0 / 8) (by decide : 0 < 8)) _ hs
  have e1 : frontG (d0 % 8) (sgn d0) = frontF d0 := rfl
  have e2 : backG (d0 / 8 % 8) (sgn d0) = backF d0 := rfl
  rw [e1, Bool.and_eq_true, decide_eq_true_eq] at fa
  rw [e2, Bool.and_eq_true, decide_eq_true_eq] at ba
  have et : textF d0 d1 d2 d3 d4 = frontF d0 ++ (coreF d1 d2 d3 ++ tailF d4) ++ backF d0 := by unfold textF; simp
  have hcne : coreF d1 d2 d3 ++ tailF d4 ++ backF d0 = core0 d1 d2 ++ (fracF d1 d3 ++ tailF d4 ++ backF d0) := by unfold coreF; simp
  have sp : Spl (textF d0 d1 d2 d3 d4) (frontF d0) (coreF d1 d2 d3 ++ tailF d4) (backF d0) := by
    rw [et]; exact Spl.of fa.1 X.s2 ba.1 (by rw [hcne]; exact headB_app X.hd X.ne)
  have n59 : 59 ∉ textF d0 d1 d2 d3 d4 := by
    rw [et, List.mem_append, List.mem_append]
    rintro ((h | h) | h)
    · exact fa.2 h
    · exact X.n59 h
    · exact ba.2 h
  unfold text2F nfrontF nbackF
  by_cases h : d5 % 3 = 0
  · rw [if_pos h, if_pos h, if_pos h]; exact .one n59 sp
  · rw [if_neg h, if_neg h, if_neg h]
    have na := neg_all _ (Nat.mod_lt (d5 / 3) (by decide : 0 < 4)) _ (Nat.mod_lt (d5 / 12) (by decide : 0 < 4))
    simp only [Bool.and_eq_true] at na
    have e : textF d0 d1 d2 d3 d4 ++ [59] ++ otherF d5 0 ++ tCores.getD (d5 / 12 % 4) [] ++ otherF d5 1 = textF d0 d1 d2 d3 d4 ++ 59 :: (otherF d5 0 ++ tCores.getD (d5 / 12 % 4) [] ++ otherF d5 1) := by simp
    rw [e]
    exact .two n59 sp (Spl.of na.1.1.1 na.1.1.2 na.1.2 na.2)

theorem scl_ok (d0 d5 : Nat) : scl (frontF d0 ++ nfrontF d0 d5 ++ backF d0 ++ nbackF d0 d5) = tScales.getD (sgn d0) 0 := by
  have hs := sgn_lt d0
  have sa := scl_all _ hs _ (Nat.mod_lt d0 (by decide : 0 < 8)) _ (Nat.mod_lt (d0 / 8) (by decide : 0 < 8))
  rw [Bool.and_eq_true, decide_eq_true_eq] at sa
  unfold nfrontF nbackF
  by_cases h : d5 % 3 = 0
  · rw [if_pos h, if_pos h]; exact sa.1
  · rw [if_neg h, if_neg h]
    exact of_decide_eq_true (List.all_eq_true.mp sa.2 (d5 / 3 % 4) (List.mem_range.mpr (Nat.mod_lt _ (by decide))))

abbrev plusPV : PV → Prop
  | .none => True
  | .bool _ => True
  | _ => False
theorem fn_fields {W : Wd} {K f a : Addr} (X : Law W K) (H : HasFn W (stmtAt pw 18) "_law_fields" f) {x num A B C D : List Nat} {g1 g2 i1 i2 f1 f2 : Int} {ep pl : PV} (hep : ep.handed = true) (hpl : plusPV pl) :
    Fn W 1 f [.obj K a (npFields (.str x) A B C D (.tup [.int g1, .int g2]) (.tup [.int i1, .int i2]) (.tup [.int f1, .int f2]) ep pl (.str num))] fun p =>
      p = .tup [.str x, .tup [.str A, .str B], .tup [.str C, .str D], .tup [.int g1, .int g2], .tup [.int i1, .int i2], .tup [.int f1, .int f2], ep, .str (plusOf pl), .str num, .int (scl (A ++ B ++ C ++ D))] := by
  have N := X.tops.np
  have cf := N.cf
  have q1 := N.find (x := "pattern") (by decide)
  have q2 := N.find (x := "prefix") (by decide)
  have q3 := N.find (x := "suffix") (by decide)
  have q4 := N.find (x := "number_pattern") (by decide)
  have q5 := N.find (x := "grouping") (by decide)
  have q6 := N.find (x := "int_prec") (by decide)
  have q7 := N.find (x := "frac_prec") (by decide)
  have q8 := N.find (x := "exp_prec") (by decide)
  have q9 := N.find (x := "exp_plus") (by decide)
  have q10 := N.find (x := "scale") (by decide)
  have hisi := X.tops.hisi
  have hbool := X.hbool
  refine Fn.of H ["one"] rfl (fun doc pm an cdv ct vs hv => ?_) (by decide +kernel) (by decide) rfl (by decide +kernel) rfl rfl fun A L s₀ E cdv ok => ?_
  · match vs, hv with
    | [v], _ => rfl
  · match pl, hpl with
    | .none, _ =>
      refine Ex.cons (Ex1.assign (Ev.strq fun l hl => ?_))
      simp at hl; subst hl
      repeat' kas_types
      exact rfl
    | .bool true, _ =>
      refine Ex.cons (Ex1.assign (Ev.strq fun l hl => ?_))
      simp at hl; subst hl
      repeat' kas_types
      exact rfl
    | .bool false, _ =>
      refine Ex.cons (Ex1.assign (Ev.strq fun l hl => ?_))
      simp at hl; subst hl
      repeat' kas_types
      exact rfl

theorem fn_same {W : Wd} {K f a : Addr} (X : Tops W K) (H : HasFn W (stmtAt pw 7) "parse_pattern" f) {fs : List (Str × PV)} : Fn W 1 f [.obj K a fs] fun p => p = .obj K a fs := by
  obtain ⟨N, hlen, hisi, hnp, knp, isn, isy, mk, _⟩ := X
  refine Fn.of H ["pattern"] rfl (fun doc pm an cdv ct vs hv => ?_) (by decide +kernel) (by decide) rfl (by decide +kernel) rfl rfl fun A L s₀ E cdv ok => ?_
  · match vs, hv with
    | [v], _ => rfl
  · refine Ex.cons (Ex1.ite (Tv.value (Ev.call ?_)))
    repeat' kas_types
    refine Oc.isi_yes isy ?_
    repeat' kas_types
    exact rfl

theorem okB {l : List Nat} (h : (l.all fun c => decide (c < 1114112)) = true) : okC l := fun c hc => of_decide_eq_true (List.all_eq_true.mp h c hc)
theorem okC.app {a b : List Nat} (x : okC a) (y : okC b) : okC (a ++ b) := fun c hc => by rcases List.mem_append.mp hc with h | h; exact x c h; exact y c h
theorem ok_front : ∀ i < 8, ∀ s < 5, ((frontG i s).all fun c => decide (c < 1114112)) = true ∧ ((backG i s).all fun c => decide (c < 1114112)) = true := by decide +kernel
theorem ok_oth : ∀ k < 4, ∀ j < 2, ((othG k j).all fun c => decide (c < 1114112)) = true ∧ ((tCores.getD k []).all fun c => decide (c < 1114112)) = true := by decide +kernel
theorem okS2 {l : List Nat} (h : l.all inS2 = true) : okC l := fun c hc => by
  have := List.all_eq_true.mp h c hc
  unfold inS2 at this
  rw [Bool.and_eq_true, decide_eq_true_eq] at this
  omega

structure Lens (d0 d1 d2 d3 d4 d5 : Nat) : Prop where
  f : (frontF d0).length ≤ 11
  b : (backF d0).length ≤ 11
  c : (coreF d1 d2 d3).length ≤ 30
  t : (tailF d4).length ≤ 6
  n : (nfrontF d0 d5).length ≤ 12
  m : (nbackF d0 d5).length ≤ 12
  x : (text2F d0 d1 d2 d3 d4 d5).length ≤ 100
theorem lens (d0 d1 d2 d3 d4 d5 : Nat) : Lens d0 d1 d2 d3 d4 d5 := by
  have lf := getD_len (t := tFronts) (n := 10) (by decide +kernel) (d0 % 8)
  have lb := getD_len (t := tBacks) (n := 10) (by decide +kernel) (d0 / 8 % 8)
  have lc := getD_len (t := tCores) (n := 10) (by decide +kernel) (d5 / 12 % 4)
  have l0 := oth3 d5 0
  have l1 := oth3 d5 1
  have hh : hshF d1 < 5 := Nat.mod_lt _ (by decide)
  have hl : lstF d1 ≤ 5 := by unfold lstF; split <;> omega
  have hml : (mrkF d1).length ≤ 10 := by unfold mrkF; split <;> simp <;> omega
  have hcl : (core0 d1 d2).length ≤ 20 := by
    have := mk_len (farF d2) (mrkF d1).reverse (nearF d2) []
    unfold core0; simp at this; omega
  have f : (frontF d0).length ≤ 11 := by unfold frontF; rw [List.length_append]; split <;> (try split) <;> simp only [List.length_cons, List.length_nil] <;> omega
  have b : (backF d0).length ≤ 11 := by unfold backF; rw [List.length_append]; split <;> (try split) <;> simp only [List.length_cons, List.length_nil] <;> omega
  have c : (coreF d1 d2 d3).length ≤ 30 := by unfold coreF fracF; split <;> simp only [List.length_append, List.length_replicate, List.length_cons, List.length_nil] <;> omega
  have t : (tailF d4).length ≤ 6 := by unfold tailF; split <;> (try split) <;> simp only [List.length_append, List.length_replicate, List.length_cons, List.length_nil] <;> omega
  have x0 : (textF d0 d1 d2 d3 d4).length ≤ 58 := by unfold textF; simp only [List.length_append]; omega
  refine ⟨f, b, c, t, ?_, ?_, ?_⟩
  · unfold nfrontF; split
    · simp only [List.length_cons]; omega
    · omega
  · unfold nbackF; split <;> omega
  · unfold text2F; split
    · omega
    · simp only [List.length_append, List.length_cons, List.length_nil]; omega

theorem laid_dat (d0 d1 d2 d3 d4 d5 : Nat) : Dat 3 (laidF d0 d1 d2 d3 d4 d5) := by
  have X := core_ok d1 d2 d3 d4
  have hs := sgn_lt d0
  have a1 := okB (ok_front _ (Nat.mod_lt d0 (by decide : 0 < 8)) _ hs).1
  have a2 := okB (ok_front _ (Nat.mod_lt (d0 / 8) (by decide : 0 < 8)) _ hs).2
  have a3 := okB (ok_oth _ (Nat.mod_lt (d5 / 3) (by decide : 0 < 4)) 0 (by decide)).1
  have a4 := okB (ok_oth _ (Nat.mod_lt (d5 / 3) (by decide : 0 < 4)) 1 (by decide)).1
  have a5 := okB (ok_oth _ (Nat.mod_lt (d5 / 12) (by decide : 0 < 4)) 1 (by decide)).2
  have a6 := okS2 X.s2
  have e1 : okC (frontF d0) := a1
  have e2 : okC (backF d0) := a2
  have e3 : okC (textF d0 d1 d2 d3 d4) := by unfold textF; rw [List.append_assoc (frontF d0)]; exact (e1.app a6).app e2
  have e4 : okC (text2F d0 d1 d2 d3 d4 d5) := by
    unfold text2F; split
    · exact e3
    · exact (((e3.app (okB (by decide))).app a3).app a5).app a4
  have e5 : okC (nfrontF d0 d5) := by
    unfold nfrontF; split
    · intro c hc
      rcases List.mem_cons.mp hc with h | h
      · omega
      · exact e1 c h
    · exact a3
  have e6 : okC (nbackF d0 d5) := by unfold nbackF; split; exact e2; exact a4
  have e7 : okC (coreF d1 d2 d3) := fun c hc => a6 c (List.mem_append_left _ hc)
  have e8 : okC (plusF d4) := by unfold plusF; split <;> (try split) <;> exact okB (by decide)
  have e9 : Dat 2 (powF d4) := by
    unfold powF; split
    · exact .tup (.cons .int (.cons .int .nil))
    · exact .none
  exact .tup (.cons (.str e4) (.cons (.tup (.cons (.str e1) (.cons (.str e5) .nil))) (.cons (.tup (.cons (.str e2) (.cons (.str e6) .nil))) (.cons (.tup (.cons .int (.cons .int .nil))) (.cons (.tup (.cons .int (.cons .int .nil)))
    (.cons (.tup (.cons .int (.cons .int .nil))) (.cons e9 (.cons (.str e8) (.cons (.str e7) (.cons .int .nil))))))))))

abbrev objF (K a : Addr) (d0 d1 d2 d3 d4 d5 : Nat) : PV := .obj K a (npFields (.str (text2F d0 d1 d2 d3 d4 d5)) (frontF d0) (nfrontF d0 d5) (backF d0) (nbackF d0 d5) (.tup [.int (grpF d1 d2).1, .int (grpF d1 d2).2])
  (.tup [.int (lstF d1 : Nat), .int ((hshF d1 : Nat) + (lstF d1 : Nat))]) (.tup [.int (frF d1 d3).1, .int (frF d1 d3).2]) (powF d4) (powPlus (expOf d4)) (.str (coreF d1 d2 d3)))
theorem fn_read {W : Wd} {K f : Addr} (X : Tops W K) (H : HasFn W (stmtAt pw 7) "parse_pattern" f) (d0 d1 d2 d3 d4 d5 : Nat) : Fn W 4 f [.str (text2F d0 d1 d2 d3 d4 d5)] fun p => ∃ a, p = objF K a d0 d1 d2 d3 d4 d5 := by
  have L := lens d0 d1 d2 d3 d4 d5
  obtain ⟨l1, l2, l3, l4, l5, l6, l7⟩ := L
  have Y := core_ok d1 d2 d3 d4
  refine (fn_pat X H (halves_ok d0 d1 d2 d3 d4 d5) Y.pw Y.pt Y.hr (by omega) (by omega) (by rw [List.length_append]; omega) (by omega)).mono ?_
  rintro p ⟨a, rfl⟩
  refine ⟨a, ?_⟩
  rw [Y.g, Y.p, Y.fr, Y.pp]
theorem fn_flds {W : Wd} {K f a : Addr} (X : Law W K) (H : HasFn W (stmtAt pw 18) "_law_fields" f) (d0 d1 d2 d3 d4 d5 : Nat) : Fn W 1 f [objF K a d0 d1 d2 d3 d4 d5] fun p => p = laidF d0 d1 d2 d3 d4 d5 := by
  have Y := core_ok d1 d2 d3 d4
  refine (fn_fields X H (by unfold powF; split <;> rfl) (by unfold powPlus; split <;> exact trivial)).mono ?_
  rintro p rfl
  rw [Y.pl, scl_ok]; rfl

def restN : List Nat := (intTab (stmtAt pw 15)).map Int.toNat
theorem rest_eq : (intTab (stmtAt pw 15)).map PV.int = restN.map fun (n : Nat) => PV.int (n : Int) := by rfl
theorem restN_len : restN.length = 18 := by decide +kernel
def drawsN (ns : List Int) : List Nat := (ns.take 18).map (modN 5040) ++ restN.drop ((ns.take 18).map (modN 5040)).length
theorem drawsN_len (ns : List Int) : (drawsN ns).length = 18 := by
  have := restN_len
  unfold drawsN
  rw [List.length_append, List.length_drop, List.length_map, List.length_take]
  omega
abbrev nat (n : Nat) : PV := .int (n : Int)

theorem law_walk {W : Wd} {K : Addr} (X : Law W K) (A : Around) (ok : AOk A 6) (L f : Addr) (cd : Value) (s₀ : Shared) (E : Value → Shared → Prop) (ns : List Int) (hns : ns.length ≤ 63) :
    Ex (⟨A, envOfC "law" (dScope (stmtAt pw 19)) L f cd, 6, ok, rfl, rfl, rfl⟩ : Ac W) s₀ E [("script", .lst (ns.map .int))] [] (dBody (stmtAt pw 19)) (RetQ fun p => p = .bool true) := by
  have X' := X
  obtain ⟨tops, hran, hlist, hbool, _, _, _, _, _, ⟨w6, g6, r6⟩, _, ⟨fl, Hl, gl, kl⟩, ⟨ff, Hf, gf, kf⟩⟩ := X
  obtain ⟨fp, Hp, gp, kp⟩ := tops.fpat
  have hlen := tops.hlen
  refine Ex.cut (fun ρ => Vr ρ "draws" (.lst (((ns.take 18).map (modN 5040)).map nat))) (Ex1.assign (Ev.comp [] rfl ?_ rfl hv_nil (cells_of (by decide +kernel)) (names_of (by decide +kernel)) rfl) (hx := .inr ⟨rfl, rfl⟩)) ?_
  · have es : pySl (ns.map PV.int) none (some (18 : Int)) = (ns.take 18).map .int := by
      rw [show (18 : Int) = ((18 : Nat) : Int) from rfl, pySl_take, List.map_take]
    repeat' kas_types
    · rw [es]
      refine Itr.lst ⟨by simp; omega, fun L' E' => ?_⟩
      refine CompL.map (fun p => match p with | .int n => nat (modN 5040 n) | p => p) _ [] ?_ ⟨rfl, rfl, ?_⟩
      · intro p hp
        obtain ⟨n, _, rfl⟩ := List.mem_map.mp hp
        refine Ev.binop (Ev.var rfl (Ev.int (Op2.mod_int ?_ (by decide))))
        show _ = PV.int _
        rw [← modN_eq (by decide)]; rfl
      · show some _ = some _
        simp [List.map_map, Function.comp_def]
    · simp; omega
  intro ρ v1
  refine Ex.cut (fun ρ => Vr ρ "draws" (.lst ((drawsN ns).map nat))) (Ex1.assign (hx := .inr ⟨rfl, rfl⟩) ?_) ?_
  · rw [rest_eq] at r6
    repeat' kas_types
    · rw [List.length_map]
      refine Os.tup_from ?_ ?_ ?_
      · repeat' kas_types
        refine Oc.list_tup ?_ ?_
        · refine Op2.add_lst ?_ ?_
          · refine ⟨rfl, rfl, ?_⟩
            show some _ = some _
            unfold drawsN
            rw [List.map_append, List.map_drop]
          · have := restN_len; simp; omega
        · have := restN_len; simp; omega
      · have := restN_len; simp; omega
      · have := restN_len; simp; omega
    · simp; omega
  clear v1
  intro ρ v1
  have hd := drawsN_len ns
  generalize drawsN ns = d at v1 hd
  match d, hd, v1 with
  | [d0, d1, d2, d3, d4, d5, d6, d7, d8, d9, d10, d11, d12, d13, d14, d15, d16, d17], _, v1 =>
  refine Ex.cut (fun ρ => Vr ρ "laid" (.lst [laidF d0 d1 d2 d3 d4 d5, laidF d6 d7 d8 d9 d10 d11, laidF d12 d13 d14 d15 d16 d17])) (Ex1.assignComp [("draws", _)] rfl ?_ rfl (hv_one rfl v1 rfl rfl rfl) (cells_of (by decide +kernel)) (names_of (by decide +kernel)) rfl rfl (.inl rfl) (freeOf.nil _)) ?_
  · repeat' kas_types
    refine Itr.tup ⟨by simp, fun L' E' => ?_⟩
    refine CompL.step (Ev.call ?_)
    repeat' kas_types
    · refine Oc.fn' (ps := [.lst [nat d0, nat d1, nat d2, nat d3, nat d4, nat d5]]) (fn_laid X' Hl d0 d1 d2 d3 d4 d5) (Nat.le_of_ble_eq_true rfl) ?_
      rintro _ rfl
      refine CompL.step (Ev.call ?_)
      repeat' kas_types
      · refine Oc.fn' (ps := [.lst [nat d6, nat d7, nat d8, nat d9, nat d10, nat d11]]) (fn_laid X' Hl d6 d7 d8 d9 d10 d11) (Nat.le_of_ble_eq_true rfl) ?_
        rintro _ rfl
        refine CompL.step (Ev.call ?_)
        repeat' kas_types
        · refine Oc.fn' (ps := [.lst [nat d12, nat d13, nat d14, nat d15, nat d16, nat d17]]) (fn_laid X' Hl d12 d13 d14 d15 d16 d17) (Nat.le_of_ble_eq_true rfl) ?_
          rintro _ rfl
          exact CompL.done ⟨rfl, rfl, rfl⟩
        · simp
      · simp
    · simp
  clear v1
  intro ρ v1
  refine Ex.cut (fun ρ => Vr ρ "laid" (.lst [laidF d0 d1 d2 d3 d4 d5, laidF d6 d7 d8 d9 d10 d11, laidF d12 d13 d14 d15 d16 d17]) ∧ ∃ a b c, Vr ρ "read" (.lst [objF K a d0 d1 d2 d3 d4 d5, objF K b d6 d7 d8 d9 d10 d11, objF K c d12 d13 d14 d15 d16 d17]))
    (Ex1.assignComp [] rfl ?_ rfl hv_nil (cells_of (by decide +kernel)) (names_of (by decide +kernel)) rfl rfl (.inl rfl) (freeOf.nil _)) ?_
  · repeat' kas_types
    refine Itr.lst ⟨by simp, fun L' E' => ?_⟩
    refine CompL.step (Ev.call ?_)
    repeat' kas_types
    refine Ot.tup rfl ?_
    repeat' kas_types
    refine Oc.fn' (fn_read tops Hp d0 d1 d2 d3 d4 d5) (Nat.le_of_ble_eq_true rfl) ?_
    rintro _ ⟨a, rfl⟩
    refine CompL.step (Ev.call ?_)
    repeat' kas_types
    refine Ot.tup rfl ?_
    repeat' kas_types
    refine Oc.fn' (fn_read tops Hp d6 d7 d8 d9 d10 d11) (Nat.le_of_ble_eq_true rfl) ?_
    rintro _ ⟨b, rfl⟩
    refine CompL.step (Ev.call ?_)
    repeat' kas_types
    refine Ot.tup rfl ?_
    repeat' kas_types
    refine Oc.fn' (fn_read tops Hp d12 d13 d14 d15 d16 d17) (Nat.le_of_ble_eq_true rfl) ?_
    rintro _ ⟨c, rfl⟩
    exact CompL.done ⟨rfl, rfl, v1, a, b, c, rfl⟩
  clear v1
  rintro ρ ⟨v1, a, b, c, v2⟩
  refine Ex.cut (fun ρ => Vr ρ "laid" (.lst [laidF d0 d1 d2 d3 d4 d5, laidF d6 d7 d8 d9 d10 d11, laidF d12 d13 d14 d15 d16 d17]) ∧ Vr ρ "read" (.lst [objF K a d0 d1 d2 d3 d4 d5, objF K b d6 d7 d8 d9 d10 d11, objF K c d12 d13 d14 d15 d16 d17]) ∧ ∃ e, Vr ρ "anew" (objF K e d0 d1 d2 d3 d4 d5)) (Ex1.assign (Ev.call ?_)) ?_
  · repeat' kas_types
    refine Ot.tup rfl ?_
    repeat' kas_types
    refine Oc.fn' (fn_read tops Hp d0 d1 d2 d3 d4 d5) (Nat.le_of_ble_eq_true rfl) ?_
    rintro _ ⟨e, rfl⟩
    exact ⟨rfl, rfl, v1, v2, e, rfl⟩
  clear v1 v2
  rintro ρ ⟨v1, v2, e, v3⟩
  refine Ex.cut (fun ρ => Vr ρ "laid" (.lst [laidF d0 d1 d2 d3 d4 d5, laidF d6 d7 d8 d9 d10 d11, laidF d12 d13 d14 d15 d16 d17]) ∧ Vr ρ "read" (.lst [objF K a d0 d1 d2 d3 d4 d5, objF K b d6 d7 d8 d9 d10 d11, objF K c d12 d13 d14 d15 d16 d17]) ∧ Vr ρ "anew" (objF K e d0 d1 d2 d3 d4 d5) ∧ Vr ρ "same" (.lst [.bool true, .bool true, .bool true]))
    (Ex1.assignComp [] rfl ?_ rfl hv_nil (cells_of (by decide +kernel)) (names_of (by decide +kernel)) rfl rfl (.inl rfl) (freeOf.nil _)) ?_
  · repeat' kas_types
    refine Itr.lst ⟨by simp, fun L' E' => ?_⟩
    refine CompL.step (Ev.cmp (Ev.call ?_))
    repeat' kas_types
    refine Oc.fn' (fn_same tops Hp) (Nat.le_of_ble_eq_true rfl) ?_
    rintro _ rfl
    repeat' kas_types
    refine Op2.is_obj ?_
    refine CompL.step (Ev.cmp (Ev.call ?_))
    repeat' kas_types
    refine Oc.fn' (fn_same tops Hp) (Nat.le_of_ble_eq_true rfl) ?_
    rintro _ rfl
    repeat' kas_types
    refine Op2.is_obj ?_
    refine CompL.step (Ev.cmp (Ev.call ?_))
    repeat' kas_types
    refine Oc.fn' (fn_same tops Hp) (Nat.le_of_ble_eq_true rfl) ?_
    rintro _ rfl
    repeat' kas_types
    refine Op2.is_obj ?_
    exact CompL.done ⟨rfl, rfl, v1, v2, v3, rfl⟩
  clear v1 v2 v3
  rintro ρ ⟨v1, v2, v3, v4⟩
  refine Ex.cut (fun ρ => Vr ρ "laid" (.lst [laidF d0 d1 d2 d3 d4 d5, laidF d6 d7 d8 d9 d10 d11, laidF d12 d13 d14 d15 d16 d17]) ∧ Vr ρ "anew" (objF K e d0 d1 d2 d3 d4 d5) ∧ Vr ρ "same" (.lst [.bool true, .bool true, .bool true]) ∧ Vr ρ "got" (.lst [laidF d0 d1 d2 d3 d4 d5, laidF d6 d7 d8 d9 d10 d11, laidF d12 d13 d14 d15 d16 d17]))
    (Ex1.assignComp [] rfl ?_ rfl hv_nil (cells_of (by decide +kernel)) (names_of (by decide +kernel)) rfl rfl (.inl rfl) (freeOf.nil _)) ?_
  · repeat' kas_types
    refine Itr.lst ⟨by simp, fun L' E' => ?_⟩
    refine CompL.step (Ev.call ?_)
    repeat' kas_types
    refine Oc.fn' (fn_flds X' Hf d0 d1 d2 d3 d4 d5) (Nat.le_of_ble_eq_true rfl) ?_
    rintro _ rfl
    refine CompL.step (Ev.call ?_)
    repeat' kas_types
    refine Oc.fn' (fn_flds X' Hf d6 d7 d8 d9 d10 d11) (Nat.le_of_ble_eq_true rfl) ?_
    rintro _ rfl
    refine CompL.step (Ev.call ?_)
    repeat' kas_types
    refine Oc.fn' (fn_flds X' Hf d12 d13 d14 d15 d16 d17) (Nat.le_of_ble_eq_true rfl) ?_
    rintro _ rfl
    exact CompL.done ⟨rfl, rfl, v1, v3, v4, rfl⟩
  clear v1 v2 v3 v4
  rintro ρ ⟨v1, v3, v4, v5⟩
  have dA := laid_dat d0 d1 d2 d3 d4 d5
  refine Ex.cons (Ex1.ret (Ev.boolop (Eb.and ?_)))
  refine Ev.cmp (Ev.var v5 (Ev.var v1 (Op2.eq_same (n := 4) (.lst (.cons dA (.cons (laid_dat _ _ _ _ _ _) (.cons (laid_dat _ _ _ _ _ _) .nil)))) (by decide) (Nat.le_of_ble_eq_true rfl) ?_)))
  repeat' kas_types
  refine Oc.fn' (fn_flds X' Hf d0 d1 d2 d3 d4 d5) (Nat.le_of_ble_eq_true rfl) ?_
  rintro _ rfl
  repeat' kas_types
  refine Op2.eq_same (n := 3) dA (by decide) (Nat.le_of_ble_eq_true rfl) ?_
  repeat' kas_types
  refine Op2.eq_same (n := 1) (.lst (.cons .bool (.cons .bool (.cons .bool .nil)))) (by decide) (Nat.le_of_ble_eq_true rfl) ?_
  exact rfl

end Mine
end

section
open PySem PySem.W PyProof.Rows PySem.Calls
set_option maxRecDepth 100000 in
set_option maxHeartbeats 8000000 in
theorem PySem.Challenge.cw_fy0002_02_holds : PySem.Challenge.rw_fy0002_02.Holds := by
  w_on
  o_law
  k_head
  (case hw => w_witness2)
  k_go0
  rename_i w s₀ s₁ mg mb G Y fa o pm doc ho hg KX X V GL T B TE TW w10 w9 M w8a w8 hcd ns hs hlay0 hLay hr hl2 w5 w4 a vs w1 hL ra ww r0 hI hr2 hcond1 hcond2 K0 hD h₁ tk₁ F oc right N0 X0
  have mn : ∀ {n : PySem.Str}, nsIn _ mainGlobals n = some none → mg n = none := fun e => Mine.mg_none KX T.g e
  have ms : ∀ {n : PySem.Str} {v : Value}, nsIn _ mainGlobals n = some (some v) → mg n = some v := fun e => mg_of KX T.g e
  have tops : Mine.Tops (Mine.mkW PySem.Challenge.rw_fy0002_02.row.prog w _ KX T) 118 := by
    refine ⟨⟨⟨rfl, rfl, rfl, rfl, rfl⟩, rfl⟩, mn rfl, mn rfl, ms rfl, rfl, rfl, rfl, rfl, ?_, ?_, ?_, ?_, ?_⟩
    · refine ⟨_, _, ?_, ms rfl, ?_, ms rfl, ?_⟩
      · exact ⟨_, _, _, _, _, _, _, _, rfl, rfl⟩
      · rfl
      · exact ⟨_, _, _, _, _, _, _, _, _, _, _, _, _, rfl, rfl, by decide +kernel⟩
    · refine ⟨_, ?_, ms rfl, ?_⟩
      · exact ⟨_, _, _, _, _, _, _, _, rfl, rfl⟩
      · rfl
    · refine ⟨_, ?_, ms rfl, ?_⟩
      · exact ⟨_, _, _, _, _, _, _, _, rfl, rfl⟩
      · rfl
    · refine ⟨86, 100, _, _, _, _, ⟨_, _, _, _, _, _, _, _, rfl, rfl⟩, rfl, rfl, rfl, rfl, ⟨_, _, _, _, _, _, _, _, rfl, rfl⟩, rfl, rfl, rfl⟩
    · refine ⟨_, ?_, ms rfl, ?_⟩
      · exact ⟨_, _, _, _, _, _, _, _, rfl, rfl⟩
      · rfl
  have law : Mine.Law (Mine.mkW PySem.Challenge.rw_fy0002_02.row.prog w _ KX T) 118 := by
    refine ⟨tops, mn rfl, mn rfl, mn rfl, ?_, ?_, ?_, ?_, ?_, ?_, ?_, ?_, ?_⟩
    · refine ⟨_, ms rfl, .tup (KX _ _ rfl) rfl rfl ?_⟩
      repeat (first | exact Mine.RepL.nil | refine Mine.RepL.cons (Mine.Rep.str' rfl) ?_)
    · refine ⟨_, ms rfl, .tup (KX _ _ rfl) rfl rfl ?_⟩
      repeat (first | exact Mine.RepL.nil | refine Mine.RepL.cons (Mine.Rep.str' rfl) ?_)
    · refine ⟨_, ms rfl, .tup (KX _ _ rfl) rfl rfl ?_⟩
      repeat (first | exact Mine.RepL.nil | (refine Mine.RepL.cons (Mine.Rep.tup (KX _ _ rfl) rfl rfl ?_) ?_; (repeat (first | exact Mine.RepL.nil | refine Mine.RepL.cons (Mine.Rep.str' rfl) ?_))))
    · refine ⟨_, ms rfl, .tup (KX _ _ rfl) rfl rfl ?_⟩
      repeat (first | exact Mine.RepL.nil | refine Mine.RepL.cons (Mine.Rep.str' rfl) ?_)
    · refine ⟨_, ms rfl, .tup (KX _ _ rfl) rfl rfl ?_⟩
      repeat (first | exact Mine.RepL.nil | refine Mine.RepL.cons (Mine.Rep.int _ _) ?_)
    · refine ⟨_, ms rfl, .tup (KX _ _ rfl) rfl rfl ?_⟩
      repeat (first | exact Mine.RepL.nil | refine Mine.RepL.cons (Mine.Rep.int _ _) ?_)
    · refine ⟨_, ?_, ms rfl, ?_⟩
      · exact ⟨_, _, _, _, _, _, _, _, rfl, rfl⟩
      · rfl
    · refine ⟨_, ?_, ms rfl, ?_⟩
      · exact ⟨_, _, _, _, _, _, _, _, rfl, rfl⟩
      · rfl
    · refine ⟨_, ?_, ms rfl, ?_⟩
      · exact ⟨_, _, _, _, _, _, _, _, rfl, rfl⟩
      · rfl
  refine Mine.fin (W := Mine.mkW PySem.Challenge.rw_fy0002_02.row.prog w _ KX T) rfl (ok := ⟨rfl, by show 1 + claimMargin + 1 + 2 * 6 < recursionLimit; decide, by show 4 + 3 + 50 * 6 < cLine; decide⟩) rfl rfl rfl rfl rfl rfl F hL hI rfl rfl ?_ ?_ (Mine.law_walk law _ _ _ _ _ _ _ ns (by omega)) ?_
  · intro x c hc
    have hc : ([(("draws" : PySem.Str), s₁.heap.objs.size + 1)] : List (PySem.Str × Addr)).lookup x = some c := hc
    rw [List.lookup_cons] at hc
    split at hc
    · cases hc
      obtain ⟨n1, _, n3⟩ := N0 _ (List.mem_singleton.mpr rfl)
      exact ⟨⟨_, oc, n1, right⟩, n3⟩
    · cases hc
  · exact List.pairwise_singleton _ _
  · intro s' hk hos hgens
    exact ⟨.inl ⟨.bool true, .bool true, [], rfl, fun _ => rfl, .bool true, by kernel_rfl, fun _ => ⟨List.nodup_nil, fun a h => (nomatch h)⟩⟩, hk, hos, hgens.trans hg⟩
end
