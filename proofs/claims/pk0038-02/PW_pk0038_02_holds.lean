import PyProof.Rows.All
import Wide.All
import OpenK.AllK
import Wide.FinOn
import PySem.Challenge.RW_pk0038_02
open PySem PySem.W PyProof.Rows
set_option Elab.async false
set_option maxRecDepth 100000
namespace Mine

inductive PV where
  | none
  | bool (b : Bool)
  | int (i : Int)
  | str (l : List Nat)
  | bytes (l : List UInt8)
  | tup (l : List PV)
  | lst (l : List PV)

def PV.atom : PV → Bool
  | .tup _ | .lst _ => false
  | _ => true

mutual
inductive Rp (h : Heap) (X : List Addr) : Value → PV → Prop
  | none : Rp h X .none .none
  | bool (b : Bool) : Rp h X (.bool b) (.bool b)
  | int (i : Int) (t : Tok) : Rp h X (.int i t) (.int i)
  | str (l : List Nat) (t : Tok) : Rp h X (.str ⟨l.toArray⟩ t) (.str l)
  | bytes (l : List UInt8) (t : Tok) : Rp h X (.bytes l.toArray t) (.bytes l)
  | tup (a : Addr) (items : Array Value) (n : Nat) (l : List PV) : IsT h a items n → a ∉ X → Rps h X items.toList l → Rp h X (.ref a) (.tup l)
  | lst (a : Addr) (items : Array Value) (l : List PV) : h.PlainList a items → a ∉ X → Rps h X items.toList l → Rp h X (.ref a) (.lst l)
inductive Rps (h : Heap) (X : List Addr) : List Value → List PV → Prop
  | nil : Rps h X [] []
  | cons {v : Value} {vs : List Value} {p : PV} {ps : List PV} : Rp h X v p → Rps h X vs ps → Rps h X (v :: vs) (p :: ps)
end

/-- an object that a list or a tuple is -/
def isSeqObj (o : Obj) : Prop := ∃ its n, o.data = .seq its n

mutual
theorem Rp.mono {h h' : Heap} {X X' : List Addr} (hX : ∀ a o, h.get? a = some o → isSeqObj o → a ∉ X → a ∉ X' ∧ h'.get? a = some o) :
    ∀ {v : Value} {p : PV}, Rp h X v p → Rp h' X' v p
  | _, _, .none => .none
  | _, _, .bool b => .bool b
  | _, _, .int i t => .int i t
  | _, _, .str l t => .str l t
  | _, _, .bytes l t => .bytes l t
  | _, _, .tup a items n l e ha hs => by
    obtain ⟨h1, h2⟩ := hX a _ e ⟨_, _, rfl⟩ ha
    exact .tup a items n l h2 h1 (Rps.mono hX hs)
  | _, _, .lst a items l e ha hs => by
    obtain ⟨n, e⟩ := e
    obtain ⟨h1, h2⟩ := hX a _ e ⟨_, _, rfl⟩ ha
    exact .lst a items l ⟨n, h2⟩ h1 (Rps.mono hX hs)
theorem Rps.mono {h h' : Heap} {X X' : List Addr} (hX : ∀ a o, h.get? a = some o → isSeqObj o → a ∉ X → a ∉ X' ∧ h'.get? a = some o) :
    ∀ {vs : List Value} {ps : List PV}, Rps h X vs ps → Rps h' X' vs ps
  | _, _, .nil => .nil
  | _, _, .cons a b => .cons (Rp.mono hX a) (Rps.mono hX b)
end

theorem Rp.keeps {h h' : Heap} {X : List Addr} {v : Value} {p : PV} (r : Rp h X v p) (hk : ∀ b o, h.get? b = some o → h'.get? b = some o) : Rp h' X v p :=
  r.mono fun a o e _ ha => ⟨ha, hk a o e⟩
theorem Rps.keeps {h h' : Heap} {X : List Addr} {v : List Value} {p : List PV} (r : Rps h X v p) (hk : ∀ b o, h.get? b = some o → h'.get? b = some o) : Rps h' X v p :=
  r.mono fun a o e _ ha => ⟨ha, hk a o e⟩
theorem Rp.sub {h : Heap} {X Y : List Addr} {v : Value} {p : PV} (r : Rp h X v p) (hs : ∀ a ∈ Y, a ∈ X) : Rp h Y v p :=
  r.mono fun a o e _ ha => ⟨fun hy => ha (hs a hy), e⟩
theorem Rps.sub {h : Heap} {X Y : List Addr} {v : List Value} {p : List PV} (r : Rps h X v p) (hs : ∀ a ∈ Y, a ∈ X) : Rps h Y v p :=
  r.mono fun a o e _ ha => ⟨fun hy => ha (hs a hy), e⟩
/-- a new address may be shut out -/
theorem Rp.shut {h : Heap} {X : List Addr} {v : Value} {p : PV} {a : Addr} (r : Rp h X v p) (ha : h.get? a = Option.none) : Rp h (a :: X) v p :=
  r.mono fun b o e _ hb => ⟨fun hm => (List.mem_cons.mp hm).elim (fun q => by rw [q, ha] at e; cases e) hb, e⟩
theorem Rps.shut {h : Heap} {X : List Addr} {v : List Value} {p : List PV} {a : Addr} (r : Rps h X v p) (ha : h.get? a = Option.none) : Rps h (a :: X) v p :=
  r.mono fun b o e _ hb => ⟨fun hm => (List.mem_cons.mp hm).elim (fun q => by rw [q, ha] at e; cases e) hb, e⟩
theorem Rp.atom {h h' : Heap} {X X' : List Addr} {v : Value} {p : PV} (r : Rp h X v p) (ha : p.atom = true) : Rp h' X' v p := by
  cases r with
  | none => exact .none
  | bool b => exact .bool b
  | int i t => exact .int i t
  | str l t => exact .str l t
  | bytes l t => exact .bytes l t
  | tup => cases ha
  | lst => cases ha
theorem Rps.atom {h h' : Heap} {X X' : List Addr} : ∀ {vs : List Value} {ps : List PV}, Rps h X vs ps → (∀ p ∈ ps, p.atom = true) → Rps h' X' vs ps
  | _, _, .nil, _ => .nil
  | _, _, .cons a b, ha => .cons (a.atom (ha _ List.mem_cons_self)) (b.atom fun p hp => ha p (List.mem_cons_of_mem _ hp))
theorem Rps.length {h : Heap} {X : List Addr} : ∀ {vs : List Value} {ps : List PV}, Rps h X vs ps → vs.length = ps.length
  | _, _, .nil => rfl
  | _, _, .cons _ b => by simp only [List.length_cons, b.length]
theorem Rps.append {h : Heap} {X : List Addr} : ∀ {vs ws : List Value} {ps qs : List PV}, Rps h X vs ps → Rps h X ws qs → Rps h X (vs ++ ws) (ps ++ qs)
  | _, _, _, _, .nil, b => b
  | _, _, _, _, .cons a b, c => .cons a (b.append c)
theorem Rps.get {h : Heap} {X : List Addr} : ∀ {vs : List Value} {ps : List PV}, Rps h X vs ps → ∀ {i : Nat} {p : PV}, ps[i]? = some p → ∃ v, vs[i]? = some v ∧ Rp h X v p
  | _, _, .nil, i, p, e => by simp at e
  | _, _, .cons a b, 0, p, e => by simp at e; subst e; exact ⟨_, rfl, a⟩
  | _, _, .cons a b, i + 1, p, e => by simp at e; obtain ⟨v, e1, e2⟩ := b.get e; exact ⟨v, by simpa using e1, e2⟩
theorem Rps.set {h : Heap} {X : List Addr} {v : Value} {p : PV} (r : Rp h X v p) : ∀ {vs : List Value} {ps : List PV}, Rps h X vs ps → ∀ n, Rps h X (vs.set n v) (ps.set n p)
  | _, _, .nil, n => by simp; exact .nil
  | _, _, .cons a b, 0 => .cons r b
  | _, _, .cons a b, n + 1 => .cons a (b.set r n)
theorem Rps.snoc {h : Heap} {X : List Addr} {vs : List Value} {ps : List PV} {v : Value} {p : PV} (a : Rps h X vs ps) (b : Rp h X v p) : Rps h X (vs ++ [v]) (ps ++ [p]) :=
  a.append (.cons b .nil)

theorem Rp.int_inv {h : Heap} {X : List Addr} {v : Value} {i : Int} (r : Rp h X v (.int i)) : ∃ t, v = .int i t := by cases r; exact ⟨_, rfl⟩
theorem Rp.bool_inv {h : Heap} {X : List Addr} {v : Value} {i : Bool} (r : Rp h X v (.bool i)) : v = .bool i := by cases r; rfl
theorem Rp.none_inv {h : Heap} {X : List Addr} {v : Value} (r : Rp h X v .none) : v = .none := by cases r; rfl
theorem Rp.str_inv {h : Heap} {X : List Addr} {v : Value} {l : List Nat} (r : Rp h X v (.str l)) : ∃ t, v = .str ⟨l.toArray⟩ t := by cases r; exact ⟨_, rfl⟩
theorem Rp.bytes_inv {h : Heap} {X : List Addr} {v : Value} {l : List UInt8} (r : Rp h X v (.bytes l)) : ∃ t, v = .bytes l.toArray t := by cases r; exact ⟨_, rfl⟩
theorem Rp.lst_inv {h : Heap} {X : List Addr} {v : Value} {l : List PV} (r : Rp h X v (.lst l)) : ∃ a items, v = .ref a ∧ h.PlainList a items ∧ a ∉ X ∧ Rps h X items.toList l := by
  cases r with | lst a items l e ha hs => exact ⟨a, items, rfl, e, ha, hs⟩
theorem Rp.tup_inv {h : Heap} {X : List Addr} {v : Value} {l : List PV} (r : Rp h X v (.tup l)) : ∃ a items n, v = .ref a ∧ IsT h a items n ∧ a ∉ X ∧ Rps h X items.toList l := by
  cases r with | tup a items n l e ha hs => exact ⟨a, items, n, rfl, e, ha, hs⟩
theorem Rps.nil_inv {h : Heap} {X : List Addr} {vs : List Value} (r : Rps h X vs []) : vs = [] := by cases r; rfl
theorem Rps.cons_inv {h : Heap} {X : List Addr} {vs : List Value} {p : PV} {ps : List PV} (r : Rps h X vs (p :: ps)) : ∃ v ws, vs = v :: ws ∧ Rp h X v p ∧ Rps h X ws ps := by
  cases r with | cons a b => exact ⟨_, _, rfl, a, b⟩

/-- what an expression, a call may do: the heap grows, the generators too -/
structure Step (s s' : Shared) : Prop where
  heap : ∀ b o, s.heap.get? b = some o → s'.heap.get? b = some o
  gens : ∀ (i : Nat) (x : GenState), s.gens[i]? = some x → s'.gens[i]? = some x
  bare : AllBare s.gens → AllBare s'.gens
  os : s'.os = s.os
  tks : s.toks ≤ s'.toks
theorem Step.refl (s : Shared) : Step s s := ⟨fun _ _ e => e, fun _ _ e => e, id, rfl, Nat.le_refl _⟩
theorem Step.trans {s s' s'' : Shared} (a : Step s s') (b : Step s' s'') : Step s s'' :=
  ⟨fun x o e => b.heap x o (a.heap x o e), fun i x e => b.gens i x (a.gens i x e), fun h => b.bare (a.bare h), b.os.trans a.os, Nat.le_trans a.tks b.tks⟩
theorem Step.toks {s : Shared} {t : Nat} (h : s.toks ≤ t) : Step s { s with toks := t } := ⟨fun _ _ e => e, fun _ _ e => e, id, rfl, h⟩
theorem Step.tok1 {s : Shared} : Step s { s with toks := s.toks + 1 } := .toks (Nat.le_succ _)
theorem Step.hp {s : Shared} {h' : Heap} (hk : ∀ b o, s.heap.get? b = some o → h'.get? b = some o) : Step s { s with heap := h' } := ⟨hk, fun _ _ e => e, id, rfl, Nat.le_refl _⟩
theorem Step.ht {s : Shared} {h' : Heap} {t : Nat} (hk : ∀ b o, s.heap.get? b = some o → h'.get? b = some o) (ht : s.toks ≤ t) : Step s { s with heap := h', toks := t } := ⟨hk, fun _ _ e => e, id, rfl, ht⟩
theorem Step.push {s : Shared} (o : Obj) : Step s { s with heap := s.heap.push o } := .hp fun _ _ e => Heap.get?_push_of_some _ e

theorem get?_size (h : Heap) : h.get? h.objs.size = Option.none := by
  cases e : h.get? h.objs.size with
  | none => rfl
  | some o => exact absurd (Heap.lt_size e) (Nat.lt_irrefl _)
theorem get?_ge {h : Heap} {a : Addr} (ha : h.objs.size ≤ a) : h.get? a = Option.none := by
  cases e : h.get? a with
  | none => rfl
  | some o => exact absurd (Heap.lt_size e) (Nat.not_lt.mpr ha)
theorem size_le_of_keeps {h h' : Heap} (hk : ∀ b o, h.get? b = some o → h'.get? b = some o) {a : Addr} (ha : h'.get? a = Option.none) : h.get? a = Option.none := by
  cases e : h.get? a with
  | none => rfl
  | some o => rw [hk a o e] at ha; cases ha

theorem ofString_inj {x y : String} (h : PySem.Str.ofString x = PySem.Str.ofString y) : x = y := by
  rw [PySem.Str.ofString_eq_toList, PySem.Str.ofString_eq_toList] at h
  have h1 : x.toList.map Char.toNat = y.toList.map Char.toNat := by
    have := congrArg PySem.Str.cps h
    simpa using this
  have h2 : x.toList = y.toList := by
    have inj : ∀ (a b : List Char), a.map Char.toNat = b.map Char.toNat → a = b := by
      intro a
      induction a with
      | nil => intro b hb; cases b with
        | nil => rfl
        | cons => simp at hb
      | cons c a ih => intro b hb; cases b with
        | nil => simp at hb
        | cons d b =>
          simp only [List.map_cons, List.cons.injEq] at hb
          rw [ih b hb.2, Char.ext (UInt32.toNat_inj.mp hb.1)]
    exact inj _ _ h1
  exact String.toList_inj.mp h2

structure Cx where
  env : Env
  s0 : Shared
  n : Nat
  Y : List Addr
  X : List Addr
  fr : Bool
  vs : List (String × PV)
  own : List (String × Addr × List PV)

def VarAt (h : Heap) (env : Env) (x : String) (v : Value) : Prop :=
  (env.kindOf (PySem.Str.ofString x) = some .local ∧ ∃ m, h.Ns env.locals m ∧ m (PySem.Str.ofString x) = some v) ∨
  (env.kindOf (PySem.Str.ofString x) = some .cell ∧ ∃ c, env.cells.lookup (PySem.Str.ofString x) = some c ∧ h.IsCell c (some v))

theorem VarAt.keeps {h h' : Heap} {env : Env} {x : String} {v : Value} (r : VarAt h env x v) (hk : ∀ b o, h.get? b = some o → h'.get? b = some o) : VarAt h' env x v :=
  r.imp (fun ⟨a, m, b, c⟩ => ⟨a, m, b.keeps hk, c⟩) fun ⟨a, c, b, d⟩ => ⟨a, c, b, d.keeps hk⟩

/-- the surroundings leave room -/
structure AOK (n : Nat) (A : Around) : Prop where
  han : A.handled = Option.none
  dep : A.depth + n < recursionLimit
  uni : A.units + 100 * (n + 1) ≤ 9900

structure Fs (H0 : Heap) (C : Cx) (s : Shared) : Prop where
  glb : ∀ b o, H0.get? b = some o → s.heap.get? b = some o
  glb0 : ∀ b o, H0.get? b = some o → C.s0.heap.get? b = some o
  step : Step C.s0 s
  tk : 1 ≤ s.toks
  kind : C.env.scope.kind = .function
  glo : C.env.globals = mainGlobals
  bui : C.env.builtins = builtinsNs
  ns : ∃ m, s.heap.Ns C.env.locals m
  loc : C.s0.heap.get? C.env.locals = Option.none
  cel : ∀ x c, (x, c) ∈ C.env.cells → C.s0.heap.get? c = Option.none ∧ ∃ v, s.heap.IsCell c v
  apart : ∀ x y c, (x, c) ∈ C.env.cells → (y, c) ∈ C.env.cells → x = y
  cdf : ∀ x, C.env.kindOf x = some .cell → ∃ c, C.env.cells.lookup x = some c
  yx : ∀ a ∈ C.Y, a ∈ C.X
  y0 : ∀ a ∈ C.Y, ∃ o, C.s0.heap.get? a = some o
  xs : ∀ a ∈ C.X, ∃ o, s.heap.get? a = some o
  vars : ∀ p ∈ C.vs, ∃ v, VarAt s.heap C.env p.1 v ∧ Rp s.heap C.X v p.2
  owns : ∀ p ∈ C.own, p.2.1 ∈ C.X ∧ C.s0.heap.get? p.2.1 = Option.none ∧ VarAt s.heap C.env p.1 (.ref p.2.1) ∧ ∃ items, s.heap.PlainList p.2.1 items ∧ Rps s.heap C.X items.toList p.2.2
  od : ∀ q ∈ C.own, ∀ r ∈ C.own, q.1 ≠ r.1 → q.2.1 ≠ r.2.1

theorem Fs.go {H0 : Heap} {C : Cx} {s s' : Shared} (F : Fs H0 C s) (st : Step s s') : Fs H0 C s' where
  glb := fun b o e => st.heap b o (F.glb b o e)
  glb0 := F.glb0
  step := F.step.trans st
  tk := Nat.le_trans F.tk st.tks
  kind := F.kind
  glo := F.glo
  bui := F.bui
  ns := let ⟨m, h⟩ := F.ns; ⟨m, h.keeps st.heap⟩
  loc := F.loc
  cel := fun x c hm => let ⟨a, v, b⟩ := F.cel x c hm; ⟨a, v, b.keeps st.heap⟩
  apart := F.apart
  cdf := F.cdf
  yx := F.yx
  y0 := F.y0
  xs := fun a ha => let ⟨o, e⟩ := F.xs a ha; ⟨o, st.heap a o e⟩
  vars := fun p hp => let ⟨v, a, b⟩ := F.vars p hp; ⟨v, a.keeps st.heap, b.keeps st.heap⟩
  owns := fun p hp => let ⟨a, a', b, items, c, d⟩ := F.owns p hp; ⟨a, a', b.keeps st.heap, items, c.at (fun o e => st.heap _ o e), d.keeps st.heap⟩
  od := F.od

/-- what values must keep away from: `true` all lists that may be changed, `false` those of the caller alone -/
def Cx.no (C : Cx) (b : Bool) : List Addr := if b then C.X else C.Y

theorem Fs.noSub {H0 : Heap} {C : Cx} {s : Shared} (F : Fs H0 C s) (b : Bool) : ∀ a ∈ C.no b, a ∈ C.X := by
  cases b with
  | true => exact fun a h => h
  | false => exact F.yx
theorem Fs.noYes {H0 : Heap} {C : Cx} {s : Shared} (F : Fs H0 C s) (b : Bool) : ∀ a ∈ C.Y, a ∈ C.no b := by
  cases b with
  | true => exact F.yx
  | false => exact fun a h => h
theorem Fs.noOld {H0 : Heap} {C : Cx} {s : Shared} (F : Fs H0 C s) (b : Bool) : ∀ a ∈ C.no b, ∃ o, s.heap.get? a = some o := fun a h => F.xs a (F.noSub b a h)
theorem Fs.fresh {H0 : Heap} {C : Cx} {s : Shared} (F : Fs H0 C s) {b : Bool} {a : Addr} (ha : s.heap.get? a = Option.none) : a ∉ C.no b := fun hm => by
  obtain ⟨o, e⟩ := F.noOld b a hm; rw [ha] at e; cases e

section
variable (prog : Program) (w : World) (H0 : Heap)

def Ev (C : Cx) (b : Bool) (e : Expr) (p : PV) : Prop :=
  ∀ A s, AOK C.n A → Fs H0 C s → wpAny (model prog w) A (eval e C.env) (fun v s' => Rp s'.heap (C.no b) v p ∧ Step s s') (fun _ _ => False) s

/-- a test -/
def Bt (C : Cx) (e : Expr) (r : Bool) : Prop :=
  ∀ A s, AOK C.n A → Fs H0 C s → wpAny (model prog w) A (isTrue e C.env (eval e C.env)) (fun v s' => v = r ∧ Step s s') (fun _ _ => False) s

/-- a new list -/
def EvF (C : Cx) (e : Expr) (l : List PV) : Prop :=
  ∀ A s, AOK C.n A → Fs H0 C s → wpAny (model prog w) A (eval e C.env) (fun v s' => ∃ a items, v = .ref a ∧ s.heap.get? a = Option.none ∧ s'.heap.PlainList a items ∧ Rps s'.heap (a :: C.X) items.toList l ∧ Step s s') (fun _ _ => False) s

/-- arguments -/
def Evs (C : Cx) (b : Bool) (es : List Expr) (ps : List PV) : Prop :=
  ∀ A s pos, AOK C.n A → Fs H0 C s → wpAny (model prog w) A (spliced (backTo pos (starEach es C.env))) (fun vs s' => Rps s'.heap (C.no b) vs ps ∧ Step s s') (fun _ _ => False) s

/-- what a statement may change -/
structure StepB (C : Cx) (s s' : Shared) : Prop where
  heap : ∀ b o, b ≠ C.env.locals → (∀ x c, (x, c) ∈ C.env.cells → b ≠ c) → b ∉ C.X → s.heap.get? b = some o → s'.heap.get? b = some o
  gens : ∀ (i : Nat) (x : GenState), s.gens[i]? = some x → s'.gens[i]? = some x

theorem StepB.of {C : Cx} {s s' : Shared} (h : Step s s') : StepB C s s' := ⟨fun b o _ _ _ e => h.heap b o e, h.gens⟩

def Cx.like (C C' : Cx) : Prop := C'.env = C.env ∧ C'.s0 = C.s0 ∧ C'.n = C.n ∧ C'.Y = C.Y ∧ C'.fr = C.fr ∧ ∀ a ∈ C.X, a ∈ C'.X

/-- behind statements: `N` tells the ways on, `R` what may be returned -/
def RPost (C : Cx) (s : Shared) (N : Cx → Prop) (R : PV → Prop) (f : Flow) (s' : Shared) : Prop := StepB C s s' ∧ match f with
    | .next => ∃ C', N C' ∧ C.like C' ∧ Fs H0 C' s' ∧ ∀ a ∈ C'.X, a ∈ C.X ∨ s.heap.get? a = Option.none
    | .ret v => ∃ p, R p ∧ Rp s'.heap C.Y v p ∧ Step C.s0 s' ∧ (C.fr = true → ∀ a, v = .ref a → C.s0.heap.get? a = Option.none ∧ ∃ items, s'.heap.PlainList a items)
    | _ => False
def Run (C : Cx) (body : List Stmt) (N : Cx → Prop) (R : PV → Prop) : Prop :=
  ∀ A s, AOK C.n A → Fs H0 C s → wpAny (model prog w) A (execs body C.env) (RPost H0 C s N R) (fun _ _ => False) s
end

end Mine

set_option linter.unusedVariables false
namespace Mine

theorem starEach_plain (env : Env) : ∀ {es : List Expr}, es.all (fun e => !isStarred e) = true → starEach es env = es.map fun e => (false, eval e env)
  | [], _ => rfl
  | e :: r, h => by
    rw [List.all_cons, Bool.and_eq_true] at h
    cases e <;> first | (simp [isStarred] at h; done) | (simp only [starEach, List.map_cons, starEach_plain env h.2])

structure TF (H0 : Heap) (mg mb : PySem.Str → Option Value) : Prop where
  g : H0.Ns mainGlobals mg
  b : H0.Ns builtinsNs mb
  nol : H0.NoLimit
  nob : NoneBooked H0

section
variable {prog : Program} {w : World} {H0 : Heap} {mg mb : PySem.Str → Option Value} {C : Cx}

theorem ev_atom {b b' : Bool} {e : Expr} {p : PV} (h : Ev prog w H0 C b' e p) (ha : p.atom = true) : Ev prog w H0 C b e p := fun A s ok F =>
  wpAny_mono (h A s ok F) (fun v s' ⟨r, st⟩ => ⟨r.atom ha, st⟩) fun _ _ x => x
theorem ev_new {b : Bool} {e : Expr} {l : List PV} (h : EvF prog w H0 C e l) : Ev prog w H0 C b e (.lst l) := fun A s ok F =>
  wpAny_mono (h A s ok F) (fun v s' ⟨a, items, hv, hn, hp, r, st⟩ => ⟨by subst hv; exact .lst a items l hp (F.fresh hn) (r.sub fun c hc => List.mem_cons_of_mem _ (F.noSub b c hc)), st⟩) fun _ _ x => x
theorem ev_eq {b : Bool} {e : Expr} {p q : PV} (h : Ev prog w H0 C b e p) (hq : p = q) : Ev prog w H0 C b e q := hq ▸ h
theorem bt_eq {e : Expr} {p q : Bool} (h : Bt prog w H0 C e p) (hq : p = q) : Bt prog w H0 C e q := hq ▸ h
theorem evF_eq {e : Expr} {p q : List PV} (h : EvF prog w H0 C e p) (hq : p = q) : EvF prog w H0 C e q := hq ▸ h

/-- two evaluations, one behind the other -/
theorem ev_then {b : Bool} {e : Expr} {p : PV} {A : Around} {s : Shared} {Q : Value → Shared → Prop} (h : Ev prog w H0 C b e p) (ok : AOK C.n A) (F : Fs H0 C s)
    (k : ∀ v s', Rp s'.heap (C.no b) v p → Step s s' → Fs H0 C s' → Q v s') : wpAny (model prog w) A (eval e C.env) Q (fun _ _ => False) s :=
  wpAny_mono (h A s ok F) (fun v s' ⟨r, st⟩ => k v s' r st (F.go st)) fun _ _ x => x
theorem bt_then {e : Expr} {r : Bool} {A : Around} {s : Shared} {Q : Bool → Shared → Prop} (h : Bt prog w H0 C e r) (ok : AOK C.n A) (F : Fs H0 C s)
    (k : ∀ s', Step s s' → Fs H0 C s' → Q r s') : wpAny (model prog w) A (isTrue e C.env (eval e C.env)) Q (fun _ _ => False) s :=
  wpAny_mono (h A s ok F) (fun v s' ⟨r, st⟩ => by subst r; exact k s' st (F.go st)) fun _ _ x => x

/-! names -/
theorem loadVar {A : Around} {s : Shared} {x : String} {v : Value} {Q : Value → Shared → Prop} (F : Fs H0 C s) (h : VarAt s.heap C.env x v) (k : Q v s) :
    wpAny (model prog w) A (loadName C.env (PySem.Str.ofString x)) Q (fun _ _ => False) s := by
  rcases h with ⟨hk, m, hm, hv⟩ | ⟨hk, c, hc, hv⟩
  · exact wpAny_loadName_local F.kind hk hm hv k
  · exact wpAny_loadName_cell F.kind hk hc hv k
theorem ev_name {b : Bool} {x : String} {p : PV} {pos : Pos} (h : (x, p) ∈ C.vs) (hd : (PySem.Str.ofString x == ("__debug__" : PySem.Str)) = false := by decide +kernel) :
    Ev prog w H0 C b (.Name (PySem.Str.ofString x) pos) p := fun A s ok F => by
  obtain ⟨v, hv, r⟩ := F.vars _ h
  exact wpAny_Name (loadVar F hv ⟨r.sub (F.noSub b), .refl s⟩) hd
theorem ev_own {x : String} {a : Addr} {l : List PV} {pos : Pos} (h : (x, a, l) ∈ C.own) (hd : (PySem.Str.ofString x == ("__debug__" : PySem.Str)) = false := by decide +kernel) :
    Ev prog w H0 C false (.Name (PySem.Str.ofString x) pos) (.lst l) := fun A s ok F => by
  obtain ⟨h1, h2, h3, items, h4, h5⟩ := F.owns _ h
  exact wpAny_Name (loadVar F h3 ⟨.lst a items l h4 (fun hm => by obtain ⟨o, e⟩ := F.y0 a hm; rw [h2] at e; cases e) (h5.sub F.yx), .refl s⟩) hd

/-! constants -/
theorem ev_int {b : Bool} {i : Int} {k : Nat} {pos : Pos} : Ev prog w H0 C b (.Constant (.int i) k pos) (.int i) := fun A s ok F => wpAny_Constant_int ⟨.int i _, .tok1⟩
theorem ev_bool {b : Bool} {i : Bool} {k : Nat} {pos : Pos} : Ev prog w H0 C b (.Constant (.bool i) k pos) (.bool i) := fun A s ok F => wpAny_Constant_bool ⟨.bool i, .refl s⟩
theorem ev_none {b : Bool} {k : Nat} {pos : Pos} : Ev prog w H0 C b (.Constant .none k pos) .none := fun A s ok F => wpAny_Constant_none ⟨.none, .refl s⟩
theorem ev_str {b : Bool} {x : PySem.Str} {l : List Nat} {k : Nat} {pos : Pos} (h : x = ⟨l.toArray⟩ := by decide +kernel) : Ev prog w H0 C b (.Constant (.str x) k pos) (.str l) := fun A s ok F => by
  subst h; exact wpAny_Constant_str ⟨.str l _, .tok1⟩
theorem ev_bytes {b : Bool} {x : List UInt8} {k : Nat} {pos : Pos} : Ev prog w H0 C b (.Constant (.bytes x) k pos) (.bytes x) := fun A s ok F =>
  fun _ _ _ => ⟨.bytes x _, .tok1⟩

/-! two operands -/
def Op2 (prog : Program) (w : World) (op : Operator) (p q r : PV) : Prop := r.atom = true ∧
  ∀ n A s v u, AOK n A → Rp s.heap [] v p → Rp s.heap [] u q → wpAny (model prog w) A (binaryOp op v u) (fun x s' => Rp s'.heap [] x r ∧ Step s s') (fun _ _ => False) s
theorem ev_bin {b b1 b2 : Bool} {l r : Expr} {op : Operator} {pos : Pos} {p q t : PV} (h1 : Ev prog w H0 C b1 l p) (h2 : Ev prog w H0 C b2 r q) (ho : Op2 prog w op p q t) : Ev prog w H0 C b (.BinOp l op r pos) t :=
  fun A s ok F => wpAny_BinOp (ev_then h1 ok F fun v s₁ r1 st1 F1 => ev_then h2 ok F1 fun u s₂ r2 st2 F2 =>
    wpAny_mono (ho.2 C.n A s₂ v u ok ((r1.keeps st2.heap).sub (fun _ h => nomatch h)) (r2.sub fun _ h => nomatch h)) (fun x s' ⟨a, c⟩ => ⟨a.atom ho.1, st1.trans (st2.trans c)⟩) fun _ _ x => x)

theorem op_int {op : Operator} {a b c : Int} (h : ∀ A s t u (Q : Value → Shared → Prop), Q (.int c s.toks) { s with toks := s.toks + 1 } → wpAny (model prog w) A (binaryOp op (.int a t) (.int b u)) Q (fun _ _ => False) s) :
    Op2 prog w op (.int a) (.int b) (.int c) := ⟨rfl, fun n A s v u ok h1 h2 => by
  obtain ⟨t, rfl⟩ := h1.int_inv
  obtain ⟨t', rfl⟩ := h2.int_inv
  exact h A s t t' _ ⟨.int c _, .tok1⟩⟩
theorem op_add {a b : Int} : Op2 prog w .Add (.int a) (.int b) (.int (a + b)) := op_int fun A s t u Q h => PyProof.Rows.add_int h
theorem op_sub {a b : Int} : Op2 prog w .Sub (.int a) (.int b) (.int (a - b)) := op_int fun A s t u Q h => PyProof.Rows.sub_int h
theorem op_mul {a b : Int} (hm : IntMulOk a b) : Op2 prog w .Mult (.int a) (.int b) (.int (a * b)) := op_int fun A s t u Q h => PyProof.Rows.mul_int h hm
theorem op_div {a b : Int} (hb : 0 < b) (hb2 : b < 1073741824) : Op2 prog w .FloorDiv (.int a) (.int b) (.int (a / b)) := op_int fun A s t u Q h =>
  PyProof.Rows.floordiv_int (by omega) (by rw [Int.fdiv_eq_ediv_of_nonneg _ (by omega)]; exact h) (.inl (PyProof.noPylong_small (by omega)))
theorem op_mod {a b : Int} (hb : 0 < b) : Op2 prog w .Mod (.int a) (.int b) (.int (a % b)) := op_int fun A s t u Q h =>
  PyProof.Rows.mod_int' (by omega) (by rw [Int.fmod_eq_emod_of_nonneg _ (by omega)]; exact h)
theorem op_pow {a n : Int} {k : Nat} (hk : n = k) (h2 : k ≤ 1000000) (ha : a.natAbs < 2 ^ 64) : Op2 prog w .Pow (.int a) (.int n) (.int (a ^ k)) := op_int fun A s t u Q h => by
  subst hk; exact PyProof.Rows.pow_int_small (by omega) (by omega) ha (by simpa using h)

/-! comparisons -/
def Cm (prog : Program) (w : World) (op : CmpOp) (p q : PV) (r : Bool) : Prop :=
  ∀ n A s v u, AOK n A → Rp s.heap [] v p → Rp s.heap [] u q → wpAny (model prog w) A (compareOp op v u) (fun x s' => x = .bool r ∧ Step s s') (fun _ _ => False) s
theorem ev_cmp {b b1 b2 : Bool} {l r : Expr} {op : CmpOp} {pos : Pos} {p q : PV} {t : Bool} (h1 : Ev prog w H0 C b1 l p) (h2 : Ev prog w H0 C b2 r q) (ho : Cm prog w op p q t)
    (hm : behindInMarks op r = false := by with_unfolding_all rfl) : Ev prog w H0 C b (.Compare l [op] [r] pos) (.bool t) :=
  fun A s ok F => wpAny_Compare1 (ev_then h1 ok F fun v s₁ r1 st1 F1 => ev_then h2 ok F1 fun u s₂ r2 st2 F2 =>
    wpAny_mono (ho C.n A s₂ v u ok ((r1.keeps st2.heap).sub (fun _ h => nomatch h)) (r2.sub fun _ h => nomatch h)) (fun x s' ⟨a, c⟩ => ⟨a ▸ .bool t, st1.trans (st2.trans c)⟩) fun _ _ x => x) hm
theorem bt_cmp {b1 b2 : Bool} {l r : Expr} {op : CmpOp} {pos : Pos} {p q : PV} {t : Bool} (h1 : Ev prog w H0 C b1 l p) (h2 : Ev prog w H0 C b2 r q) (ho : Cm prog w op p q t)
    (hm : behindInMarks op r = false := by with_unfolding_all rfl) : Bt prog w H0 C (.Compare l [op] [r] pos) t :=
  fun A s ok F => wpAny_isTrue_Compare1 (ev_then h1 ok F fun v s₁ r1 st1 F1 => ev_then h2 ok F1 fun u s₂ r2 st2 F2 =>
    wpAny_mono (ho C.n A s₂ v u ok ((r1.keeps st2.heap).sub (fun _ h => nomatch h)) (r2.sub fun _ h => nomatch h)) (fun x s' ⟨a, c⟩ => by subst a; exact wpAny_truthy_bool ⟨rfl, st1.trans (st2.trans c)⟩) fun _ _ x => x) hm

theorem cm_int {op : CmpOp} {a b : Int} {r : Bool} (h : ∀ A s t u (Q : Value → Shared → Prop), Q (.bool r) s → wpAny (model prog w) A (compareOp op (.int a t) (.int b u)) Q (fun _ _ => False) s) :
    Cm prog w op (.int a) (.int b) r := fun n A s v u ok h1 h2 => by
  obtain ⟨t, rfl⟩ := h1.int_inv
  obtain ⟨t', rfl⟩ := h2.int_inv
  exact h A s t t' _ ⟨rfl, .refl s⟩
theorem cm_eq {a b : Int} : Cm prog w .Eq (.int a) (.int b) (a == b) := cm_int fun A s t u Q h => PyProof.Rows.eq_int h
theorem cm_ne {a b : Int} : Cm prog w .NotEq (.int a) (.int b) (a != b) := cm_int fun A s t u Q h => PyProof.Rows.ne_int h
theorem cm_lt {a b : Int} : Cm prog w .Lt (.int a) (.int b) (decide (a < b)) := cm_int fun A s t u Q h => PyProof.Rows.lt_int h
theorem cm_le {a b : Int} : Cm prog w .LtE (.int a) (.int b) (decide (a ≤ b)) := cm_int fun A s t u Q h => PyProof.Rows.le_int h
theorem toArray_beq (a b : List Nat) : ((⟨a.toArray⟩ : PySem.Str) == ⟨b.toArray⟩) = (a == b) := by
  rw [Bool.eq_iff_iff]
  simp only [beq_iff_eq, PySem.Str.mk.injEq]
  exact ⟨fun h => by simpa using congrArg Array.toList h, fun h => by rw [h]⟩
theorem cm_eqs {a b : List Nat} : Cm prog w .Eq (.str a) (.str b) (a == b) := fun n A s v u ok h1 h2 => by
  obtain ⟨t, rfl⟩ := h1.str_inv
  obtain ⟨t', rfl⟩ := h2.str_inv
  exact PyProof.Rows.eq_str ⟨by rw [toArray_beq], .refl s⟩
theorem cm_isNone {p : PV} {r : Bool} (h : r = match p with | .none => true | _ => false) : Cm prog w .Is p .none r := fun n A s v u ok h1 h2 => by
  obtain rfl := h2.none_inv
  subst h
  cases h1 <;> exact is_none ⟨rfl, .refl s⟩

/-! tests -/
theorem bt_bool {b : Bool} {e : Expr} {r : Bool} (h : Ev prog w H0 C b e (.bool r)) (he : ∀ env whole, isTrue e env whole = (do let v ← whole; standAt e.pos; holding [v] (truthy v)) := by intro _ _; rfl) : Bt prog w H0 C e r :=
  fun A s ok F => wpAny_isTrue_value (ev_then h ok F fun v s₁ r1 st1 F1 => by obtain rfl := r1.bool_inv; exact wpAny_truthy_bool ⟨rfl, st1⟩) (he _ _)
theorem bt_not {e : Expr} {pos : Pos} {r : Bool} (h : Bt prog w H0 C e r) : Bt prog w H0 C (.UnaryOp .Not e pos) (!r) :=
  fun A s ok F => wpAny_isTrue_Not (bt_then h ok F fun s₁ st1 F1 => ⟨rfl, st1⟩)
def BtAll (prog : Program) (w : World) (H0 : Heap) (C : Cx) (es : List Expr) (r : Bool) : Prop :=
  ∀ A s, AOK C.n A → Fs H0 C s → wpAny (model prog w) A (allTrue .And es C.env) (fun v s' => v = r ∧ Step s s') (fun _ _ => False) s
theorem btAll_nil : BtAll prog w H0 C [] true := fun A s ok F => wpAny_allTrue_And_nil ⟨rfl, .refl s⟩
theorem btAll_cons {e : Expr} {es : List Expr} {r r' : Bool} (h : Bt prog w H0 C e r) (h' : r = true → BtAll prog w H0 C es r') : BtAll prog w H0 C (e :: es) (r && r') :=
  fun A s ok F => wpAny_allTrue_And_cons (bt_then h ok F fun s₁ st1 F1 => by
    cases r with
    | false => exact ⟨rfl, st1⟩
    | true => exact wpAny_mono (h' rfl A s₁ ok F1) (fun v s' ⟨a, b⟩ => ⟨by simp [a], st1.trans b⟩) fun _ _ x => x)
theorem bt_and {es : List Expr} {pos : Pos} {r : Bool} (h : BtAll prog w H0 C es r) : Bt prog w H0 C (.BoolOp .And es pos) r :=
  fun A s ok F => wpAny_isTrue_BoolOp (h A s ok F)
theorem ev_ife {b : Bool} {t x y : Expr} {pos : Pos} {r : Bool} {p : PV} (h : Bt prog w H0 C t r) (hx : r = true → Ev prog w H0 C b x p) (hy : r = false → Ev prog w H0 C b y p) : Ev prog w H0 C b (.IfExp t x y pos) p :=
  fun A s ok F => wpAny_IfExp (bt_then h ok F fun s₁ st1 F1 => by
    cases r with
    | false => exact wpAny_mono (hy rfl A s₁ ok F1) (fun v s' ⟨a, b⟩ => ⟨a, st1.trans b⟩) fun _ _ x => x
    | true => exact wpAny_mono (hx rfl A s₁ ok F1) (fun v s' ⟨a, b⟩ => ⟨a, st1.trans b⟩) fun _ _ x => x)
theorem ev_neg {b b1 : Bool} {e : Expr} {pos : Pos} {i : Int} (h : Ev prog w H0 C b1 e (.int i)) : Ev prog w H0 C b (.UnaryOp .USub e pos) (.int (-i)) :=
  fun A s ok F => wpAny_UnaryOp (ev_then h ok F fun v s₁ r1 st1 F1 => by
    obtain ⟨t, rfl⟩ := r1.int_inv
    exact PyProof.Rows.neg_int ⟨.int _ _, st1.trans (.tok1)⟩)

/-! arguments, displays -/
theorem evs_nil {b : Bool} : Evs prog w H0 C b [] [] := fun A s pos ok F => wpAny_items_nil ⟨.nil, .refl s⟩
theorem evs_cons {b : Bool} {e : Expr} {es : List Expr} {p : PV} {ps : List PV} (h : Ev prog w H0 C b e p) (h' : Evs prog w H0 C b es ps) (he : isStarred e = false := by rfl) : Evs prog w H0 C b (e :: es) (p :: ps) :=
  fun A s pos ok F => wpAny_items_cons (ev_then h ok F fun v s₁ r1 st1 F1 => wpAny_mono (h' A s₁ pos ok F1) (fun vs s' ⟨a, c⟩ => ⟨.cons (r1.keeps c.heap) a, st1.trans c⟩) fun _ _ x => x)
    (by cases e <;> first | (simp [isStarred] at he; done) | rfl)
theorem ev_tuple {b : Bool} {es : List Expr} {ps : List PV} {k : Nat} {pos : Pos} (h : Evs prog w H0 C b es ps) (hl : ps.length ≤ sizeLine := by first | decide | (rw [sizeLine_eq]; simp)) : Ev prog w H0 C b (.Tuple es k pos) (.tup ps) :=
  fun A s ok F => wpAny_Tuple (wpAny_mono (h A s pos ok F) (fun vs s₁ ⟨a, c⟩ => ⟨by rw [a.length]; exact hl,
    .tup _ vs.toArray 0 ps (Heap.get?_push_size _ rfl) ((F.go c).fresh (get?_size _)) (by simpa using a.keeps fun _ _ e => Heap.get?_push_of_some _ e), c.trans (.push _)⟩) fun _ _ x => x)
theorem evF_list {es : List Expr} {ps : List PV} {pos : Pos} (h : Evs prog w H0 C true es ps) (hl : ps.length ≤ sizeLine := by first | decide | (rw [sizeLine_eq]; simp)) : EvF prog w H0 C (.List es pos) ps :=
  fun A s ok F => wpAny_List (wpAny_mono (h A s pos ok F) (fun vs s₁ ⟨a, c⟩ => ⟨by rw [a.length]; exact hl,
    _, vs.toArray, rfl, size_le_of_keeps c.heap (get?_size _), ⟨0, Heap.get?_push_size _ rfl⟩, (by simpa [Cx.no] using (a.shut (get?_size _)).keeps fun _ _ e => Heap.get?_push_of_some _ e), c.trans (.push _)⟩) fun _ _ x => x)

/-! calls -/
def Callee (H0 : Heap) (f : Value) : Prop := (∃ id, f = .builtin id) ∨ (∃ T, f = .type T) ∨ (∃ a o fd, f = .ref a ∧ H0.get? a = some o ∧ o.data = .func fd)
def GName (mg mb : PySem.Str → Option Value) (C : Cx) (x : PySem.Str) (f : Value) : Prop := C.env.kindOf x = some .globalImplicit ∧ (mg x = some f ∨ (mg x = Option.none ∧ mb x = some f))

theorem wpAny_gname {x : PySem.Str} {f : Value} {A : Around} {s : Shared} {pos : Pos} {Q : Value → Shared → Prop} (T : TF H0 mg mb) (hn : GName mg mb C x f) (F : Fs H0 C s) (k : Q f s) (hd : (x == ("__debug__" : PySem.Str)) = false) :
    wpAny (model prog w) A (eval (.Name x pos) C.env) Q (fun _ _ => False) s := by
  refine Calls.Name_function_global F.kind hn.1 ?_ hd
  rcases hn.2 with h | ⟨h, h'⟩
  · exact Calls.loadGlobal_global (by rw [F.glo]; exact T.g.keeps F.glb) h k
  · exact Calls.loadGlobal_builtin (by rw [F.glo]; exact T.g.keeps F.glb) h (by rw [F.bui]; exact T.b.keeps F.glb) h' k

theorem callWith_callee {A : Around} {s : Shared} {f : Value} {pos : Pos} {args : List (Bool × Sem Value)} {Q : Value → Shared → Prop} (hc : Callee H0 f) (hp : args.any (·.1) = false)
    (h : wpAny (model prog w) A (evalArgs f true args []) (fun a s₁ => (∀ b o, H0.get? b = some o → s₁.heap.get? b = some o) ∧ wpAny (model prog w) A (call f a.pos a.kw) Q (fun _ _ => False) s₁) (fun _ _ => False) s) :
    wpAny (model prog w) A (callWith pos f [] args []) Q (fun _ _ => False) s := by
  rcases hc with ⟨id, rfl⟩ | ⟨T, rfl⟩ | ⟨a, o, fd, rfl, h1, h2⟩
  · exact Calls.callWith_builtin hp (wpAny_mono h (fun a s₁ h₁ => h₁.2) fun _ _ x => x)
  · exact callWith_excType hp (wpAny_mono h (fun a s₁ h₁ => h₁.2) fun _ _ x => x)
  · exact Calls.callWith_function (o := o) (fd := fd) (wpAny_mono h (fun x s₁ h₁ => ⟨⟨h₁.1 _ _ h1, h2⟩, h₁.2⟩) fun _ _ x => x)

/-- evaluate the arguments, then call -/
theorem wpAny_callName {b : Bool} {x : PySem.Str} {f : Value} {np pos : Pos} {es : List Expr} {ps : List PV} {A : Around} {s : Shared} {Q : Value → Shared → Prop} (T : TF H0 mg mb) (hn : GName mg mb C x f) (hc : Callee H0 f) (ha : Evs prog w H0 C b es ps)
    (ok : AOK C.n A) (F : Fs H0 C s) (hk : ∀ vs s₁, Rps s₁.heap (C.no b) vs ps → Step s s₁ → Fs H0 C s₁ → wpAny (model prog w) A (call f vs) Q (fun _ _ => False) s₁)
    (hp : (es.all (fun e => !isStarred e) && !es.isEmpty) = true) (hd : (x == ("__debug__" : PySem.Str)) = false) :
    wpAny (model prog w) A (eval (.Call (.Name x np) es [] pos) C.env) Q (fun _ _ => False) s := by
  rw [Bool.and_eq_true] at hp
  refine wpAny_Call_NameR (wpAny_gname T hn F ?_ hd)
  have e := ha A s pos ok F
  cases es with
  | nil => simp at hp
  | cons e0 es =>
    rw [starEach_plain _ hp.1] at e ⊢
    refine callWith_callee hc (by simp [backTo]) ?_
    refine Calls.evalArgs_plain (wpAny_mono e (fun vs s₁ ⟨r, st⟩ => ?_) fun _ _ x => x)
    exact ⟨(F.go st).glb, hk vs s₁ r st (F.go st)⟩

def CallX (prog : Program) (w : World) (H0 : Heap) (n : Nat) (f : Value) (ps : List PV) (p : PV) : Prop :=
  ∀ A s X vs, AOK n A → 1 ≤ s.toks → (∀ b o, H0.get? b = some o → s.heap.get? b = some o) → (∀ a ∈ X, ∃ o, s.heap.get? a = some o) → Rps s.heap X vs ps →
    wpAny (model prog w) A (call f vs) (fun v s' => Rp s'.heap X v p ∧ Step s s') (fun _ _ => False) s
theorem ev_call {b : Bool} {x : PySem.Str} {f : Value} {np pos : Pos} {es : List Expr} {ps : List PV} {p : PV} (T : TF H0 mg mb) (hn : GName mg mb C x f) (hc : Callee H0 f) (ha : Evs prog w H0 C b es ps) (hf : CallX prog w H0 C.n f ps p)
    (hp : (es.all (fun e => !isStarred e) && !es.isEmpty) = true := by rfl) (hd : (x == ("__debug__" : PySem.Str)) = false := by decide +kernel) : Ev prog w H0 C b (.Call (.Name x np) es [] pos) p :=
  fun A s ok F => wpAny_callName T hn hc ha ok F (fun vs s₁ r st F1 => wpAny_mono (hf A s₁ _ vs ok F1.tk F1.glb (F1.noOld b) r) (fun v s' ⟨a, c⟩ => ⟨a, st.trans c⟩) fun _ _ x => x) hp hd

/-- a call that makes a new list -/
def CallF (prog : Program) (w : World) (H0 : Heap) (n : Nat) (f : Value) (ps : List PV) (l : List PV) : Prop :=
  ∀ A s X vs, AOK n A → 1 ≤ s.toks → (∀ b o, H0.get? b = some o → s.heap.get? b = some o) → (∀ a ∈ X, ∃ o, s.heap.get? a = some o) → Rps s.heap X vs ps →
    wpAny (model prog w) A (call f vs) (fun v s' => ∃ a items, v = .ref a ∧ s.heap.get? a = Option.none ∧ s'.heap.PlainList a items ∧ Rps s'.heap (a :: X) items.toList l ∧ Step s s') (fun _ _ => False) s
theorem evF_call {x : PySem.Str} {f : Value} {np pos : Pos} {es : List Expr} {ps : List PV} {l : List PV} (T : TF H0 mg mb) (hn : GName mg mb C x f) (hc : Callee H0 f) (ha : Evs prog w H0 C true es ps) (hf : CallF prog w H0 C.n f ps l)
    (hp : (es.all (fun e => !isStarred e) && !es.isEmpty) = true := by rfl) (hd : (x == ("__debug__" : PySem.Str)) = false := by decide +kernel) : EvF prog w H0 C (.Call (.Name x np) es [] pos) l :=
  fun A s ok F => wpAny_callName T hn hc ha ok F (fun vs s₁ r st F1 => wpAny_mono (hf A s₁ _ vs ok F1.tk F1.glb (F1.noOld true) r)
    (fun v s' ⟨a, items, e1, e2, e3, e4, e5⟩ => ⟨a, items, e1, size_le_of_keeps st.heap e2, e3, e4, st.trans e5⟩) fun _ _ x => x) hp hd
/-- .. of atoms, out of a list that may be changed elsewhere -/
theorem evF_callA {b : Bool} {x : PySem.Str} {f : Value} {np pos : Pos} {es : List Expr} {ps : List PV} {l : List PV} (T : TF H0 mg mb) (hn : GName mg mb C x f) (hc : Callee H0 f) (ha : Evs prog w H0 C b es ps) (hf : CallF prog w H0 C.n f ps l)
    (hat : ∀ p ∈ l, p.atom = true) (hp : (es.all (fun e => !isStarred e) && !es.isEmpty) = true := by rfl) (hd : (x == ("__debug__" : PySem.Str)) = false := by decide +kernel) : EvF prog w H0 C (.Call (.Name x np) es [] pos) l :=
  fun A s ok F => wpAny_callName T hn hc ha ok F (fun vs s₁ r st F1 => wpAny_mono (hf A s₁ _ vs ok F1.tk F1.glb (F1.noOld b) r)
    (fun v s' ⟨a, items, e1, e2, e3, e4, e5⟩ => ⟨a, items, e1, size_le_of_keeps st.heap e2, e3, e4.atom hat, st.trans e5⟩) fun _ _ x => x) hp hd
end

end Mine

namespace Mine

def del {α : Type} (x : String) (l : List (String × α)) : List (String × α) := l.filter fun q => !(q.1 == x)
theorem mem_del {α : Type} {x : String} {l : List (String × α)} {q : String × α} : q ∈ del x l ↔ q ∈ l ∧ q.1 ≠ x := by simp [del]

def Cx.put (C : Cx) (x : String) (p : PV) : Cx := { C with vs := (x, p) :: del x C.vs, own := del x C.own }
def Cx.putOwn (C : Cx) (x : String) (a : Addr) (l : List PV) : Cx := { C with X := a :: C.X, vs := del x C.vs, own := (x, a, l) :: del x C.own }
/-- other contents of a list of one's own -/
def upOwn (x : String) (l' : List PV) (own : List (String × Addr × List PV)) : List (String × Addr × List PV) := own.map fun q => if q.1 == x then (q.1, q.2.1, l') else q
theorem mem_upOwn {x : String} {l' : List PV} {own : List (String × Addr × List PV)} {q : String × Addr × List PV} (h : q ∈ upOwn x l' own) : (q ∈ own ∧ q.1 ≠ x) ∨ (q.1 = x ∧ q.2.2 = l' ∧ ∃ l, (x, q.2.1, l) ∈ own) := by
  obtain ⟨r, hr, e⟩ := List.mem_map.mp h
  split at e
  · rename_i hx
    have hx : r.1 = x := by simpa using hx
    subst e
    exact .inr ⟨hx, rfl, r.2.2, by rw [← hx]; exact hr⟩
  · rename_i hx
    subst e
    exact .inl ⟨hr, by simpa using hx⟩

/-- what stands under a name -/
noncomputable def look {α : Type} (l : List (String × α)) (x : String) : Option α := List.rec none (fun q _ ih => Bool.rec ih (some q.2) (q.1 == x)) l
theorem mem_look {α : Type} {l : List (String × α)} {x : String} {p : α} (h : look l x = some p) : (x, p) ∈ l := by
  induction l with
  | nil => cases h
  | cons q r ih =>
    cases hb : q.1 == x with
    | true =>
      have e : look (q :: r) x = some q.2 := by
        show (Bool.rec (look r x) (some q.2) (q.1 == x) : Option α) = _
        rw [hb]
      rw [e] at h; cases h
      have : q.1 = x := by simpa using hb
      subst this
      exact List.mem_cons_self
    | false =>
      have e : look (q :: r) x = look r x := by
        show (Bool.rec (look r x) (some q.2) (q.1 == x) : Option α) = _
        rw [hb]
      rw [e] at h
      exact List.mem_cons_of_mem _ (ih h)
theorem map_look {α : Type} {l L : List (String × α)} (h : L.map (fun q => look l q.1) = L.map (fun q => some q.2)) : ∀ q ∈ L, q ∈ l := by
  induction L with
  | nil => exact fun q hq => nomatch hq
  | cons r L ih =>
    rw [List.map_cons, List.map_cons, List.cons.injEq] at h
    intro q hq
    rcases List.mem_cons.mp hq with e | hq
    · subst e; exact mem_look h.1
    · exact ih h.2 q hq
theorem Cx.like_refl (C : Cx) : C.like C := ⟨rfl, rfl, rfl, rfl, rfl, fun _ h => h⟩
theorem Cx.like_put (C : Cx) (x : String) (p : PV) : C.like (C.put x p) := ⟨rfl, rfl, rfl, rfl, rfl, fun _ h => h⟩
theorem Cx.like_putOwn (C : Cx) (x : String) (a : Addr) (l : List PV) : C.like (C.putOwn x a l) := ⟨rfl, rfl, rfl, rfl, rfl, fun _ h => List.mem_cons_of_mem _ h⟩
theorem Cx.like_trans {C C' C'' : Cx} (h : C.like C') (h' : C'.like C'') : C.like C'' :=
  ⟨h'.1.trans h.1, h'.2.1.trans h.2.1, h'.2.2.1.trans h.2.2.1, h'.2.2.2.1.trans h.2.2.2.1, h'.2.2.2.2.1.trans h.2.2.2.2.1, fun a ha => h'.2.2.2.2.2 a (h.2.2.2.2.2 a ha)⟩

theorem StepB.refl (C : Cx) (s : Shared) : StepB C s s := ⟨fun _ _ _ _ _ e => e, fun _ _ e => e⟩
theorem StepB.trans {C C' : Cx} {s s' s'' : Shared} (hl : C.like C') (hx : ∀ a ∈ C'.X, a ∈ C.X ∨ s.heap.get? a = Option.none) (h : StepB C s s') (h' : StepB C' s' s'') : StepB C s s'' := by
  refine ⟨fun b o h1 h2 h3 e => h'.heap b o (by rw [hl.1]; exact h1) (by rw [hl.1]; exact h2) (fun hm => ?_) (h.heap b o h1 h2 h3 e), fun i x e => h'.gens i x (h.gens i x e)⟩
  rcases hx b hm with q | q
  · exact h3 q
  · rw [q] at e; cases e
theorem StepB.then {C : Cx} {s s' s'' : Shared} (h : StepB C s s') (h' : StepB C s' s'') : StepB C s s'' :=
  h.trans (C.like_refl) (fun a ha => .inl ha) h'

theorem rp_same {h h' : Heap} {X : List Addr} {a : Addr} {o : Obj} {v : Value} {p : PV} (ho : h.get? a = some o) (hn : ¬ isSeqObj o) (hs : Heap.SameBut a h h') (r : Rp h X v p) : Rp h' X v p :=
  r.mono fun b ob e hq hb => ⟨hb, (hs.2 b fun q => by subst q; rw [ho] at e; cases e; exact hn hq).trans e⟩
theorem rps_same {h h' : Heap} {X : List Addr} {a : Addr} {o : Obj} {v : List Value} {p : List PV} (ho : h.get? a = some o) (hn : ¬ isSeqObj o) (hs : Heap.SameBut a h h') (r : Rps h X v p) : Rps h' X v p :=
  r.mono fun b ob e hq hb => ⟨hb, (hs.2 b fun q => by subst q; rw [ho] at e; cases e; exact hn hq).trans e⟩
/-- a list that no value touches may change -/
theorem rp_but {h h' : Heap} {X : List Addr} {a : Addr} {v : Value} {p : PV} (ha : a ∈ X) (hs : Heap.SameBut a h h') (r : Rp h X v p) : Rp h' X v p :=
  r.mono fun b ob e hq hb => ⟨hb, (hs.2 b fun q => by subst q; exact hb ha).trans e⟩
theorem rps_but {h h' : Heap} {X : List Addr} {a : Addr} {v : List Value} {p : List PV} (ha : a ∈ X) (hs : Heap.SameBut a h h') (r : Rps h X v p) : Rps h' X v p :=
  r.mono fun b ob e hq hb => ⟨hb, (hs.2 b fun q => by subst q; exact hb ha).trans e⟩

theorem ns_obj {h : Heap} {a : Addr} {m : PySem.Str → Option Value} (hn : h.Ns a m) : ∃ o, h.get? a = some o ∧ ¬ isSeqObj o ∧ ∀ v, o.data ≠ .cell v := by
  obtain ⟨o, es, ep, ho, hd, _⟩ := hn
  exact ⟨o, ho, (fun ⟨a, b, c⟩ => by rw [hd] at c; cases c), (fun v c => by rw [hd] at c; cases c)⟩
theorem cell_obj {h : Heap} {c : Addr} {v : Option Value} (hc : h.IsCell c v) : ∃ o, h.get? c = some o ∧ ¬ isSeqObj o ∧ o.data = .cell v := by
  obtain ⟨o, ho, hd⟩ := hc
  exact ⟨o, ho, (fun ⟨a, b, c⟩ => by rw [hd] at c; cases c), hd⟩
theorem ns_ne_cell {h : Heap} {a c : Addr} {m : PySem.Str → Option Value} {v : Option Value} (hn : h.Ns a m) (hc : h.IsCell c v) : c ≠ a := by
  rintro rfl
  obtain ⟨o, ho, _, h1⟩ := ns_obj hn
  obtain ⟨o', ho', _, h2⟩ := cell_obj hc
  rw [ho] at ho'; cases ho'; exact h1 _ h2

section
variable {prog : Program} {w : World} {H0 : Heap} {mg mb : PySem.Str → Option Value} {C : Cx}

/-- the parts of a frame's state that a store at `a` (no list, no tuple) does not touch -/
theorem Fs.store {s : Shared} {a : Addr} {o : Obj} {h' : Heap} {t : Nat} {C' : Cx} (F : Fs H0 C s) (ht : s.toks ≤ t) (hl : C.like C') (hX : C'.X = C.X) (ha : C.s0.heap.get? a = Option.none) (ho : s.heap.get? a = some o) (hs : Heap.SameBut a s.heap h') (ho' : ∃ o', h'.get? a = some o')
    (ns : ∃ m, h'.Ns C.env.locals m) (cel : ∀ x c, (x, c) ∈ C.env.cells → ∃ v, h'.IsCell c v)
    (vars : ∀ p ∈ C'.vs, ∃ v, VarAt h' C.env p.1 v ∧ Rp h' C.X v p.2)
    (owns : ∀ p ∈ C'.own, p.2.1 ∈ C.X ∧ C.s0.heap.get? p.2.1 = Option.none ∧ VarAt h' C.env p.1 (.ref p.2.1) ∧ ∃ items, h'.PlainList p.2.1 items ∧ Rps h' C.X items.toList p.2.2) (od : ∀ q ∈ C'.own, ∀ r ∈ C'.own, q.1 ≠ r.1 → q.2.1 ≠ r.2.1) :
    Fs H0 C' { s with heap := h', toks := t } where
  glb := fun b ob e => (hs.2 b (fun q => by have e' := F.glb0 b ob e; rw [q, ha] at e'; cases e')).trans (F.glb b ob e)
  glb0 := by rw [hl.2.1]; exact F.glb0
  step := by
    rw [hl.2.1]
    exact ⟨fun b ob e => (hs.2 b (fun q => by rw [q, ha] at e; cases e)).trans (F.step.heap b ob e), F.step.gens, F.step.bare, F.step.os, Nat.le_trans F.step.tks ht⟩
  tk := Nat.le_trans F.tk ht
  kind := by rw [hl.1]; exact F.kind
  glo := by rw [hl.1]; exact F.glo
  bui := by rw [hl.1]; exact F.bui
  ns := by rw [hl.1]; exact ns
  loc := by rw [hl.1, hl.2.1]; exact F.loc
  cel := fun x c hm => by rw [hl.1] at hm; rw [hl.2.1]; exact ⟨(F.cel x c hm).1, cel x c hm⟩
  apart := by rw [hl.1]; exact F.apart
  cdf := by rw [hl.1]; exact F.cdf
  yx := by rw [hl.2.2.2.1, hX]; exact F.yx
  y0 := by rw [hl.2.2.2.1, hl.2.1]; exact F.y0
  xs := fun b hb => by
    rw [hX] at hb
    obtain ⟨ob, e⟩ := F.xs b hb
    by_cases hba : b = a
    · subst hba; exact ho'
    · exact ⟨ob, (hs.2 b hba).trans e⟩
  vars := by rw [hl.1, hX]; exact vars
  owns := by rw [hl.1, hl.2.1, hX]; exact owns
  od := od

/-- a store of a name -/
theorem store_name {A : Around} {s : Shared} {x : String} {v : Value} {Q : Unit → Shared → Prop} (F : Fs H0 C s)
    (hk : C.env.kindOf (PySem.Str.ofString x) = some .local ∨ C.env.kindOf (PySem.Str.ofString x) = some .cell)
    (k : ∀ s', StepB C s s' → (∀ vs own, (∀ q ∈ vs, q.1 ≠ x → q ∈ C.vs) → (∀ q ∈ own, q.1 ≠ x → q ∈ C.own) → (∀ q ∈ vs, q.1 = x → Rp s.heap C.X v q.2) →
        (∀ q ∈ own, q.1 = x → v = .ref q.2.1 ∧ q.2.1 ∈ C.X ∧ C.s0.heap.get? q.2.1 = Option.none ∧ ∃ items, s.heap.PlainList q.2.1 items ∧ Rps s.heap C.X items.toList q.2.2) → (∀ q ∈ own, ∀ r ∈ own, q.1 ≠ r.1 → q.2.1 ≠ r.2.1) → Fs H0 { C with vs := vs, own := own } s') → Q () s') :
    wpAny (model prog w) A (storeName C.env (PySem.Str.ofString x) v) Q (fun _ _ => False) s := by
  rcases hk with hk | hk
  · obtain ⟨m, hn⟩ := F.ns
    obtain ⟨o, ho, hq, hnc⟩ := ns_obj hn
    refine wpAny_storeName_local hk hn (fun h' hn' hs => ?_) (by rw [F.kind]; rfl)
    have there : ∀ {y : String} {u : Value}, y ≠ x → VarAt s.heap C.env y u → VarAt h' C.env y u := by
      rintro y u hy (⟨ky, m', hm', e⟩ | ⟨ky, c, hc, hv⟩)
      · refine .inl ⟨ky, _, hn', ?_⟩
        have : m' = m := by rw [hm'.eq_nsMap, ← hn.eq_nsMap]
        subst this
        rw [if_neg (fun q => hy (ofString_inj q))]; exact e
      · exact .inr ⟨ky, c, hc, hv.sameBut hs (ns_ne_cell hn hv)⟩
    have here : VarAt h' C.env x v := .inl ⟨hk, _, hn', by simp⟩
    have pl : ∀ {b : Addr} {items : Array Value}, s.heap.PlainList b items → h'.PlainList b items := fun {b items} hp => by
      refine hp.at fun ob e => (hs.2 b ?_).trans e
      rintro rfl
      obtain ⟨n, e'⟩ := hp
      rw [ho] at e'; cases e'
      exact hq ⟨_, _, rfl⟩
    refine k _ ⟨fun b ob h1 _ _ e => (hs.2 b h1).trans e, fun _ _ e => e⟩ fun vs own h1 h2 h3 h4 h5 => ?_
    refine F.store (Nat.le_succ _) ⟨rfl, rfl, rfl, rfl, rfl, fun _ h => h⟩ rfl F.loc ho hs (let ⟨o', e, _⟩ := ns_obj hn'; ⟨o', e⟩) ⟨_, hn'⟩ (fun y c hm => let ⟨_, u, hc⟩ := F.cel y c hm; ⟨u, hc.sameBut hs (ns_ne_cell hn hc)⟩) ?_ ?_ h5
    · intro q hq'
      by_cases e : q.1 = x
      · exact ⟨v, by rw [e]; exact here, rp_same ho hq hs (h3 q hq' e)⟩
      · obtain ⟨u, a1, a2⟩ := F.vars q (h1 q hq' e)
        exact ⟨u, there e a1, rp_same ho hq hs a2⟩
    · intro q hq'
      by_cases e : q.1 = x
      · obtain ⟨e1, e2, e3, items, e4, e5⟩ := h4 q hq' e
        exact ⟨e2, e3, by rw [e, ← e1]; exact here, items, pl e4, rps_same ho hq hs e5⟩
      · obtain ⟨a1, a2, a3, items, a4, a5⟩ := F.owns q (h2 q hq' e)
        exact ⟨a1, a2, there e a3, items, pl a4, rps_same ho hq hs a5⟩
  · obtain ⟨c, hc⟩ := F.cdf _ hk
    obtain ⟨hlo, u0, hcv⟩ := F.cel _ c (mem_of_lookup hc)
    obtain ⟨o, ho, hq, _⟩ := cell_obj hcv
    obtain ⟨m, hn⟩ := F.ns
    have hcl : c ≠ C.env.locals := ns_ne_cell hn hcv
    refine wpAny_storeName_cell F.kind hk hc hcv fun h' hc' hs => ?_
    have there : ∀ {y : String} {u : Value}, y ≠ x → VarAt s.heap C.env y u → VarAt h' C.env y u := by
      rintro y u hy (⟨ky, m', hm', e⟩ | ⟨ky, d, hd, hv⟩)
      · exact .inl ⟨ky, m', hm'.sameBut hs (Ne.symm hcl), e⟩
      · refine .inr ⟨ky, d, hd, hv.sameBut hs fun e => ?_⟩
        subst e
        exact hy (ofString_inj (F.apart _ _ _ (mem_of_lookup hd) (mem_of_lookup hc)))
    have here : VarAt h' C.env x v := .inr ⟨hk, c, hc, hc'⟩
    have pl : ∀ {b : Addr} {items : Array Value}, s.heap.PlainList b items → h'.PlainList b items := fun {b items} hp => by
      refine hp.at fun ob e => (hs.2 b ?_).trans e
      rintro rfl
      obtain ⟨n, e'⟩ := hp
      rw [ho] at e'; cases e'
      exact hq ⟨_, _, rfl⟩
    refine k _ ⟨fun b ob _ h2 _ e => (hs.2 b (h2 _ c (mem_of_lookup hc))).trans e, fun _ _ e => e⟩ fun vs own h1 h2 h3 h4 h5 => ?_
    refine F.store (t := s.toks) (Nat.le_refl _) ⟨rfl, rfl, rfl, rfl, rfl, fun _ h => h⟩ rfl hlo ho hs (let ⟨o', e, _⟩ := cell_obj hc'; ⟨o', e⟩) ⟨m, hn.sameBut hs (Ne.symm hcl)⟩ (fun y d hm => ?_) ?_ ?_ h5
    · by_cases e : d = c
      · subst e; exact ⟨_, hc'⟩
      · let ⟨_, u, hd⟩ := F.cel y d hm; exact ⟨u, hd.sameBut hs e⟩
    · intro q hq'
      by_cases e : q.1 = x
      · exact ⟨v, by rw [e]; exact here, rp_same ho hq hs (h3 q hq' e)⟩
      · obtain ⟨u, a1, a2⟩ := F.vars q (h1 q hq' e)
        exact ⟨u, there e a1, rp_same ho hq hs a2⟩
    · intro q hq'
      by_cases e : q.1 = x
      · obtain ⟨e1, e2, e3, items, e4, e5⟩ := h4 q hq' e
        exact ⟨e2, e3, by rw [e, ← e1]; exact here, items, pl e4, rps_same ho hq hs e5⟩
      · obtain ⟨a1, a2, a3, items, a4, a5⟩ := F.owns q (h2 q hq' e)
        exact ⟨a1, a2, there e a3, items, pl a4, rps_same ho hq hs a5⟩

theorem store_put {A : Around} {s : Shared} {x : String} {v : Value} {p : PV} {Q : Unit → Shared → Prop} (F : Fs H0 C s)
    (hk : C.env.kindOf (PySem.Str.ofString x) = some .local ∨ C.env.kindOf (PySem.Str.ofString x) = some .cell) (r : Rp s.heap C.X v p)
    (k : ∀ s', StepB C s s' → Fs H0 (C.put x p) s' → Q () s') :
    wpAny (model prog w) A (storeName C.env (PySem.Str.ofString x) v) Q (fun _ _ => False) s :=
  store_name F hk fun s' st mk => k s' st (mk _ _ (fun q hq hne => by
      rcases List.mem_cons.mp hq with e | hq
      · exact absurd (by rw [e]) hne
      · exact (mem_del.mp hq).1) (fun q hq _ => (mem_del.mp hq).1) (fun q hq he => by
      rcases List.mem_cons.mp hq with e | hq
      · rw [e]; exact r
      · exact absurd he (mem_del.mp hq).2) (fun q hq he => absurd he (mem_del.mp hq).2) (fun q hq r hr => F.od q (mem_del.mp hq).1 r (mem_del.mp hr).1))

theorem Fs.grow {s s' : Shared} {a : Addr} (F : Fs H0 C s) (st : Step s s') (hn : s.heap.get? a = Option.none) (ha : ∃ o, s'.heap.get? a = some o) : Fs H0 { C with X := a :: C.X } s' := by
  have G := F.go st
  exact ⟨G.glb, G.glb0, G.step, G.tk, G.kind, G.glo, G.bui, G.ns, G.loc, G.cel, G.apart, G.cdf, fun b hb => List.mem_cons_of_mem _ (G.yx b hb), G.y0,
    fun b hb => by
      rcases List.mem_cons.mp hb with e | hb
      · subst e; exact ha
      · exact G.xs b hb,
    fun q hq => by
      obtain ⟨v, a1, a2⟩ := F.vars q hq
      exact ⟨v, a1.keeps st.heap, (a2.shut hn).keeps st.heap⟩,
    fun q hq => by
      obtain ⟨a1, a2, a3, items, a4, a5⟩ := F.owns q hq
      exact ⟨List.mem_cons_of_mem _ a1, a2, a3.keeps st.heap, items, a4.at fun o e => st.heap _ o e, (a5.shut hn).keeps st.heap⟩, F.od⟩

/-- one statement that goes on -/
def St1 (prog : Program) (w : World) (H0 : Heap) (C : Cx) (st : Stmt) (N : Cx → Prop) : Prop :=
  ∀ A s, AOK C.n A → Fs H0 C s → wpAny (model prog w) A (exec st C.env) (fun f s' => f = .next ∧ StepB C s s' ∧ ∃ C', N C' ∧ C.like C' ∧ Fs H0 C' s' ∧ ∀ a ∈ C'.X, a ∈ C.X ∨ s.heap.get? a = Option.none) (fun _ _ => False) s

theorem run_nil {N : Cx → Prop} {R : PV → Prop} (h : N C) : Run prog w H0 C [] N R := fun A s ok F =>
  wpAny_execs_nil ⟨StepB.refl C s, C, h, C.like_refl, F, fun a ha => .inl ha⟩
theorem Fs.sub {s : Shared} {vs : List (String × PV)} {own : List (String × Addr × List PV)} (F : Fs H0 C s) (hv : ∀ q ∈ vs, q ∈ C.vs) (ho : ∀ q ∈ own, q ∈ C.own) : Fs H0 { C with vs := vs, own := own } s :=
  ⟨F.glb, F.glb0, F.step, F.tk, F.kind, F.glo, F.bui, F.ns, F.loc, F.cel, F.apart, F.cdf, F.yx, F.y0, F.xs, fun q hq => F.vars q (hv q hq), fun q hq => F.owns q (ho q hq), fun q hq r hr => F.od q (ho q hq) r (ho r hr)⟩

theorem run_mono {body : List Stmt} {N N' : Cx → Prop} {R R' : PV → Prop} (h : Run prog w H0 C body N R) (hN : ∀ C', N C' → N' C') (hR : ∀ p, R p → R' p) : Run prog w H0 C body N' R' := fun A s ok F =>
  wpAny_mono (h A s ok F) (fun f s' ⟨a, b⟩ => ⟨a, by
    cases f with
    | next => obtain ⟨C', n, r⟩ := b; exact ⟨C', hN _ n, r⟩
    | ret v => obtain ⟨p, n, r⟩ := b; exact ⟨p, hR _ n, r⟩
    | brk => exact b
    | cont => exact b⟩) fun _ _ x => x

/-- behind a state of another shape -/
theorem run_after {A : Around} {s s' : Shared} {C' : Cx} {rest : List Stmt} {N : Cx → Prop} {R : PV → Prop} (h : Run prog w H0 C' rest N R) (ok : AOK C.n A) (hl : C.like C') (F' : Fs H0 C' s') (hx : ∀ a ∈ C'.X, a ∈ C.X ∨ s.heap.get? a = Option.none) (st : StepB C s s') :
    wpAny (model prog w) A (execs rest C.env) (RPost H0 C s N R) (fun _ _ => False) s' := by
  have h1 := h A s' (by rw [hl.2.2.1]; exact ok) F'
  rw [hl.1] at h1
  refine wpAny_mono h1 (fun f s'' ⟨a, b⟩ => ⟨st.trans hl hx a, ?_⟩) fun _ _ x => x
  cases f with
  | next =>
    obtain ⟨C'', n, l, f, x⟩ := b
    refine ⟨C'', n, Cx.like_trans hl l, f, fun b hb => ?_⟩
    rcases x b hb with q | q
    · exact hx b q
    · by_cases hbx : b ∈ C.X
      · exact .inl hbx
      · cases e : s.heap.get? b with
        | none => exact .inr rfl
        | some o =>
          exfalso
          by_cases hL : b = C.env.locals
          · obtain ⟨m, hn⟩ := F'.ns
            rw [hl.1, ← hL] at hn
            obtain ⟨o', e', _⟩ := ns_obj hn
            rw [e'] at q; cases q
          · by_cases hc : ∃ x, (x, b) ∈ C.env.cells
            · obtain ⟨x, hm⟩ := hc
              obtain ⟨_, v, hv⟩ := F'.cel x b (by rw [hl.1]; exact hm)
              obtain ⟨o', e', _⟩ := cell_obj hv
              rw [e'] at q; cases q
            · rw [st.heap b o hL (fun x c hm he => hc ⟨x, by rw [he]; exact hm⟩) hbx e] at q; cases q
  | ret v =>
    obtain ⟨p, n, r, q, t⟩ := b
    rw [hl.2.2.2.1] at r
    rw [hl.2.1] at q t
    rw [hl.2.2.2.2.1] at t
    exact ⟨p, n, r, q, t⟩
  | brk => exact b
  | cont => exact b

theorem run_seq {st : Stmt} {rest : List Stmt} {M N : Cx → Prop} {R : PV → Prop} (h : St1 prog w H0 C st M) (k : ∀ C', M C' → C.like C' → Run prog w H0 C' rest N R) : Run prog w H0 C (st :: rest) N R := fun A s ok F =>
  wpAny_execs_cons (wpAny_mono (h A s ok F) (fun f s' ⟨e, sb, C', hm, hl, F', hx⟩ => by subst e; exact run_after (k C' hm hl) ok hl F' hx sb) fun _ _ x => x)

theorem rpost_seq {A : Around} {s s' : Shared} {f : Flow} {rest : List Stmt} {M N : Cx → Prop} {R : PV → Prop} (ok : AOK C.n A) (k : ∀ C', M C' → C.like C' → Run prog w H0 C' rest N R) : RPost H0 C s M R f s' →
    match f with | .next => wpAny (model prog w) A (execs rest C.env) (RPost H0 C s N R) (fun _ _ => False) s' | f => RPost H0 C s N R f s' := by
  intro h
  cases f with
  | next => obtain ⟨sb, C', hm, hl, F', hx⟩ := h; exact run_after (k C' hm hl) ok hl F' hx sb
  | ret v => exact h
  | brk => exact h.2.elim
  | cont => exact h.2.elim
theorem rpost_step {s s' s'' : Shared} {f : Flow} {N : Cx → Prop} {R : PV → Prop} (st : Step s s') (h : RPost H0 C s' N R f s'') : RPost H0 C s N R f s'' := by
  refine ⟨(StepB.of st).then h.1, ?_⟩
  have h2 := h.2
  cases f with
  | next =>
    obtain ⟨C', a, b, c, d⟩ := h2
    exact ⟨C', a, b, c, fun x hx => (d x hx).imp id fun q => size_le_of_keeps st.heap q⟩
  | ret v => exact h2
  | brk => exact h2
  | cont => exact h2
theorem run_if {t : Expr} {body orelse rest : List Stmt} {pos : Pos} {r : Bool} {M N : Cx → Prop} {R : PV → Prop} (h : Bt prog w H0 C t r) (h1 : r = true → Run prog w H0 C body M R) (h2 : r = false → Run prog w H0 C orelse M R)
    (k : ∀ C', M C' → C.like C' → Run prog w H0 C' rest N R) : Run prog w H0 C (.If t body orelse pos :: rest) N R := fun A s ok F => by
  refine wpAny_execs_cons (wpAny_If (bt_then h ok F fun s₁ st F1 => ?_))
  cases r with
  | true => exact wpAny_mono (h1 rfl A s₁ ok F1) (fun f s' hf => rpost_seq ok k (rpost_step st hf)) fun _ _ x => x
  | false => exact wpAny_mono (h2 rfl A s₁ ok F1) (fun f s' hf => rpost_seq ok k (rpost_step st hf)) fun _ _ x => x
theorem run_ret {b : Bool} {e : Expr} {pos : Pos} {rest : List Stmt} {N : Cx → Prop} {R : PV → Prop} {p : PV} (h : Ev prog w H0 C b e p) (hr : R p) (hf : C.fr = false := by rfl) : Run prog w H0 C (.Return (some e) pos :: rest) N R := fun A s ok F =>
  wpAny_execs_cons (wpAny_Return_some (ev_then h ok F fun v s₁ r st F1 => ⟨StepB.of st, p, hr, r.sub (F.noYes b), F1.step, fun q => by rw [hf] at q; cases q⟩))
theorem run_retOwn {x : String} {a : Addr} {l : List PV} {px pos : Pos} {rest : List Stmt} {N : Cx → Prop} {R : PV → Prop} (h : (x, a, l) ∈ C.own) (hr : R (.lst l)) (hd : (PySem.Str.ofString x == ("__debug__" : PySem.Str)) = false := by decide +kernel) :
    Run prog w H0 C (.Return (some (.Name (PySem.Str.ofString x) px)) pos :: rest) N R := fun A s ok F => by
  obtain ⟨h1, h2, h3, items, h4, h5⟩ := F.owns _ h
  refine wpAny_execs_cons (wpAny_Return_some (wpAny_Name (loadVar F h3 ?_) hd))
  exact ⟨StepB.refl C s, _, hr, .lst a items l h4 (fun hm => by obtain ⟨o, e⟩ := F.y0 a hm; rw [h2] at e; cases e) (h5.sub F.yx), F.step, fun _ b hb => by cases hb; exact ⟨h2, items, h4⟩⟩

/-! assignments -/
theorem st_assign {x : String} {px pos : Pos} {e : Expr} {p : PV} (h : Ev prog w H0 C true e p)
    (hk : C.env.kindOf (PySem.Str.ofString x) = some .local ∨ C.env.kindOf (PySem.Str.ofString x) = some .cell)
    (hs : swapsWith e (some (.Name (PySem.Str.ofString x) px)) pos.line C.env = pure false := by rfl) : St1 prog w H0 C (.Assign [.Name (PySem.Str.ofString x) px] e pos) (fun C' => C' = C.put x p) := fun A s ok F =>
  wpAny_Assign_Name (ev_then h ok F fun v s₁ r1 st1 F1 => store_put F1 hk r1 fun s' sb F' => ⟨rfl, (StepB.of st1).then sb, _, rfl, C.like_put x p, F', fun a ha => .inl ha⟩) hs
theorem st_assignOwn {x : String} {px pos : Pos} {e : Expr} {l : List PV} (h : EvF prog w H0 C e l)
    (hk : C.env.kindOf (PySem.Str.ofString x) = some .local ∨ C.env.kindOf (PySem.Str.ofString x) = some .cell)
    (hs : swapsWith e (some (.Name (PySem.Str.ofString x) px)) pos.line C.env = pure false := by rfl) : St1 prog w H0 C (.Assign [.Name (PySem.Str.ofString x) px] e pos) (fun C' => ∃ a, C' = C.putOwn x a l) := fun A s ok F =>
  wpAny_Assign_Name (wpAny_mono (h A s ok F) (fun v s₁ ⟨a, items, hv, hn, hp, r, st⟩ => by
    subst hv
    have G := F.grow st hn (let ⟨n, e⟩ := hp; ⟨_, e⟩)
    have hlo : C.s0.heap.get? a = Option.none := size_le_of_keeps F.step.heap hn
    refine store_name (C := { C with X := a :: C.X }) G hk fun s' sb mk => ⟨rfl, ?_, _, ⟨a, rfl⟩, C.like_putOwn x a l, ?_, ?_⟩
    · refine StepB.trans (C' := { C with X := a :: C.X }) ⟨rfl, rfl, rfl, rfl, rfl, fun _ h => List.mem_cons_of_mem _ h⟩ (fun b hb => ?_) (StepB.of st) sb
      rcases List.mem_cons.mp hb with e | hb
      · subst e; exact .inr hn
      · exact .inl hb
    · refine mk _ _ (fun q hq hne => (mem_del.mp hq).1) (fun q hq hne => ?_) (fun q hq he => absurd he (mem_del.mp hq).2) (fun q hq he => ?_) ?_
      · rcases List.mem_cons.mp hq with e | hq
        · exact absurd (by rw [e]) hne
        · exact (mem_del.mp hq).1
      · rcases List.mem_cons.mp hq with e | hq
        · subst e
          exact ⟨rfl, List.mem_cons_self, hlo, items, hp, r⟩
        · exact absurd he (mem_del.mp hq).2
      · have old : ∀ q ∈ C.own, q.2.1 ≠ a := fun q hq e => by
          obtain ⟨_, _, _, its, ⟨n, e'⟩, _⟩ := F.owns q hq
          rw [e, hn] at e'; cases e'
        intro q hq r hr hne
        rcases List.mem_cons.mp hq with e | hq <;> rcases List.mem_cons.mp hr with e' | hr
        · exact absurd (by rw [e, e']) hne
        · rw [e]; exact Ne.symm (old r (mem_del.mp hr).1)
        · rw [e']; exact old q (mem_del.mp hq).1
        · exact F.od q (mem_del.mp hq).1 r (mem_del.mp hr).1 hne
    · intro b hb
      rcases List.mem_cons.mp hb with e | hb
      · subst e; exact .inr hn
      · exact .inl hb) fun _ _ x => x) hs

theorem st_aug {x : String} {px pos : Pos} {op : Operator} {b : Bool} {e : Expr} {p q r : PV} (hx : (x, p) ∈ C.vs) (h : Ev prog w H0 C b e q) (hr : r.atom = true)
    (ho : ∀ n A s v u, AOK n A → Rp s.heap [] v p → Rp s.heap [] u q → wpAny (model prog w) A (inplaceOp op v u) (fun x s' => Rp s'.heap [] x r ∧ Step s s') (fun _ _ => False) s)
    (hk : C.env.kindOf (PySem.Str.ofString x) = some .local ∨ C.env.kindOf (PySem.Str.ofString x) = some .cell) :
    St1 prog w H0 C (.AugAssign (.Name (PySem.Str.ofString x) px) op e pos) (fun C' => C' = C.put x r) := fun A s ok F => by
  obtain ⟨v, hv, rv⟩ := F.vars _ hx
  refine wpAny_AugAssign_Name (loadVar F hv (ev_then h ok F fun u s₁ r1 st1 F1 => ?_))
  refine wpAny_mono (ho C.n A s₁ v u ok ((rv.keeps st1.heap).sub fun _ h => nomatch h) (r1.sub fun _ h => nomatch h)) (fun y s₂ ⟨ry, st2⟩ => ?_) fun _ _ x => x
  exact store_put (F1.go st2) hk (ry.atom hr) fun s' sb F' => ⟨rfl, (StepB.of (st1.trans st2)).then sb, _, rfl, C.like_put x r, F', fun a ha => .inl ha⟩
theorem aug_add {a b : Int} : ∀ n A s v u, AOK n A → Rp s.heap [] v (.int a) → Rp s.heap [] u (.int b) → wpAny (model prog w) A (inplaceOp .Add v u) (fun x s' => Rp s'.heap [] x (.int (a + b)) ∧ Step s s') (fun _ _ => False) s := fun n A s v u ok h1 h2 => by
  obtain ⟨t, rfl⟩ := h1.int_inv
  obtain ⟨t', rfl⟩ := h2.int_inv
  exact PyProof.Rows.iadd_int ⟨.int _ _, .tok1⟩
theorem aug_sub {a b : Int} : ∀ n A s v u, AOK n A → Rp s.heap [] v (.int a) → Rp s.heap [] u (.int b) → wpAny (model prog w) A (inplaceOp .Sub v u) (fun x s' => Rp s'.heap [] x (.int (a - b)) ∧ Step s s') (fun _ _ => False) s := fun n A s v u ok h1 h2 => by
  obtain ⟨t, rfl⟩ := h1.int_inv
  obtain ⟨t', rfl⟩ := h2.int_inv
  exact PyProof.Rows.isub_int ⟨.int _ _, .tok1⟩

/-! a tuple unpacked into two names -/
theorem store_pair {A : Around} {s : Shared} {x y : String} {px py pos : Pos} {k : Nat} {v : Value} {p q : PV} {Q : Unit → Shared → Prop} (F : Fs H0 C s) (hh : A.handled = Option.none)
    (hx : C.env.kindOf (PySem.Str.ofString x) = some .local ∨ C.env.kindOf (PySem.Str.ofString x) = some .cell) (hy : C.env.kindOf (PySem.Str.ofString y) = some .local ∨ C.env.kindOf (PySem.Str.ofString y) = some .cell)
    (r : Rp s.heap C.X v (.tup [p, q])) (kk : ∀ s', StepB C s s' → Fs H0 ((C.put x p).put y q) s' → Q () s') :
    wpAny (model prog w) A (assign (.Tuple [.Name (PySem.Str.ofString x) px, .Name (PySem.Str.ofString y) py] k pos) C.env v) Q (fun _ _ => False) s := by
  obtain ⟨a, items, n, rfl, ht, ha, rs⟩ := r.tup_inv
  obtain ⟨v1, vs1, e1, r1, rs1⟩ := rs.cons_inv
  obtain ⟨v2, vs2, e2, r2, rs2⟩ := rs1.cons_inv
  obtain rfl := rs2.nil_inv
  subst e2
  have hsz : items.size = 2 := by rw [← Array.length_toList, e1]; rfl
  refine PyProof.Rows.assign_Tuple_tuple hh ⟨_, ht, rfl, n, rfl⟩ (by rw [hsz]; rfl) rfl fun h' he => ?_
  have st : Step s { s with heap := h' } := .hp fun b o e => he b o (fun q => by rw [q, get?_size] at e; cases e) e
  rw [e1]
  have F1 := F.go st
  show wpAny (model prog w) A (assignInOrder [assign (.Name (PySem.Str.ofString x) px) C.env, assign (.Name (PySem.Str.ofString y) py) C.env] [v1, v2]) Q _ _
  refine PyProof.Rows.assignInOrder_cons (wpAny_assign_Name (store_put F1 hx (r1.keeps st.heap) fun s₁ sb1 F2 => ?_))
  have r2' : Rp s₁.heap C.X v2 q := by
    refine r2.mono fun b o e hq hb => ⟨hb, sb1.heap b o ?_ ?_ hb (st.heap b o e)⟩
    · rintro rfl
      obtain ⟨m, hn⟩ := F.ns
      obtain ⟨o', e', hnq, _⟩ := ns_obj hn
      rw [e'] at e; cases e; exact hnq hq
    · rintro z c hm rfl
      obtain ⟨_, u, hc⟩ := F.cel z _ hm
      obtain ⟨o', e', hnq, _⟩ := cell_obj hc
      rw [e'] at e; cases e; exact hnq hq
  refine PyProof.Rows.assignInOrder_cons (wpAny_assign_Name (store_put (C := C.put x p) F2 hy r2' fun s₂ sb2 F3 => PyProof.Rows.assignInOrder_nil ?_))
  exact kk s₂ (((StepB.of st).then sb1).trans (C.like_put x p) (fun a ha => .inl ha) sb2) F3
theorem st_pair {x y : String} {px py tpos pos : Pos} {k : Nat} {e : Expr} {p q : PV} (h : Ev prog w H0 C true e (.tup [p, q]))
    (hx : C.env.kindOf (PySem.Str.ofString x) = some .local ∨ C.env.kindOf (PySem.Str.ofString x) = some .cell) (hy : C.env.kindOf (PySem.Str.ofString y) = some .local ∨ C.env.kindOf (PySem.Str.ofString y) = some .cell)
    (hs : swapsWithSole [.Tuple [.Name (PySem.Str.ofString x) px, .Name (PySem.Str.ofString y) py] k tpos] e pos.line C.env = pure false := by rfl)
    (hw : swappedStores [.Tuple [.Name (PySem.Str.ofString x) px, .Name (PySem.Str.ofString y) py] k tpos] e C.env = pure Option.none := by rfl) :
    St1 prog w H0 C (.Assign [.Tuple [.Name (PySem.Str.ofString x) px, .Name (PySem.Str.ofString y) py] k tpos] e pos) (fun C' => C' = (C.put x p).put y q) := fun A s ok F =>
  PyProof.Rows.Assign_Tuple (ev_then h ok F fun v s₁ r1 st1 F1 => store_pair F1 ok.han hx hy r1 fun s' sb F' => ⟨rfl, (StepB.of st1).then sb, _, rfl, Cx.like_trans (C.like_put x p) (Cx.like_put _ y q), F', fun a ha => .inl ha⟩) hs hw

/-! lists of one's own -/
theorem VarAt.one {h : Heap} {env : Env} {x : String} {v u : Value} (a : VarAt h env x v) (b : VarAt h env x u) : v = u := by
  rcases a with ⟨k, m, hm, e⟩ | ⟨k, c, hc, e⟩ <;> rcases b with ⟨k', m', hm', e'⟩ | ⟨k', c', hc', e'⟩
  · have : m = m' := by rw [hm.eq_nsMap, ← hm'.eq_nsMap]
    subst this; rw [e] at e'; cases e'; rfl
  · rw [k] at k'; cases k'
  · rw [k] at k'; cases k'
  · rw [hc] at hc'; cases hc'
    obtain ⟨o, ho, _, hd⟩ := cell_obj e
    obtain ⟨o', ho', _, hd'⟩ := cell_obj e'
    rw [ho] at ho'; cases ho'; rw [hd] at hd'; cases hd'; rfl

/-- the contents of a list of one's own change; no other has its address -/
theorem Fs.turn {s : Shared} {x : String} {a : Addr} {l l' : List PV} {items' : Array Value} {h' : Heap} (F : Fs H0 C s) (hx : (x, a, l) ∈ C.own) (hp' : h'.PlainList a items') (hs : Heap.SameBut a s.heap h')
    (rs : Rps h' C.X items'.toList l') : Fs H0 { C with own := upOwn x l' C.own } { s with heap := h' } := by
  obtain ⟨ha, h0, hv, items, ⟨n, e⟩, _⟩ := F.owns _ hx
  have hcell : ∀ {c v}, s.heap.IsCell c v → c ≠ a := by
    rintro c v hc rfl
    obtain ⟨o, ho, _, hd⟩ := cell_obj hc
    rw [ho] at e; cases e; cases hd
  have hns : ∀ {b m}, s.heap.Ns b m → b ≠ a := by
    rintro b m hb rfl
    obtain ⟨o, ho, hq, _⟩ := ns_obj hb
    rw [ho] at e; cases e; exact hq ⟨_, _, rfl⟩
  have va : ∀ {y v}, VarAt s.heap C.env y v → VarAt h' C.env y v := by
    rintro y v (⟨k, m, hm, z⟩ | ⟨k, c, hc, z⟩)
    · exact .inl ⟨k, m, hm.sameBut hs (hns hm), z⟩
    · exact .inr ⟨k, c, hc, z.sameBut hs (hcell z)⟩
  have addr : ∀ {b l0}, (x, b, l0) ∈ C.own → b = a := fun {b l0} hm => by
    obtain ⟨_, _, hv', _⟩ := F.owns _ hm
    have := hv.one hv'
    cases this; rfl
  refine F.store (C' := { C with own := upOwn x l' C.own }) (t := s.toks) (Nat.le_refl _) ⟨rfl, rfl, rfl, rfl, rfl, fun _ h => h⟩ rfl h0 e hs (let ⟨n, e⟩ := hp'; ⟨_, e⟩) (let ⟨m, hm⟩ := F.ns; ⟨m, hm.sameBut hs (hns hm)⟩)
    (fun y c hm => let ⟨_, v, hc⟩ := F.cel y c hm; ⟨v, hc.sameBut hs (hcell hc)⟩) (fun q hq => let ⟨v, a1, a2⟩ := F.vars q hq; ⟨v, va a1, rp_but ha hs a2⟩) ?_ ?_
  · intro q hq
    rcases mem_upOwn hq with ⟨hm, hne⟩ | ⟨h1, h2, l0, h3⟩
    · obtain ⟨a1, a2, a3, its, a4, a5⟩ := F.owns q hm
      exact ⟨a1, a2, va a3, its, a4.extBut hs.extBut (F.od q hm _ hx hne), rps_but ha hs a5⟩
    · have hqa := addr h3
      exact ⟨by rw [hqa]; exact ha, by rw [hqa]; exact h0, by rw [hqa, h1]; exact va hv, items', by rw [hqa]; exact hp', by rw [h2]; exact rs⟩
  · intro q hq r hr hne
    have back : ∀ {q}, q ∈ upOwn x l' C.own → ∃ q' ∈ C.own, q'.1 = q.1 ∧ q'.2.1 = q.2.1 := fun {q} hq => by
      rcases mem_upOwn hq with ⟨hm, _⟩ | ⟨h1, h2, l0, h3⟩
      · exact ⟨q, hm, rfl, rfl⟩
      · exact ⟨_, h3, h1.symm, rfl⟩
    obtain ⟨q', m1, e1, e2⟩ := back hq
    obtain ⟨r', m2, e3, e4⟩ := back hr
    rw [← e2, ← e4]
    exact F.od q' m1 r' m2 (by rw [e1, e3]; exact hne)

theorem st_append {x : String} {a : Addr} {l : List PV} {p : PV} {px apos cpos pos : Pos} {e : Expr} (hx : (x, a, l) ∈ C.own) (h : Ev prog w H0 C true e p) (hl : l.length < 1000000)
    (he : isStarred e = false := by rfl) (hline : (apos.endLine == cpos.line) = true := by rfl) (hd : (PySem.Str.ofString x == ("__debug__" : PySem.Str)) = false := by decide +kernel) :
    St1 prog w H0 C (.Expr (.Call (.Attribute (.Name (PySem.Str.ofString x) px) (PySem.Str.ofString "append") apos) [e] [] cpos) pos) (fun C' => C' = { C with own := upOwn x (l ++ [p]) C.own }) := fun A s ok F => by
  have hse : ∀ env, starEach [e] env = [(false, eval e env)] := fun env => starEach_plain env (by simp [he])
  refine wpAny_Expr ?_ (by unfold interactive; rw [F.kind]; rfl) rfl
  refine wpAny_Call_append rfl (by rw [hse]; rfl) hline (by rw [hse]; rfl) ?_
  obtain ⟨h1, h2, h3, items, h4, h5⟩ := F.owns _ hx
  refine wpAny_Name (loadVar F h3 ⟨a, items, rfl, (let ⟨n, e⟩ := h4; ⟨_, n, e, rfl, rfl, rfl⟩), ev_then h ok F fun v s₁ r1 st1 F1 => ?_⟩) hd
  have h4' : s₁.heap.PlainList a items := h4.at fun o e => st1.heap _ o e
  have hlen : items.size = l.length := by rw [← h5.length, Array.length_toList]
  refine wpAny_list_append_plain h4' (fun h' hp' hs => ?_) (by rw [hlen, sizeLine_eq]; omega)
  refine ⟨rfl, (StepB.of st1).then ⟨fun b o _ _ hb e => (hs.2 b fun q => hb (by rw [q]; exact h1)).trans e, fun _ _ e => e⟩, _, rfl, ⟨rfl, rfl, rfl, rfl, rfl, fun _ h => h⟩, ?_, fun b hb => .inl hb⟩
  refine F1.turn hx hp' hs ?_
  have := ((rps_but h1 hs (h5.keeps st1.heap)).snoc (rp_but h1 hs r1))
  simpa using this
end
end Mine

namespace Mine

/-- what an iterator must leave alone -/
def Pr (base : Shared) (K : List Addr) (b : Addr) : Prop := (∃ o, base.heap.get? b = some o) ∨ b ∈ K

/-- what a step of an iterator may change -/
structure Mv (base : Shared) (K : List Addr) (s s' : Shared) : Prop where
  heap : ∀ b o, Pr base K b ∨ isSeqObj o → s.heap.get? b = some o → s'.heap.get? b = some o
  gens : ∀ (j : Nat) (x : GenState), j < base.gens.size → s.gens[j]? = some x → s'.gens[j]? = some x
  bare : AllBare s.gens → AllBare s'.gens
  os : s'.os = s.os
  tks : s.toks ≤ s'.toks

structure Iter (prog : Program) (w : World) (H0 : Heap) (A : Around) (I : Addr) (X K : List Addr) (base : Shared) (items : List PV) (St : Nat → Shared → Prop) : Prop where
  keep : ∀ i s s', St i s → (∀ b o, s.heap.get? b = some o → ((¬ Pr base K b ∧ ¬ isSeqObj o) ∨ (isSeqObj o ∧ b ∉ X)) → s'.heap.get? b = some o) → (∀ (j : Nat) (x : GenState), s.gens[j]? = some x → s'.gens[j]? = some x) → St i s'
  item : ∀ i s p, (∀ b o, H0.get? b = some o → s.heap.get? b = some o) → 1 ≤ s.toks → St i s → items[i]? = some p → (∀ a, a ∈ X ∨ Pr base K a → ∃ o, s.heap.get? a = some o) →
    wpAny (model prog w) A (pyNext (.ref I)) (fun r s' => ∃ v, r = some v ∧ Rp s'.heap X v p ∧ St (i + 1) s' ∧ Mv base K s s') (fun _ _ => False) s
  done : ∀ s, (∀ b o, H0.get? b = some o → s.heap.get? b = some o) → 1 ≤ s.toks → St items.length s → (∀ a, a ∈ X ∨ Pr base K a → ∃ o, s.heap.get? a = some o) →
    wpAny (model prog w) A (pyNext (.ref I)) (fun r s' => r = Option.none ∧ Mv base K s s') (fun _ _ => False) s
  self : ∀ i s, St i s → wpAny (model prog w) A (pyIter (.ref I)) (fun v s' => v = .ref I ∧ s' = s) (fun _ _ => False) s
  lets : ∀ i s t v, St i s → wpAny (model prog w) A (letOwnedTupleGo t (.ref I) v) (fun _ s' => s' = s) (fun _ _ => False) s

/-- an iterator of a class whose tuples are nobody's -/
theorem lets_of {M : Model} {A : Around} {s : Shared} {I : Addr} {t : Expr} {v : Value} {o : Obj} {cn : String} (ho : s.heap.get? I = some o) (hc : o.cls = .type cn)
    (hn : ["enumerate", "zip", "dict_itemiterator", "dict_reverseitemiterator", "odict_iterator", "itertools.zip_longest", "itertools.pairwise"].contains cn = false) :
    wpAny M A (letOwnedTupleGo t (.ref I) v) (fun _ s' => s' = s) (fun _ _ => False) s := by
  have main : wpAny M A (do
      let (.ref r, .ref a) := ((Value.ref I, v) : Value × Value) | return
      let o ← load r
      match o.cls, o.data with
      | .type n, .fields vs =>
        if ["enumerate", "zip", "dict_itemiterator", "dict_reverseitemiterator", "odict_iterator", "itertools.zip_longest", "itertools.pairwise"].contains n && vs[0]? == some (rawInt a) then
          rule "for.unpacks-the-owned-tuple"
          updateField r 0 .none
      | _, _ => pure ()) (fun _ s' => s' = s) (fun _ _ => False) s := by
    cases v with
    | ref a =>
      refine wpAny_bind (wpAny_load ho ?_)
      rw [hc]
      cases o.data <;> first
        | exact wpAny_pure rfl
        | (dsimp only; rw [hn, Bool.false_and]; exact wpAny_pure rfl)
    | _ => exact wpAny_pure rfl
  cases t <;> first | exact wpAny_pure rfl | exact main

/-- an expression that a loop goes over -/
def EvIt (prog : Program) (w : World) (H0 : Heap) (C : Cx) (e : Expr) (items : List PV) : Prop :=
  ∀ A s, AOK C.n A → Fs H0 C s → wpAny (model prog w) A (eval e C.env) (fun x s₁ => wpAny (model prog w) A (pyIter x) (fun it s₂ => Step s s₂ ∧ ∃ I, it = .ref I ∧ ∀ Z K, (∀ a ∈ C.X, a ∈ Z) → (∀ a ∈ Z, a ∈ C.X ∨ s₂.heap.get? a = Option.none) → (∀ a ∈ K, s₂.heap.get? a = Option.none) →
    ∃ St, Iter prog w H0 A I Z K s items St ∧ St 0 s₂) (fun _ _ => False) s₁) (fun _ _ => False) s

theorem Rp.toZ {h h' : Heap} {X Z : List Addr} {v : Value} {p : PV} (r : Rp h X v p) (hk : ∀ b o, h.get? b = some o → h'.get? b = some o) (hZ : ∀ a ∈ Z, a ∈ X ∨ h'.get? a = Option.none) : Rp h' Z v p :=
  r.mono fun b o e _ hb => ⟨fun hm => (hZ b hm).elim hb (fun q => by rw [hk b o e] at q; cases q), hk b o e⟩

section
variable {prog : Program} {w : World} {H0 : Heap} {mg mb : PySem.Str → Option Value} {C : Cx}

/-- an iterator of the library's -/
theorem Iter.ofWalks {A : Around} {N : Nat} {I : Addr} {X K : List Addr} {base : Shared} {items : List PV} {P : Nat → Value → Prop} {St : Nat → Heap → Prop} {fp : List Addr} {cn : String} (W : Walks prog w A I fp [I] N P St) (hN : N = items.length)
    (hI : ¬ Pr base K I)
    (hob : ∀ i h, St i h → ∃ o vs, h.get? I = some o ∧ o.cls = .type cn ∧ o.data = .fields vs)
    (hfp : ∀ i h, St i h → ∀ b ∈ fp, b = I ∨ (b ∉ X ∧ ∃ o, h.get? b = some o ∧ isSeqObj o))
    (hn : ["enumerate", "zip", "dict_itemiterator", "dict_reverseitemiterator", "odict_iterator", "itertools.zip_longest", "itertools.pairwise"].contains cn = false) :
    Iter prog w H0 A I X K base items (fun i s => St i s.heap ∧ ∀ j v p, P j v → items[j]? = some p → Rp s.heap X v p) where
  keep := fun i s s' st hk _ => ⟨W.frame i _ _ st.1 fun b hb o e => by
      rcases hfp i _ st.1 b hb with q | ⟨q, ob, e', hs⟩
      · subst q
        obtain ⟨o', vs, e', _, hd⟩ := hob i _ st.1
        rw [e] at e'; cases e'
        exact hk b o e (.inl ⟨hI, fun ⟨a, c, q⟩ => by rw [hd] at q; cases q⟩)
      · rw [e] at e'; cases e'; exact hk b o e (.inr ⟨hs, q⟩),
    fun j v p h1 h2 => (st.2 j v p h1 h2).mono fun b o e hs hb => ⟨hb, hk b o e (.inr ⟨hs, hb⟩)⟩⟩
  item := fun i s p _ _ st hp _ => by
    have hi : i < N := by
      rw [hN]
      rcases Nat.lt_or_ge i items.length with h | h
      · exact h
      · rw [List.getElem?_eq_none h] at hp; cases hp
    refine wpAny_with_toks (Nat.le_refl s.toks) (W.item i s _ _ hi st.1 fun v h' tk hPv st' hk htk => ?_)
    have ne : ∀ b o, s.heap.get? b = some o → isSeqObj o → b ∉ [I] := fun b o e hs hm => by
      obtain rfl : b = I := by simpa using hm
      obtain ⟨o', vs, e', _, hd⟩ := hob i _ st.1
      rw [e] at e'; cases e'
      obtain ⟨a, c, q⟩ := hs
      rw [hd] at q; cases q
    have all : ∀ j v p, P j v → items[j]? = some p → Rp h' X v p := fun j v p h1 h2 => (st.2 j v p h1 h2).mono fun b o e hs hb => ⟨hb, hk b o (ne b o e hs) e⟩
    refine ⟨v, rfl, all i v p hPv hp, ⟨st', all⟩, ⟨fun b o h e => hk b o (fun hm => ?_) e, fun _ _ _ e => e, id, rfl, htk⟩⟩
    rcases h with h | h
    · obtain rfl : b = I := by simpa using hm
      exact hI h
    · exact ne b o e h hm
  done := fun s _ _ st _ => wpAny_with_toks (Nat.le_refl s.toks) (W.done s _ _ (by rw [hN]; exact st.1) fun h' tk hk htk => ⟨rfl, ⟨fun b o h e => hk b o (fun hm => by
      obtain rfl : b = I := by simpa using hm
      rcases h with h | hs
      · exact hI h
      · obtain ⟨o', vs, e', _, hd⟩ := hob _ _ st.1
        rw [e] at e'; cases e'
        obtain ⟨a, c, q⟩ := hs
        rw [hd] at q; cases q) e, fun _ _ _ e => e, id, rfl, htk⟩⟩)
  self := fun i s st => W.self i s _ _ st.1 ⟨rfl, rfl⟩
  lets := fun i s t v st => by
    obtain ⟨o, vs, e, hc, hd⟩ := hob i _ st.1
    exact lets_of e hc hn

/-- what is new is not to be left alone -/
theorem not_pr {s s₁ s₂ : Shared} {K : List Addr} {I : Addr} (st : Step s s₁) (h1 : s₁.heap.get? I = Option.none) (hK : ∀ a ∈ K, s₂.heap.get? a = Option.none) (h2 : ∃ o, s₂.heap.get? I = some o) : ¬ Pr s K I := by
  rintro (⟨o, e⟩ | hm)
  · rw [st.heap _ _ e] at h1; cases h1
  · obtain ⟨o, e⟩ := h2
    rw [hK I hm] at e; cases e

theorem evIt_lst {e : Expr} {l : List PV} (h : Ev prog w H0 C true e (.lst l)) : EvIt prog w H0 C e l := fun A s ok F => ev_then h ok F fun v s₁ r st F1 => by
  obtain ⟨a, items, rfl, hpl, ha, rs⟩ := r.lst_inv
  have hl := hpl.isList
  refine wpAny_pyIter_list hl ?_
  have hne : a ≠ s₁.heap.objs.size := by obtain ⟨o, e, _⟩ := hl; exact Nat.ne_of_lt (Heap.lt_size e)
  refine ⟨st.trans (.push _), s₁.heap.objs.size, rfl, fun Z K hXZ hZ hK => ⟨_, Iter.ofWalks (cn := "list_iterator") (Walks.list ok.han _ a hne items) (by rw [← rs.length, Array.length_toList]) (not_pr st (get?_size _) hK ⟨_, Heap.get?_push_size _ rfl⟩)
    (fun i h st => let ⟨o, e, c, d⟩ := st.1; ⟨o, _, e, c, d⟩) (fun i h st b hb => ?_) (by decide), ⟨⟨⟨_, Heap.get?_push_size _ rfl, rfl, rfl⟩, hl.push _⟩, fun j v p h1 h2 => ?_⟩⟩⟩
  · rcases List.mem_cons.mp hb with q | hb
    · exact .inl q
    · obtain rfl : b = a := by simpa using hb
      refine .inr ⟨fun hm => ?_, let ⟨o, e, _, n, d⟩ := st.2; ⟨o, e, _, n, d⟩⟩
      rcases hZ b hm with q | q
      · exact ha q
      · obtain ⟨o, e⟩ : ∃ o, s₁.heap.get? b = some o := by first | exact ⟨_, hl⟩ | exact let ⟨o, e, _⟩ := hl; ⟨o, e⟩
        rw [Heap.get?_push_of_some _ e] at q; cases q
  · obtain ⟨u, e1, e2⟩ := rs.get h2
    have : items[j]? = some u := by simpa using e1
    rw [h1] at this; cases this
    exact e2.toZ (fun _ _ e => Heap.get?_push_of_some _ e) hZ
theorem evIt_tup {e : Expr} {l : List PV} (h : Ev prog w H0 C true e (.tup l)) : EvIt prog w H0 C e l := fun A s ok F => ev_then h ok F fun v s₁ r st F1 => by
  obtain ⟨a, items, n, rfl, hl, ha, rs⟩ := r.tup_inv
  have hl' : s₁.heap.IsTuple a items := ⟨_, hl, rfl, n, rfl⟩
  refine wpAny_pyIter_tuple hl' ?_
  have hne : a ≠ s₁.heap.objs.size := Nat.ne_of_lt (Heap.lt_size hl)
  refine ⟨st.trans (.push _), s₁.heap.objs.size, rfl, fun Z K hXZ hZ hK => ⟨_, Iter.ofWalks (cn := "tuple_iterator") (Walks.tuple ok.han _ a hne items) (by rw [← rs.length, Array.length_toList]) (not_pr st (get?_size _) hK ⟨_, Heap.get?_push_size _ rfl⟩)
    (fun i h st => let ⟨o, e, c, d⟩ := st.1; ⟨o, _, e, c, d⟩) (fun i h st b hb => ?_) (by decide), ⟨⟨⟨_, Heap.get?_push_size _ rfl, rfl, rfl⟩, hl'.push _⟩, fun j v p h1 h2 => ?_⟩⟩⟩
  · rcases List.mem_cons.mp hb with q | hb
    · exact .inl q
    · obtain rfl : b = a := by simpa using hb
      refine .inr ⟨fun hm => ?_, let ⟨o, e, _, n, d⟩ := st.2; ⟨o, e, _, n, d⟩⟩
      rcases hZ b hm with q | q
      · exact ha q
      · obtain ⟨o, e⟩ : ∃ o, s₁.heap.get? b = some o := by first | exact ⟨_, hl⟩ | exact let ⟨o, e, _⟩ := hl; ⟨o, e⟩
        rw [Heap.get?_push_of_some _ e] at q; cases q
  · obtain ⟨u, e1, e2⟩ := rs.get h2
    have : items[j]? = some u := by simpa using e1
    rw [h1] at this; cases this
    exact e2.toZ (fun _ _ e => Heap.get?_push_of_some _ e) hZ
theorem evIt_bytes {b : Bool} {e : Expr} {l : List UInt8} (h : Ev prog w H0 C b e (.bytes l)) : EvIt prog w H0 C e (l.map fun c => .int c.toNat) := fun A s ok F => ev_then h ok F fun v s₁ r st F1 => by
  obtain ⟨t, rfl⟩ := r.bytes_inv
  refine KBw.pyIter_bytes ?_
  refine ⟨st.trans (.push _), s₁.heap.objs.size, rfl, fun Z K hXZ hZ hK => ⟨_, Iter.ofWalks (cn := "bytes_iterator") (KBw.walks ok.han _ l.toArray t) (by simp) (not_pr st (get?_size _) hK ⟨_, Heap.get?_push_size _ rfl⟩)
    (fun i h st => let ⟨o, e, c, d⟩ := st; ⟨o, _, e, c, d⟩) (fun i h st b hb => .inl (by simpa using hb)) (by decide), ⟨⟨_, Heap.get?_push_size _ rfl, rfl, rfl⟩, fun j v p h1 h2 => ?_⟩⟩⟩
  · obtain ⟨c, u, e1, rfl⟩ := h1
    have e1 : l[j]? = some c := by simpa using e1
    rw [List.getElem?_map, e1] at h2
    cases h2
    exact .int _ _

def rangeL (a : Int) (n : Nat) : List PV := (List.range n).map fun i : Nat => PV.int (a + (i : Int))
theorem iter_range {A : Around} (hh : A.handled = Option.none) {N : Nat} {I : Addr} {X K : List Addr} {base : Shared} {a : Int} (hI : ¬ Pr base K I) :
    Iter prog w H0 A I X K base (rangeL a N) (fun i s => IsRangeIter s.heap I (a + (i : Nat) * 1) ((N : Int) - (i : Nat)) 1 ∧ ∀ (j : Nat) v p, (∃ t, v = .int (a + (j : Int) * 1) t) → (rangeL a N)[j]? = some p → Rp s.heap X v p) :=
  Iter.ofWalks (cn := "range_iterator") (Walks.range hh I a 1 N) (by simp [rangeL]) hI (fun i h st => ⟨_, _, st, rfl, rfl⟩) (fun i h st b hb => .inl (by simpa using hb)) (by decide)
theorem rangeL_get {a : Int} {N j : Nat} {p : PV} (h : (rangeL a N)[j]? = some p) : p = .int (a + j) ∧ j < N := by
  unfold rangeL at h
  rw [List.getElem?_map] at h
  rcases Nat.lt_or_ge j N with hj | hj
  · rw [List.getElem?_range hj] at h
    cases h; exact ⟨rfl, hj⟩
  · rw [List.getElem?_eq_none (by simpa using hj)] at h; cases h
theorem evIt_range {b : Bool} {e : Expr} {np pos : Pos} {n : Nat} (T : TF H0 mg mb) (hn : GName mg mb C (PySem.Str.ofString "range") (.type "range")) (h : Ev prog w H0 C b e (.int n)) (hb : n < 1000000) (he : isStarred e = false := by rfl) :
    EvIt prog w H0 C (.Call (.Name (PySem.Str.ofString "range") np) [e] [] pos) (rangeL 0 n) := fun A s ok F =>
  wpAny_callName T hn (.inr (.inl ⟨_, rfl⟩)) (evs_cons h evs_nil he) ok F (fun vs s₁ r st F1 => by
    obtain ⟨v, ws, rfl, r1, r2⟩ := r.cons_inv
    obtain rfl := r2.nil_inv
    obtain ⟨t, rfl⟩ := r1.int_inv
    refine call_range_1 (wpAny_pyIter_range (IsRange.new ..) (small_one (by decide) (by decide) (by omega) (by omega)) ?_)
    have hsz : Builtin.Range.rangeSize 0 (n : Int) 1 = (n : Int) := by rw [rangeSize_one]; split <;> omega
    refine ⟨st.trans (.ht (fun _ _ e => Heap.get?_push_of_some _ (Heap.get?_push_of_some _ e)) (by dsimp only; omega)), _, rfl, fun Z K hXZ hZ hK => ⟨_, iter_range ok.han (not_pr (s₁ := { s₁ with heap := _ }) (st.trans (.hp fun _ _ e => Heap.get?_push_of_some _ e)) (get?_size _) hK ⟨_, Heap.get?_push_size _ rfl⟩), ⟨?_, fun j v p h1 h2 => ?_⟩⟩⟩
    · rw [hsz]
      have := Heap.get?_push_size (s₁.heap.push { cls := .type "range", data := .fields #[.int 0 s₁.toks, .int n t, .int 1 (s₁.toks + 1)] }) (o := { cls := .type "range_iterator", data := .fields #[rawInt 0, rawInt n, rawInt 1] }) rfl
      simpa using this
    · obtain ⟨u, rfl⟩ := h1
      obtain ⟨rfl, _⟩ := rangeL_get h2
      have : (0 : Int) + (j : Int) * 1 = 0 + j := by omega
      rw [this]; exact .int _ _
    ) (by simp [he]) (by decide +kernel)
theorem evIt_range2 {b : Bool} {e e' : Expr} {np pos : Pos} {m n : Nat} (T : TF H0 mg mb) (hn : GName mg mb C (PySem.Str.ofString "range") (.type "range")) (h : Ev prog w H0 C b e (.int m)) (h' : Ev prog w H0 C b e' (.int n)) (hb : m < 1000000) (hb' : n < 1000000) (he : isStarred e = false := by rfl) (he' : isStarred e' = false := by rfl) :
    EvIt prog w H0 C (.Call (.Name (PySem.Str.ofString "range") np) [e, e'] [] pos) (rangeL m (n - m)) := fun A s ok F =>
  wpAny_callName T hn (.inr (.inl ⟨_, rfl⟩)) (evs_cons h (evs_cons h' evs_nil he') he) ok F (fun vs s₁ r st F1 => by
    obtain ⟨v, ws, rfl, r1, r2⟩ := r.cons_inv
    obtain ⟨v', ws, rfl, r3, r4⟩ := r2.cons_inv
    obtain rfl := r4.nil_inv
    obtain ⟨t, rfl⟩ := r1.int_inv
    obtain ⟨t', rfl⟩ := r3.int_inv
    refine call_range_2 (wpAny_pyIter_range (IsRange.new ..) (small_one (by omega) (by omega) (by omega) (by omega)) ?_)
    have hsz : Builtin.Range.rangeSize (m : Int) (n : Int) 1 = ((n - m : Nat) : Int) := by rw [rangeSize_one]; split <;> omega
    refine ⟨st.trans (.ht (fun _ _ e => Heap.get?_push_of_some _ (Heap.get?_push_of_some _ e)) (by dsimp only; omega)), _, rfl, fun Z K hXZ hZ hK => ⟨_, iter_range ok.han (not_pr (s₁ := { s₁ with heap := _ }) (st.trans (.hp fun _ _ e => Heap.get?_push_of_some _ e)) (get?_size _) hK ⟨_, Heap.get?_push_size _ rfl⟩), ⟨?_, fun j v p h1 h2 => ?_⟩⟩⟩
    · rw [hsz]
      have := Heap.get?_push_size (s₁.heap.push { cls := .type "range", data := .fields #[.int m t, .int n t', .int 1 s₁.toks] }) (o := { cls := .type "range_iterator", data := .fields #[rawInt m, rawInt ((n - m : Nat) : Int), rawInt 1] }) rfl
      simpa using this
    · obtain ⟨u, rfl⟩ := h1
      obtain ⟨rfl, _⟩ := rangeL_get h2
      have : (m : Int) + (j : Int) * 1 = m + j := by omega
      rw [this]; exact .int _ _
    ) (by simp [he, he']) (by decide +kernel)
end
end Mine

namespace Mine

def Cx.w (C : Cx) (vs : List (String × PV)) (own : List (String × Addr × List PV)) : Cx := { C with vs := vs, own := own }
theorem Cx.like_w (C : Cx) (vs : List (String × PV)) (own : List (String × Addr × List PV)) : C.like (C.w vs own) := ⟨rfl, rfl, rfl, rfl, rfl, fun _ h => h⟩
theorem Cx.eq_w {C C' : Cx} (hl : C.like C') (hX : C'.X = C.X) (vs : List (String × PV)) (own : List (String × Addr × List PV)) : C'.w vs own = C.w vs own := by
  obtain ⟨e1, e2, e3, e4, e5, e6⟩ := hl
  cases C; cases C'
  simp only at e1 e2 e3 e4 e5 hX
  subst e1; subst e2; subst e3; subst e4; subst e5; subst hX
  rfl

section
variable {prog : Program} {w : World} {H0 : Heap} {mg mb : PySem.Str → Option Value} {C : Cx}

theorem codeFor {A : Around} {R : Result → Shared → Prop} {s : Shared} {target : Expr} {it : Value} {body orelse : List Stmt} {env : Env} (I : Nat → Shared → Prop)
    (turn : ∀ n s, I n s → wpAny (model prog w) A (pyNext it) (fun r s₁ => match r with
      | none => wpAny (model prog w) A (execs orelse env) (fun f s₃ => R (.ok f) s₃) (fun _ _ => False) s₁
      | some v => wpAny (model prog w) A (letOwnedTupleGo target it v) (fun _ s₁ => wpAny (model prog w) A (assign target env v) (fun _ s₂ => wpAny (model prog w) A (execs body env) (fun f s₃ => match f with
          | .next | .cont => ∃ m, m < n ∧ I m s₃
          | .brk => R (.ok .next) s₃
          | .ret v => R (.ok (.ret v)) s₃) (fun _ _ => False) s₂) (fun _ _ => False) s₁) (fun _ _ => False) s₁) (fun _ _ => False) s)
    (n : Nat) (h : I n s) : codeAny (model prog w) A (.forLoop target it body orelse env) R s := by
  refine codeAny_loop' rfl I (fun n s hI => ?_) n h
  show wpAny _ _ ((forTurn target it body orelse env).onRaise (fun x => do noteFrame x env; theTreesLotGoes x)) _ _ s
  refine wpAny_onRaise (wpAny_mono (E := fun _ _ => False) ?_ (fun _ _ h => h) fun _ _ h => h.elim)
  simp only [forTurn]
  refine wpAny_bind (wpAny_standAt (wpAny_bind (wpAny_onRaise (wpAny_mono (turn n s hI) (fun r s₁ h₁ => ?_) fun _ _ h' => h'.elim))))
  cases r with
  | none => exact wpAny_pure (.inr ⟨rfl, codeAny_block (wpAny_mono h₁ (fun _ _ h => h) fun _ _ h => h.elim)⟩)
  | some v =>
    refine wpAny_bind (wpAny_mono h₁ (fun _ s₁ h₁ => ?_) fun _ _ h' => h')
    refine wpAny_bind (wpAny_mono h₁ (fun _ s₂ h₂ => wpAny_bind (wpAny_mono h₂ (fun f s₃ h₃ => ?_) fun _ _ h' => h')) fun _ _ h' => h')
    cases f with
    | next => exact wpAny_pure (.inl ⟨rfl, h₃⟩)
    | cont => exact wpAny_pure (.inl ⟨rfl, h₃⟩)
    | brk => exact wpAny_pure h₃
    | ret v => exact wpAny_pure h₃

/-- the addresses that a frame knows are left alone -/
structure Apart (H0 : Heap) (C : Cx) (s : Shared) (K : List Addr) : Prop where
  glb : ∀ b o, H0.get? b = some o → Pr s K b
  s0 : ∀ b o, C.s0.heap.get? b = some o → Pr s K b
  g0 : ∀ (j : Nat) x, C.s0.gens[j]? = some x → j < s.gens.size
  loc : Pr s K C.env.locals
  cel : ∀ x c, (x, c) ∈ C.env.cells → Pr s K c
  X : ∀ a ∈ C.X, Pr s K a
theorem gens_lt {s : Shared} {j : Nat} {x : GenState} (e : s.gens[j]? = some x) : j < s.gens.size := by
  rcases Nat.lt_or_ge j s.gens.size with h | h
  · exact h
  · rw [Array.getElem?_eq_none h] at e; cases e
theorem Fs.apart' {s : Shared} {K : List Addr} (F : Fs H0 C s) : Apart H0 C s K := by
  refine ⟨fun b o e => .inl ⟨o, F.glb b o e⟩, fun b o e => .inl ⟨o, F.step.heap b o e⟩, fun j x e => gens_lt (F.step.gens j x e), ?_, fun x c hm => ?_, fun a ha => .inl (F.xs a ha)⟩
  · obtain ⟨m, hn⟩ := F.ns
    obtain ⟨o, e, _⟩ := ns_obj hn
    exact .inl ⟨o, e⟩
  · obtain ⟨_, v, hc⟩ := F.cel x c hm
    obtain ⟨o, e, _⟩ := cell_obj hc
    exact .inl ⟨o, e⟩
theorem Fs.mv {s s' s₁ : Shared} {C' : Cx} {K : List Addr} (P : Apart H0 C s K) (hl : C.like C') (hX : C'.X = C.X) (F : Fs H0 C' s') (m : Mv s K s' s₁) : Fs H0 C' s₁ := by
  have va : ∀ {y v}, VarAt s'.heap C'.env y v → VarAt s₁.heap C'.env y v := by
    rintro y v (⟨k, mm, hm, z⟩ | ⟨k, c, hc, z⟩)
    · exact .inl ⟨k, mm, hm.at' fun o e => m.heap _ o (.inl (by rw [hl.1]; exact P.loc)) e, z⟩
    · refine .inr ⟨k, c, hc, ?_⟩
      obtain ⟨o, e, d⟩ := z
      exact ⟨o, m.heap _ o (.inl (P.cel _ c (by rw [← hl.1]; exact mem_of_lookup hc))) e, d⟩
  have rp : ∀ {v p}, Rp s'.heap C'.X v p → Rp s₁.heap C'.X v p := fun r => r.mono fun b o e hs hb => ⟨hb, m.heap b o (.inr hs) e⟩
  exact {
    glb := fun b o e => m.heap b o (.inl (P.glb b o e)) (F.glb b o e)
    glb0 := F.glb0
    step := ⟨fun b o e => m.heap b o (.inl (P.s0 b o (by rw [← hl.2.1]; exact e))) (F.step.heap b o e), fun i x e => m.gens i x (P.g0 i x (by rw [← hl.2.1]; exact e)) (F.step.gens i x e), fun h => m.bare (F.step.bare h), m.os.trans F.step.os, Nat.le_trans F.step.tks m.tks⟩
    tk := Nat.le_trans F.tk m.tks
    kind := F.kind
    glo := F.glo
    bui := F.bui
    ns := let ⟨mm, hm⟩ := F.ns; ⟨mm, hm.at' fun o e => m.heap _ o (.inl (by rw [hl.1]; exact P.loc)) e⟩
    loc := F.loc
    cel := fun x c hm => let ⟨a, v, o, e, d⟩ := F.cel x c hm; ⟨a, v, o, m.heap _ o (.inl (P.cel x c (by rw [← hl.1]; exact hm))) e, d⟩
    apart := F.apart
    cdf := F.cdf
    yx := F.yx
    y0 := F.y0
    xs := fun a ha => let ⟨o, e⟩ := F.xs a ha; ⟨o, m.heap a o (.inl (P.X a (by rw [← hX]; exact ha))) e⟩
    vars := fun q hq => let ⟨v, a, b⟩ := F.vars q hq; ⟨v, va a, rp b⟩
    owns := fun q hq => let ⟨a, a', b, its, ⟨n, e⟩, d⟩ := F.owns q hq; ⟨a, a', va b, its, ⟨n, m.heap _ _ (.inr ⟨_, _, rfl⟩) e⟩, d.mono fun b o e hs hb => ⟨hb, m.heap b o (.inr hs) e⟩⟩
    od := F.od }
theorem StepB.mv {s s' s₁ : Shared} {K : List Addr} (st : StepB C s s') (m : Mv s K s' s₁) : StepB C s s₁ :=
  ⟨fun b o h1 h2 h3 e => m.heap b o (.inl (.inl ⟨o, e⟩)) (st.heap b o h1 h2 h3 e), fun j x e => m.gens j x (gens_lt e) (st.gens j x e)⟩
/-- statements of the frame leave its iterators alone -/
theorem Iter.stay {A : Around} {s s' s₁ : Shared} {C' : Cx} {I : Addr} {items : List PV} {K : List Addr} {St : Nat → Shared → Prop} {i : Nat} (T : Iter prog w H0 A I C.X K s items St) (P : Apart H0 C s K) (hl : C.like C') (hX : C'.X = C.X) (F : Fs H0 C' s') (st : St i s') (sb : StepB C' s' s₁) : St i s₁ := by
  refine T.keep i s' s₁ st (fun b o e hb => sb.heap b o ?_ ?_ ?_ e) sb.gens
  · rcases hb with ⟨hb, _⟩ | ⟨hs, hb⟩
    · rintro rfl; exact hb (by rw [hl.1]; exact P.loc)
    · rintro rfl
      obtain ⟨m, hn⟩ := F.ns
      obtain ⟨o', e', h, _⟩ := ns_obj hn
      rw [e] at e'; cases e'; exact h hs
  · rintro x c hm rfl
    rcases hb with ⟨hb, _⟩ | ⟨hs, hb⟩
    · exact hb (P.cel x _ (by rw [← hl.1]; exact hm))
    · obtain ⟨_, v, hc⟩ := F.cel x _ hm
      obtain ⟨o', e', h, _⟩ := cell_obj hc
      rw [e] at e'; cases e'; exact h hs
  · rcases hb with ⟨hb, _⟩ | ⟨hs, hb⟩
    · exact fun hm => hb (P.X b (by rw [← hX]; exact hm))
    · rw [hX]; exact hb

theorem alloc_of {s s' : Shared} {C' : Cx} (hl : C.like C') (hX : C'.X = C.X) (F : Fs H0 C' s') (sb : StepB C s s') : ∀ a, a ∈ C.X ∨ Pr s [] a → ∃ o, s'.heap.get? a = some o := by
  rintro a (ha | ⟨o, e⟩ | h)
  · exact F.xs a (by rw [hX]; exact ha)
  · by_cases h1 : a = C.env.locals
    · obtain ⟨m, hn⟩ := F.ns
      obtain ⟨o, e, _⟩ := ns_obj hn
      exact ⟨o, by rw [h1, ← hl.1]; exact e⟩
    · by_cases h2 : ∃ x, (x, a) ∈ C.env.cells
      · obtain ⟨x, hx⟩ := h2
        obtain ⟨_, v, hc⟩ := F.cel x a (by rw [hl.1]; exact hx)
        obtain ⟨o, e, _⟩ := cell_obj hc
        exact ⟨o, e⟩
      · by_cases h3 : a ∈ C.X
        · exact F.xs a (by rw [hX]; exact h3)
        · exact ⟨o, sb.heap a o h1 (fun x c hm q => h2 ⟨x, by rw [q]; exact hm⟩) h3 e⟩
  · cases h
theorem run_forG {target iter : Expr} {body rest : List Stmt} {pos : Pos} {items : List PV} {vsK : Nat → List (String × PV)} {ownK : Nat → List (String × Addr × List PV)} {Kt : Nat → PV → Cx} {N : Cx → Prop} {R : PV → Prop} {Al : Nat → Prop} (al0 : Al 0)
    (hit : EvIt prog w H0 C iter items) (h0v : ∀ q ∈ vsK 0, q ∈ C.vs) (h0o : ∀ q ∈ ownK 0, q ∈ C.own)
    (asg : ∀ i p A s v (Q : Unit → Shared → Prop), items[i]? = some p → AOK C.n A → Fs H0 (C.w (vsK i) (ownK i)) s → Rp s.heap C.X v p → (∀ s', StepB (C.w (vsK i) (ownK i)) s s' → (C.w (vsK i) (ownK i)).like (Kt i p) → (Kt i p).X = C.X → Fs H0 (Kt i p) s' → Q () s') →
      wpAny (model prog w) A (assign target C.env v) Q (fun _ _ => False) s)
    (turn : ∀ i p, Al i → items[i]? = some p → Run prog w H0 (Kt i p) body (fun C' => Al (i + 1) ∧ C'.X = C.X ∧ (∀ q ∈ vsK (i + 1), q ∈ C'.vs) ∧ ∀ q ∈ ownK (i + 1), q ∈ C'.own) R)
    (k : Al items.length → Run prog w H0 (C.w (vsK items.length) (ownK items.length)) rest N R)
    (hs : ∀ x, foldedSetIterable iter C.env x = pure x := by intro _; rfl) : Run prog w H0 C (.For target iter body [] pos :: rest) N R := fun A s ok F => by
  refine wpAny_execs_cons (wpAny_For (wpAny_mono (hit A s ok F) (fun x s₁ h₁ => wpAny_mono h₁ (fun it s₂ h₂ => ?_) fun _ _ h => h) fun _ _ h => h) hs)
  obtain ⟨stp, I, rfl, mk⟩ := h₂
  obtain ⟨St, T, st0⟩ := mk C.X [] (fun _ h => h) (fun _ h => .inl h) (fun _ h => nomatch h)
  have P : Apart H0 C s [] := F.apart'
  refine codeFor (fun m s' => ∃ i, m = items.length + 1 - i ∧ Al i ∧ i ≤ items.length ∧ St i s' ∧ Fs H0 (C.w (vsK i) (ownK i)) s' ∧ StepB C s s') ?_ (items.length + 1)
    ⟨0, rfl, al0, Nat.zero_le _, st0, (F.go stp).sub h0v h0o, StepB.of stp⟩
  rintro m s' ⟨i, rfl, hal, hi, st, Fi, sb⟩
  by_cases hlt : i < items.length
  · obtain ⟨p, hp⟩ : ∃ p, items[i]? = some p := ⟨_, List.getElem?_eq_getElem hlt⟩
    refine wpAny_mono (T.item i s' p Fi.glb Fi.tk st hp (alloc_of (C := C) (C.like_w (vsK i) (ownK i)) rfl Fi sb)) (fun r s₃ hr => ?_) fun _ _ h => h
    obtain ⟨v, rfl, rv, st', mv⟩ := hr
    have F3 : Fs H0 (C.w (vsK i) (ownK i)) s₃ := Fs.mv P (C.like_w _ _) rfl Fi mv
    have sb3 := StepB.mv sb mv
    refine wpAny_mono (T.lets (i + 1) s₃ target v st') (fun _ s₄ e => ?_) fun _ _ h => h
    subst e
    refine asg i p A s₄ v _ hp ok F3 rv fun s₅ sb5 hl5 hX5 F5 => ?_
    have hl5' : C.like (Kt i p) := Cx.like_trans (C.like_w _ _) hl5
    have st5 := T.stay P (C.like_w (vsK i) (ownK i)) rfl F3 st' sb5
    have := turn i p hal hp A s₅ (by rw [hl5'.2.2.1]; exact ok) F5
    rw [hl5'.1] at this
    refine wpAny_mono this (fun f s₆ hf => ?_) fun _ _ h => h
    have sb6 : StepB C s s₆ := (sb3.trans (C.like_w (vsK i) (ownK i)) (fun a ha => .inl ha) sb5).trans hl5' (fun a ha => .inl (by rw [← hX5]; exact ha)) hf.1
    have st6 := T.stay P hl5' hX5 F5 st5 hf.1
    have h2 := hf.2
    cases f with
    | next =>
      obtain ⟨C', ⟨hal', hX, hv, ho⟩, hl, F', hx⟩ := h2
      refine ⟨items.length + 1 - (i + 1), by omega, i + 1, rfl, hal', hlt, st6, ?_, sb6⟩
      have := F'.sub hv ho
      rw [show ({ C' with vs := vsK (i + 1), own := ownK (i + 1) } : Cx) = C.w (vsK (i + 1)) (ownK (i + 1)) from Cx.eq_w (Cx.like_trans hl5' hl) hX _ _] at this
      exact this
    | ret v =>
      obtain ⟨p', r1, r2, r3, r4⟩ := h2
      rw [hl5'.2.2.2.1] at r2
      rw [hl5'.2.1] at r3 r4
      rw [hl5'.2.2.2.2.1] at r4
      exact ⟨sb6, p', r1, r2, r3, r4⟩
    | brk => exact h2.elim
    | cont => exact h2.elim
  · have hin : i = items.length := by omega
    subst hin
    refine wpAny_mono (T.done s' Fi.glb Fi.tk st (alloc_of (C := C) (C.like_w (vsK items.length) (ownK items.length)) rfl Fi sb)) (fun r s₃ hr => ?_) fun _ _ h => h
    obtain ⟨rfl, mv⟩ := hr
    have F3 := Fs.mv P (C.like_w (vsK items.length) (ownK items.length)) rfl Fi mv
    exact wpAny_execs_nil (run_after (k hal) ok (C.like_w _ _) F3 (fun a ha => .inl ha) (StepB.mv sb mv))

theorem run_forA {x : String} {px pos : Pos} {iter : Expr} {body rest : List Stmt} {items : List PV} (vsK : Nat → List (String × PV)) (ownK : Nat → List (String × Addr × List PV)) {N : Cx → Prop} {R : PV → Prop} (Al : Nat → Prop) (al0 : Al 0)
    (hit : EvIt prog w H0 C iter items) (h0v : ∀ q ∈ vsK 0, q ∈ C.vs) (h0o : ∀ q ∈ ownK 0, q ∈ C.own)
    (hk : C.env.kindOf (PySem.Str.ofString x) = some .local ∨ C.env.kindOf (PySem.Str.ofString x) = some .cell)
    (turn : ∀ i p, Al i → items[i]? = some p → Run prog w H0 ((C.w (vsK i) (ownK i)).put x p) body (fun C' => Al (i + 1) ∧ C'.X = C.X ∧ (∀ q ∈ vsK (i + 1), q ∈ C'.vs) ∧ ∀ q ∈ ownK (i + 1), q ∈ C'.own) R)
    (k : Al items.length → Run prog w H0 (C.w (vsK items.length) (ownK items.length)) rest N R)
    (hs : ∀ x, foldedSetIterable iter C.env x = pure x := by intro _; rfl) : Run prog w H0 C (.For (.Name (PySem.Str.ofString x) px) iter body [] pos :: rest) N R :=
  run_forG (Al := Al) (Kt := fun i p => (C.w (vsK i) (ownK i)).put x p) al0 hit h0v h0o (fun i p A s v Q hp ok F r kk => wpAny_assign_Name (store_put (C := C.w (vsK i) (ownK i)) F hk r fun s' sb F' => kk s' sb (Cx.like_put _ _ _) rfl F')) turn k hs
theorem run_for2A {x y : String} {px py tp pos : Pos} {kk : Nat} {iter : Expr} {body rest : List Stmt} {items : List (PV × PV)} (vsK : Nat → List (String × PV)) (ownK : Nat → List (String × Addr × List PV)) {N : Cx → Prop} {R : PV → Prop} (Al : Nat → Prop) (al0 : Al 0)
    (hit : EvIt prog w H0 C iter (items.map fun q => .tup [q.1, q.2])) (h0v : ∀ q ∈ vsK 0, q ∈ C.vs) (h0o : ∀ q ∈ ownK 0, q ∈ C.own)
    (hkx : C.env.kindOf (PySem.Str.ofString x) = some .local ∨ C.env.kindOf (PySem.Str.ofString x) = some .cell) (hky : C.env.kindOf (PySem.Str.ofString y) = some .local ∨ C.env.kindOf (PySem.Str.ofString y) = some .cell)
    (turn : ∀ i p q, Al i → items[i]? = some (p, q) → Run prog w H0 (((C.w (vsK i) (ownK i)).put x p).put y q) body (fun C' => Al (i + 1) ∧ C'.X = C.X ∧ (∀ q ∈ vsK (i + 1), q ∈ C'.vs) ∧ ∀ q ∈ ownK (i + 1), q ∈ C'.own) R)
    (k : Al items.length → Run prog w H0 (C.w (vsK items.length) (ownK items.length)) rest N R)
    (hs : ∀ x, foldedSetIterable iter C.env x = pure x := by intro _; rfl) : Run prog w H0 C (.For (.Tuple [.Name (PySem.Str.ofString x) px, .Name (PySem.Str.ofString y) py] kk tp) iter body [] pos :: rest) N R := by
  have inv : ∀ {i : Nat} {p : PV}, (items.map fun q => PV.tup [q.1, q.2])[i]? = some p → ∃ q, items[i]? = some q ∧ p = .tup [q.1, q.2] := fun {i p} h => by
    rw [List.getElem?_map] at h
    obtain ⟨q, hq, e⟩ := Option.map_eq_some_iff.mp h
    exact ⟨q, hq, e.symm⟩
  refine run_forG (Al := Al) (Kt := fun i p => match p with | .tup [a, b] => ((C.w (vsK i) (ownK i)).put x a).put y b | _ => C) al0 hit h0v h0o (fun i p A s v Q hp ok F r kk => ?_) (fun i p hal hp => ?_) (by rw [List.length_map]; exact k) hs
  · obtain ⟨q, hq, rfl⟩ := inv hp
    exact store_pair (C := C.w (vsK i) (ownK i)) F ok.han hkx hky r fun s' sb F' => kk s' sb (Cx.like_trans (Cx.like_put _ _ _) (Cx.like_put _ _ _)) rfl F'
  · obtain ⟨q, hq, rfl⟩ := inv hp
    exact turn i q.1 q.2 hal hq

theorem run_for {x : String} {px pos : Pos} {iter : Expr} {body rest : List Stmt} {items : List PV} (vsK : Nat → List (String × PV)) (ownK : Nat → List (String × Addr × List PV)) {N : Cx → Prop} {R : PV → Prop}
    (hit : EvIt prog w H0 C iter items) (h0v : ∀ q ∈ vsK 0, q ∈ C.vs) (h0o : ∀ q ∈ ownK 0, q ∈ C.own)
    (hk : C.env.kindOf (PySem.Str.ofString x) = some .local ∨ C.env.kindOf (PySem.Str.ofString x) = some .cell)
    (turn : ∀ i p, items[i]? = some p → Run prog w H0 ((C.w (vsK i) (ownK i)).put x p) body (fun C' => C'.X = C.X ∧ (∀ q ∈ vsK (i + 1), q ∈ C'.vs) ∧ ∀ q ∈ ownK (i + 1), q ∈ C'.own) R)
    (k : Run prog w H0 (C.w (vsK items.length) (ownK items.length)) rest N R)
    (hs : ∀ x, foldedSetIterable iter C.env x = pure x := by intro _; rfl) : Run prog w H0 C (.For (.Name (PySem.Str.ofString x) px) iter body [] pos :: rest) N R :=
  run_forA vsK ownK (fun _ => True) trivial hit h0v h0o hk (fun i p _ hp => run_mono (turn i p hp) (fun C' h => ⟨trivial, h⟩) fun _ h => h) (fun _ => k) hs
theorem run_for2 {x y : String} {px py tp pos : Pos} {kk : Nat} {iter : Expr} {body rest : List Stmt} {items : List (PV × PV)} (vsK : Nat → List (String × PV)) (ownK : Nat → List (String × Addr × List PV)) {N : Cx → Prop} {R : PV → Prop}
    (hit : EvIt prog w H0 C iter (items.map fun q => .tup [q.1, q.2])) (h0v : ∀ q ∈ vsK 0, q ∈ C.vs) (h0o : ∀ q ∈ ownK 0, q ∈ C.own)
    (hkx : C.env.kindOf (PySem.Str.ofString x) = some .local ∨ C.env.kindOf (PySem.Str.ofString x) = some .cell) (hky : C.env.kindOf (PySem.Str.ofString y) = some .local ∨ C.env.kindOf (PySem.Str.ofString y) = some .cell)
    (turn : ∀ i p q, items[i]? = some (p, q) → Run prog w H0 (((C.w (vsK i) (ownK i)).put x p).put y q) body (fun C' => C'.X = C.X ∧ (∀ q ∈ vsK (i + 1), q ∈ C'.vs) ∧ ∀ q ∈ ownK (i + 1), q ∈ C'.own) R)
    (k : Run prog w H0 (C.w (vsK items.length) (ownK items.length)) rest N R)
    (hs : ∀ x, foldedSetIterable iter C.env x = pure x := by intro _; rfl) : Run prog w H0 C (.For (.Tuple [.Name (PySem.Str.ofString x) px, .Name (PySem.Str.ofString y) py] kk tp) iter body [] pos :: rest) N R :=
  run_for2A vsK ownK (fun _ => True) trivial hit h0v h0o hkx hky (fun i p q _ hp => run_mono (turn i p q hp) (fun C' h => ⟨trivial, h⟩) fun _ h => h) (fun _ => k) hs

/-- a while that turns `n` times -/
theorem run_while {test : Expr} {body rest : List Stmt} {pos : Pos} (vsK : Nat → List (String × PV)) (n : Nat) {N : Cx → Prop} {R : PV → Prop} (h0v : ∀ q ∈ vsK n, q ∈ C.vs)
    (yes : ∀ i, i < n → Bt prog w H0 (C.w (vsK (i + 1)) C.own) test true) (no : Bt prog w H0 (C.w (vsK 0) C.own) test false)
    (turn : ∀ i, i < n → Run prog w H0 (C.w (vsK (i + 1)) C.own) body (fun C' => C'.X = C.X ∧ (∀ q ∈ vsK i, q ∈ C'.vs) ∧ ∀ q ∈ C.own, q ∈ C'.own) R)
    (k : Run prog w H0 (C.w (vsK 0) C.own) rest N R) : Run prog w H0 C (.While test body [] pos :: rest) N R := fun A s ok F => by
  refine wpAny_execs_cons (wpAny_While ?_)
  refine codeAny_whileLoop (fun m s' => m ≤ n ∧ Fs H0 (C.w (vsK m) C.own) s' ∧ StepB C s s') ?_ n ⟨Nat.le_refl _, F.sub h0v (fun _ h => h), StepB.refl C s⟩
  rintro m s' ⟨hm, Fi, sb⟩
  cases m with
  | zero =>
    refine wpAny_mono (E := fun _ _ => False) (bt_then (C := C.w (vsK 0) C.own) no ok Fi fun s₁ st F1 => ?_) (fun _ _ h => h) fun _ _ h => h.elim
    simp only [Bool.false_eq_true, if_false]
    exact wpAny_execs_nil (run_after k ok (C.like_w _ _) F1 (fun a ha => .inl ha) (sb.trans (C.like_w _ _) (fun a ha => .inl ha) (StepB.of st)))
  | succ m =>
    refine wpAny_mono (E := fun _ _ => False) (bt_then (C := C.w (vsK (m + 1)) C.own) (yes m hm) ok Fi fun s₁ st F1 => ?_) (fun _ _ h => h) fun _ _ h => h.elim
    simp only [if_true]
    refine wpAny_mono (turn m hm A s₁ ok F1) (fun f s₂ hf => ?_) fun _ _ h => h.elim
    have sb2 : StepB C s s₂ := (sb.trans (C.like_w _ _) (fun a ha => .inl ha) (StepB.of st)).trans (C.like_w (vsK (m + 1)) C.own) (fun a ha => .inl ha) hf.1
    have h2 := hf.2
    cases f with
    | next =>
      obtain ⟨C', ⟨hX, hv, ho⟩, hl, F', hx⟩ := h2
      refine ⟨m, Nat.lt_succ_self m, Nat.le_of_lt hm, ?_, sb2⟩
      have := F'.sub hv ho
      rw [show ({ C' with vs := vsK m, own := C.own } : Cx) = C.w (vsK m) C.own from Cx.eq_w (Cx.like_trans (C.like_w _ _) hl) hX _ _] at this
      exact this
    | ret v => exact ⟨sb2, h2⟩
    | brk => exact h2.elim
    | cont => exact h2.elim
end
end Mine

namespace Mine

theorem bindL_not {k : PySem.Str → Option NameKind} : ∀ {bs : List (PySem.Str × Value)} {m : PySem.Str → Option Value} {x : PySem.Str}, x ∉ bs.map (·.1) → bindL k bs m x = m x
  | [], _, _, _ => rfl
  | (n, v) :: r, m, x, h => by
    rw [List.map_cons, List.mem_cons, not_or] at h
    unfold bindL
    rw [bindL_not h.2]
    split
    · exact if_neg h.1
    · rfl
theorem bindC_not {k : PySem.Str → Option NameKind} : ∀ {bs : List (PySem.Str × Value)} {m : PySem.Str → Option Value} {x : PySem.Str}, x ∉ bs.map (·.1) → bindC k bs m x = m x
  | [], _, _, _ => rfl
  | (n, v) :: r, m, x, h => by
    rw [List.map_cons, List.mem_cons, not_or] at h
    unfold bindC
    rw [bindC_not h.2]
    split
    · rfl
    · exact if_neg h.1
theorem bindL_at {k : PySem.Str → Option NameKind} : ∀ {bs : List (PySem.Str × Value)} {m : PySem.Str → Option Value} {x : PySem.Str} {v : Value}, (bs.map (·.1)).Nodup → (x, v) ∈ bs → k x = some .local → bindL k bs m x = some v
  | (n, u) :: r, m, x, v, hn, hm, hk => by
    rw [List.map_cons, List.nodup_cons] at hn
    unfold bindL
    rcases List.mem_cons.mp hm with e | hm
    · cases e
      rw [bindL_not hn.1, if_pos hk]; simp
    · exact bindL_at hn.2 hm hk
theorem bindC_at {k : PySem.Str → Option NameKind} : ∀ {bs : List (PySem.Str × Value)} {m : PySem.Str → Option Value} {x : PySem.Str} {v : Value}, (bs.map (·.1)).Nodup → (x, v) ∈ bs → k x = some .cell → bindC k bs m x = some v
  | (n, u) :: r, m, x, v, hn, hm, hk => by
    rw [List.map_cons, List.nodup_cons] at hn
    unfold bindC
    rcases List.mem_cons.mp hm with e | hm
    · cases e
      rw [bindC_not hn.1, if_neg (by rw [hk]; decide)]; simp
    · exact bindC_at hn.2 hm hk

theorem cellsFrom_acc : ∀ (names : List (PySem.Str × NameKind)) (n : Nat) (acc : List (PySem.Str × Addr)) (x : PySem.Str), x ∈ acc.map (·.1) → x ∈ (cellsFrom n names acc).map (·.1)
  | [], _, _, _, h => h
  | (m, k) :: r, n, acc, x, h => by
    unfold cellsFrom
    split
    · exact cellsFrom_acc r _ _ x (by simp; exact .inr (by simpa using h))
    · exact cellsFrom_acc r _ _ x h
theorem cellsFrom_has : ∀ (names : List (PySem.Str × NameKind)) (n : Nat) (acc : List (PySem.Str × Addr)) (x : PySem.Str), names.lookup x = some .cell → x ∈ (cellsFrom n names acc).map (·.1)
  | [], _, _, _, h => by simp at h
  | (m, k) :: r, n, acc, x, h => by
    rw [List.lookup_cons] at h
    unfold cellsFrom
    cases hb : x == m with
    | true =>
      rw [hb] at h
      simp only [Option.some.injEq] at h
      subst h
      rw [if_pos (by decide)]
      exact cellsFrom_acc r _ _ x (by simp [beq_iff_eq.mp hb])
    | false =>
      rw [hb] at h
      split
      · exact cellsFrom_has r _ _ x h
      · exact cellsFrom_has r _ _ x h
theorem lookup_of_mem_fst {cs : List (PySem.Str × Addr)} {x : PySem.Str} (h : x ∈ cs.map (·.1)) : ∃ c, cs.lookup x = some c := by
  cases e : cs.lookup x with
  | some c => exact ⟨c, rfl⟩
  | none =>
    exfalso
    obtain ⟨q, hq, rfl⟩ := List.mem_map.mp h
    have := List.lookup_eq_none_iff.mp e q hq
    simp at this

section
variable {prog : Program} {w : World} {H0 : Heap} {mg mb : PySem.Str → Option Value}

/-- a function of the text's -/
structure Fn (H0 : Heap) (a : Addr) (body : List Stmt) (scope : Scope) (names : List String) : Prop where
  at_ : ∃ o fd, H0.get? a = some o ∧ o.data = .func fd ∧ H0.CodeRec fd.code fd.qualname ∧ fd.body = .stmts body ∧ fd.scope = scope ∧ fd.globals = mainGlobals ∧ fd.builtins = builtinsNs ∧ fd.closure = [] ∧
    ∀ vs : List Value, vs.length = names.length → bindArgs fd ⟨vs, []⟩ = pure ((names.map PySem.Str.ofString).zip vs)

/-- the frame of a call -/
def entry (env : Env) (s : Shared) (n : Nat) (X : List Addr) (fr : Bool) (names : List String) (ps : List PV) : Cx := ⟨env, s, n, X, X, fr, names.zip ps, []⟩

def namesOk (scope : Scope) (names : List String) : Bool :=
  (names.all fun x => scope.names.lookup (PySem.Str.ofString x) == some .local || scope.names.lookup (PySem.Str.ofString x) == some .cell) && decide names.Nodup && decide ((cellsFrom 0 scope.names []).map (·.1)).Nodup &&
  scope.kind == .function && !scope.isCoroutine && !scope.isGenerator

theorem rps_zip {h : Heap} {X : List Addr} : ∀ {names : List String} {vs : List Value} {ps : List PV}, Rps h X vs ps → ∀ q ∈ names.zip ps, ∃ v, (PySem.Str.ofString q.1, v) ∈ (names.map PySem.Str.ofString).zip vs ∧ Rp h X v q.2
  | [], _, _, _, q, hq => by simp at hq
  | x :: names, _, _, .nil, q, hq => by simp at hq
  | x :: names, _, _, .cons a b, q, hq => by
    rw [List.zip_cons_cons] at hq
    rcases List.mem_cons.mp hq with e | hq
    · subst e; exact ⟨_, List.mem_cons_self, a⟩
    · obtain ⟨v, h1, h2⟩ := rps_zip b q hq
      exact ⟨v, List.mem_cons_of_mem _ h1, h2⟩
theorem nodup_map_ofString : ∀ {names : List String}, names.Nodup → (names.map PySem.Str.ofString).Nodup
  | [], _ => List.nodup_nil
  | x :: names, h => by
    rw [List.nodup_cons] at h
    rw [List.map_cons, List.nodup_cons]
    exact ⟨fun hm => by obtain ⟨y, hy, e⟩ := List.mem_map.mp hm; exact h.1 (ofString_inj e ▸ hy), nodup_map_ofString h.2⟩

theorem wpAny_def {n : Nat} {a : Addr} {body : List Stmt} {scope : Scope} {names : List String} {fr : Bool} {R : PV → Prop} {ps : List PV} {A : Around} {s : Shared} {X : List Addr} {vs : List Value} (T : TF H0 mg mb) (f : Fn H0 a body scope names) (hok : namesOk scope names = true) (hlen : names.length = ps.length)
    (run : ∀ env s X, env.scope = scope → Run prog w H0 (entry env s n X fr names ps) body (fun _ => False) R)
    (ok : AOK (n + 1) A) (htk : 1 ≤ s.toks) (hg : ∀ b o, H0.get? b = some o → s.heap.get? b = some o) (hX : ∀ a ∈ X, ∃ o, s.heap.get? a = some o) (rs : Rps s.heap X vs ps) :
    wpAny (model prog w) A (call (.ref a) vs) (fun v s' => ∃ p, R p ∧ Rp s'.heap X v p ∧ Step s s' ∧ (fr = true → ∀ a, v = .ref a → s.heap.get? a = Option.none ∧ ∃ items, s'.heap.PlainList a items)) (fun _ _ => False) s := by
  obtain ⟨o, fd, ho, hd, hcd, hbody, hsc, hgl, hbu, hclo, hbind⟩ := f.at_
  unfold namesOk at hok
  simp only [Bool.and_eq_true, List.all_eq_true, Bool.or_eq_true, beq_iff_eq, decide_eq_true_eq, Bool.not_eq_true'] at hok
  obtain ⟨⟨⟨⟨⟨hk, hnd⟩, hcn⟩, hkind⟩, hco⟩, hgen⟩ := hok
  have hvl : vs.length = names.length := by rw [rs.length, hlen]
  have hfst : ((names.map PySem.Str.ofString).zip vs).map (·.1) = names.map PySem.Str.ofString := List.map_fst_zip (by rw [List.length_map, hvl]; exact Nat.le_refl _)
  have hnames : (((names.map PySem.Str.ofString).zip vs).map (·.1)).Nodup := by
    rw [hfst]; exact nodup_map_ofString hnd
  have hcnd : ((cellsFrom (s.heap.objs.size + 1) scope.names []).map (·.1)).Nodup := by
    rw [cellsFrom_names scope.names _ 0 [] [] rfl]; exact hcn
  refine wpAny_call (codeAny_call_function (by have := ok.dep; omega) (hg _ _ ho) hd (by rw [hsc]; exact hco) (by rw [hsc]; exact hgen) hbody (hcd.keeps hg) ?_)
  rw [hbind vs hvl, hclo]
  refine wpAny_pure (wpAny_with_toks (Nat.le_refl s.toks) (wpAny_newFunctionEnv_cells (by rw [hsc]; exact hkind) ?_ ?_))
  · intro q hq
    have hm : q.1 ∈ names.map PySem.Str.ofString := by rw [← hfst]; exact List.mem_map.mpr ⟨q, hq, rfl⟩
    obtain ⟨y, hy, e⟩ := List.mem_map.mp hm
    rw [hsc, ← e]
    rcases hk y hy with h | h
    · exact .inl h
    · refine .inr ⟨h, ?_⟩
      obtain ⟨c, hc⟩ := lookup_of_mem_fst (cellsFrom_has scope.names (s.heap.objs.size + 1) [] _ h)
      rw [hc]; rfl
  · intro env henv s₁ ic htks
    have e1 : env.scope = scope := by rw [henv, ← hsc]; rfl
    have e2 : env.globals = mainGlobals := by rw [henv, ← hgl]; rfl
    have e3 : env.builtins = builtinsNs := by rw [henv, ← hbu]; rfl
    have e4 : env.locals = s.heap.objs.size := by rw [henv]; rfl
    have e5 : env.cells = cellsFrom (s.heap.objs.size + 1) scope.names [] := by rw [henv, ← hsc]; rfl
    refine ⟨T.nol.keeps fun b o e => ic.toInCall.keep b o (hg b o e), codeAny_func ?_⟩
    have hkeep := ic.toInCall.keep
    obtain ⟨h', tk, rfl⟩ := ic.toInCall.same
    have st : Step s { s with heap := h', toks := tk } := .ht hkeep htks
    have F : Fs H0 (entry env s n X fr names ps) { s with heap := h', toks := tk } := {
      glb := fun b o e => hkeep b o (hg b o e)
      glb0 := hg
      step := st
      tk := Nat.le_trans htk st.tks
      kind := by show env.scope.kind = _; rw [e1]; exact hkind
      glo := e2
      bui := e3
      ns := ⟨_, ic.toInCall.ns⟩
      loc := by show s.heap.get? env.locals = _; rw [e4]; exact get?_size _
      cel := fun x c hm => by
        refine ⟨get?_ge ?_, _, ic.cell x c (lookup_of_mem_nodup (by rw [e5]; exact hcnd) hm)⟩
        have := ic.above x c hm
        rw [e4] at this
        exact Nat.le_of_lt this
      apart := fun x y c h1 h2 => name_of_addr ic.apart h1 h2
      cdf := fun x hx => by
        show ∃ c, env.cells.lookup x = some c
        rw [e5]
        refine lookup_of_mem_fst (cellsFrom_has _ _ _ _ ?_)
        rw [← e1]; exact hx
      yx := fun _ h => h
      y0 := hX
      xs := fun a ha => let ⟨o, e⟩ := hX a ha; ⟨o, hkeep a o e⟩
      vars := fun q hq => by
        obtain ⟨v, h1, h2⟩ := rps_zip rs q hq
        refine ⟨v, ?_, h2.keeps hkeep⟩
        have hy : q.1 ∈ names := by
          have := List.of_mem_zip (show (q.1, q.2) ∈ names.zip ps from hq)
          exact this.1
        rcases hk q.1 hy with h | h
        · have hke : env.kindOf (PySem.Str.ofString q.1) = some .local := by unfold Env.kindOf; rw [e1]; exact h
          exact .inl ⟨hke, _, ic.toInCall.ns, bindL_at hnames h1 hke⟩
        · have hke : env.kindOf (PySem.Str.ofString q.1) = some .cell := by unfold Env.kindOf; rw [e1]; exact h
          obtain ⟨c, hc⟩ := lookup_of_mem_fst (cellsFrom_has scope.names (s.heap.objs.size + 1) [] _ h)
          have hc' : env.cells.lookup (PySem.Str.ofString q.1) = some c := by rw [e5]; exact hc
          refine .inr ⟨hke, c, hc', ?_⟩
          have := ic.cell _ c hc'
          rw [bindC_at hnames h1 hke] at this
          exact this
      owns := fun q hq => nomatch hq
      od := fun q hq => nomatch hq }
    have okD : AOK n (A.deeper env) := ⟨ok.han, by have := ok.dep; show A.depth + 1 + n < _; omega, by have := ok.uni; show A.units + 3 + 100 * (n + 1) ≤ 9900; omega⟩
    refine wpAny_mono (run env s X e1 _ _ okD F) (fun fl s' hr => ?_) fun _ _ h => h.elim
    have h2 := hr.2
    cases fl with
    | ret v => exact h2
    | next => obtain ⟨C', hf, _⟩ := h2; exact hf.elim
    | brk => exact h2.elim
    | cont => exact h2.elim

theorem callX_def {n : Nat} {a : Addr} {body : List Stmt} {scope : Scope} {names : List String} {ps : List PV} {p : PV} (T : TF H0 mg mb) (f : Fn H0 a body scope names) (hok : namesOk scope names = true) (hlen : names.length = ps.length)
    (run : ∀ env s X, env.scope = scope → Run prog w H0 (entry env s n X false names ps) body (fun _ => False) (fun q => q = p)) : CallX prog w H0 (n + 1) (.ref a) ps p := fun A s X vs ok htk hg hX rs =>
  wpAny_mono (wpAny_def T f hok hlen run ok htk hg hX rs) (fun v s' ⟨q, e, r, st, _⟩ => ⟨e ▸ r, st⟩) fun _ _ x => x
theorem callF_def {n : Nat} {a : Addr} {body : List Stmt} {scope : Scope} {names : List String} {ps : List PV} {l : List PV} (T : TF H0 mg mb) (f : Fn H0 a body scope names) (hok : namesOk scope names = true) (hlen : names.length = ps.length) (hat : ∀ p ∈ l, p.atom = true)
    (run : ∀ env s X, env.scope = scope → Run prog w H0 (entry env s n X true names ps) body (fun _ => False) (fun q => q = .lst l)) : CallF prog w H0 (n + 1) (.ref a) ps l := fun A s X vs ok htk hg hX rs =>
  wpAny_mono (wpAny_def T f hok hlen run ok htk hg hX rs) (fun v s' ⟨q, e, r, st, fr⟩ => by
    subst e
    obtain ⟨b, items, rfl, hl, hb, rs⟩ := r.lst_inv
    obtain ⟨h1, items', h2⟩ := fr rfl b rfl
    have : items' = items := by
      obtain ⟨n, e⟩ := hl
      obtain ⟨n', e'⟩ := h2
      rw [e] at e'; cases e'; rfl
    subst this
    exact ⟨b, items', rfl, h1, h2, rs.atom hat, st⟩) fun _ _ x => x
end
end Mine

namespace Mine

theorem closure_go {env : Env} (f : PySem.Str × NameKind → List (PySem.Str × Addr) → Sem (ForInStep (List (PySem.Str × Addr))))
    (hf : ∀ n k cs, f (n, k) cs = if k == .free then (do let c ← cellOf env n; pure (.yield ((n, c) :: cs))) else pure (.yield cs)) :
    ∀ (l : List (PySem.Str × NameKind)) (acc : List (PySem.Str × Addr)), (∀ n, (n, NameKind.free) ∈ l → ∃ c, env.cells.lookup n = some c) →
      ∃ cl, forIn l acc f = (pure cl : Sem (List (PySem.Str × Addr))) ∧ ∀ n c, (n, c) ∈ cl ↔ (n, c) ∈ acc ∨ ((n, NameKind.free) ∈ l ∧ env.cells.lookup n = some c)
  | [], acc, _ => ⟨acc, rfl, fun n c => by simp⟩
  | (m, k) :: l, acc, h => by
    rw [List.forIn_cons, hf]
    cases hk : k == NameKind.free with
    | true =>
      have hk' : k = .free := by simpa using hk
      subst hk'
      obtain ⟨c0, hc0⟩ := h m List.mem_cons_self
      obtain ⟨cl, e, hcl⟩ := closure_go f hf l ((m, c0) :: acc) fun n hn => h n (List.mem_cons_of_mem _ hn)
      refine ⟨cl, ?_, fun n c => ?_⟩
      · simp only [if_true]
        have : cellOf env m = pure c0 := by unfold cellOf; rw [hc0]
        rw [this]
        exact e
      · rw [hcl n c]
        simp only [List.mem_cons, Prod.mk.injEq]
        constructor
        · rintro ((⟨rfl, rfl⟩ | h1) | ⟨h1, h2⟩)
          · exact .inr ⟨.inl ⟨rfl, trivial⟩, hc0⟩
          · exact .inl h1
          · exact .inr ⟨.inr h1, h2⟩
        · rintro (h1 | ⟨(⟨rfl, _⟩ | h1), h2⟩)
          · exact .inl (.inr h1)
          · rw [hc0] at h2; cases h2; exact .inl (.inl ⟨rfl, rfl⟩)
          · exact .inr ⟨h1, h2⟩
    | false =>
      have hk' : k ≠ .free := by simpa using hk
      obtain ⟨cl, e, hcl⟩ := closure_go f hf l acc fun n hn => h n (List.mem_cons_of_mem _ hn)
      refine ⟨cl, ?_, fun n c => ?_⟩
      · simp only [Bool.false_eq_true, if_false]
        exact e
      · rw [hcl n c]
        simp only [List.mem_cons, Prod.mk.injEq]
        constructor
        · rintro (h1 | ⟨h1, h2⟩)
          · exact .inl h1
          · exact .inr ⟨.inr h1, h2⟩
        · rintro (h1 | ⟨(⟨rfl, e⟩ | h1), h2⟩)
          · exact .inl h1
          · exact absurd e.symm hk'
          · exact .inr ⟨h1, h2⟩
theorem closure_ok {scope : Scope} {env : Env} (h : ∀ n, (n, NameKind.free) ∈ scope.names → ∃ c, env.cells.lookup n = some c) :
    ∃ cl, closureFor scope env = pure cl ∧ ∀ n c, (n, c) ∈ cl ↔ ((n, NameKind.free) ∈ scope.names ∧ env.cells.lookup n = some c) := by
  unfold closureFor
  obtain ⟨cl, e, hcl⟩ := closure_go (env := env) (fun x r => do
      let (name, kind) := x
      let cs := r
      if (kind == .free) = true then do
        let c ← cellOf env name
        pure (.yield ((name, c) :: cs))
      else pure (.yield cs)) (fun n k cs => rfl) scope.names [] h
  refine ⟨cl, ?_, fun n c => by rw [hcl n c]; simp⟩
  rw [← bind_pure (pure cl : Sem _), ← e]

/-- a comprehension's scope as the laws have it -/
def compOk (sc : Scope) (ts : List String) : Bool :=
  (sc.names.all fun y => y.2 != .cell) && sc.kind == .function && (sc.names.all fun y => y.2 != .local || sc.names.lookup y.1 == some .local) && (sc.names.all fun y => y.2 != .free || sc.names.lookup y.1 == some .free) &&
  ts.all fun x => sc.names.lookup (PySem.Str.ofString x) == some .local

theorem lookup_mem {α : Type} {l : List (PySem.Str × α)} {x : PySem.Str} {k : α} (h : l.lookup x = some k) : (x, k) ∈ l := mem_of_lookup h

theorem lookup_map_snd {f : PySem.Str × NameKind → PySem.Str × NameKind} (hf : ∀ q, (f q).1 = q.1) : ∀ {l : List (PySem.Str × NameKind)} {x : PySem.Str}, (l.map f).lookup x = (l.lookup x).map fun k => (f (x, k)).2
  | [], _ => rfl
  | (n, k) :: r, x => by
    have e : f (n, k) = (n, (f (n, k)).2) := by rw [Prod.ext_iff]; exact ⟨hf _, rfl⟩
    rw [List.map_cons, e, List.lookup_cons, List.lookup_cons]
    cases hb : x == n with
    | true => rw [beq_iff_eq.mp hb]; rfl
    | false => exact lookup_map_snd hf
theorem kindOf_comp {sc : Scope} {cl : List (PySem.Str × Addr)} {L : Addr} {env : Env} {x : PySem.Str} : (compEnvC sc cl L env).kindOf x =
    (sc.names.lookup x).map fun k => if (k == NameKind.free && env.scope.kind == .function && env.kindOf x == some .cell) = true then NameKind.cell else k := by
  show (sc.names.map _).lookup x = _
  rw [lookup_map_snd (fun q => by obtain ⟨n, k⟩ := q; dsimp only; split <;> rfl)]
  cases sc.names.lookup x with
  | none => rfl
  | some k => simp only [Option.map_some]; congr 1; split <;> rfl

section
variable {prog : Program} {w : World} {H0 : Heap} {mg mb : PySem.Str → Option Value} {C : Cx}

/-- a list that is being filled and that no value touches -/
theorem Fs.chg {s : Shared} {a : Addr} {h' : Heap} {items items' : Array Value} (F : Fs H0 C s) (ha : a ∈ C.X) (hno : ∀ q ∈ C.own, q.2.1 ≠ a) (h0 : C.s0.heap.get? a = Option.none) (hp : s.heap.PlainList a items) (hp' : h'.PlainList a items') (hs : Heap.SameBut a s.heap h') : Fs H0 C { s with heap := h' } := by
  obtain ⟨n, e⟩ := hp
  have hcell : ∀ {c v}, s.heap.IsCell c v → c ≠ a := by
    rintro c v hc rfl
    obtain ⟨o, ho, _, hd⟩ := cell_obj hc
    rw [ho] at e; cases e; cases hd
  have hns : ∀ {b m}, s.heap.Ns b m → b ≠ a := by
    rintro b m hb rfl
    obtain ⟨o, ho, hq, _⟩ := ns_obj hb
    rw [ho] at e; cases e; exact hq ⟨_, _, rfl⟩
  have va : ∀ {y v}, VarAt s.heap C.env y v → VarAt h' C.env y v := by
    rintro y v (⟨k, m, hm, z⟩ | ⟨k, c, hc, z⟩)
    · exact .inl ⟨k, m, hm.sameBut hs (hns hm), z⟩
    · exact .inr ⟨k, c, hc, z.sameBut hs (hcell z)⟩
  refine F.store (t := s.toks) (Nat.le_refl _) C.like_refl rfl h0 e hs (let ⟨n, e⟩ := hp'; ⟨_, e⟩) (let ⟨m, hm⟩ := F.ns; ⟨m, hm.sameBut hs (hns hm)⟩)
    (fun y c hm => let ⟨_, v, hc⟩ := F.cel y c hm; ⟨v, hc.sameBut hs (hcell hc)⟩) (fun q hq => let ⟨v, a1, a2⟩ := F.vars q hq; ⟨v, va a1, rp_but ha hs a2⟩) (fun q hq => ?_) F.od
  obtain ⟨a1, a2, a3, its, a4, a5⟩ := F.owns q hq
  exact ⟨a1, a2, va a3, its, a4.extBut hs.extBut (hno q hq), rps_but ha hs a5⟩

/-- within a comprehension -/
def Cx.inner (C : Cx) (env : Env) (D : Addr) (vs : List (String × PV)) (own : List (String × Addr × List PV)) : Cx := { C with env := env, X := D :: C.X, vs := vs, own := own }

def Tests (prog : Program) (w : World) (H0 : Heap) (C : Cx) (ifs : List Expr) (r : Bool) : Prop :=
  ∀ A s, AOK C.n A → Fs H0 C s → wpAny (model prog w) A (forIn ifs true fun c r => if r = true then do let ok ← isTrue c C.env (eval c C.env); pure (ForInStep.yield ok) else pure (ForInStep.yield r)) (fun v s' => v = r ∧ Step s s') (fun _ _ => False) s
theorem tests_nil : Tests prog w H0 C [] true := fun A s ok F => wpAny_tests_nil ⟨rfl, .refl s⟩
theorem tests_one {c : Expr} {r : Bool} (h : Bt prog w H0 C c r) : Tests prog w H0 C [c] r := fun A s ok F => wpAny_tests_one (h A s ok F)

theorem codeComp {A : Around} {R : Result → Shared → Prop} {s : Shared} {elt target iter : Expr} {ifs : List Expr} {scope : Scope} {pos : Pos} {it acc : Value} {env : Env} (I : Nat → Shared → Prop)
    (turn : ∀ n s, I n s → wpAny (model prog w) A (pyNext it) (fun r s₁ => match r with
      | none => R (.ok .next) s₁
      | some v => wpAny (model prog w) A (letOwnedTupleGo target it v) (fun _ s₁ => wpAny (model prog w) A (assign target env v) (fun _ s₂ =>
          wpAny (model prog w) A (forIn ifs true fun c r => if r = true then do let ok ← isTrue c env (eval c env); pure (ForInStep.yield ok) else pure (ForInStep.yield r)) (fun ok s₃ =>
            if ok = true then wpAny (model prog w) A (eval elt env) (fun x s₄ => wpAny (model prog w) A (call (.builtin "list.append") [acc, x]) (fun _ s₅ => ∃ m, m < n ∧ I m s₅) (fun _ _ => False) s₄) (fun _ _ => False) s₃
            else ∃ m, m < n ∧ I m s₃) (fun _ _ => False) s₂) (fun _ _ => False) s₁) (fun _ _ => False) s₁) (fun _ _ => False) s)
    (n : Nat) (h : I n s) : codeAny (model prog w) A (.compLoop (.ListComp elt [⟨target, iter, ifs, 0⟩] scope pos) 0 it acc env) R s := by
  refine codeAny_loop rfl I (fun n s hI => ?_) n h
  show wpAny _ A ((compTurn (.ListComp elt [⟨target, iter, ifs, 0⟩] scope pos) 0 it acc env).onRaise (fun x => do noteFrame x env; theTreesLotGoes x)) _ _ s
  refine wpAny_onRaise (wpAny_mono (E := fun _ _ => False) ?_ (fun _ _ h => h) fun _ _ h => h.elim)
  rw [compTurn_list]
  refine wpAny_bind (wpAny_standAt (wpAny_bind (wpAny_mono (turn n s hI) (fun r s₁ h₁ => ?_) fun _ _ h' => h')))
  cases r with
  | none => exact wpAny_pure h₁
  | some v =>
    refine wpAny_bind (wpAny_mono h₁ (fun _ s₁ h₁ => ?_) fun _ _ h => h)
    refine wpAny_bind (wpAny_mono h₁ (fun _ s₂ h₂ => wpAny_bind (wpAny_mono h₂ (fun ok s₃ h₃ => ?_) fun _ _ h' => h')) fun _ _ h' => h')
    cases ok with
    | false => exact wpAny_pure ⟨rfl, h₃⟩
    | true => exact wpAny_bind (wpAny_bind (wpAny_mono h₃ (fun x s₄ h₄ => wpAny_bind (wpAny_mono h₄ (fun _ s₅ h₅ => wpAny_pure (wpAny_pure ⟨rfl, h₅⟩)) fun _ _ h' => h')) fun _ _ h' => h'))

/-- the comprehension's frame -/
theorem Fs.compEnter {s s₄ : Shared} {sc : Scope} {cl : List (PySem.Str × Addr)} {L D : Addr} {vs : List (String × PV)} {own : List (String × Addr × List PV)} {ts : List String} (F : Fs H0 C s) (st : Step s s₄) (hok : compOk sc ts = true)
    (hfree : ∀ n, (n, NameKind.free) ∈ sc.names → C.env.kindOf n = some .cell) (hcl : ∀ n c, (n, c) ∈ cl ↔ ((n, NameKind.free) ∈ sc.names ∧ C.env.cells.lookup n = some c))
    (hv : ∀ q ∈ vs, q ∈ C.vs ∧ sc.names.lookup (PySem.Str.ofString q.1) = some .free) (ho : ∀ q ∈ own, q ∈ C.own ∧ sc.names.lookup (PySem.Str.ofString q.1) = some .free)
    (hD : s.heap.get? D = Option.none) (hD' : ∃ o, s₄.heap.get? D = some o) (hL : s.heap.get? L = Option.none) (hL' : ∃ m, s₄.heap.Ns L m) : Fs H0 (C.inner (compEnvC sc cl L C.env) D vs own) s₄ := by
  have G := F.go st
  unfold compOk at hok
  simp only [Bool.and_eq_true, List.all_eq_true, bne_iff_ne, Bool.or_eq_true, beq_iff_eq] at hok
  obtain ⟨⟨⟨⟨h1, h2⟩, h3⟩, h4⟩, h5⟩ := hok
  have cellAt : ∀ {x : String}, sc.names.lookup (PySem.Str.ofString x) = some .free → C.env.kindOf (PySem.Str.ofString x) = some .cell ∧ (compEnvC sc cl L C.env).kindOf (PySem.Str.ofString x) = some .cell ∧ cl.lookup (PySem.Str.ofString x) = C.env.cells.lookup (PySem.Str.ofString x) := fun {x} hx => by
    have hk := hfree _ (lookup_mem hx)
    refine ⟨hk, ?_, ?_⟩
    · rw [kindOf_comp, hx, F.kind, hk]; rfl
    · obtain ⟨c, hc⟩ := F.cdf _ hk
      have hm : (PySem.Str.ofString x, c) ∈ cl := (hcl _ c).mpr ⟨lookup_mem hx, hc⟩
      obtain ⟨c', hc'⟩ := lookup_of_mem_fst (List.mem_map.mpr ⟨_, hm, rfl⟩ : PySem.Str.ofString x ∈ cl.map (·.1))
      have := ((hcl _ c').mp (mem_of_lookup hc')).2
      rw [hc', this]
  have va : ∀ {x : String} {v : Value}, sc.names.lookup (PySem.Str.ofString x) = some .free → VarAt s₄.heap C.env x v → VarAt s₄.heap (compEnvC sc cl L C.env) x v := fun {x v} hx hva => by
    obtain ⟨k1, k2, k3⟩ := cellAt hx
    rcases hva with ⟨k, _⟩ | ⟨k, c, hc, z⟩
    · rw [k1] at k; cases k
    · exact .inr ⟨k2, c, by show cl.lookup _ = _; rw [k3]; exact hc, z⟩
  exact {
    glb := G.glb
    glb0 := G.glb0
    step := G.step
    tk := G.tk
    kind := h2
    glo := F.glo
    bui := F.bui
    ns := hL'
    loc := size_le_of_keeps F.step.heap hL
    cel := fun x c hm => G.cel x c (mem_of_lookup ((hcl x c).mp hm).2)
    apart := fun x y c hx hy => F.apart x y c (mem_of_lookup ((hcl x c).mp hx).2) (mem_of_lookup ((hcl y c).mp hy).2)
    cdf := fun x hx => by
      have hx' : (compEnvC sc cl L C.env).kindOf x = some .cell := hx
      rw [kindOf_comp] at hx'
      obtain ⟨k, hk, e⟩ := Option.map_eq_some_iff.mp hx'
      split at e
      · rename_i hc
        simp only [Bool.and_eq_true, beq_iff_eq] at hc
        obtain ⟨⟨rfl, _⟩, hkc⟩ := hc
        obtain ⟨c, hc⟩ := F.cdf _ hkc
        exact lookup_of_mem_fst (List.mem_map.mpr ⟨(x, c), (hcl x c).mpr ⟨lookup_mem hk, hc⟩, rfl⟩)
      · subst e
        exact absurd rfl (h1 _ (lookup_mem hk))
    yx := fun a ha => List.mem_cons_of_mem _ (F.yx a ha)
    y0 := F.y0
    xs := fun a ha => by
      rcases List.mem_cons.mp ha with e | ha
      · subst e; exact hD'
      · exact G.xs a ha
    vars := fun q hq => by
      obtain ⟨h1, h2⟩ := hv q hq
      obtain ⟨v, a1, a2⟩ := F.vars q h1
      exact ⟨v, va h2 (a1.keeps st.heap), (a2.shut hD).keeps st.heap⟩
    owns := fun q hq => by
      obtain ⟨h1, h2⟩ := ho q hq
      obtain ⟨a1, a2, a3, items, a4, a5⟩ := F.owns q h1
      exact ⟨List.mem_cons_of_mem _ a1, a2, va h2 (a3.keeps st.heap), items, a4.at fun o e => st.heap _ o e, (a5.shut hD).keeps st.heap⟩
    od := fun q hq r hr => F.od q (ho q hq).1 r (ho r hr).1 }
end
end Mine

namespace Mine
section
variable {prog : Program} {w : World} {H0 : Heap} {mg mb : PySem.Str → Option Value} {C : Cx}

theorem Step.at {s s' : Shared} {a : Addr} {h' : Heap} {t : Nat} (st : Step s s') (ha : s.heap.get? a = Option.none) (hs : Heap.SameBut a s'.heap h') (ht : s'.toks ≤ t) : Step s { s' with heap := h', toks := t } :=
  ⟨fun b o e => (hs.2 b fun q => by rw [q, ha] at e; cases e).trans (st.heap b o e), st.gens, st.bare, st.os, Nat.le_trans st.tks ht⟩
theorem Step.mv {s s' s₁ : Shared} {K : List Addr} (st : Step s s') (m : Mv s K s' s₁) : Step s s₁ :=
  ⟨fun b o e => m.heap b o (.inl (.inl ⟨o, e⟩)) (st.heap b o e), fun j x e => m.gens j x (gens_lt e) (st.gens j x e), fun h => m.bare (st.bare h), m.os.trans st.os, Nat.le_trans st.tks m.tks⟩

theorem comp_core {A : Around} {s : Shared} {elt target iter : Expr} {ifs : List Expr} {sc : Scope} {pos cpos : Pos} {items : List PV} {tst : PV → Bool} {val : PV → PV} {vs : List (String × PV)} {own : List (String × Addr × List PV)} {ts : List String}
    {Kt : Env → Addr → PV → Cx} {use : Option (Value → Sem Unit)} {Q : Value → Shared → Prop}
    (hit : EvIt prog w H0 C iter items) (hsz : items.length < 1000000) (hok : compOk sc ts = true)
    (hfree : ∀ n, (n, NameKind.free) ∈ sc.names → C.env.kindOf n = some .cell)
    (hv : ∀ q ∈ vs, q ∈ C.vs ∧ sc.names.lookup (PySem.Str.ofString q.1) = some .free) (ho : ∀ q ∈ own, q ∈ C.own ∧ sc.names.lookup (PySem.Str.ofString q.1) = some .free)
    (asg : ∀ env D p A s v (Q : Unit → Shared → Prop), p ∈ items → env.scope = relabel sc C.env → AOK C.n A → Fs H0 (C.inner env D vs own) s → Rp s.heap (D :: C.X) v p →
      (∀ s', StepB (C.inner env D vs own) s s' → (∀ b o, b ≠ env.locals → s.heap.get? b = some o → s'.heap.get? b = some o) → Fs H0 (Kt env D p) s' → s'.os = s.os → (AllBare s.gens → AllBare s'.gens) → s.toks ≤ s'.toks → Q () s') → wpAny (model prog w) A (assign target env v) Q (fun _ _ => False) s)
    (hKe : ∀ env D p, (Kt env D p).env = env ∧ (Kt env D p).n = C.n ∧ (Kt env D p).X = D :: C.X)
    (back : ∀ env D p s, p ∈ items → Fs H0 (Kt env D p) s → Fs H0 (C.inner env D vs own) s)
    (tests : ∀ env D p, p ∈ items → env.scope = relabel sc C.env → Tests prog w H0 (Kt env D p) ifs (tst p))
    (elts : ∀ env D p, p ∈ items → tst p = true → env.scope = relabel sc C.env → Ev prog w H0 (Kt env D p) true elt (val p))
    (ok : AOK C.n A) (F : Fs H0 C s)
    (post : ∀ D L s' its, s.heap.get? D = Option.none → s'.heap.PlainList D its → Rps s'.heap (D :: C.X) its.toList ((items.filter tst).map val) → Step s s' → s.heap.get? L = Option.none → D ≠ L → (∃ m, s'.heap.Ns L m) →
      compPost (model prog w) A (fun _ _ => False) use Q (.ref D) L (.ok .next) s')
    (hs : ∀ x, foldedSetIterable iter C.env x = pure x) :
    wpAny (model prog w) A (comprehension (.ListComp elt [⟨target, iter, ifs, 0⟩] sc pos) sc C.env cpos (newList []) false (eval iter C.env) use) Q (fun _ _ => False) s := by
  have hok' := hok
  unfold compOk at hok'
  simp only [Bool.and_eq_true, List.all_eq_true, bne_iff_ne, Bool.or_eq_true, beq_iff_eq] at hok'
  obtain ⟨⟨⟨⟨hcell, hkind⟩, hnames⟩, hfrees⟩, htl⟩ := hok'
  obtain ⟨cl, hclos, hcl⟩ := closure_ok (scope := sc) (env := C.env) fun n hn => F.cdf n (hfree n hn)
  refine wpAny_comprehension_free (g := ⟨target, iter, ifs, 0⟩) (gs := []) rfl hs hclos hkind (fun y hy hl => (hnames y hy).resolve_left fun h => h hl) (wpAny_mono (hit A s ok F) (fun xv s₁ h₁ => wpAny_mono h₁ (fun it s₂ h₂ => ?_) fun _ _ h => h) fun _ _ h => h)
  obtain ⟨st2, I, rfl, mk⟩ := h₂
  have hDs : s.heap.get? s₂.heap.objs.size = Option.none := size_le_of_keeps st2.heap (get?_size _)
  obtain ⟨St, T, st0⟩ := mk (s₂.heap.objs.size :: C.X) [s₂.heap.objs.size, s₂.heap.objs.size + 1] (fun a h => List.mem_cons_of_mem _ h) (fun a ha => by
    rcases List.mem_cons.mp ha with e | ha
    · subst e; exact .inr (get?_size _)
    · exact .inl ha) (fun a ha => by
    rcases List.mem_cons.mp ha with e | ha
    · subst e; exact get?_size _
    · obtain rfl := List.mem_singleton.mp ha
      exact get?_ge (Nat.le_succ _))
  refine wpAny_newObj_type (wpAny_newFunctionEnv hcell (by intro y hy; simp at hy) (fun h₁ hns₁ hsb₁ => ?_) hkind)
  dsimp only at hns₁ hsb₁ ⊢
  generalize hH2 : s₂.heap.push { cls := .type "list", dict := Option.none, data := .seq ([] : List Value).toArray } = H2 at hns₁ hsb₁ ⊢
  have hC : H2.objs.size = s₂.heap.objs.size + 1 := by rw [← hH2, Heap.size_push]
  generalize hDD : s₂.heap.objs.size = D at *
  generalize hLL : H2.objs.size = L at *
  have hDL : D ≠ L := by omega
  have hLs : s.heap.get? L = Option.none := size_le_of_keeps st2.heap (get?_ge (by omega))
  have up : ∀ b o, s₂.heap.get? b = some o → h₁.get? b = some o := fun b o e => hsb₁.extBut b o (by have h1 : b < s₂.heap.objs.size := Heap.lt_size e; have h2 : s₂.heap.objs.size = D := hDD; have h3 : L = D + 1 := hC; exact Nat.ne_of_lt (by rw [h3, ← h2]; exact Nat.lt_succ_of_lt h1)) (Heap.get?_push_of_some _ (hH2 ▸ Heap.get?_push_of_some _ e))
  have hacc : h₁.PlainList D #[] := ⟨_, hsb₁.extBut _ _ hDL (Heap.get?_push_of_some _ (hH2 ▸ hDD ▸ Heap.get?_push_size _ rfl))⟩
  generalize henv : compEnvC sc cl L C.env = env
  have eenv : env.scope = relabel sc C.env := by rw [← henv]; rfl
  have eloc : env.locals = L := by rw [← henv]; rfl
  have hLw : Pr s [D, D + 1] L := .inr (by have h3 : L = D + 1 := hC; rw [h3]; exact List.mem_cons_of_mem _ List.mem_cons_self)
  have hDw : Pr s [D, D + 1] D := .inr List.mem_cons_self
  have loop : ∀ s₄ : Shared, s₄ = { s₂ with heap := h₁, toks := s₂.toks + ([] : List (PySem.Str × Value)).length } →
      codeAny (model prog w) A (.compLoop (.ListComp elt [⟨target, iter, ifs, 0⟩] sc pos) 0 (.ref I) (.ref D) env) (compPost (model prog w) A (fun _ _ => False) use Q (.ref D) L) s₄ := by
    rintro s₄ rfl
    have st4 : Step s { s₂ with heap := h₁, toks := s₂.toks + ([] : List (PySem.Str × Value)).length } := st2.trans (.ht up (Nat.le_add_right _ _))
    have F4 : Fs H0 (C.inner env D vs own) { s₂ with heap := h₁, toks := s₂.toks + ([] : List (PySem.Str × Value)).length } := by
      rw [← henv]
      exact F.compEnter st4 hok hfree hcl hv ho hDs (let ⟨n, e⟩ := hacc; ⟨_, e⟩) hLs ⟨_, hns₁⟩
    have P : Apart H0 (C.inner env D vs own) s [D, D + 1] := by
      have Q0 : Apart H0 C s [D, D + 1] := F.apart'
      refine ⟨Q0.glb, Q0.s0, Q0.g0, by show Pr s [D, D + 1] env.locals; rw [eloc]; exact hLw, fun x c hm => ?_, fun a ha => ?_⟩
      · have hm' : (x, c) ∈ cl := by have : (x, c) ∈ env.cells := hm; rw [← henv] at this; exact this
        exact Q0.cel x c (mem_of_lookup ((hcl x c).mp hm').2)
      · rcases List.mem_cons.mp ha with e | ha
        · subst e; exact hDw
        · exact Q0.X a ha
    have alloc : ∀ {s' : Shared}, Fs H0 (C.inner env D vs own) s' → Step s s' → ∀ a, a ∈ (D :: C.X) ∨ Pr s [D, D + 1] a → ∃ o, s'.heap.get? a = some o := fun {s'} Fi stp a ha => by
      rcases ha with ha | ⟨o, e⟩ | ha
      · exact Fi.xs a ha
      · exact ⟨o, stp.heap a o e⟩
      · rcases List.mem_cons.mp ha with e | ha
        · subst e; exact Fi.xs a List.mem_cons_self
        · obtain rfl := List.mem_singleton.mp ha
          obtain ⟨mm, hn⟩ := Fi.ns
          obtain ⟨o, e, _⟩ := ns_obj hn
          have h3 : L = D + 1 := hC
          rw [← h3, ← eloc]; exact ⟨o, e⟩
    refine codeComp (fun m s' => ∃ i its, m = items.length + 1 - i ∧ i ≤ items.length ∧ St i s' ∧ Fs H0 (C.inner env D vs own) s' ∧ s'.heap.PlainList D its ∧ Rps s'.heap (D :: C.X) its.toList (((items.take i).filter tst).map val) ∧ Step s s') ?_ (items.length + 1)
      ⟨0, #[], rfl, Nat.zero_le _, T.keep 0 _ _ st0 (fun b o e _ => up b o e) (fun _ _ e => e), F4, hacc, by simpa using Rps.nil, st4⟩
    rintro m s' ⟨i, its, rfl, hi, st, Fi, hp, rs, stp⟩
    by_cases hlt : i < items.length
    · obtain ⟨p, hpi⟩ : ∃ p, items[i]? = some p := ⟨_, List.getElem?_eq_getElem hlt⟩
      have hmem : p ∈ items := List.mem_of_getElem? hpi
      refine wpAny_mono (T.item i s' p Fi.glb Fi.tk st hpi (alloc Fi stp)) (fun r s₅ hr => ?_) fun _ _ h => h
      obtain ⟨v, rfl, rv, st', mv⟩ := hr
      have F5 : Fs H0 (C.inner env D vs own) s₅ := Fs.mv P (Cx.like_refl _) rfl Fi mv
      have hp5 : s₅.heap.PlainList D its := hp.at fun o e => mv.heap _ o (.inl hDw) e
      have rs5 : Rps s₅.heap (D :: C.X) its.toList (((items.take i).filter tst).map val) := rs.mono fun b o e hq hb => ⟨hb, mv.heap b o (.inr hq) e⟩
      have stp5 : Step s s₅ := stp.mv mv
      refine wpAny_mono (T.lets (i + 1) s₅ target v st') (fun _ s₆ e => ?_) fun _ _ h => h
      subst e
      refine asg env D p A s₆ v _ hmem eenv ok F5 rv fun s₇ sb7 keep7 F7 os7 bare7 tk7 => ?_
      have st7 : St (i + 1) s₇ := T.stay P (Cx.like_refl _) rfl F5 st' sb7
      have hp7 : s₇.heap.PlainList D its := hp5.at fun o e => keep7 _ o (by rw [eloc]; exact hDL) e
      have nsq : ∀ b o, s₆.heap.get? b = some o → isSeqObj o → b ≠ env.locals := fun b o e hq hb => by
        subst hb
        obtain ⟨mm, hn⟩ := F5.ns
        obtain ⟨o', e', h, _⟩ := ns_obj hn
        have e'' : s₆.heap.get? env.locals = some o' := e'
        rw [e] at e''; cases e''; exact h hq
      have rs7 : Rps s₇.heap (D :: C.X) its.toList (((items.take i).filter tst).map val) := rs5.mono fun b o e hq hb => ⟨hb, keep7 b o (nsq b o e hq) e⟩
      have stp7 : Step s s₇ := ⟨fun b o e => keep7 b o (fun q => by rw [q, eloc, hLs] at e; cases e) (stp5.heap b o e), fun j x e => sb7.gens j x (stp5.gens j x e), fun h => bare7 (stp5.bare h), os7.trans stp5.os, Nat.le_trans stp5.tks tk7⟩
      obtain ⟨k1, k2, k3⟩ := hKe env D p
      have ht := tests env D p hmem eenv A s₇ (by rw [k2]; exact ok) F7
      rw [k1] at ht
      refine wpAny_mono ht (fun okb s₈ hr8 => ?_) fun _ _ h => h
      obtain ⟨rfl, st8⟩ := hr8
      have keepSt : ∀ {sa sb : Shared}, St (i + 1) sa → Step sa sb → St (i + 1) sb := fun h1 h2 => T.keep _ _ _ h1 (fun b o e _ => h2.heap b o e) h2.gens
      have htake : items.take (i + 1) = items.take i ++ [p] := by
        rw [List.take_add_one, hpi]; rfl
      cases htp : tst p with
      | false =>
        simp only [Bool.false_eq_true, if_false]
        refine ⟨items.length + 1 - (i + 1), by omega, i + 1, its, rfl, hlt, keepSt st7 st8, back env D p _ hmem (F7.go st8), hp7.at (fun o e => st8.heap _ o e), ?_, stp7.trans st8⟩
        rw [htake, List.filter_append, List.map_append]
        simpa [htp] using rs7.keeps st8.heap
      | true =>
        simp only [if_true]
        have he := elts env D p hmem htp eenv A s₈ (by rw [k2]; exact ok) (F7.go st8)
        rw [k1] at he
        refine wpAny_mono he (fun y s₉ hr9 => ?_) fun _ _ h => h
        obtain ⟨ry, st9⟩ := hr9
        have st79 := st8.trans st9
        have hp9 : s₉.heap.PlainList D its := hp7.at fun o e => st79.heap _ o e
        have hitsz : its.size ≤ items.length := by
          have h1 := rs.length
          rw [Array.length_toList, List.length_map] at h1
          have h2 : ((items.take i).filter tst).length ≤ (items.take i).length := List.length_filter_le _ _
          have h3 : (items.take i).length ≤ items.length := by rw [List.length_take]; omega
          omega
        refine wpAny_list_append_plain hp9 (fun h' hp' hs' => ?_) (by rw [sizeLine_eq]; omega)
        have ry' : Rp s₉.heap (D :: C.X) y (val p) := by rw [← k3]; exact ry
        have F9 : Fs H0 (C.inner env D vs own) s₉ := back env D p _ hmem (F7.go st79)
        refine ⟨items.length + 1 - (i + 1), by omega, i + 1, its.push y, rfl, hlt, ?_, ?_, hp', ?_, ?_⟩
        · refine T.keep _ s₉ _ (keepSt st7 st79) (fun b o e hb => (hs'.2 b ?_).trans e) (fun _ _ e => e)
          rintro rfl
          rcases hb with ⟨hb, _⟩ | ⟨_, hb⟩
          · exact hb hDw
          · exact hb List.mem_cons_self
        · exact F9.chg List.mem_cons_self (fun q hq => by
            obtain ⟨a1, a2, _⟩ := F.owns q (ho q hq).1
            intro e
            obtain ⟨o, e'⟩ := F.xs _ a1
            rw [e, hDs] at e'; cases e') (size_le_of_keeps F.step.heap hDs) hp9 hp' hs'
        · rw [htake, List.filter_append, List.map_append]
          have := ((rps_but (List.mem_cons_self (a := D)) hs' (rs7.keeps st79.heap)).snoc (rp_but (List.mem_cons_self (a := D)) hs' ry'))
          simpa [htp] using this
        · exact (stp7.trans st79).at hDs hs' (Nat.le_refl _)
    · have hin : i = items.length := by omega
      subst hin
      refine wpAny_mono (T.done s' Fi.glb Fi.tk st (alloc Fi stp)) (fun r s₅ hr => ?_) fun _ _ h => h
      obtain ⟨rfl, mv⟩ := hr
      rw [List.take_length] at rs
      refine post D L s₅ its hDs (hp.at fun o e => mv.heap _ o (.inl hDw) e) (rs.mono fun b o e hq hb => ⟨hb, mv.heap b o (.inr hq) e⟩) (stp.mv mv) hLs hDL ?_
      obtain ⟨mm, hn⟩ := Fi.ns
      exact ⟨mm, by rw [← eloc]; exact hn.at' fun o e => mv.heap _ o (.inl (by show Pr s [D, D + 1] env.locals; rw [eloc]; exact hLw)) e⟩
  have henv' : ({ scope := relabel sc C.env, locals := L, globals := C.env.globals, cells := cl, qual := C.env.qual, func := Option.none, code := C.env.code, frame := C.env.frame, builtins := C.env.builtins } : Env) = env := by rw [← henv]; rfl
  show codeAny _ _ (.compStart _ 0 (.ref I) (.ref D) ({ scope := relabel sc C.env, locals := L, globals := C.env.globals, cells := cl, qual := C.env.qual, func := Option.none, code := C.env.code, frame := C.env.frame, builtins := C.env.builtins } : Env)) _ _
  rw [henv']
  refine codeAny_compStart_list (loop _ rfl) (wpAny_mono (T.self 0 _ (T.keep 0 _ _ st0 (fun b o e _ => up b o e) (fun _ _ e => e))) (fun v s' h => ?_) fun _ _ h => h.elim)
  obtain ⟨rfl, rfl⟩ := h
  exact loop _ rfl
end
end Mine

namespace Mine
section
variable {prog : Program} {w : World} {H0 : Heap} {mg mb : PySem.Str → Option Value} {C : Cx}

/-- a store of a local name, and what it leaves -/
theorem store_loc {A : Around} {s : Shared} {x : String} {v : Value} {p : PV} {Q : Unit → Shared → Prop} (F : Fs H0 C s) (hk : C.env.kindOf (PySem.Str.ofString x) = some .local) (r : Rp s.heap C.X v p)
    (k : ∀ h' t, s.toks ≤ t → Heap.SameBut C.env.locals s.heap h' → Fs H0 (C.put x p) { s with heap := h', toks := t } → Q () { s with heap := h', toks := t }) :
    wpAny (model prog w) A (storeName C.env (PySem.Str.ofString x) v) Q (fun _ _ => False) s := by
  obtain ⟨m, hn⟩ := F.ns
  obtain ⟨o, ho, hq, hnc⟩ := ns_obj hn
  refine wpAny_storeName_local hk hn (fun h' hn' hs => ?_) (by rw [F.kind]; rfl)
  have there : ∀ {y : String} {u : Value}, y ≠ x → VarAt s.heap C.env y u → VarAt h' C.env y u := by
    rintro y u hy (⟨ky, m', hm', e⟩ | ⟨ky, c, hc, hv⟩)
    · refine .inl ⟨ky, _, hn', ?_⟩
      have : m' = m := by rw [hm'.eq_nsMap, ← hn.eq_nsMap]
      subst this
      rw [if_neg (fun q => hy (ofString_inj q))]; exact e
    · exact .inr ⟨ky, c, hc, hv.sameBut hs (ns_ne_cell hn hv)⟩
  have pl : ∀ {b : Addr} {items : Array Value}, s.heap.PlainList b items → h'.PlainList b items := fun {b items} hp => by
    refine hp.at fun ob e => (hs.2 b ?_).trans e
    rintro rfl
    obtain ⟨n, e'⟩ := hp
    rw [ho] at e'; cases e'
    exact hq ⟨_, _, rfl⟩
  refine k h' _ (Nat.le_succ _) hs (F.store (Nat.le_succ _) (C.like_put x p) rfl F.loc ho hs (let ⟨o', e, _⟩ := ns_obj hn'; ⟨o', e⟩) ⟨_, hn'⟩ (fun y c hm => let ⟨_, u, hc⟩ := F.cel y c hm; ⟨u, hc.sameBut hs (ns_ne_cell hn hc)⟩) (fun q hq' => ?_) (fun q hq' => ?_)
    (fun q hq r hr => F.od q (mem_del.mp hq).1 r (mem_del.mp hr).1))
  · rcases List.mem_cons.mp hq' with e | hq'
    · subst e; exact ⟨v, .inl ⟨hk, _, hn', by simp⟩, rp_same ho hq hs r⟩
    · obtain ⟨h1, h2⟩ := mem_del.mp hq'
      obtain ⟨u, a1, a2⟩ := F.vars q h1
      exact ⟨u, there h2 a1, rp_same ho hq hs a2⟩
  · obtain ⟨h1, h2⟩ := mem_del.mp hq'
    obtain ⟨a1, a2, a3, items, a4, a5⟩ := F.owns q h1
    exact ⟨a1, a2, there h2 a3, items, pl a4, rps_same ho hq hs a5⟩

theorem compLocal {sc : Scope} {env : Env} {x : String} {ts : List String} (hok : compOk sc ts = true) (hx : x ∈ ts) (he : env.scope = relabel sc C.env) : env.kindOf (PySem.Str.ofString x) = some .local := by
  unfold compOk at hok
  simp only [Bool.and_eq_true, List.all_eq_true, bne_iff_ne, Bool.or_eq_true, beq_iff_eq] at hok
  unfold Env.kindOf
  rw [he]
  exact lookup_relabel_local (hok.2 x hx)
theorem compLocal' {sc : Scope} {x : String} {ts : List String} (hok : compOk sc ts = true) (hx : x ∈ ts) : sc.names.lookup (PySem.Str.ofString x) = some .local := by
  unfold compOk at hok
  simp only [Bool.and_eq_true, List.all_eq_true, bne_iff_ne, Bool.or_eq_true, beq_iff_eq] at hok
  exact hok.2 x hx

/-- `[elt for x in iter if ..]` up to what is done with it -/
theorem comp_name {A : Around} {s : Shared} {x : String} {px pos cpos : Pos} {elt iter : Expr} {ifs : List Expr} {sc : Scope} {items : List PV} {tst : PV → Bool} {val : PV → PV} {vs : List (String × PV)} {own : List (String × Addr × List PV)}
    {use : Option (Value → Sem Unit)} {Q : Value → Shared → Prop}
    (hit : EvIt prog w H0 C iter items) (hsz : items.length < 1000000) (hok : compOk sc [x] = true)
    (hfree : ∀ n, (n, NameKind.free) ∈ sc.names → C.env.kindOf n = some .cell)
    (hv : ∀ q ∈ vs, q ∈ C.vs ∧ sc.names.lookup (PySem.Str.ofString q.1) = some .free) (ho : ∀ q ∈ own, q ∈ C.own ∧ sc.names.lookup (PySem.Str.ofString q.1) = some .free)
    (tests : ∀ env D p, p ∈ items → env.scope = relabel sc C.env → Tests prog w H0 ((C.inner env D vs own).put x p) ifs (tst p))
    (elts : ∀ env D p, p ∈ items → tst p = true → env.scope = relabel sc C.env → Ev prog w H0 ((C.inner env D vs own).put x p) true elt (val p))
    (ok : AOK C.n A) (F : Fs H0 C s)
    (post : ∀ D L s' its, s.heap.get? D = Option.none → s'.heap.PlainList D its → Rps s'.heap (D :: C.X) its.toList ((items.filter tst).map val) → Step s s' → s.heap.get? L = Option.none → D ≠ L → (∃ m, s'.heap.Ns L m) →
      compPost (model prog w) A (fun _ _ => False) use Q (.ref D) L (.ok .next) s')
    (hs : ∀ x, foldedSetIterable iter C.env x = pure x) :
    wpAny (model prog w) A (comprehension (.ListComp elt [⟨.Name (PySem.Str.ofString x) px, iter, ifs, 0⟩] sc pos) sc C.env cpos (newList []) false (eval iter C.env) use) Q (fun _ _ => False) s := by
  have hx := compLocal' hok (List.mem_cons_self)
  refine comp_core (Kt := fun env D p => (C.inner env D vs own).put x p) hit hsz hok hfree hv ho ?_ (fun env D p => ⟨rfl, rfl, rfl⟩) ?_ tests elts ok F post hs
  · intro env D p A s v Q hp he ok' F' r kk
    refine wpAny_assign_Name (store_loc (C := C.inner env D vs own) F' (compLocal hok List.mem_cons_self he) r fun h' t htk hs' F'' => ?_)
    exact kk _ ⟨fun b o h1 _ _ e => (hs'.2 b h1).trans e, fun _ _ e => e⟩ (fun b o h1 e => (hs'.2 b h1).trans e) F'' rfl id htk
  · intro env D p s hp F'
    refine F'.sub (vs := vs) (own := own) (fun q hq => List.mem_cons_of_mem _ (mem_del.mpr ⟨hq, fun e => ?_⟩)) fun q hq => mem_del.mpr ⟨hq, fun e => ?_⟩
    · have := (hv q hq).2; rw [e, hx] at this; cases this
    · have := (ho q hq).2; rw [e, hx] at this; cases this
theorem post_new {A : Around} {s : Shared} {l : List PV} (F : Fs H0 C s) : ∀ D L s' its, s.heap.get? D = Option.none → s'.heap.PlainList D its → Rps s'.heap (D :: C.X) its.toList l → Step s s' → s.heap.get? L = Option.none → D ≠ L → (∃ m, s'.heap.Ns L m) →
      compPost (model prog w) A (fun _ _ => False) Option.none (fun v s' => ∃ a items, v = .ref a ∧ s.heap.get? a = Option.none ∧ s'.heap.PlainList a items ∧ Rps s'.heap (a :: C.X) items.toList l ∧ Step s s') (.ref D) L (.ok .next) s' := by
  intro D L s' its hD hp rs st hL hDL ⟨m, hn⟩
  refine ⟨m, hn, fun h' hs => ⟨D, its, rfl, hD, hp.extBut hs.extBut hDL, ?_, st.at hL hs (Nat.le_refl _)⟩⟩
  obtain ⟨o, e, hq, _⟩ := ns_obj hn
  exact rps_same e hq hs rs
theorem evF_comp {x : String} {px pos : Pos} {elt iter : Expr} {ifs : List Expr} {sc : Scope} {items : List PV} (tst : PV → Bool) (val : PV → PV) (vs : List (String × PV)) (own : List (String × Addr × List PV))
    (hit : EvIt prog w H0 C iter items) (hsz : items.length < 1000000) (hok : compOk sc [x] = true)
    (hfree : ∀ n, (n, NameKind.free) ∈ sc.names → C.env.kindOf n = some .cell)
    (hv : ∀ q ∈ vs, q ∈ C.vs ∧ sc.names.lookup (PySem.Str.ofString q.1) = some .free) (ho : ∀ q ∈ own, q ∈ C.own ∧ sc.names.lookup (PySem.Str.ofString q.1) = some .free)
    (tests : ∀ env D p, p ∈ items → env.scope = relabel sc C.env → Tests prog w H0 ((C.inner env D vs own).put x p) ifs (tst p))
    (elts : ∀ env D p, p ∈ items → tst p = true → env.scope = relabel sc C.env → Ev prog w H0 ((C.inner env D vs own).put x p) true elt (val p))
    (hs : ∀ x, foldedSetIterable iter C.env x = pure x := by intro _; rfl) : EvF prog w H0 C (.ListComp elt [⟨.Name (PySem.Str.ofString x) px, iter, ifs, 0⟩] sc pos) ((items.filter tst).map val) := fun A s ok F => by
  rw [eval_ListComp]
  exact comp_name hit hsz hok hfree hv ho tests elts ok F (post_new F) hs
/-- a comprehension stored into a local name: the two stores change places -/
theorem st_assignComp {x y : String} {px py pos spos : Pos} {elt iter : Expr} {ifs : List Expr} {sc : Scope} {items : List PV} (tst : PV → Bool) (val : PV → PV) (vs : List (String × PV)) (own : List (String × Addr × List PV))
    (hit : EvIt prog w H0 C iter items) (hsz : items.length < 1000000) (hok : compOk sc [x] = true)
    (hfree : ∀ n, (n, NameKind.free) ∈ sc.names → C.env.kindOf n = some .cell)
    (hv : ∀ q ∈ vs, q ∈ C.vs ∧ sc.names.lookup (PySem.Str.ofString q.1) = some .free) (ho : ∀ q ∈ own, q ∈ C.own ∧ sc.names.lookup (PySem.Str.ofString q.1) = some .free)
    (tests : ∀ env D p, p ∈ items → env.scope = relabel sc C.env → Tests prog w H0 ((C.inner env D vs own).put x p) ifs (tst p))
    (elts : ∀ env D p, p ∈ items → tst p = true → env.scope = relabel sc C.env → Ev prog w H0 ((C.inner env D vs own).put x p) true elt (val p))
    (hk : C.env.kindOf (PySem.Str.ofString y) = some .local ∨ C.env.kindOf (PySem.Str.ofString y) = some .cell)
    (hsw : swapsWith (.ListComp elt [⟨.Name (PySem.Str.ofString x) px, iter, ifs, 0⟩] sc pos) (some (.Name (PySem.Str.ofString y) py)) spos.line C.env = pure true)
    (hs : ∀ x, foldedSetIterable iter C.env x = pure x := by intro _; rfl) :
    St1 prog w H0 C (.Assign [.Name (PySem.Str.ofString y) py] (.ListComp elt [⟨.Name (PySem.Str.ofString x) px, iter, ifs, 0⟩] sc pos) spos) (fun C' => C' = C.put y (.lst ((items.filter tst).map val))) := fun A s ok F => by
  rw [exec_Assign_Name_used _ _ _ _ hsw]
  refine wpAny_bind (wpAny_standAt (wpAny_bind ?_))
  show wpAny _ A (do let _ ← comprehension (.ListComp elt [⟨.Name (PySem.Str.ofString x) px, iter, ifs, 0⟩] sc pos) sc C.env _ (newList []) false (eval iter C.env) (some (assign (.Name (PySem.Str.ofString y) py) C.env))) _ _ s
  refine wpAny_bind (comp_name (Q := fun _ s' => wpAny (model prog w) A (pure ()) _ _ s') hit hsz hok hfree hv ho tests elts ok F ?_ hs)
  intro D L s' its hD hp rs st hL hDL ⟨m, hn⟩
  show wpAny _ A (assign (.Name (PySem.Str.ofString y) py) C.env (.ref D)) _ _ s'
  have Fs' := F.go st
  refine wpAny_assign_Name (store_put Fs' hk (.lst D its _ hp (fun hm => by obtain ⟨o, e⟩ := F.xs D hm; rw [hD] at e; cases e) (rs.sub fun a ha => List.mem_cons_of_mem _ ha)) fun s'' sb F'' => ?_)
  have P : Apart H0 C s [] := F.apart'
  obtain ⟨o, e, hq, _⟩ := ns_obj hn
  have hnp : ¬ Pr s [] L := by
    rintro (⟨o, e⟩ | hm)
    · rw [hL] at e; cases e
    · cases hm
  have eL : s''.heap.get? L = some o := sb.heap L o (fun q => hnp (by rw [q]; exact P.loc)) (fun z c hm q => hnp (by rw [q]; exact P.cel z c hm)) (fun q => hnp (P.X L q)) e
  refine ⟨m, hn.at' fun o' e' => by rw [e] at e'; cases e'; exact eL, fun h' hs' => wpAny_pure (wpAny_pure ?_)⟩
  have mv : Mv s [] s'' { s'' with heap := h' } := ⟨fun b o' hb e' => (hs'.2 b fun q => by
    subst q
    rcases hb with hb | hb
    · exact hnp hb
    · rw [eL] at e'; cases e'; exact hq hb).trans e', fun _ _ _ e => e, id, rfl, Nat.le_refl _⟩
  exact ⟨rfl, StepB.mv ((StepB.of st).then sb) mv, _, rfl, C.like_put _ _, Fs.mv P (C.like_put _ _) rfl F'' mv, fun a ha => .inl ha⟩
end
end Mine

namespace Mine

/-- Python's index -/
def pidx {α : Type} (l : List α) (i : Int) : Option α := if 0 ≤ i then l[i.toNat]? else if -(l.length : Int) ≤ i then l[(i + l.length).toNat]? else Option.none
theorem pidx_nat {α : Type} (l : List α) (i : Nat) : pidx l i = l[i]? := by simp [pidx]
theorem pidx_seq {α : Type} {l : List α} {i : Int} {p : α} (h : pidx l i = some p) : ∃ j, seqIndex? i l.length = some j ∧ l[j]? = some p ∧ -(l.length : Int) ≤ i ∧ i < l.length := by
  unfold pidx at h
  split at h
  · rename_i h0
    have hlt : i.toNat < l.length := by
      rcases Nat.lt_or_ge i.toNat l.length with q | q
      · exact q
      · rw [List.getElem?_eq_none q] at h; cases h
    exact ⟨i.toNat, seqIndex_of h0 (by omega), h, by omega, by omega⟩
  · split at h
    · rename_i h0 h1
      exact ⟨_, seqIndex_neg (by omega) h1, h, h1, by omega⟩
    · cases h

/-- Python's slice -/
def pick {α : Type} (l : List α) (lo hi st : Option Int) : List α :=
  (sliceRange (sliceBounds lo hi st l.length).1 (sliceBounds lo hi st l.length).2.1 (sliceBounds lo hi st l.length).2.2).filterMap (l[·]?)
theorem pick_map {α β : Type} (f : α → β) (l : List α) (lo hi st : Option Int) : pick (l.map f) lo hi st = (pick l lo hi st).map f := by
  unfold pick
  rw [List.length_map, List.map_filterMap]
  congr 1
  funext i
  rw [List.getElem?_map]
theorem pick_run' {α : Type} (l : List α) (a : Nat) : ∀ k : Nat, ((List.range k).map (a + ·)).filterMap (l[·]?) = (l.drop a).take k := fun k => by
  have := pick_run l.toArray a k
  simpa using this
theorem pick_ab {α : Type} (l : List α) (a b : Nat) (hab : a ≤ b) (hb : b ≤ l.length) : pick l (some a) (some b) Option.none = (l.drop a).take (b - a) := by
  have e : sliceBounds (some (a : Int)) (some (b : Int)) Option.none l.length = ((a : Int), (b : Int), 1) := by
    simp only [sliceBounds, Option.getD_none]
    have h1 : ¬ ((a : Int) < 0) := by omega
    have h2 : ¬ ((b : Int) < 0) := by omega
    simp only [h1, h2, if_false, show (1 : Int) > 0 by decide, if_true]
    congr 1
    · omega
    · congr 1; omega
  unfold pick
  rw [e]
  simp only [sliceRange_one, pick_run']
theorem pick_a {α : Type} (l : List α) (a : Nat) (ha : a ≤ l.length) : pick l (some a) Option.none Option.none = l.drop a := by
  have e : sliceBounds (some (a : Int)) Option.none Option.none l.length = ((a : Int), (l.length : Int), 1) := by
    simp only [sliceBounds, Option.getD_none]
    have h1 : ¬ ((a : Int) < 0) := by omega
    simp only [h1, if_false, show (1 : Int) > 0 by decide, if_true]
    congr 1
    omega
  unfold pick
  rw [e]
  simp only [sliceRange_one, pick_run']
  rw [List.take_of_length_le (by simp)]
theorem pick_b {α : Type} (l : List α) (b : Nat) : pick l Option.none (some b) Option.none = l.take b := by
  have e : sliceBounds Option.none (some (b : Int)) Option.none l.length = (((0 : Nat) : Int), ((min b l.length : Nat) : Int), 1) := by
    simp only [sliceBounds, Option.getD_none]
    have h2 : ¬ ((b : Int) < 0) := by omega
    simp only [h2, if_false, show (1 : Int) > 0 by decide, if_true]
    congr 1
    congr 1; omega
  unfold pick
  rw [e]
  simp only [sliceRange_one, pick_run']
  simp
theorem pick_length_le {α : Type} (l : List α) (lo hi st : Option Int) : (pick l lo hi st).length ≤ l.length := by
  have := slicePick_size_le ((l.map fun _ => Value.none).toArray) lo hi st
  have e : slicePick ((l.map fun _ => Value.none).toArray) lo hi st = (pick (l.map fun _ => Value.none) lo hi st).toArray := by
    unfold slicePick pick
    simp
  rw [e, pick_map] at this
  simpa using this

theorem Rps.pick {h : Heap} {X : List Addr} {vs : List Value} {ps : List PV} (r : Rps h X vs ps) (lo hi st : Option Int) : Rps h X (pick vs lo hi st) (Mine.pick ps lo hi st) := by
  unfold Mine.pick
  rw [r.length]
  generalize sliceRange _ _ _ = idx
  induction idx with
  | nil => exact .nil
  | cons i idx ih =>
    rw [List.filterMap_cons, List.filterMap_cons]
    cases e : ps[i]? with
    | none =>
      have : vs[i]? = Option.none := by
        have h1 := r.length
        rw [List.getElem?_eq_none_iff] at e ⊢
        omega
      rw [this]; exact ih
    | some p =>
      obtain ⟨v, e1, e2⟩ := r.get e
      rw [e1]; exact .cons e2 ih

section
variable {prog : Program} {w : World} {H0 : Heap} {mg mb : PySem.Str → Option Value} {C : Cx}

theorem ev_sub {b b1 b2 : Bool} {value slice : Expr} {pos : Pos} {pv pi p : PV} {T id : String} {ops : Value → Value → List Value} (hl : typeLookup (.type T) "__getitem__" = pure (some (.builtin id))) (hv : Ev prog w H0 C b1 value pv) (hi : Ev prog w H0 C b2 slice pi)
    (h : ∀ A s o i, AOK C.n A → Fs H0 C s → Rp s.heap (C.no b1) o pv → Rp s.heap (C.no b2) i pi → s.TypeIs o T ∧ wpAny (model prog w) A (getItem o i) (fun r s' => Rp s'.heap (C.no b) r p ∧ Step s s') (fun _ _ => False) s)
    (hs : ∀ o i, subscripted slice false o i = operate (ops o i) (getItem o i)) : Ev prog w H0 C b (.Subscript value slice pos) p := fun A s ok F =>
  Subscript_ (ev_then hv ok F fun o s₁ r1 st1 F1 => ev_then hi ok F1 fun i s₂ r2 st2 F2 => by
    obtain ⟨hT, hg⟩ := h A s₂ o i ok F2 (r1.keeps st2.heap) r2
    exact tail_any hT hl (wpAny_mono hg (fun r s' ⟨a, c⟩ => ⟨a, st1.trans (st2.trans c)⟩) fun _ _ x => x) (hs o i))

theorem ev_idx {b b2 : Bool} {value slice : Expr} {pos : Pos} {l : List PV} {i : Int} {p : PV} (hv : Ev prog w H0 C b value (.lst l)) (hi : Ev prog w H0 C b2 slice (.int i)) (h : pidx l i = some p) (hl : l.length < 1000000)
    (hs : ∀ o i, subscripted slice false o i = operate [o, i] (getItem o i) := by intro _ _; rfl) : Ev prog w H0 C b (.Subscript value slice pos) p :=
  ev_sub (T := "list") slot_list_getitem.lookup hv hi (fun A s o iv ok F r1 r2 => by
    obtain ⟨a, items, rfl, hpl, ha, rs⟩ := r1.lst_inv
    have hL := hpl.isList
    obtain ⟨t, rfl⟩ := r2.int_inv
    refine ⟨hL.typeIs, ?_⟩
    have hsz : items.size = l.length := by rw [← rs.length, Array.length_toList]
    have h' := h
    unfold pidx at h'
    split at h'
    · rename_i h0
      obtain ⟨v, e1, e2⟩ := rs.get h'
      exact wpAny_getItem_list hL h0 (by obtain ⟨_, _, _, _, q⟩ := pidx_seq h; omega) (by simpa using e1) ⟨e2, .refl s⟩
    · split at h'
      · rename_i h0 h1
        obtain ⟨v, e1, e2⟩ := rs.get h'
        exact wpAny_getItem_list_neg hL (by omega) (by rw [hsz]; exact h1) (by omega) (by rw [hsz]; simpa using e1) ⟨e2, .refl s⟩
      · cases h') hs
theorem ev_idxT {b b2 : Bool} {value slice : Expr} {pos : Pos} {l : List PV} {i : Int} {p : PV} (hv : Ev prog w H0 C b value (.tup l)) (hi : Ev prog w H0 C b2 slice (.int i)) (h : pidx l i = some p) (hl : l.length < 1000000)
    (hs : ∀ o i, subscripted slice false o i = operate [o, i] (getItem o i) := by intro _ _; rfl) : Ev prog w H0 C b (.Subscript value slice pos) p :=
  ev_sub (T := "tuple") slot_tuple_getitem.lookup hv hi (fun A s o iv ok F r1 r2 => by
    obtain ⟨a, items, n, rfl, hL, ha, rs⟩ := r1.tup_inv
    obtain ⟨t, rfl⟩ := r2.int_inv
    refine ⟨⟨_, hL, rfl⟩, ?_⟩
    have hsz : items.size = l.length := by rw [← rs.length, Array.length_toList]
    obtain ⟨j, h1, h2, h3, h4⟩ := pidx_seq h
    obtain ⟨v, e1, e2⟩ := rs.get h2
    exact PyProof.Rows.getItem_tuple ⟨_, hL, rfl, n, rfl⟩ (by omega) (by omega) (by rw [hsz]; exact h1) (by simpa using e1) ⟨e2, .refl s⟩) hs
/-! slices -/
def EvP (prog : Program) (w : World) (H0 : Heap) (C : Cx) (x : Option Expr) (k : Option Int) : Prop :=
  ∀ A s, AOK C.n A → Fs H0 C s → wpAny (model prog w) A (evalPart x C.env) (fun v s' => IsPart v k ∧ Step s s') (fun _ _ => False) s
theorem evP_none : EvP prog w H0 C Option.none Option.none := fun A s ok F => wpAny_pure ⟨.none, .refl s⟩
theorem evP_some {b : Bool} {e : Expr} {i : Int} (h : Ev prog w H0 C b e (.int i)) : EvP prog w H0 C (some e) (some i) := fun A s ok F =>
  ev_then h ok F fun v s₁ r st F1 => by obtain ⟨t, rfl⟩ := r.int_inv; exact ⟨.int i t, st⟩
theorem wpAny_slice {lo hi st : Option Expr} {p : Pos} {i j k : Option Int} {A : Around} {s : Shared} {Q : Value → Shared → Prop} (h1 : EvP prog w H0 C lo i) (h2 : EvP prog w H0 C hi j) (h3 : EvP prog w H0 C st k) (ok : AOK C.n A) (F : Fs H0 C s)
    (kk : ∀ a s' vl vu vs, s'.heap.IsSliceOf a vl vu vs → IsPart vl i → IsPart vu j → IsPart vs k → Step s s' → Fs H0 C s' → Q (.ref a) s') : wpAny (model prog w) A (eval (.Slice lo hi st p) C.env) Q (fun _ _ => False) s := by
  refine wpAny_Slice (wpAny_mono (h1 A s ok F) (fun vl s₁ ⟨p1, st1⟩ => wpAny_mono (h2 A s₁ ok (F.go st1)) (fun vu s₂ ⟨p2, st2⟩ => wpAny_mono (h3 A s₂ ok ((F.go st1).go st2)) (fun vs s₃ ⟨p3, st3⟩ => ?_) fun _ _ x => x) fun _ _ x => x) fun _ _ x => x)
  have st := (st1.trans (st2.trans st3)).trans (.push { cls := .type "slice", data := .fields #[vl, vu, vs] })
  exact kk _ _ vl vu vs (Heap.IsSliceOf.new ..) p1 p2 p3 st (F.go st)
theorem evF_slice {value : Expr} {lo hi st : Option Expr} {p pos : Pos} {l : List PV} {i j k : Option Int} (hv : Ev prog w H0 C true value (.lst l)) (h1 : EvP prog w H0 C lo i) (h2 : EvP prog w H0 C hi j) (h3 : EvP prog w H0 C st k) (hk : k ≠ some 0) (hl : l.length < 1000000)
    (hs : ∃ ops : Value → Value → List Value, ∀ o i, subscripted (.Slice lo hi st p) false o i = operate (ops o i) (getItem o i) := by first | exact ⟨fun o i => [i, o], fun _ _ => rfl⟩ | exact ⟨fun o i => [o, i], fun _ _ => rfl⟩) :
    EvF prog w H0 C (.Subscript value (.Slice lo hi st p) pos) (pick l i j k) := fun A s ok F => by
  obtain ⟨ops, hs⟩ := hs
  refine Subscript_ (ev_then hv ok F fun o s₁ r1 st1 F1 => wpAny_slice h1 h2 h3 ok F1 fun a s₂ vl vu vs hsl p1 p2 p3 st2 F2 => ?_)
  obtain ⟨b, items, rfl, hpl, hb, rs⟩ := (r1.keeps st2.heap).lst_inv
  have hL := hpl.isList
  have hsz : items.size = l.length := by rw [← rs.length, Array.length_toList]
  refine tail_any hL.typeIs slot_list_getitem.lookup (wpAny_getItem_list_slice hL hsl p1 p2 p3 hk ?_ (by rw [hsz, sizeLine_eq]; omega)) (hs _ _)
  refine ⟨_, slicePick items i j k, rfl, size_le_of_keeps (st1.trans st2).heap (get?_size _), ⟨0, Heap.get?_push_size _ rfl⟩, ?_, (st1.trans st2).trans (.push _)⟩
  have := ((rs.pick i j k).shut (get?_size _)).keeps (h' := s₂.heap.push { cls := .type "list", data := .seq (slicePick items i j k) }) fun _ _ e => Heap.get?_push_of_some _ e
  have e : (slicePick items i j k).toList = pick items.toList i j k := by
    unfold slicePick pick
    simp
  rw [e]; exact this
theorem slice_str {x : List Nat} {i j : Option Int} {a b : Nat} (hi : i = some (a : Int)) (hj : j = some (b : Int) ∨ (j = Option.none ∧ b = x.length)) (hab : a ≤ b) (hb : b ≤ x.length) :
    Txt.slice ⟨x.toArray⟩ i j = ⟨((x.drop a).take (b - a)).toArray⟩ := by
  have hlen : (⟨x.toArray⟩ : PySem.Str).length = x.length := by simp [PySem.Str.length]
  have hidx : Builtin.Str.strSliceIndices i j 1 x.length = Builtin.Str.strSliceIndices (some (a : Int)) (some (b : Int)) 1 x.length := by
    subst hi
    rcases hj with rfl | ⟨rfl, rfl⟩
    · rfl
    · unfold Builtin.Str.strSliceIndices
      have h0 : ¬ ((x.length : Int) < 0) := by omega
      simp [h0]
  have hpk := StrLaws.sliced_plain (⟨x.toArray⟩ : PySem.Str) hab (by rw [hlen]; exact hb)
  unfold Txt.slice
  rw [hlen] at hpk ⊢
  rw [hidx]
  split
  · rename_i hw
    simp only [BEq.rfl, Bool.true_and, beq_iff_eq] at hw
    rw [StrLaws.strSliceIndices_plain hab hb] at hw
    simp only [List.length_map, List.length_range] at hw
    obtain rfl : a = 0 := by omega
    obtain rfl : b = x.length := by omega
    simp
  · rw [hpk]
theorem ev_sliceS {b b1 : Bool} {value : Expr} {lo hi : Option Expr} {p pos : Pos} {l : List Nat} {i j : Option Int} {m n : Nat} (hv : Ev prog w H0 C b1 value (.str l)) (h1 : EvP prog w H0 C lo i) (h2 : EvP prog w H0 C hi j) (hi' : i = some (m : Int)) (hj : j = some (n : Int) ∨ (j = Option.none ∧ n = l.length)) (hmn : m ≤ n) (hn : n ≤ l.length) (hl : l.length < 1000000) :
    Ev prog w H0 C b (.Subscript value (.Slice lo hi Option.none p) pos) (.str ((l.drop m).take (n - m))) := fun A s ok Fr => by
  refine Subscript_ (ev_then hv ok Fr fun o s₁ r1 st1 F1 => wpAny_slice h1 h2 evP_none ok F1 fun a s₂ vl vu vs hsl p1 p2 p3 st2 F2 => ?_)
  obtain ⟨t, rfl⟩ := r1.str_inv
  have pv : ∀ {v : Value} {k : Option Int}, IsPart v k → ∃ q : Option (Int × Tok), v = partValue q ∧ q.map (·.1) = k := fun {v k} h => by
    cases h with
    | none => exact ⟨Option.none, rfl, rfl⟩
    | int i t => exact ⟨some (i, t), rfl, rfl⟩
  obtain ⟨ql, rfl, el⟩ := pv p1
  obtain ⟨qu, rfl, eu⟩ := pv p2
  obtain ⟨qs, rfl, es⟩ := pv p3
  have hqs : qs = Option.none := by cases qs with | none => rfl | some q => cases es
  subst hqs
  refine wpAny_with_toks (Nat.le_refl s₂.toks) (tail_any (typeIs_str _ _ _) F.slot_str_getitem.lookup (wpAny_getItem_str_slice (l := ql) (u := qu) (st := Option.none) hsl rfl ?_) (ops := [.ref a, .str ⟨l.toArray⟩ t]) rfl)
  have key : Txt.slice (⟨l.toArray⟩ : PySem.Str) (ql.map (·.1)) (qu.map (·.1)) = ⟨((l.drop m).take (n - m)).toArray⟩ := by
    rw [el, eu]; exact slice_str hi' hj hmn hn
  have e : sliceMade (⟨l.toArray⟩ : PySem.Str) t ql qu Option.none = (if ((1 : Int) == 1 && (Builtin.Str.strSliceIndices (ql.map (·.1)) (qu.map (·.1)) 1 (⟨l.toArray⟩ : PySem.Str).length).length == (⟨l.toArray⟩ : PySem.Str).length) = true then Made.val (.str ⟨l.toArray⟩ t)
      else Made.str ⟨((Builtin.Str.strSliceIndices (ql.map (·.1)) (qu.map (·.1)) 1 (⟨l.toArray⟩ : PySem.Str).length).filterMap ((⟨l.toArray⟩ : PySem.Str).cps[·]?)).toArray⟩) := rfl
  rw [e]
  unfold Txt.slice at key
  refine post_val_or_str ?_
  rw [key]
  refine ⟨?_, fun t' k htk => ⟨.str _ _, (st1.trans st2).trans (.toks htk)⟩⟩
  rw [sizeLine_eq]
  simp [PySem.Str.length]
  omega
theorem ev_sliceB {b b1 : Bool} {value : Expr} {lo hi : Option Expr} {p pos : Pos} {l : List UInt8} {m n : Nat} (hv : Ev prog w H0 C b1 value (.bytes l)) (h1 : EvP prog w H0 C lo (some (m : Int))) (h2 : EvP prog w H0 C hi (some (n : Int))) (hmn : m ≤ n) (hn : n ≤ l.length) (hl : l.length < 1000000) :
    Ev prog w H0 C b (.Subscript value (.Slice lo hi Option.none p) pos) (.bytes ((l.drop m).take (n - m))) := fun A s ok Fr => by
  refine Subscript_ (ev_then hv ok Fr fun o s₁ r1 st1 F1 => wpAny_slice h1 h2 evP_none ok F1 fun a s₂ vl vu vs hsl p1 p2 p3 st2 F2 => ?_)
  obtain ⟨t, rfl⟩ := r1.bytes_inv
  obtain rfl : vs = .none := by cases p3; rfl
  have key : KBy.picked l.toArray (some (m : Int)) (some (n : Int)) = ((l.drop m).take (n - m)).toArray := by
    rw [KBc.picked_eq]
    simp only [Option.elim_some, clipAt_nat, List.size_toArray, List.toList_toArray]
    rw [Nat.min_eq_left (show m ≤ l.length by omega), Nat.min_eq_left hn]
  refine wpAny_with_toks (Nat.le_refl s₂.toks) (tail_any (typeIs_bytes _ _ _) FB.slot_bytes_getitem.lookup (getItem_meets (typeIs_bytes _ _ _) (by decide) FB.slot_bytes_getitem FB.entry_bytes_getitem (FB.args_bytes_getitem_2 _ _) (KBc.meets_slice2 l.toArray t a p1 p2) ⟨hsl, ?_, fun t' k htk => ?_⟩) (ops := [.ref a, .bytes l.toArray t]) rfl)
  · rw [key, sizeLine_eq]; simp; omega
  · rw [key]
    exact ⟨.bytes _ _, (st1.trans st2).trans (.toks htk)⟩
end
end Mine

namespace Mine

section
variable {prog : Program} {w : World} {H0 : Heap} {mg mb : PySem.Str → Option Value} {C : Cx}

theorem str_app (a b : List Nat) : (⟨a.toArray⟩ : PySem.Str) ++ ⟨b.toArray⟩ = ⟨(a ++ b).toArray⟩ := by
  show PySem.Str.mk _ = _
  simp
theorem op_adds {a b : List Nat} (h : a.length + b.length ≤ 1000000) : Op2 prog w .Add (.str a) (.str b) (.str (a ++ b)) := ⟨rfl, fun n A s v u ok h1 h2 => by
  obtain ⟨t, rfl⟩ := h1.str_inv
  obtain ⟨t', rfl⟩ := h2.str_inv
  refine wpAny_with_toks (Nat.le_refl s.toks) (PyProof.Rows.add_str (fun t' tk => ?_) (by rw [sizeLine_eq]; simp only [PySem.Str.length, List.size_toArray]; omega))
  intro htk
  rw [str_app]
  exact ⟨.str _ _, .toks htk⟩⟩
theorem op_addb {a b : List UInt8} (h : a.length + b.length ≤ 1000000) : Op2 prog w .Add (.bytes a) (.bytes b) (.bytes (a ++ b)) := ⟨rfl, fun n A s v u ok h1 h2 => by
  obtain ⟨t, rfl⟩ := h1.bytes_inv
  obtain ⟨t', rfl⟩ := h2.bytes_inv
  refine wpAny_with_toks (Nat.le_refl s.toks) (KBy.add_bytes (by simp only [List.size_toArray]; omega) (fun t' tk => ?_))
  intro htk
  rw [List.append_toArray]
  exact ⟨.bytes _ _, .toks htk⟩⟩
theorem cm_neb {a b : List UInt8} : Cm prog w .NotEq (.bytes a) (.bytes b) (a != b) := fun n A s v u ok h1 h2 => by
  obtain ⟨t, rfl⟩ := h1.bytes_inv
  obtain ⟨t', rfl⟩ := h2.bytes_inv
  exact ne_bytes ⟨by simp, .refl s⟩

theorem foldl_rep (v : Value) : ∀ (n : Nat) (acc : Array Value), (List.foldl (fun x1 x2 => x1 ++ x2) acc (List.replicate n #[v])).toList = acc.toList ++ List.replicate n v
  | 0, acc => by simp
  | n + 1, acc => by
    rw [List.replicate_succ, List.foldl_cons, foldl_rep v n]
    simp [List.replicate_succ]
theorem Rps.rep {h : Heap} {X : List Addr} {v : Value} {p : PV} (r : Rp h X v p) : ∀ n, Rps h X (List.replicate n v) (List.replicate n p)
  | 0 => .nil
  | n + 1 => .cons r (Rps.rep r n)
theorem evF_mul {b : Bool} {l r : Expr} {pos : Pos} {p : PV} {n : Int} (h1 : Ev prog w H0 C true l (.lst [p])) (h2 : Ev prog w H0 C b r (.int n)) (hn : n ≤ 1000) (hn' : -1000 ≤ n) : EvF prog w H0 C (.BinOp l .Mult r pos) (List.replicate n.toNat p) :=
  fun A s ok Fr => wpAny_BinOp (ev_then h1 ok Fr fun v s₁ r1 st1 F1 => ev_then h2 ok F1 fun u s₂ r2 st2 F2 => by
    obtain ⟨a, items, rfl, ⟨k, hl⟩, ha, rs1⟩ := (r1.keeps st2.heap).lst_inv
    obtain ⟨t, rfl⟩ := r2.int_inv
    obtain ⟨v, ws, e, rv, rw_⟩ := rs1.cons_inv
    obtain rfl := rw_.nil_inv
    obtain rfl : items = #[v] := by
      apply Array.toList_inj.mp
      rw [e]
    refine wpAny_binaryOp_repeat_ref (T := "list") (U := "int") (by decide) ⟨_, hl, rfl⟩ (fun s' => typeIs_int s' n t) noFill_list_mul F.fills_int_mul F.slot_int_rmul repeat_list F.slot_int_index.lookup
      (call_meets F.slot_int_rmul (typeIs_int s₂ n t) F.entry_int_rmul (F.args_int_rmul_2 _ _) (int___rmul___int_list n t a #[v] k)
        ⟨hl, rfl, ⟨_, hl, rfl⟩, call_meets F.slot_list_mul ⟨_, hl, rfl⟩ F.entry_list_mul (F.args_list_mul_2 _ _)
          (AutoListH.list___mul___list_int_3 a #[v] k n t (by simp [Builtin.List.listFitsIndex]; omega) (by simp; omega) (by simp [Builtin.List.listTooLong, sizeLine_eq]; omega))
          ⟨hl, ?_⟩⟩)
    refine ⟨_, _, rfl, size_le_of_keeps (st1.trans st2).heap (get?_size _), ⟨0, Heap.get?_push_size _ rfl⟩, ?_, (st1.trans st2).trans (.push _)⟩
    have e0 : (#[v].isEmpty = true) = False := by simp
    simp only [e0, if_false]
    rw [foldl_rep]
    simp only [List.nil_append]
    exact ((Rps.rep rv _).shut (get?_size _)).keeps fun _ _ e => Heap.get?_push_of_some _ e)

/-! membership in texts -/
theorem cm_notIns {c : Nat} {x : List Nat} : Cm prog w .NotIn (.str [c]) (.str x) (!decide (c ∈ x)) := fun n A s v u ok h1 h2 => by
  obtain ⟨t, rfl⟩ := h1.str_inv
  obtain ⟨t', rfl⟩ := h2.str_inv
  exact PyProof.Rows.notIn_str ⟨by rw [show ([c].toArray) = #[c] from rfl, StrLaws.found_one], .refl s⟩

/-! is -/
theorem cm_isb {a b : Bool} : Cm prog w .Is (.bool a) (.bool b) (a == b) := fun n A s v u ok h1 h2 => by
  obtain rfl := h1.bool_inv
  obtain rfl := h2.bool_inv
  exact wpAny_is_plain rfl ⟨by cases a <;> cases b <;> rfl, .refl s⟩
theorem cm_isNotb {a b : Bool} : Cm prog w .IsNot (.bool a) (.bool b) (a != b) := fun n A s v u ok h1 h2 => by
  obtain rfl := h1.bool_inv
  obtain rfl := h2.bool_inv
  exact wpAny_isNot_plain rfl ⟨by cases a <;> cases b <;> rfl, .refl s⟩

/-! two comparisons in a chain -/
/-! data -/
structure Kd {α : Type} [BEq α] (f : α → PV) (P : α → Prop) (g : α → PyData) : Prop where
  reads : ∀ {h X v x}, Rp h X v (f x) → ∃ as, Reads h v (g x) as
  lay : ∀ x, P x → (g x).canLay0 = true
  dep : ∀ x, (g x).depth ≤ 3
  eqv : ∀ x y, PyData.eqv (g x) (g y) = (x == y)
theorem kd_int : Kd PV.int (fun _ => True) PyData.int := ⟨fun {h X v x} r => by obtain ⟨t, rfl⟩ := r.int_inv; exact ⟨_, .int x t⟩, fun _ _ => rfl, fun _ => by simp [PyData.depth], fun x y => by simp [PyData.eqv]⟩
theorem kd_str : Kd PV.str (fun x => ∀ c ∈ x, c < 0x110000) (fun l => PyData.str ⟨l.toArray⟩) := ⟨fun {h X v x} r => by obtain ⟨t, rfl⟩ := r.str_inv; exact ⟨_, .str _ t⟩,
  fun x hx => by simpa [PyData.canLay0, PyData.strOk] using hx, fun _ => by simp [PyData.depth], fun x y => by simp only [PyData.eqv]; exact toArray_beq x y⟩
theorem Kd.readsAll {α : Type} [BEq α] {f : α → PV} {P : α → Prop} {g : α → PyData} (K : Kd f P g) {h : Heap} {X : List Addr} : ∀ (xs : List α) (vs : List Value), Rps h X vs (xs.map f) → ∃ as, ReadsAll h vs (xs.map g) as
  | [], vs, r => by obtain rfl := r.nil_inv; exact ⟨_, .nil⟩
  | x :: xs, vs, r => by
    obtain ⟨v, ws, rfl, r1, r2⟩ := r.cons_inv
    obtain ⟨as, h1⟩ := K.reads r1
    obtain ⟨bs, h2⟩ := K.readsAll xs ws r2
    exact ⟨_, .cons h1 h2⟩
theorem Kd.readsL {α : Type} [BEq α] {f : α → PV} {P : α → Prop} {g : α → PyData} (K : Kd f P g) {h : Heap} {X : List Addr} {v : Value} {xs : List α} (r : Rp h X v (.lst (xs.map f))) : ∃ as, Reads h v (.list (xs.map g)) as := by
  obtain ⟨a, items, rfl, ⟨n, hp⟩, _, rs⟩ := r.lst_inv
  obtain ⟨as, h2⟩ := K.readsAll xs _ rs
  exact ⟨_, .list hp rfl rfl h2⟩
theorem Kd.layAll {α : Type} [BEq α] {f : α → PV} {P : α → Prop} {g : α → PyData} (K : Kd f P g) : ∀ (xs : List α), (∀ x ∈ xs, P x) → PyData.canLayAll0 (xs.map g) = true
  | [], _ => rfl
  | x :: xs, h => by
    simp only [List.map_cons, PyData.canLayAll0, Bool.and_eq_true]
    exact ⟨K.lay x (h x List.mem_cons_self), K.layAll xs fun y hy => h y (List.mem_cons_of_mem _ hy)⟩
theorem Kd.depAll {α : Type} [BEq α] {f : α → PV} {P : α → Prop} {g : α → PyData} (K : Kd f P g) : ∀ (xs : List α), PyData.depthAll (xs.map g) ≤ 3
  | [] => by simp [PyData.depthAll]
  | x :: xs => by
    simp only [List.map_cons, PyData.depthAll]
    have := K.dep x
    have := K.depAll xs
    omega
theorem Kd.shaped {α : Type} [BEq α] {f : α → PV} {P : α → Prop} {g : α → PyData} (K : Kd f P g) (xs : List α) (h : ∀ x ∈ xs, P x) : SeqAt.shaped (.list (xs.map g)) = true := by
  have := K.depAll xs
  refine Bool.and_eq_true_iff.mpr ⟨?_, decide_eq_true ?_⟩
  · simp only [PyData.canLay0]; exact K.layAll xs h
  · simp only [PyData.depth]; omega
theorem Kd.eqvAll {α : Type} [BEq α] {f : α → PV} {P : α → Prop} {g : α → PyData} (K : Kd f P g) : ∀ (xs ys : List α), PyData.eqvAll (xs.map g) (ys.map g) = (xs == ys)
  | [], [] => rfl
  | [], _ :: _ => rfl
  | _ :: _, [] => rfl
  | x :: xs, y :: ys => by
    simp only [List.map_cons, PyData.eqvAll, K.eqv, K.eqvAll xs ys]
    rfl
theorem AOK.line {n : Nat} {A : Around} (ok : AOK n A) : A.units + 64 < cLine := by
  have := ok.uni
  show A.units + 64 < 9900
  omega
theorem cm_eqL {α : Type} [BEq α] {f : α → PV} {P : α → Prop} {g : α → PyData} (K : Kd f P g) {xs ys : List α} (hx : ∀ x ∈ xs, P x) (hy : ∀ x ∈ ys, P x) : Cm prog w .Eq (.lst (xs.map f)) (.lst (ys.map f)) (xs == ys) := fun n A s v u ok h1 h2 => by
  obtain ⟨as, r1⟩ := K.readsL h1
  obtain ⟨bs, r2⟩ := K.readsL h2
  exact eq_dataH r1 r2 (K.shaped xs hx) (K.shaped ys hy) ok.line ⟨by simp only [PyData.eqv, K.eqvAll], .refl s⟩
theorem cm_neL {α : Type} [BEq α] {f : α → PV} {P : α → Prop} {g : α → PyData} (K : Kd f P g) {xs ys : List α} (hx : ∀ x ∈ xs, P x) (hy : ∀ x ∈ ys, P x) : Cm prog w .NotEq (.lst (xs.map f)) (.lst (ys.map f)) (xs != ys) := fun n A s v u ok h1 h2 => by
  obtain ⟨as, r1⟩ := K.readsL h1
  obtain ⟨bs, r2⟩ := K.readsL h2
  exact ne_dataH r1 r2 (K.shaped xs hx) (K.shaped ys hy) ok.line ⟨by simp only [PyData.eqv, K.eqvAll]; rfl, .refl s⟩
theorem any_eqv (xs : List Int) (i : Int) : ((xs.map PyData.int).any fun y => PyData.eqv y (.int i)) = decide (i ∈ xs) := by
  rw [Bool.eq_iff_iff]
  simp only [List.any_map, List.any_eq_true, Function.comp, PyData.eqv, beq_iff_eq, decide_eq_true_eq]
  exact ⟨fun ⟨x, hx, e⟩ => e ▸ hx, fun h => ⟨i, h, rfl⟩⟩
theorem AOK.line1 {n : Nat} {A : Around} (ok : AOK n A) (k j : Nat) (hj : k ≤ 3) : A.units + 1 + min k j < cLine := by
  have := ok.uni
  have := Nat.min_le_left k j
  show A.units + 1 + min k j < 9900
  omega
theorem cm_inL {xs : List Int} {i : Int} : Cm prog w .In (.int i) (.lst (xs.map .int)) (decide (i ∈ xs)) := fun n A s v u ok h1 h2 => by
  obtain ⟨as, r1⟩ := kd_int.reads h1
  obtain ⟨bs, r2⟩ := kd_int.readsL h2
  exact SeqAt.in_list_reads r2 r1 (kd_int.layAll xs fun _ _ => trivial) rfl (ok.line1 _ _ (kd_int.depAll xs)) ⟨by rw [any_eqv], .refl s⟩
end
end Mine

namespace Mine

theorem Rps.ints {h : Heap} {X : List Addr} : ∀ {ns : List Int} {vs : List Value}, Rps h X vs (ns.map .int) → ∃ xs : List (Int × Tok), vs = xs.map (fun p => .int p.1 p.2) ∧ xs.map (·.1) = ns
  | [], vs, r => ⟨[], r.nil_inv, rfl⟩
  | n :: ns, vs, r => by
    obtain ⟨v, ws, rfl, r1, r2⟩ := r.cons_inv
    obtain ⟨t, rfl⟩ := r1.int_inv
    obtain ⟨xs, rfl, rfl⟩ := Rps.ints r2
    exact ⟨(n, t) :: xs, rfl, rfl⟩
theorem Rps.intsAre {h : Heap} {X : List Addr} : ∀ {ns : List Int} {vs : List Value}, Rps h X vs (ns.map .int) → IntsAre vs ns
  | [], vs, r => by obtain rfl := r.nil_inv; exact .nil
  | n :: ns, vs, r => by
    obtain ⟨v, ws, rfl, r1, r2⟩ := r.cons_inv
    obtain ⟨t, rfl⟩ := r1.int_inv
    exact .cons n t r2.intsAre
theorem Rps.ofInts {h : Heap} {X : List Addr} : ∀ {ns : List Int} {vs : List Value}, IntsAre vs ns → Rps h X vs (ns.map .int)
  | _, _, .nil => .nil
  | _, _, .cons n t r => .cons (.int n t) (Rps.ofInts r)
theorem Rps.strsAre {h : Heap} {X : List Addr} : ∀ {ns : List (List Nat)} {vs : List Value}, Rps h X vs (ns.map .str) → StrsAre vs (ns.map fun l => ⟨l.toArray⟩)
  | [], vs, r => by obtain rfl := r.nil_inv; exact .nil
  | n :: ns, vs, r => by
    obtain ⟨v, ws, rfl, r1, r2⟩ := r.cons_inv
    obtain ⟨t, rfl⟩ := r1.str_inv
    exact .cons _ t r2.strsAre
theorem intItems_of {items : Array Value} {xs : List (Int × Tok)} (h : items.toList = xs.map (fun p => .int p.1 p.2)) : items = intItems xs.toArray := by
  apply Array.toList_inj.mp
  rw [h]; simp [intItems]
theorem numAt_of {xs : List (Int × Tok)} {ns : List Int} (h : xs.map (·.1) = ns) (i : Nat) : numAt xs.toArray i = ns.getD i 0 := by
  subst h
  simp [numAt, List.getD_eq_getElem?_getD]
theorem preSum_of {ns : List Int} {f : Nat → Int} (h : ∀ i, f i = ns.getD i 0) : ∀ k, preSum f k = (ns.take k).sum
  | 0 => by simp [preSum]
  | k + 1 => by
    rw [preSum, preSum_of h k, h, List.take_add_one]
    rw [List.getD_eq_getElem?_getD]
    cases ns[k]? <;> simp
theorem sum_bound {B : Int} : ∀ {l : List Int}, (∀ x ∈ l, -B ≤ x ∧ x ≤ B) → -(B * l.length) ≤ l.sum ∧ l.sum ≤ B * l.length
  | [], _ => by simp
  | x :: l, h => by
    have h1 := h x List.mem_cons_self
    have h2 := sum_bound (B := B) (l := l) fun y hy => h y (List.mem_cons_of_mem _ hy)
    rw [List.sum_cons, List.length_cons]
    have : B * ((l.length + 1 : Nat) : Int) = B * l.length + B := by rw [Int.natCast_add, Int.mul_add]; simp
    omega

section
variable {prog : Program} {w : World} {H0 : Heap} {mg mb : PySem.Str → Option Value} {C : Cx}

theorem callX_len {n : Nat} {l : List PV} (hl : l.length < 1000000) : CallX prog w H0 n (.builtin "len") [.lst l] (.int l.length) := fun A s X vs ok tk hg hX r => by
  obtain ⟨v, ws, rfl, r1, r2⟩ := r.cons_inv
  obtain rfl := r2.nil_inv
  obtain ⟨a, items, rfl, hp, ha, rs⟩ := r1.lst_inv
  have hs : items.size = l.length := by rw [← rs.length, Array.length_toList]
  exact PyProof.Rows.len_list hp.isList (by omega) ⟨by rw [hs]; exact .int _ _, .toks (by omega)⟩
theorem callX_lenS {n : Nat} {l : List Nat} (hl : l.length < 1000000) : CallX prog w H0 n (.builtin "len") [.str l] (.int l.length) := fun A s X vs ok tk hg hX r => by
  obtain ⟨v, ws, rfl, r1, r2⟩ := r.cons_inv
  obtain rfl := r2.nil_inv
  obtain ⟨t, rfl⟩ := r1.str_inv
  have hs : (⟨l.toArray⟩ : PySem.Str).length = l.length := by simp [PySem.Str.length]
  exact PyProof.Rows.len_str (by omega) ⟨by rw [hs]; exact .int _ _, .toks (by omega)⟩
theorem callX_sum {n : Nat} {l : List Int} (hl : l.length < 1000000) (hb : ∀ x ∈ l, -4294967296 ≤ x ∧ x ≤ 4294967296) : CallX prog w H0 n (.builtin "sum") [.lst (l.map .int)] (.int l.sum) := fun A s X vs ok tk hg hX r => by
  obtain ⟨v, ws, rfl, r1, r2⟩ := r.cons_inv
  obtain rfl := r2.nil_inv
  obtain ⟨a, items, rfl, hp, ha, rs⟩ := r1.lst_inv
  obtain ⟨xs, e1, e2⟩ := rs.ints
  obtain rfl := intItems_of e1
  have hsz : xs.length = l.length := by rw [← e2]; simp
  refine wpAny_with_toks (Nat.le_refl s.toks) (sum_intList ok.han hp.isList (fun j hj => ?_) (fun h' tk t' hk htk => ⟨?_, .ht hk htk⟩))
  · rw [numAt_of e2, preSum_of (numAt_of e2)]
    have hj' : j < l.length := by simpa [hsz] using hj
    have h1 : l.getD j 0 ∈ l := by rw [List.getD_eq_getElem?_getD, List.getElem?_eq_getElem hj']; simp
    have h2 := hb _ h1
    have h3 := sum_bound (B := 4294967296) (l := l.take (j + 1)) fun x hx => hb x (List.mem_of_mem_take hx)
    have h4 : (l.take (j + 1)).length ≤ 1000000 := by simp; omega
    refine ⟨⟨by omega, by omega⟩, ⟨by omega, by omega⟩⟩
  · rw [preSum_of (numAt_of e2)]
    simp only [List.size_toArray, hsz, List.take_length]
    exact .int _ _
theorem callX_bytes {n : Nat} {l : List Int} (hl : l.length < 1000000) (hb : ∀ x ∈ l, 0 ≤ x ∧ x < 256) : CallX prog w H0 n (.type "bytes") [.lst (l.map .int)] (.bytes (l.map fun x => x.toNat.toUInt8)) := fun A s X vs ok tk hg hX r => by
  obtain ⟨v, ws, rfl, r1, r2⟩ := r.cons_inv
  obtain rfl := r2.nil_inv
  obtain ⟨a, items, rfl, hp, ha, rs⟩ := r1.lst_inv
  have hs : items.toList.length = l.length := by rw [rs.length]; simp
  refine wpAny_with_toks (Nat.le_refl s.toks) (call_bytes_ints (vs := items.toList) (by simpa using hp.isList) rs.intsAre hb (by rw [sizeLine_eq]; omega) ok.han (fun h' t k hk htk => ⟨?_, .ht hk htk⟩))
  exact .bytes _ _
theorem callX_abs {n : Nat} {a : Int} : CallX prog w H0 n (.builtin "abs") [.int a] (.int a.natAbs) := fun A s X vs ok tk hg hX r => by
  obtain ⟨v, ws, rfl, r1, r2⟩ := r.cons_inv
  obtain rfl := r2.nil_inv
  obtain ⟨t, rfl⟩ := r1.int_inv
  refine wpAny_with_toks (Nat.le_refl s.toks) (call_abs_int (fun u tk htk => ⟨?_, .toks htk⟩))
  have : (if a < 0 then -a else a) = (a.natAbs : Int) := by split <;> omega
  rw [this]; exact .int _ _
theorem callX_int {n : Nat} {a : Int} : CallX prog w H0 n (.type "int") [.int a] (.int a) := fun A s X vs ok tk hg hX r => by
  obtain ⟨v, ws, rfl, r1, r2⟩ := r.cons_inv
  obtain rfl := r2.nil_inv
  obtain ⟨t, rfl⟩ := r1.int_inv
  exact call_int_int ⟨.int _ _, .refl s⟩
theorem callX_divmod {n : Nat} {a b : Int} (hb : 0 < b) (hb2 : b < 1073741824) : CallX prog w H0 n (.builtin "divmod") [.int a, .int b] (.tup [.int (a / b), .int (a % b)]) := fun A s X vs ok tk hg hX r => by
  obtain ⟨v, ws, rfl, r1, r2⟩ := r.cons_inv
  obtain ⟨v', ws, rfl, r3, r4⟩ := r2.cons_inv
  obtain rfl := r4.nil_inv
  obtain ⟨t, rfl⟩ := r1.int_inv
  obtain ⟨t', rfl⟩ := r3.int_inv
  refine PyProof.Rows.divmod_int (by omega) ?_ (.inl (PyProof.noPylong_small (by omega)))
  refine ⟨?_, .ht (fun _ _ e => Heap.get?_push_of_some _ e) (by omega)⟩
  refine .tup _ _ 0 _ (Heap.get?_push_size _ rfl) (fun hm => by obtain ⟨o, e⟩ := hX _ hm; rw [get?_size] at e; cases e) ?_
  rw [Int.fdiv_eq_ediv_of_nonneg _ (by omega), Int.fmod_eq_emod_of_nonneg _ (by omega)]
  exact .cons (.int _ _) (.cons (.int _ _) .nil)
theorem callF_list {n : Nat} {l : List PV} (hl : l.length < 1000000) : CallF prog w H0 n (.type "list") [.lst l] l := fun A s X vs ok tk hg hX r => by
  obtain ⟨v, ws, rfl, r1, r2⟩ := r.cons_inv
  obtain rfl := r2.nil_inv
  obtain ⟨a, items, rfl, ⟨k, hp⟩, ha, rs⟩ := r1.lst_inv
  have hs : items.size = l.length := by rw [← rs.length, Array.length_toList]
  refine call_list_seq a (T := "list") (.inl rfl) hp rfl rfl (fun h' c' hk hn => ?_) (by rw [sizeLine_eq]; omega)
  exact ⟨_, items, rfl, get?_size _, ⟨c', hn⟩, (rs.shut (get?_size _)).keeps hk, .hp hk⟩
theorem perm_sorted_eq : ∀ {l l' : List Int}, l.Perm l' → l.Pairwise (· ≤ ·) → l'.Pairwise (· ≤ ·) → l = l' := fun h h1 h2 =>
  h.eq_of_pairwise (fun a b _ _ h1 h2 => Int.le_antisymm h1 h2) h1 h2
theorem callF_sorted {n : Nat} {l l' : List Int} (hl : l.length < 64) (hp : l'.Perm l) (hs : l'.Pairwise (· ≤ ·)) : CallF prog w H0 n (.builtin "sorted") [.lst (l.map .int)] (l'.map .int) := fun A s X vs ok tk hg hX r => by
  obtain ⟨v, ws, rfl, r1, r2⟩ := r.cons_inv
  obtain rfl := r2.nil_inv
  obtain ⟨a, items, rfl, hpl, ha, rs⟩ := r1.lst_inv
  have hs' : items.toList.length = l.length := by rw [rs.length]; simp
  refine sorted_ints (vs := items.toList) (by simpa using hpl.isList) rs.intsAre (by omega) (fun out ns' h1 h2 h3 => ?_)
  obtain rfl : ns' = l' := perm_sorted_eq (h2.trans hp.symm) h3 hs
  obtain ⟨e, he⟩ := sortedAll_at s.heap items.toList out
  exact ⟨_, out, rfl, get?_ge (Nat.le_succ _), ⟨e, he⟩, Rps.ofInts h1, .hp fun _ _ => sortedAll_old⟩

/-! methods of texts -/
theorem join_nil_sep : ∀ (ls : List (List Nat)), Txt.join ⟨[].toArray⟩ (ls.map fun l => ⟨l.toArray⟩) = ⟨ls.flatten.toArray⟩ := fun ls => by
  show Builtin.Str.glued _ _ = _
  rw [StrLaws.glued_eq_join]
  induction ls with
  | nil => rfl
  | cons l ls ih =>
    cases ls with
    | nil => simp [PySem.Str.join]
    | cons l' ls =>
      rw [List.map_cons, List.map_cons, join_cons_cons, ← List.map_cons (f := fun l : List Nat => (⟨l.toArray⟩ : PySem.Str)), ih, str_app, str_app]
      simp
theorem ev_join {b : Bool} {o e : Expr} {apos pos : Pos} {ls : List (List Nat)} (ho : Ev prog w H0 C true o (.str [])) (he : Ev prog w H0 C b e (.lst (ls.map .str))) (hw : (ls.map List.length).sum + ls.length ≤ 1000000)
    (hbase : ∀ env, attributeBase o (PySem.Str.ofString "join") env (eval o env) = eval o env := by intro _; rfl) (hs : isStarred e = false := by rfl) (hline : (apos.endLine == pos.line) = true := by rfl) :
    Ev prog w H0 C b (.Call (.Attribute o (PySem.Str.ofString "join") apos) [e] [] pos) (.str ls.flatten) := fun A s ok Fr =>
  Call_method1 (hbase _) (starEach_plain _ (by simp [hs])) hline (ev_then ho ok Fr fun v s₁ r1 st1 F1 => by
    obtain ⟨t, rfl⟩ := r1.str_inv
    refine ⟨"str", _, F.plainAttrs_str, F.slot_str_join, F.type_str_join, typeIs_str _ _ _, (fun _ e => nomatch e), ?_⟩
    refine Calls.callWith_builtin rfl (Calls.evalArgs_plain (Calls.spliced_cons (ev_then he ok F1 fun u s₂ r2 st2 F2 => Calls.spliced_nil ?_)))
    obtain ⟨a, items, rfl, hp, ha, rs⟩ := r2.lst_inv
    refine wpAny_with_toks (Nat.le_refl s₂.toks) (PyProof.Rows.join_list hp.isList rs.strsAre ?_ (fun t' k htk => ⟨?_, st1.trans (st2.trans (.toks htk))⟩))
    · have : (List.map (fun x => x.length) (List.map (fun l => ({ cps := l.toArray } : PySem.Str)) ls)) = ls.map List.length := by
        rw [List.map_map]
        rfl
      rw [this]
      have h0 : (({ cps := [].toArray } : PySem.Str)).length = 0 := rfl
      rw [h0]
      omega
    · rw [join_nil_sep]; exact .str _ _)
end
end Mine

namespace Mine

theorem Mv.refl (base : Shared) (K : List Addr) (s : Shared) : Mv base K s s := ⟨fun _ _ _ e => e, fun _ _ _ e => e, id, rfl, Nat.le_refl _⟩
theorem Mv.trans {base : Shared} {K : List Addr} {s s' s'' : Shared} (a : Mv base K s s') (b : Mv base K s' s'') : Mv base K s s'' :=
  ⟨fun x o h e => b.heap x o h (a.heap x o h e), fun j x h e => b.gens j x h (a.gens j x h e), fun h => b.bare (a.bare h), b.os.trans a.os, Nat.le_trans a.tks b.tks⟩
theorem Mv.of {base : Shared} {K : List Addr} {s s' : Shared} (st : Step s s') : Mv base K s s' := ⟨fun b o _ e => st.heap b o e, fun j x _ e => st.gens j x e, st.bare, st.os, st.tks⟩

/-- the frame of a generator: its own beginning is the top's heap -/
def gcx (H0 : Heap) (env : Env) (n : Nat) (X : List Addr) (vs : List (String × PV)) (s : Shared) : Cx := ⟨env, { s with heap := H0 }, n, [], X, false, vs, []⟩

/-- what does not change while a generator sleeps -/
def Asleep (base : Shared) (K : List Addr) (s s' : Shared) : Prop := ∀ b o, s.heap.get? b = some o → ¬ Pr base K b → ¬ isSeqObj o → s'.heap.get? b = some o

section
variable {prog : Program} {w : World} {H0 : Heap} {mg mb : PySem.Str → Option Value}

theorem Fs.rebase {env : Env} {n : Nat} {vs : List (String × PV)} {s s₁ : Shared} (F : Fs H0 (gcx H0 env n [] vs s₁) s) : Fs H0 (gcx H0 env n [] vs s) s := {
  glb := F.glb, glb0 := fun _ _ e => e, step := ⟨F.glb, fun _ _ e => e, id, rfl, Nat.le_refl _⟩, tk := F.tk, kind := F.kind, glo := F.glo, bui := F.bui, ns := F.ns, loc := F.loc, cel := F.cel, apart := F.apart, cdf := F.cdf,
  yx := F.yx, y0 := F.y0, xs := F.xs, vars := F.vars, owns := F.owns, od := F.od }
theorem Fs.withX {env : Env} {n : Nat} {vs : List (String × PV)} {X : List Addr} {s : Shared} (F : Fs H0 (gcx H0 env n [] vs s) s) (hat : ∀ q ∈ vs, q.2.atom = true) (hX : ∀ a ∈ X, ∃ o, s.heap.get? a = some o) : Fs H0 (gcx H0 env n X vs s) s := {
  glb := F.glb, glb0 := F.glb0, step := F.step, tk := F.tk, kind := F.kind, glo := F.glo, bui := F.bui, ns := F.ns, loc := F.loc, cel := F.cel, apart := F.apart, cdf := F.cdf,
  yx := (fun _ h => nomatch h), y0 := (fun _ h => nomatch h), xs := hX, vars := (fun q hq => let ⟨v, a, b⟩ := F.vars q hq; ⟨v, a, b.atom (hat q hq)⟩), owns := (fun q hq => nomatch hq), od := (fun q hq => nomatch hq) }
/-- a generator that slept -/
theorem Fs.woken' {env : Env} {n : Nat} {vs : List (String × PV)} {s s' : Shared} (F : Fs H0 (gcx H0 env n [] vs s) s) (hcl : env.cells = []) (hat : ∀ q ∈ vs, q.2.atom = true)
    (hs : ∀ o, s.heap.get? env.locals = some o → s'.heap.get? env.locals = some o) (hg : ∀ b o, H0.get? b = some o → s'.heap.get? b = some o) (htk : 1 ≤ s'.toks) : Fs H0 (gcx H0 env n [] vs s') s' := by
  obtain ⟨m, hm⟩ := F.ns
  exact {
    glb := hg, glb0 := fun _ _ e => e, step := ⟨hg, fun _ _ e => e, id, rfl, Nat.le_refl _⟩, tk := htk, kind := F.kind, glo := F.glo, bui := F.bui, ns := ⟨m, hm.at' fun o e => hs o e⟩, loc := F.loc
    cel := fun x c h => by have h' : (x, c) ∈ env.cells := h; rw [hcl] at h'; cases h'
    apart := F.apart, cdf := F.cdf, yx := F.yx, y0 := F.y0, xs := fun a h => nomatch h
    vars := fun q hq => by
      obtain ⟨v, a, b⟩ := F.vars q hq
      refine ⟨v, ?_, b.atom (hat q hq)⟩
      rcases a with ⟨k, mm, hmm, z⟩ | ⟨k, c, hc, z⟩
      · exact .inl ⟨k, mm, hmm.at' fun o e => hs o e, z⟩
      · have hc' : env.cells.lookup (PySem.Str.ofString q.1) = some c := hc
        rw [hcl] at hc'; cases hc'
    owns := fun q hq => nomatch hq
    od := fun q hq => nomatch hq }
theorem Fs.woken {env : Env} {n : Nat} {vs : List (String × PV)} {base : Shared} {K : List Addr} {s s' : Shared} (F : Fs H0 (gcx H0 env n [] vs s) s) (hcl : env.cells = []) (hat : ∀ q ∈ vs, q.2.atom = true) (hL : ¬ Pr base K env.locals)
    (hs : Asleep base K s s') (hg : ∀ b o, H0.get? b = some o → s'.heap.get? b = some o) (htk : 1 ≤ s'.toks) : Fs H0 (gcx H0 env n [] vs s') s' := by
  obtain ⟨m, hm⟩ := F.ns
  have hm' : s'.heap.Ns env.locals m := hm.at' fun o e => by
    obtain ⟨o', e', h, _⟩ := ns_obj hm
    have e'' : s.heap.get? env.locals = some o' := e'
    have e3 : s.heap.get? env.locals = some o := e
    rw [e''] at e3; cases e3
    exact hs _ _ e' hL h
  exact {
    glb := hg, glb0 := fun _ _ e => e, step := ⟨hg, fun _ _ e => e, id, rfl, Nat.le_refl _⟩, tk := htk, kind := F.kind, glo := F.glo, bui := F.bui, ns := ⟨m, hm'⟩, loc := F.loc
    cel := fun x c h => by have h' : (x, c) ∈ env.cells := h; rw [hcl] at h'; cases h'
    apart := F.apart, cdf := F.cdf, yx := F.yx, y0 := F.y0, xs := fun a h => nomatch h
    vars := fun q hq => by
      obtain ⟨v, a, b⟩ := F.vars q hq
      refine ⟨v, ?_, b.atom (hat q hq)⟩
      rcases a with ⟨k, mm, hmm, z⟩ | ⟨k, c, hc, z⟩
      · exact .inl ⟨k, mm, hmm.at' fun o e => by
          obtain ⟨o', e', h, _⟩ := ns_obj hmm
          have e'' : s.heap.get? env.locals = some o' := e'
          have e3 : s.heap.get? env.locals = some o := e
          rw [e''] at e3; cases e3
          exact hs _ _ e' hL h, z⟩
      · have hc' : env.cells.lookup (PySem.Str.ofString q.1) = some c := hc
        rw [hcl] at hc'; cases hc'
    owns := fun q hq => nomatch hq
    od := fun q hq => nomatch hq }

/-- a part of a generator's run: `k` values are still to come -/
def genR (base : Shared) (K : List Addr) : GenEnd := fun k s₀ r s₁ => r = .ok (.ret .none) ∧ (k = 0 ∧ Mv base K s₀ s₁)
def genY (H0 : Heap) (X K : List Addr) (base : Shared) (items : List PV) : Protocol := fun k s₀ v s' kap => (∃ p, items[items.length - 1 - k]? = some p ∧ Rp s'.heap X v p) ∧ Mv base K s₀ s' ∧ ((∀ b o, H0.get? b = some o → s'.heap.get? b = some o) ∧ 1 ≤ s'.toks ∧ ∀ a, a ∈ X ∨ Pr base K a → ∃ o, s'.heap.get? a = some o) ∧
  ∀ s'', Asleep base K s' s'' → (∀ b o, H0.get? b = some o → s''.heap.get? b = some o) → 1 ≤ s''.toks → (∀ a, a ∈ X ∨ Pr base K a → ∃ o, s''.heap.get? a = some o) → kap (.send .none) s''

def putv (vs : List (String × PV)) (x : String) (p : PV) : List (String × PV) := (x, p) :: del x vs

structure Gx where
  env : Env
  n : Nat
  X : List Addr
  K : List Addr
  base : Shared
  items : List PV

structure GxOk (H0 : Heap) (G : Gx) : Prop where
  cells : G.env.cells = []
  loc : ¬ Pr G.base G.K G.env.locals
  co : G.env.scope.isCoroutine = false
  kind : G.env.scope.kind = .function
  top : ∀ b o, H0.get? b = some o → Pr G.base G.K b

def Go (prog : Program) (w : World) (H0 : Heap) (G : Gx) (k : Nat) (c : Code) (fs : List Frame) (t : Sem Fin) (vs : List (String × PV)) (T : Shared → Prop) : Prop :=
  ∀ A s₀ s, AOK (G.n + 1) A → Fs H0 (gcx H0 G.env G.n [] vs s) s → (∀ a, a ∈ G.X ∨ Pr G.base G.K a → ∃ o, s.heap.get? a = some o) → T s → Mv G.base G.K s₀ s →
    Seg (model prog w) A.in1 (genR G.base G.K) (genY H0 G.X G.K G.base G.items) k s₀ c t fs s

/-- an iterator's state that only things of the generator's own bear -/
def Own (G : Gx) (T : Shared → Prop) : Prop := ∀ s s', T s → (∀ b o, s.heap.get? b = some o → b ≠ G.env.locals → ¬ Pr G.base G.K b → ¬ isSeqObj o → s'.heap.get? b = some o) → T s'

variable {G : Gx} {k : Nat} {c : Code} {fs : List Frame} {vs : List (String × PV)} {T : Shared → Prop} {K : Flow → Sem Fin} {H : Value → Sem Fin} {gd : Bool → Bool} {lv : List Value → List Value}

theorem Own.go {s s' : Shared} (h : Own G T) (t : T s) (st : Step s s') : T s' := h s s' t fun b o e _ _ _ => st.heap b o e
theorem alloc_go {s s' base : Shared} {X K : List Addr} (h : ∀ a, a ∈ X ∨ Pr base K a → ∃ o, s.heap.get? a = some o) (st : Step s s') : ∀ a, a ∈ X ∨ Pr base K a → ∃ o, s'.heap.get? a = some o := fun a ha => let ⟨o, e⟩ := h a ha; ⟨o, st.heap a o e⟩

/-- room for what a generator's frame does -/
def Room (G : Gx) (c : Code) (fs : List Frame) : Prop := ∀ A, AOK (G.n + 1) A → AOK G.n (A.in1.over c fs)

theorem go_nil (h : Go prog w H0 G k c fs (K .next) vs T) : Go prog w H0 G k c fs ((execs [] G.env).wrap K H gd lv) vs T := fun A s₀ s ok F al t mv => seg_execs_nil (h A s₀ s ok F al t mv)
theorem go_cons {st : Stmt} {rest : List Stmt} (h : Go prog w H0 G k c fs ((exec st G.env).wrap (fun f => match f with | .next => (execs rest G.env).wrap K H gd lv | f => K f) H gd lv) vs T) :
    Go prog w H0 G k c fs ((execs (st :: rest) G.env).wrap K H gd lv) vs T := fun A s₀ s ok F al t mv => seg_execs_cons (h A s₀ s ok F al t mv)
theorem go_st {st : Stmt} {vs' : List (String × PV)} (ho : GxOk H0 G) (hr : Room G c fs) (hT : Own G T) (hst : ∀ s, St1 prog w H0 (gcx H0 G.env G.n [] vs s) st (fun C' => C' = gcx H0 G.env G.n [] vs' s)) (h : Go prog w H0 G k c fs (K .next) vs' T) :
    Go prog w H0 G k c fs ((exec st G.env).wrap K H gd lv) vs T := fun A s₀ s ok F al t mv => by
  refine seg_wrap (wpAny_mono (hst s _ s (hr A ok) F) (fun f s' hf => ?_) fun _ _ x => x.elim)
  obtain ⟨rfl, sb, C', rfl, hl, F', _⟩ := hf
  have keep : ∀ b o, s.heap.get? b = some o → b ≠ G.env.locals → s'.heap.get? b = some o := fun b o e hb => sb.heap b o hb (fun x c hm => by
    have hm' : (x, c) ∈ G.env.cells := hm
    rw [ho.cells] at hm'; cases hm') (fun h => nomatch h) e
  have hns : ∀ o, s.heap.get? G.env.locals = some o → ¬ isSeqObj o := fun o e => by
    obtain ⟨m, hn⟩ := F.ns
    obtain ⟨o', e', h, _⟩ := ns_obj hn
    have e'' : s.heap.get? G.env.locals = some o' := e'
    rw [e''] at e; cases e; exact h
  have mv' : Mv G.base G.K s s' := ⟨fun b o hb e => keep b o e fun q => by
      subst q
      rcases hb with hb | hb
      · exact ho.loc hb
      · exact hns o e hb, fun j x _ e => F'.step.gens j x e, F'.step.bare, F'.step.os, F'.step.tks⟩
  refine h A s₀ s' ok F'.rebase (fun a ha => ?_) (hT s s' t fun b o e hb _ _ => keep b o e hb) (mv.trans mv')
  obtain ⟨o, e⟩ := al a ha
  by_cases q : a = G.env.locals
  · obtain ⟨m, hn⟩ := F'.ns
    obtain ⟨o', e', _⟩ := ns_obj hn
    exact ⟨o', by rw [q]; exact e'⟩
  · exact ⟨o, keep a o e q⟩
theorem go_if {test : Expr} {body orelse : List Stmt} {pos : Pos} {r : Bool} (hr : Room G c fs) (hT : Own G T) (ht : ∀ s, Bt prog w H0 (gcx H0 G.env G.n [] vs s) test r) (h : Go prog w H0 G k c fs ((execs (if r then body else orelse) G.env).wrap K H gd lv) vs T) :
    Go prog w H0 G k c fs ((exec (.If test body orelse pos) G.env).wrap K H gd lv) vs T := fun A s₀ s ok F al t mv => by
  rw [exec_If, Sem.bind_eq_wrap', Sem.wrap_wrap]
  refine seg_wrap (wpAny_standAt ?_)
  rw [Sem.bind_eq_wrap', Sem.wrap_wrap]
  refine seg_wrap (wpAny_mono (ht s _ s (hr A ok) F) (fun v s' hv => ?_) fun _ _ x => x.elim)
  obtain ⟨rfl, st⟩ := hv
  have := h A s₀ s' ok (F.go st).rebase (alloc_go al st) (hT.go t st) (mv.trans (.of st))
  cases v <;> exact this
theorem go_yield {e : Expr} {ypos pos : Pos} {p : PV} (ho : GxOk H0 G) (hr : Room G c fs) (hT : Own G T) (hat : ∀ q ∈ vs, q.2.atom = true) (hfs : splitAtGen fs = none) (hgd : gd false = false) (hfg : fs.any Frame.guarded = false)
    (hp : G.items[G.items.length - 1 - k]? = some p) (he : ∀ X s, Ev prog w H0 (gcx H0 G.env G.n X vs s) true e p) (h : Go prog w H0 G k c fs (K .next) vs T) :
    Go prog w H0 G (k + 1) c fs ((exec (.Expr (.Yield (some e) ypos) pos) G.env).wrap K H gd lv) vs T := fun A s₀ s ok F al t mv => by
  refine seg_Expr_Yield hfs hgd hfg ?_ ho.co (by unfold interactive; rw [ho.kind]; rfl)
  refine wpAny_mono (he G.X s _ s (hr A ok) (F.withX hat fun a ha => al a (.inl ha))) (fun v s' hv kap hk => ?_) fun _ _ x => x.elim
  obtain ⟨rv, st⟩ := hv
  have F' := (F.go st).rebase
  refine ⟨⟨p, hp, rv⟩, mv.trans (.of st), ⟨F'.glb, F'.tk, alloc_go al st⟩, fun s'' hs hg htk al' => ?_⟩
  refine hk .none s'' ?_
  refine h A s'' s'' ok (F'.woken ho.cells hat ho.loc hs hg htk) al' (hT s' s'' (hT.go t st) fun b o e _ hb hq => hs b o e hb hq) (.refl _ _ _)

theorem go_for {target iter : Expr} {body : List Stmt} {pos : Pos} {T' : Addr → Addr → Shared → Prop} (hr : Room G c fs) (hT : Own G T)
    (hit : ∀ A s, AOK G.n A → Fs H0 (gcx H0 G.env G.n [] vs s) s → wpAny (model prog w) A (eval iter G.env) (fun x s₁ => wpAny (model prog w) A (pyIter x) (fun it s₂ => Step s s₂ ∧ ∃ e i, it = .ref e ∧ s.heap.get? e = Option.none ∧ s.heap.get? i = Option.none ∧ e ≠ i ∧ T' e i s₂) (fun _ _ => False) s₁) (fun _ _ => False) s)
    (h : ∀ e i kk p, e ≠ i → ¬ Pr G.base G.K e → ¬ Pr G.base G.K i → e ≠ G.env.locals → i ≠ G.env.locals → i ∉ G.X → kk (.ok .next) = K .next →
      Go prog w H0 G k (.forLoop target (.ref e) body [] G.env) (.ret kk none (gd false) (lv []) c p [] :: fs) ((model prog w).den (.forLoop target (.ref e) body [] G.env)) vs (T' e i))
    (hs : ∀ x, foldedSetIterable iter G.env x = pure x := by intro _; rfl) :
    Go prog w H0 G k c fs ((exec (.For target iter body [] pos) G.env).wrap K H gd lv) vs T := fun A s₀ s ok F al t mv => by
  rw [arm_exec_For, Sem.bind_eq_wrap', Sem.wrap_wrap]
  refine seg_wrap (wpAny_standAt ?_)
  rw [Sem.bind_eq_wrap', Sem.wrap_wrap]
  refine seg_wrap (wpAny_mono (hit _ s (hr A ok) F) (fun x s₁ h₁ => ?_) fun _ _ x => x.elim)
  rw [Sem.bind_eq_wrap', Sem.wrap_wrap]
  refine seg_wrap (wpAny_of_eq (hs x) ?_)
  rw [Sem.bind_eq_wrap', Sem.wrap_wrap]
  refine seg_wrap (wpAny_standAt ?_)
  rw [Sem.bind_eq_wrap', Sem.wrap_wrap]
  refine seg_wrap (wpAny_holding (wpAny_mono h₁ (fun it s₂ h₂ => ?_) fun _ _ x => x.elim))
  obtain ⟨st, e, i, rfl, hn, hi, hei, t'⟩ := h₂
  have ne : ∀ {b}, s.heap.get? b = Option.none → ¬ Pr G.base G.K b ∧ b ≠ G.env.locals := fun {b} hb => by
    constructor
    · intro h
      obtain ⟨o, e⟩ := al b (.inr h)
      rw [hb] at e; cases e
    · intro q
      obtain ⟨m, hm⟩ := F.ns
      obtain ⟨o, e, _⟩ := ns_obj hm
      have e' : s.heap.get? G.env.locals = some o := e
      rw [← q, hb] at e'; cases e'
  refine seg_call fun p => ?_
  have hiX : i ∉ G.X := fun hm => by
    obtain ⟨o, q⟩ := al i (.inl hm)
    rw [hi] at q; cases q
  exact h e i _ p hei (ne hn).1 (ne hi).1 (ne hn).2 (ne hi).2 hiX rfl A s₀ s₂ ok (F.go st).rebase (alloc_go al st) t' (mv.trans (.of st))
end
end Mine

namespace Mine

section
variable {prog : Program} {w : World} {H0 : Heap} {mg mb : PySem.Str → Option Value}
variable {G : Gx} {k : Nat} {c : Code} {fs : List Frame} {vs : List (String × PV)} {T : Shared → Prop} {K : Flow → Sem Fin} {H : Value → Sem Fin} {gd : Bool → Bool} {lv : List Value → List Value}

/-- an enumerate over a text, its next sign the `i`th -/
def Te (x : List Nat) (i : Nat) (e it : Addr) (s : Shared) : Prop := (∃ old, IsEnum s.heap e it i old) ∧ ∃ t, s.heap.IsStrIter it "str_ascii_iterator" ⟨x.toArray⟩ t i
theorem own_Te {x : List Nat} {i : Nat} {e it : Addr} (h1 : ¬ Pr G.base G.K e) (h2 : ¬ Pr G.base G.K it) (h3 : e ≠ G.env.locals) (h4 : it ≠ G.env.locals) : Own G (Te x i e it) := by
  rintro s s' ⟨⟨old, he⟩, t, o, ho, hc, hd⟩ hk
  exact ⟨⟨old, hk e _ he h3 h1 (fun ⟨_, _, q⟩ => by cases q)⟩, t, o, hk it o ho h4 h2 (fun ⟨_, _, q⟩ => by rw [hd] at q; cases q), hc, hd⟩
theorem own_true : Own G (fun _ => True) := fun _ _ _ _ => trivial

theorem go_again {c' : Code} {T : Shared → Prop} (hq : c'.quiet = true) (h : Go prog w H0 G k c' fs ((model prog w).den c') vs T) : Go prog w H0 G k c fs (.pure (.again c')) vs T := fun A s₀ s ok F al t mv => seg_again hq (h A s₀ s ok F al t mv)
theorem go_end0 : Go prog w H0 G 0 c [] (.pure (.done (.ret .none))) vs T := fun A s₀ s ok F al t mv => seg_end (.ok (.ret .none)) ⟨rfl, rfl, mv⟩
theorem go_func {body : List Stmt} (h : ∀ K H, K .next = .pure (.done (.ret .none)) → Go prog w H0 G k (.func body G.env) fs ((execs body G.env).wrap K H id id) vs T) : Go prog w H0 G k (.func body G.env) fs ((model prog w).den (.func body G.env)) vs T :=
  fun A s₀ s ok F al t mv => seg_func (h _ _ rfl A s₀ s ok F al t mv)

theorem go_item {x : List Nat} {i ch : Nat} {e it : Addr} {xn yn : String} {px py tp : Pos} {kk : Nat} {body : List Stmt} (ho : GxOk H0 G) (hr : Room G (.forLoop (.Tuple [.Name (PySem.Str.ofString xn) px, .Name (PySem.Str.ofString yn) py] kk tp) (.ref e) body [] G.env) fs) (hei : e ≠ it)
    (h1 : ¬ Pr G.base G.K e) (h2 : ¬ Pr G.base G.K it) (h3 : e ≠ G.env.locals) (h4 : it ≠ G.env.locals) (hch : x[i]? = some ch) (hat : ∀ q ∈ vs, q.2.atom = true)
    (hkx : G.env.kindOf (PySem.Str.ofString xn) = some .local) (hky : G.env.kindOf (PySem.Str.ofString yn) = some .local)
    (h : ∀ K' H', K' .next = .pure (.again (.forLoop (.Tuple [.Name (PySem.Str.ofString xn) px, .Name (PySem.Str.ofString yn) py] kk tp) (.ref e) body [] G.env)) →
      Go prog w H0 G k (.forLoop (.Tuple [.Name (PySem.Str.ofString xn) px, .Name (PySem.Str.ofString yn) py] kk tp) (.ref e) body [] G.env) fs ((execs body G.env).wrap K' H' id id) (putv (putv vs xn (.int i)) yn (.str [ch])) (Te x (i + 1) e it)) :
    Go prog w H0 G k (.forLoop (.Tuple [.Name (PySem.Str.ofString xn) px, .Name (PySem.Str.ofString yn) py] kk tp) (.ref e) body [] G.env) fs ((model prog w).den (.forLoop (.Tuple [.Name (PySem.Str.ofString xn) px, .Name (PySem.Str.ofString yn) py] kk tp) (.ref e) body [] G.env)) vs (Te x i e it) := fun A s₀ s ok F al t mv => by
  show Seg _ _ _ _ k s₀ _ ((forTurn _ _ body [] G.env).onRaise (fun x => do noteFrame x G.env; theTreesLotGoes x)) fs s
  unfold forTurn
  rw [Sem.onRaise_eq_wrap, Sem.bind_eq_wrap', Sem.wrap_wrap]
  refine seg_wrap (wpAny_standAt ?_)
  rw [Sem.bind_eq_wrap', Sem.wrap_wrap]
  have okr := hr A ok
  obtain ⟨⟨old, he⟩, tt, hit⟩ := t
  have hlt : i < (⟨x.toArray⟩ : PySem.Str).cps.size := by
    rcases Nat.lt_or_ge i x.length with q | q
    · simpa using q
    · rw [List.getElem?_eq_none q] at hch; cases hch
  refine seg_wrap (wpAny_onRaise (wpAny_mono (E := fun _ _ => False) (wpAny_with_toks (Nat.le_refl s.toks) (wpAny_pyNext_enum_itemD (Draws.strAscii (A := (A.in1.over _ fs).in1) okr.han it ⟨x.toArray⟩ tt) he hit hlt hei (by simpa using hei) (Q := fun r s' => s.toks ≤ s'.toks → ∃ T u v, r = some (.ref T) ∧ s.heap.get? T = Option.none ∧ IsEnumOut s'.heap e it ((i : Int) + 1) v T ∧
      s'.heap.IsStrIter it "str_ascii_iterator" ⟨x.toArray⟩ tt (i + 1) ∧ IsT s'.heap T #[.int i u, v] 0 ∧ (∃ u', v = .str ⟨#[ch]⟩ u') ∧ (∀ b o, b ≠ e → b ≠ it → s.heap.get? b = some o → s'.heap.get? b = some o) ∧ s'.gens = s.gens ∧ s'.os = s.os ∧ s.toks ≤ s'.toks)
      fun v h' tk hv hout hit' hT hsz hk htk => ?_)) (fun r s₁ hr₁ => ?_) fun _ _ x => x.elim))
  · obtain ⟨cc, u', hc, rfl⟩ := hv
    have : cc = ch := by
      have hc' : x[i]? = some cc := by simpa using hc
      rw [hch] at hc'; cases hc'; rfl
    subst this
    exact ⟨_, tk, _, rfl, get?_size _, hout, hit', hT, ⟨u', rfl⟩, hk, rfl, rfl, htk⟩
  obtain ⟨TT, u, v, rfl, hTn, hout, hit', hT, ⟨u', rfl⟩, hk, hg, hos, htk⟩ := hr₁
  dsimp only
  rw [Sem.bind_eq_wrap', Sem.wrap_wrap]
  refine seg_wrap (wpAny_letOwnedTupleGo_enum hout fun h' he' hs' => ?_)
  replace hs' : Heap.SameBut e s₁.heap h' := hs'
  rw [Sem.bind_eq_wrap', Sem.wrap_wrap]
  have hTe : TT ≠ e := fun q => by rw [q, he] at hTn; cases hTn
  have hTi : TT ≠ it := fun q => by obtain ⟨o, ho, _⟩ := hit; rw [q, ho] at hTn; cases hTn
  have keep : ∀ b o, b ≠ e → b ≠ it → s.heap.get? b = some o → h'.get? b = some o := fun b o q1 q2 e => hs'.extBut b o q1 (hk b o q1 q2 e)
  have nse : ∀ {o}, s.heap.get? e = some o → ¬ isSeqObj o := fun {o} q => by
    rw [he] at q; cases q
    rintro ⟨_, _, q⟩; cases q
  have nsi : ∀ {o}, s.heap.get? it = some o → ¬ isSeqObj o := fun {o} q => by
    obtain ⟨o', ho', _, hd⟩ := hit
    rw [ho'] at q; cases q
    rintro ⟨_, _, q⟩; rw [hd] at q; cases q
  have mv1 : Mv G.base G.K s { s₁ with heap := h' } := ⟨fun b o hb e' => keep b o (fun q => by
      subst q
      rcases hb with hb | hb
      · exact h1 hb
      · exact nse e' hb) (fun q => by
      subst q
      rcases hb with hb | hb
      · exact h2 hb
      · exact nsi e' hb) e', fun j z _ e' => by show s₁.gens[j]? = _; rw [hg]; exact e', fun hb => by show AllBare s₁.gens; rw [hg]; exact hb, hos, htk⟩
  have nH : ∀ b o, H0.get? b = some o → b ≠ e ∧ b ≠ it := fun b o q => ⟨fun q' => h1 (q' ▸ ho.top b o q), fun q' => h2 (q' ▸ ho.top b o q)⟩
  have F1 : Fs H0 (gcx H0 G.env G.n [] vs { s₁ with heap := h' }) { s₁ with heap := h' } := F.woken' ho.cells hat (fun o q => keep _ o h3.symm h4.symm q) (fun b o q => keep b o (nH b o q).1 (nH b o q).2 (F.glb b o q)) (Nat.le_trans F.tk htk)
  have hT' : IsT h' TT #[.int i u, .str ⟨#[ch]⟩ u'] 0 := hs'.extBut _ _ hTe hT
  refine seg_wrap (wpAny_mono (store_pair (C := gcx H0 G.env G.n [] vs { s₁ with heap := h' }) (Q := fun _ s' => StepB (gcx H0 G.env G.n [] vs { s₁ with heap := h' }) { s₁ with heap := h' } s' ∧ Fs H0 (gcx H0 G.env G.n [] (putv (putv vs xn (.int i)) yn (.str [ch])) { s₁ with heap := h' }) s') F1 okr.han (.inl hkx) (.inl hky)
    (.tup TT _ 0 _ hT' (fun h => nomatch h) (.cons (.int _ _) (.cons (.str [ch] _) .nil))) fun s' sb F' => ⟨sb, F'⟩) (fun _ s₂ h₂ => ?_) fun _ _ x => x.elim)
  obtain ⟨sb, F2⟩ := h₂
  have keep2 : ∀ b o, b ≠ G.env.locals → h'.get? b = some o → s₂.heap.get? b = some o := fun b o hb q => sb.heap b o hb (fun x c hm => by
    have hm' : (x, c) ∈ G.env.cells := hm
    rw [ho.cells] at hm'; cases hm') (fun h => nomatch h) q
  have nsl : ∀ {o}, h'.get? G.env.locals = some o → ¬ isSeqObj o := fun {o} q => by
    obtain ⟨m, hm⟩ := F1.ns
    obtain ⟨o', e', hh, _⟩ := ns_obj hm
    have e'' : h'.get? G.env.locals = some o' := e'
    rw [e''] at q; cases q; exact hh
  have mv2 : Mv G.base G.K { s₁ with heap := h' } s₂ := ⟨fun b o hb e' => keep2 b o (fun q => by
      subst q
      rcases hb with hb | hb
      · exact ho.loc hb
      · exact nsl e' hb) e', fun j z _ e' => F2.step.gens j z e', F2.step.bare, F2.step.os, F2.step.tks⟩
  have T2 : Te x (i + 1) e it s₂ := ⟨⟨.str ⟨#[ch]⟩ u', keep2 e _ h3 (by have := he'; push_cast; exact this)⟩, tt, by
    obtain ⟨o, q, r⟩ := hit'
    exact ⟨o, keep2 it o h4 (hs'.extBut _ _ hei.symm q), r⟩⟩
  have al2 : ∀ a, a ∈ G.X ∨ Pr G.base G.K a → ∃ o, s₂.heap.get? a = some o := fun a ha => by
    obtain ⟨o, q⟩ := al a ha
    by_cases qa : a = G.env.locals
    · obtain ⟨m, hn⟩ := F2.ns
      obtain ⟨o', q', _⟩ := ns_obj hn
      exact ⟨o', by rw [qa]; exact q'⟩
    · by_cases qe : a = e
      · exact ⟨_, keep2 a _ qa (by rw [qe]; exact he')⟩
      · by_cases qi : a = it
        · obtain ⟨o, q, r⟩ := hit'
          exact ⟨o, keep2 a o qa (by rw [qi]; exact hs'.extBut _ _ hei.symm q)⟩
        · exact ⟨o, keep2 a o qa (keep a o qe qi q)⟩
  rw [Sem.bind_eq_wrap', Sem.wrap_wrap]
  exact h _ _ rfl A s₀ s₂ ok F2.rebase al2 T2 (mv.trans (mv1.trans mv2))

theorem go_done {x : List Nat} {e it : Addr} {target : Expr} {body : List Stmt} {kk : Result → Sem Fin} {gg : Bool} {ll : List Value} {p : Pos} (ho : GxOk H0 G) (hr : Room G (.forLoop target (.ref e) body [] G.env) (.ret kk none gg ll c p [] :: fs)) (hei : e ≠ it)
    (h1 : ¬ Pr G.base G.K e) (h2 : ¬ Pr G.base G.K it) (h3 : e ≠ G.env.locals) (h4 : it ≠ G.env.locals) (hiX : it ∉ G.X) (hat : ∀ q ∈ vs, q.2.atom = true)
    (h : Go prog w H0 G k c fs (kk (.ok .next)) vs (fun _ => True)) :
    Go prog w H0 G k (.forLoop target (.ref e) body [] G.env) (.ret kk none gg ll c p [] :: fs) ((model prog w).den (.forLoop target (.ref e) body [] G.env)) vs (Te x x.length e it) := fun A s₀ s ok F al t mv => by
  show Seg _ _ _ _ k s₀ _ ((forTurn _ _ body [] G.env).onRaise (fun x => do noteFrame x G.env; theTreesLotGoes x)) _ s
  unfold forTurn
  rw [Sem.onRaise_eq_wrap, Sem.bind_eq_wrap', Sem.wrap_wrap]
  refine seg_wrap (wpAny_standAt ?_)
  rw [Sem.bind_eq_wrap', Sem.wrap_wrap]
  have okr := hr A ok
  obtain ⟨⟨old, he⟩, tt, hit⟩ := t
  have hit2 : s.heap.IsStrIter it "str_ascii_iterator" ⟨x.toArray⟩ tt (⟨x.toArray⟩ : PySem.Str).cps.size := by simpa using hit
  refine seg_wrap (wpAny_onRaise (wpAny_mono (E := fun _ _ => False) (wpAny_pyNext_enum_endD (Draws.strAscii (A := (A.in1.over (.forLoop target (.ref e) body [] G.env) (.ret kk none gg ll c p [] :: fs)).in1) okr.han it ⟨x.toArray⟩ tt) he hit2
    (Q := fun r s' => r = Option.none ∧ ∃ h', s' = { s with heap := h' } ∧ Heap.ExtBut it s.heap h') fun h' hx => ⟨rfl, h', rfl, hx⟩) (fun r s₁ hr₁ => ?_) fun _ _ x => x.elim))
  obtain ⟨rfl, h', rfl, hx⟩ := hr₁
  have nsi : ∀ {o}, s.heap.get? it = some o → ¬ isSeqObj o := fun {o} q => by
    obtain ⟨o', ho', _, hd⟩ := hit
    rw [ho'] at q; cases q
    rintro ⟨_, _, q⟩; rw [hd] at q; cases q
  have mv1 : Mv G.base G.K s { s with heap := h' } := ⟨fun b o hb e' => hx b o (fun q => by
      subst q
      rcases hb with hb | hb
      · exact h2 hb
      · exact nsi e' hb) e', fun j z _ e' => e', id, rfl, Nat.le_refl _⟩
  have F1 : Fs H0 (gcx H0 G.env G.n [] vs { s with heap := h' }) { s with heap := h' } := F.woken' ho.cells hat (fun o q => hx _ o h4.symm q) (fun b o q => hx b o (fun q' => h2 (q' ▸ ho.top b o q)) (F.glb b o q)) F.tk
  have al1 : ∀ a, a ∈ G.X ∨ Pr G.base G.K a → ∃ o, h'.get? a = some o := fun a ha => by
    obtain ⟨o, q⟩ := al a ha
    exact ⟨o, hx a o (fun q' => by
      subst q'
      rcases ha with ha | ha
      · exact hiX ha
      · exact h2 ha) q⟩
  refine seg_again rfl ?_
  show Seg _ _ _ _ k s₀ _ (do return Fin.done (← (execs [] G.env).onRaise (fun x => do noteFrame x G.env; theTreesLotGoes x))) _ _
  exact seg_leaf (.ok .next) (h A s₀ _ ok F1 al1 trivial (mv.trans mv1))
end
end Mine

namespace Mine

section
variable {prog : Program} {w : World} {H0 : Heap} {mg mb : PySem.Str → Option Value}

/-- the next value of a generator whose last word is a bare return -/
theorem next_gen {A : Around} {s : Shared} {a : Addr} {g n : Nat} {gs : GenState} {P : Nat → Shared → Shared → Prop} {Y : Protocol} {Q : Option Value → Shared → Prop} (hh : A.handled = Option.none)
    (hl : s.heap.NoLimit) (hroom : A.depth < recursionLimit) (hg : s.heap.IsGen a g) (hgs : s.gens[g]? = some gs)
    (hgo : gs.Goes (model prog w) A.in1 (fun n s₀ r s₁ => r = .ok (.ret .none) ∧ P n s₀ s₁) Y n (.send .none) (s.setGen g .running))
    (hY : ∀ v s₁ gs', gs'.bare = true → Y (n - 1) (s.setGen g .running) v s₁ (fun r' s'' => match n with
        | 0 => False
        | m + 1 => gs'.Goes (model prog w) A.in1 (fun n s₀ r s₁ => r = .ok (.ret .none) ∧ P n s₀ s₁) Y m r' s'') → Q (some v) (s₁.setGen g gs'))
    (hP : ∀ s₁, P n (s.setGen g .running) s₁ → ∀ h', (∀ b o, s₁.heap.get? b = some o → h'.get? b = some o) → Q Option.none { s₁.setGen g .finished with heap := h' }) :
    wpAny (model prog w) A (pyNext (.ref a)) Q (fun _ _ => False) s := by
  unfold pyNext
  refine wpAny_bind (wpAny_attempt (wpAny_callSpecial?_slot (name := Str.ofString "__next__") hg.typeIs slot_gen_next (wpAny_call_entry slot_gen_next hg.typeIs entry_gen_next ?_ (args_gen_next _))))
  show wpAny _ A.in1 (Builtin.Generator.genWake (.ref a) (.send .none)) _ _ s
  unfold Builtin.Generator.genWake
  refine wpAny_bind (wpAny_holding (wpAny_genNumber hg (wpAny_bind (wpAny_genState hgs ?_))))
  cases gs with
  | running => exact hgo.elim
  | finished => exact hgo.elim
  | _ =>
    refine wpAny_bind (wpAny_roomToWake hl hroom ?_)
    show wpAny _ A.in1 (.resume g (.send .none) [] _) _ _ s
    refine wpAny_resumeQ hgs hgo (fun x s₁ hx => ?_) (fun v s₁ gs' hb hv => wpAny_pure ⟨v, rfl, wpAny_pure (hY v s₁ gs' hb hv)⟩)
    obtain ⟨rfl, hp⟩ := hx
    show wpAny _ A.in1 (newExc (.type "StopIteration") [] >>= _) _ _ _
    refine wpAny_bind ?_
    simp only [newExc, newTuple]
    refine wpAny_bind (wpAny_newObj_type ?_ (by size_fits))
    refine wpAny_bind (m := firstArgMember _ _) (wpAny_of_eq (a := Value.none) rfl ?_)
    refine wpAny_newObj_type ?_ (by size_fits)
    simp only [raiseNew]
    refine wpAny_bind (wpAny_bind (wpAny_handled ?_))
    rw [show A.in1.handled = Option.none from hh]
    refine wpAny_throw (wpAny_bind (wpAny_isInstance (T := "StopIteration") (b := true) ⟨_, Heap.get?_push_size _ rfl, rfl⟩ isSubtype_stop ?_))
    exact wpAny_pure (hP s₁ hp _ fun b o hb => Heap.get?_push_of_some _ (Heap.get?_push_of_some _ hb))

/-! the generator as an iterator -/
def gIn (base : Shared) (g : Nat) : Shared := { base with gens := Array.replicate (g + 1) .finished }
def GSt (prog : Program) (w : World) (H0 : Heap) (A : Around) (X K : List Addr) (base : Shared) (items : List PV) (a : Addr) (g : Nat) (j : Nat) (s : Shared) : Prop :=
  s.heap.IsGen a g ∧ ∃ gs, s.gens[g]? = some gs ∧ (j < items.length + 1 → ∀ s'', Asleep base (a :: K) s s'' → (∀ b o, H0.get? b = some o → s''.heap.get? b = some o) → 1 ≤ s''.toks → (∀ b, b ∈ X ∨ Pr base (a :: K) b → ∃ o, s''.heap.get? b = some o) →
    gs.Goes (model prog w) A.in1 (genR (gIn base g) (a :: K)) (genY H0 X (a :: K) (gIn base g) items) (items.length - j) (.send .none) s'')

theorem gen_kept {base : Shared} {g : Nat} {s s₁ : Shared} {K : List Addr} {x gs : GenState} (hg : s.gens[g]? = some gs) (mv : Mv (gIn base g) K (s.setGen g .running) s₁) : (s₁.setGen g x).gens[g]? = some x := by
  have hlt : g < s.gens.size := gens_lt hg
  have h1 : (s.setGen g .running).gens[g]? = some .running := by
    show (s.gens.setIfInBounds g .running)[g]? = _
    rw [Array.getElem?_setIfInBounds_self_of_lt hlt]
  have h2 := mv.gens g _ (by show g < (Array.replicate (g + 1) GenState.finished).size; simp) h1
  show (s₁.gens.setIfInBounds g x)[g]? = _
  rw [Array.getElem?_setIfInBounds_self_of_lt (gens_lt h2)]
theorem bare_set {gens : Array GenState} {g : Nat} {x : GenState} (h : AllBare gens) (hx : x.bare = true) : AllBare (gens.setIfInBounds g x) := fun y hy => by
  obtain ⟨i, hi, rfl⟩ := Array.mem_iff_getElem.mp hy
  by_cases e : g = i
  · subst e
    simp only [Array.getElem_setIfInBounds_self]; exact hx
  · rw [Array.getElem_setIfInBounds_ne (by simpa using hi) e]
    exact h _ (Array.getElem_mem _)
theorem mv_gen {base : Shared} {g : Nat} {s s₁ : Shared} {K : List Addr} {a : Addr} {x : GenState} {h' : Heap} (hgb : base.gens.size ≤ g) (hx : x.bare = true) (hk : ∀ b o, s₁.heap.get? b = some o → h'.get? b = some o) (mv : Mv (gIn base g) (a :: K) (s.setGen g .running) s₁) : Mv base K s { s₁.setGen g x with heap := h' } where
  heap := fun b o hb e => hk b o (mv.heap b o (hb.imp (fun h => h.imp id fun h => List.mem_cons_of_mem _ h) id) e)
  gens := fun j z hj e => by
    have hne : g ≠ j := by omega
    have h1 : (s.setGen g .running).gens[j]? = some z := by
      show (s.gens.setIfInBounds g .running)[j]? = _
      rw [Array.getElem?_setIfInBounds_ne hne]; exact e
    have h2 := mv.gens j z (by show j < (Array.replicate (g + 1) GenState.finished).size; simp; omega) h1
    show (s₁.gens.setIfInBounds g x)[j]? = _
    rw [Array.getElem?_setIfInBounds_ne hne]; exact h2
  bare := fun h => bare_set (mv.bare (bare_set h rfl)) hx
  os := mv.os
  tks := mv.tks

theorem iter_gen {n : Nat} {A : Around} (ok : AOK (n + 1) A) {a : Addr} {g : Nat} {X K : List Addr} {base : Shared} {items : List PV} (T : TF H0 mg mb) (ha : ¬ Pr base K a) (hgb : base.gens.size ≤ g) :
    Iter prog w H0 A a X K base items (GSt prog w H0 A X K base items a g) where
  keep := fun i s s' st hk hg => by
    obtain ⟨⟨o, nm, qn, ho, hc, hd, hsl⟩, gs, hgs, go⟩ := st
    have ho' : s'.heap.get? a = some o := hk a o ho (.inl ⟨ha, fun ⟨_, _, q⟩ => by rw [hd] at q; cases q⟩)
    refine ⟨⟨o, nm, qn, ho', hc, hd, hsl⟩, gs, hg g gs hgs, fun hj s'' hs => go hj s'' fun b o e hb hq => ?_⟩
    exact hs b o (hk b o e (.inl ⟨fun h => hb (h.imp id fun h => List.mem_cons_of_mem _ h), hq⟩)) hb hq
  item := fun i s p hg0 htk st hp al => by
    obtain ⟨hgen, gs, hgs, go⟩ := st
    have hi : i < items.length := by
      rcases Nat.lt_or_ge i items.length with q | q
      · exact q
      · rw [List.getElem?_eq_none q] at hp; cases hp
    obtain ⟨m, hm⟩ : ∃ m, items.length - i = m + 1 := ⟨items.length - i - 1, by omega⟩
    have go' := go (by omega) (s.setGen g .running) (fun b o e _ _ => e) hg0 htk (fun b hb => by
      rcases hb with hb | hb | hb
      · exact al b (.inl hb)
      · exact al b (.inr (.inl hb))
      · rcases List.mem_cons.mp hb with q | hb
        · subst q; obtain ⟨o, _, _, ho, _⟩ := hgen; exact ⟨o, ho⟩
        · exact al b (.inr (.inr hb)))
    rw [hm] at go'
    refine next_gen (P := fun k s₀ s₁ => k = 0 ∧ Mv (gIn base g) (a :: K) s₀ s₁) ok.han (T.nol.keeps hg0) (by have := ok.dep; omega) hgen hgs go' (fun v s₁ gs' hb hv => ?_) (fun s₁ hp' => absurd hp'.1 (Nat.succ_ne_zero m))
    obtain ⟨⟨p', hp', rv⟩, mv, _, kap⟩ := hv
    have e1 : items.length - 1 - (m + 1 - 1) = i := by omega
    rw [e1, hp] at hp'
    cases hp'
    refine ⟨v, rfl, rv, ⟨?_, gs', gen_kept hgs mv, fun hj s'' hs hg' htk' al' => ?_⟩, mv_gen hgb hb (fun _ _ e => e) mv⟩
    · obtain ⟨o, nm, qn, ho, r⟩ := hgen
      exact ⟨o, nm, qn, mv.heap a o (.inl (.inr List.mem_cons_self)) ho, r⟩
    · have := kap s'' hs hg' htk' al'
      have e2 : items.length - (i + 1) = m := by omega
      rw [e2]; exact this
  done := fun s hg0 htk st al => by
    obtain ⟨hgen, gs, hgs, go⟩ := st
    have go' := go (by omega) (s.setGen g .running) (fun b o e _ _ => e) hg0 htk (fun b hb => by
      rcases hb with hb | hb | hb
      · exact al b (.inl hb)
      · exact al b (.inr (.inl hb))
      · rcases List.mem_cons.mp hb with q | hb
        · subst q; obtain ⟨o, _, _, ho, _⟩ := hgen; exact ⟨o, ho⟩
        · exact al b (.inr (.inr hb)))
    rw [Nat.sub_self] at go'
    refine next_gen (P := fun k s₀ s₁ => k = 0 ∧ Mv (gIn base g) (a :: K) s₀ s₁) ok.han (T.nol.keeps hg0) (by have := ok.dep; omega) hgen hgs go' (fun v s₁ gs' hb hv => ?_) (fun s₁ hp h' hk => ⟨rfl, mv_gen hgb rfl hk hp.2⟩)
    obtain ⟨_, mv, ⟨k1, k2, k3⟩, kap⟩ := hv
    exact (kap s₁ (fun b o e _ _ => e) k1 k2 k3).elim
  self := fun i s st => wpAny_pyIter_gen st.1 ⟨rfl, rfl⟩
  lets := fun i s t v st => by
    obtain ⟨⟨o, nm, qn, ho, hc, hd, hsl⟩, _⟩ := st
    exact lets_of ho hc (by decide)
end
end Mine

namespace Mine

section
variable {prog : Program} {w : World} {H0 : Heap} {mg mb : PySem.Str → Option Value} {C : Cx}

/-- a call that makes a generator -/
def CallG (prog : Program) (w : World) (H0 : Heap) (n : Nat) (f : Value) (ps : List PV) (items : List PV) : Prop :=
  ∀ A base s X vs, AOK n A → 1 ≤ s.toks → (∀ b o, H0.get? b = some o → base.heap.get? b = some o) → Step base s → Rps s.heap X vs ps →
    wpAny (model prog w) A (call f vs) (fun x s₁ => Step s s₁ ∧ ∃ I g, x = .ref I ∧ s₁.heap.IsGen I g ∧ s.heap.get? I = Option.none ∧ ∀ A' Z K, AOK n A' → (∀ a ∈ K, s₁.heap.get? a = Option.none) → ∃ St, Iter prog w H0 A' I Z K base items St ∧ St 0 s₁) (fun _ _ => False) s

def genOk (scope : Scope) (names : List String) : Bool :=
  (names.all fun x => scope.names.lookup (PySem.Str.ofString x) == some .local) && decide names.Nodup && (scope.names.all fun q => q.2 != .cell) && scope.kind == .function && !scope.isCoroutine && scope.isGenerator

theorem cellsFrom_none : ∀ (names : List (PySem.Str × NameKind)) (n : Nat) (acc : List (PySem.Str × Addr)), (∀ q ∈ names, q.2 ≠ .cell) → cellsFrom n names acc = acc
  | [], _, _, _ => rfl
  | (m, k) :: r, n, acc, h => by
    unfold cellsFrom
    have hk : (k == NameKind.cell) = false := by
      have := h (m, k) List.mem_cons_self
      cases k <;> first | rfl | exact absurd rfl this
    rw [hk]
    exact cellsFrom_none r _ _ fun q hq => h q (List.mem_cons_of_mem _ hq)
theorem lookup_mem' {α : Type} {names : List (PySem.Str × α)} {x : PySem.Str} {k : α} (h : names.lookup x = some k) : (x, k) ∈ names := by
  induction names with
  | nil => cases h
  | cons q r ih =>
    obtain ⟨m, j⟩ := q
    rw [List.lookup_cons] at h
    cases hb : x == m with
    | true => rw [hb] at h; cases h; rw [beq_iff_eq.mp hb]; exact List.mem_cons_self
    | false => rw [hb] at h; exact List.mem_cons_of_mem _ (ih h)

theorem callG_def {n : Nat} {a : Addr} {body : List Stmt} {scope : Scope} {names : List String} {ps items : List PV} (T : TF H0 mg mb) (f : Fn H0 a body scope names) (hok : genOk scope names = true) (hlen : names.length = ps.length) (hat : ∀ p ∈ ps, p.atom = true)
    (go : ∀ G : Gx, GxOk H0 G → G.env.scope = scope → G.n = n → G.items = items → Go prog w H0 G items.length (.func body G.env) [] ((model prog w).den (.func body G.env)) (names.zip ps) (fun _ => True)) :
    CallG prog w H0 (n + 1) (.ref a) ps items := fun A base s X vs ok htk hgb stb rs => by
  have hg : ∀ b o, H0.get? b = some o → s.heap.get? b = some o := fun b o e => stb.heap b o (hgb b o e)
  obtain ⟨o, fd, ho, hd, hcd, hbody, hsc, hgl, hbu, hclo, hbind⟩ := f.at_
  unfold genOk at hok
  simp only [Bool.and_eq_true, List.all_eq_true, beq_iff_eq, decide_eq_true_eq, Bool.not_eq_true', bne_iff_ne] at hok
  obtain ⟨⟨⟨⟨⟨hk, hnd⟩, hcell⟩, hkind⟩, hco⟩, hgen⟩ := hok
  have hvl : vs.length = names.length := by rw [rs.length, hlen]
  have hfst : ((names.map PySem.Str.ofString).zip vs).map (·.1) = names.map PySem.Str.ofString := List.map_fst_zip (by rw [List.length_map, hvl]; exact Nat.le_refl _)
  have hnames : (((names.map PySem.Str.ofString).zip vs).map (·.1)).Nodup := by
    rw [hfst]; exact nodup_map_ofString hnd
  refine wpAny_call (codeAny_call_generator (by have := ok.dep; omega) (hg _ _ ho) hd (by rw [hsc]; exact hco) (by rw [hsc]; exact hgen) hbody (hcd.keeps hg) ?_)
  rw [hbind vs hvl, hclo]
  refine wpAny_pure (wpAny_with_toks (Nat.le_refl s.toks) (wpAny_newFunctionEnv_cells (by rw [hsc]; exact hkind) ?_ ?_))
  · intro q hq
    have hm : q.1 ∈ names.map PySem.Str.ofString := by rw [← hfst]; exact List.mem_map.mpr ⟨q, hq, rfl⟩
    obtain ⟨y, hy, e⟩ := List.mem_map.mp hm
    rw [hsc, ← e]
    exact .inl (hk y hy)
  · intro env henv s₁ ic htks
    have e1 : env.scope = scope := by rw [henv, ← hsc]; rfl
    have e2 : env.globals = mainGlobals := by rw [henv, ← hgl]; rfl
    have e3 : env.builtins = builtinsNs := by rw [henv, ← hbu]; rfl
    have e4 : env.locals = s.heap.objs.size := by rw [henv]; rfl
    have e5 : env.cells = [] := by
      have : env.cells = cellsFrom (s.heap.objs.size + 1) scope.names [] := by rw [henv, ← hsc]; rfl
      rw [this]; exact cellsFrom_none _ _ _ hcell
    have hkeep := ic.toInCall.keep
    have hns := ic.toInCall.ns
    obtain ⟨h', tk, rfl⟩ := ic.toInCall.same
    refine ⟨T.nol.keeps fun b o e => hkeep b o (hg b o e), ?_⟩
    dsimp only
    generalize hgo : ({ cls := .type "generator", data := .fields #[.int s.gens.size 0, .str fd.name tk, .str fd.qualname (tk + 1)] } : Obj) = og
    have ogc : og.cls = .type "generator" ∧ og.data = .fields #[.int s.gens.size 0, .str fd.name tk, .str fd.qualname (tk + 1)] ∧ og.slots = #[] := by subst hgo; exact ⟨rfl, rfl, rfl⟩
    have hgp : (h'.push og).get? h'.objs.size = some og := Heap.get?_push_size _ (by subst hgo; rfl)
    have hsz : base.gens.size ≤ s.gens.size := by
      rcases Nat.lt_or_ge s.gens.size base.gens.size with q | q
      · have := stb.gens _ _ (Array.getElem?_eq_getElem q)
        exact absurd (gens_lt this) (Nat.lt_irrefl _)
      · exact q
    have hIn : s.heap.get? h'.objs.size = Option.none := size_le_of_keeps hkeep (get?_size _)
    have st : Step s { s with heap := h'.push og, gens := s.gens.push (.fresh (.func body env)), toks := tk + 1 + 1 } :=
      ⟨fun b o e => Heap.get?_push_of_some _ (hkeep b o e), fun i x e => by
        show (s.gens.push _)[i]? = _
        rw [Array.getElem?_push_lt (gens_lt e)]
        have := e
        rw [Array.getElem?_eq_getElem (gens_lt e)] at this; exact this, fun hb => hb.push rfl, rfl, by have : s.toks ≤ tk := htks; dsimp only; omega⟩
    have F1 : ∀ X' : List Addr, Fs H0 (gcx H0 env n [] (names.zip ps) { s with heap := h', toks := tk }) { s with heap := h', toks := tk } := fun X' => {
      glb := fun b o e => hkeep b o (hg b o e)
      glb0 := fun _ _ e => e
      step := ⟨fun b o e => hkeep b o (hg b o e), fun _ _ e => e, id, rfl, Nat.le_refl _⟩
      tk := Nat.le_trans htk htks
      kind := by show env.scope.kind = _; rw [e1]; exact hkind
      glo := e2
      bui := e3
      ns := ⟨_, hns⟩
      loc := by
        show H0.get? env.locals = _
        rw [e4]; exact size_le_of_keeps hg (get?_size _)
      cel := fun x c hm => by have hm' : (x, c) ∈ env.cells := hm; rw [e5] at hm'; cases hm'
      apart := fun x y c h1 => by have hm' : (x, c) ∈ env.cells := h1; rw [e5] at hm'; cases hm'
      cdf := fun x hx => by
        have hx' : env.scope.names.lookup x = some .cell := hx
        rw [e1] at hx'
        exact absurd rfl (hcell _ (lookup_mem' hx'))
      yx := fun _ h => nomatch h
      y0 := fun _ h => nomatch h
      xs := fun _ h => nomatch h
      vars := fun q hq => by
        obtain ⟨v, h1, h2⟩ := rps_zip rs q hq
        have hz := List.of_mem_zip (show (q.1, q.2) ∈ names.zip ps from hq)
        have hke : env.kindOf (PySem.Str.ofString q.1) = some .local := by unfold Env.kindOf; rw [e1]; exact hk q.1 hz.1
        exact ⟨v, .inl ⟨hke, _, hns, bindL_at hnames h1 hke⟩, h2.atom (hat _ hz.2)⟩
      owns := fun q hq => nomatch hq
      od := fun q hq => nomatch hq }
    refine ⟨st, h'.objs.size, s.gens.size, rfl, ⟨og, _, _, hgp, ogc.1, ogc.2.1, ogc.2.2⟩, hIn, fun A' Z K okA hK => ⟨_, iter_gen okA T (not_pr (s₁ := s) (s₂ := { s with heap := h'.push og, gens := s.gens.push (.fresh (.func body env)), toks := tk + 1 + 1 }) stb hIn hK ⟨og, hgp⟩) hsz, ?_⟩⟩
    refine ⟨⟨og, _, _, hgp, ogc.1, ogc.2.1, ogc.2.2⟩, _, Array.getElem?_push_size .., fun _ s'' hs hg' htk' al' => ⟨rfl, ?_⟩⟩
    have hLlt : env.locals < h'.objs.size := hns.lt
    have hLp : ¬ Pr base (h'.objs.size :: K) env.locals := by
      rintro (⟨o, e⟩ | hm)
      · have e := stb.heap _ _ e
        rw [e4, get?_size] at e; cases e
      · rcases List.mem_cons.mp hm with q | hm
        · exact absurd q (Nat.ne_of_lt hLlt)
        · have := hK _ hm
          obtain ⟨o, e, _⟩ := ns_obj hns
          rw [Heap.get?_push_of_some _ e] at this
          cases this
    let G : Gx := ⟨env, n, Z, h'.objs.size :: K, gIn base s.gens.size, items⟩
    have hG : GxOk H0 G := ⟨e5, hLp, by show env.scope.isCoroutine = _; rw [e1]; exact hco, by show env.scope.kind = _; rw [e1]; exact hkind, fun b o e => .inl ⟨o, hgb b o e⟩⟩
    refine go G hG e1 rfl rfl A' s'' s'' okA ?_ al' trivial (.refl _ _ _)
    refine (F1 []).woken' e5 (fun q hq => hat _ (List.of_mem_zip (show (q.1, q.2) ∈ names.zip ps from hq)).2) (fun o e => ?_) hg' htk'
    obtain ⟨o', e', hq, _⟩ := ns_obj hns
    have e3 : h'.get? env.locals = some o := e
    have e4' : h'.get? env.locals = some o' := e'
    rw [e4'] at e3; cases e3
    exact hs _ _ (Heap.get?_push_of_some _ e) hLp hq

theorem evIt_gen {b : Bool} {x : PySem.Str} {f : Value} {np pos : Pos} {es : List Expr} {ps items : List PV} (T : TF H0 mg mb) (hn : GName mg mb C x f) (hc : Callee H0 f) (ha : Evs prog w H0 C b es ps) (hf : CallG prog w H0 C.n f ps items)
    (hp : (es.all (fun e => !isStarred e) && !es.isEmpty) = true := by rfl) (hd : (x == ("__debug__" : PySem.Str)) = false := by decide +kernel) : EvIt prog w H0 C (.Call (.Name x np) es [] pos) items := fun A s ok F =>
  wpAny_callName T hn hc ha ok F (fun vs s₁ r st F1 => wpAny_mono (hf A s s₁ _ vs ok F1.tk F.glb st r) (fun y s₂ h₂ => by
    obtain ⟨st2, I, g, rfl, hg, hIn, mk⟩ := h₂
    refine wpAny_pyIter_gen hg ⟨st.trans st2, I, rfl, fun Z K hXZ hZ hK => mk A Z K ok hK⟩) fun _ _ x => x) hp hd
end
end Mine

namespace Mine

/-- the text -/
def TX : List Stmt := PySem.Challenge.pw_pk0038_02.main.body
def bodyIn : Stmt → List Stmt
  | .FunctionDef _ _ b _ _ _ _ _ _ _ => b
  | _ => []
def scopeIn : Stmt → Scope
  | .FunctionDef _ _ _ _ _ _ s _ _ _ => s
  | _ => default
def nthS : List Stmt → Nat → Stmt
  | [], _ => .Pass default
  | s :: _, 0 => s
  | _ :: r, n + 1 => nthS r n
def bodyN (n : Nat) : List Stmt := bodyIn (nthS TX n)
def scopeN (n : Nat) : Scope := scopeIn (nthS TX n)

theorem kind_of {env : Env} {scope : Scope} {x : PySem.Str} {k : NameKind} (h : env.scope = scope) (hk : scope.names.lookup x = some k) : env.kindOf x = some k := by
  unfold Env.kindOf; rw [h]; exact hk

def forBody : Stmt → List Stmt
  | .For _ _ b _ _ => b
  | _ => []
def forTgt : Stmt → Expr
  | .For t _ _ _ _ => t
  | _ => .Name (PySem.Str.ofString "") default

/-- the units that a text is read in: the place of the last sign, the unit -/
def units : Nat → Bool → List Nat → List (Nat × List Nat)
  | _, false, [] => []
  | i, true, [] => [(i - 1, [92])]
  | i, true, c :: r => (i, [92, c]) :: units (i + 1) false r
  | i, false, c :: r => if c = 92 then units (i + 1) true r else (i, [c]) :: units (i + 1) false r
def uPV (q : Nat × List Nat) : PV := .tup [.int q.1, .str q.2]

section
variable {prog : Program} {w : World} {H0 : Heap} {mg mb : PySem.Str → Option Value}

theorem Go.sub {G : Gx} {k : Nat} {c : Code} {fs : List Frame} {t : Sem Fin} {vs vs' : List (String × PV)} {T : Shared → Prop} (h : Go prog w H0 G k c fs t vs T) (hv : ∀ q ∈ vs, q ∈ vs') : Go prog w H0 G k c fs t vs' T := fun A s₀ s ok F =>
  h A s₀ s ok (Fs.sub (C := gcx H0 G.env G.n [] vs' s) (own := []) F hv fun _ h => h)

theorem room_func {G : Gx} {body : List Stmt} : Room G (.func body G.env) [] := fun A ok => ⟨ok.han, by have := ok.dep; show A.depth + 0 + 1 + G.n < _; omega, by have := ok.uni; show A.units + 1 + 0 + 3 + 100 * (G.n + 1) ≤ 9900; omega⟩
theorem room_for {G : Gx} {target : Expr} {it : Value} {b body : List Stmt} {kk : Result → Sem Fin} {gg : Bool} {ll : List Value} {p : Pos} : Room G (.forLoop target it b [] G.env) [.ret kk none gg ll (.func body G.env) p []] := fun A ok => ⟨ok.han, by have := ok.dep; show A.depth + 1 + 0 + G.n < _; omega, by have := ok.uni; show A.units + 1 + 3 + 0 + 100 * (G.n + 1) ≤ 9900; omega⟩

theorem go_iter_loop {G : Gx} {l : List Nat} {e it : Addr} {kk : Result → Sem Fin} {gg : Bool} {ll : List Value} {body : List Stmt} {p : Pos} (ho : GxOk H0 G) (hsc : G.env.scope = scopeN 1) (hei : e ≠ it)
    (h1 : ¬ Pr G.base G.K e) (h2 : ¬ Pr G.base G.K it) (h3 : e ≠ G.env.locals) (h4 : it ≠ G.env.locals) (hiX : it ∉ G.X) (hl : l.length < 100000) (hgg : gg = false) :
    ∀ (r : List Nat) (j : Nat) (esc : Bool) (pre : List PV), j ≤ l.length → l.drop j = r → G.items = pre ++ (units j esc r).map uPV →
      (∀ esc' pre', G.items = pre' ++ (units l.length esc' []).map uPV → Go prog w H0 G (units l.length esc' []).length (.func body G.env) [] (kk (.ok .next)) [("escape", .bool esc'), ("pos", .int ((l.length - 1 : Nat) : Int)), ("addr", .str l)] (fun _ => True)) →
      Go prog w H0 G (units j esc r).length (.forLoop (forTgt (nthS (bodyN 1) 2)) (.ref e) (forBody (nthS (bodyN 1) 2)) [] G.env) [.ret kk none gg ll (.func body G.env) p []]
        ((model prog w).den (.forLoop (forTgt (nthS (bodyN 1) 2)) (.ref e) (forBody (nthS (bodyN 1) 2)) [] G.env)) [("escape", .bool esc), ("pos", .int ((j - 1 : Nat) : Int)), ("addr", .str l)] (Te l j e it) := by
  have kp : G.env.kindOf (PySem.Str.ofString "pos") = some .local := kind_of hsc (by decide +kernel)
  have ke : G.env.kindOf (PySem.Str.ofString "escape") = some .local := kind_of hsc (by decide +kernel)
  have kc : G.env.kindOf (PySem.Str.ofString "ch") = some .local := kind_of hsc (by decide +kernel)
  generalize hb : forBody (nthS (bodyN 1) 2) = lb
  generalize ht : forTgt (nthS (bodyN 1) 2) = tg
  simp only [bodyN, bodyIn, nthS, TX, PySem.Challenge.pw_pk0038_02, forBody, forTgt] at hb ht
  subst hb ht
  intro r
  induction r with
  | nil =>
    intro j esc pre hjl hd hi hend
    have hj : j = l.length := by
      have := congrArg List.length hd
      simp at this; omega
    subst hj
    exact go_done ho room_for hei h1 h2 h3 h4 hiX (by simp [PV.atom]) (hend esc pre hi)
  | cons c r ih =>
    intro j esc pre hjl hd hi hend
    have hjl' : j + 1 ≤ l.length := by
      have := congrArg List.length hd
      simp at this; omega
    have hch : l[j]? = some c := by
      have := congrArg (fun x => x[0]?) hd
      simpa using this
    have hd' : l.drop (j + 1) = r := by
      have := congrArg (List.drop 1) hd
      simpa using this
    have own' : ∀ j, Own G (Te l j e it) := fun j => own_Te h1 h2 h3 h4
    refine go_item ho room_for hei h1 h2 h3 h4 hch (by simp [PV.atom]) kp kc (fun K' H' hK' => ?_)
    refine go_cons (go_if (r := esc) room_for (own_Te h1 h2 h3 h4) (fun s => bt_bool (ev_name (b := true) (by (first | exact mem_look (by kernel_rfl!) | exact map_look (by kernel_rfl!) | simp [gcx, putv, del])))) ?_)
    cases esc with
    | true =>
      rw [if_pos rfl]
      have e1 : (units j true (c :: r)).length = (units (j + 1) false r).length + 1 := by simp [units]
      rw [e1]
      have hp : G.items[G.items.length - 1 - (units (j + 1) false r).length]? = some (.tup [.int j, .str ([92] ++ [c])]) := by
        rw [hi]
        simp [units, uPV]
      refine go_cons (go_yield ho room_for (own' _) (by (first | exact mem_look (by kernel_rfl!) | exact map_look (by kernel_rfl!) | simp [PV.atom, putv, del])) rfl rfl (by simp [hgg, Frame.guarded]) hp (fun X s => ev_tuple (evs_cons (ev_name (by (first | exact mem_look (by kernel_rfl!) | exact map_look (by kernel_rfl!) | simp [gcx, putv, del]))) (evs_cons (ev_bin (b1 := true) (b2 := true) (ev_str (l := [92])) (ev_name (p := .str [c]) (by (first | exact mem_look (by kernel_rfl!) | exact map_look (by kernel_rfl!) | simp [gcx, putv, del]))) (op_adds (by simp))) evs_nil))) ?_)
      refine go_cons (go_st (vs' := [("escape", .bool false), ("ch", .str [c]), ("pos", .int j), ("addr", .str l)]) ho room_for (own' _) (fun s => st_assign ev_bool (.inl ke)) ?_)
      refine go_nil ?_
      show Go _ _ _ _ _ _ _ (K' .next) _ _
      rw [hK']
      refine go_again rfl ?_
      have := ih (j + 1) false (pre ++ [.tup [.int j, .str ([92] ++ [c])]]) hjl' hd' (by rw [hi]; simp [units, uPV]) hend
      exact this.sub (by simp)
    | false =>
      rw [if_neg Bool.false_ne_true]
      refine go_cons (go_if (r := [c] == [92]) room_for (own' _) (fun s => bt_cmp (b1 := true) (b2 := true) (ev_name (p := .str [c]) (by (first | exact mem_look (by kernel_rfl!) | exact map_look (by kernel_rfl!) | simp [gcx, putv, del]))) (ev_str (l := [92])) cm_eqs) ?_)
      by_cases hc : c = 92
      · subst hc
        rw [if_pos (show ([92] == [92]) = true from rfl)]
        have e1 : units j false (92 :: r) = units (j + 1) true r := by simp [units]
        rw [e1] at hi ⊢
        refine go_cons (go_st (vs' := [("escape", .bool true), ("ch", .str [92]), ("pos", .int j), ("addr", .str l)]) ho room_for (own' _) (fun s => st_assign ev_bool (.inl ke)) ?_)
        refine go_nil ?_
        show Go _ _ _ _ _ _ _ (K' .next) _ _
        rw [hK']
        refine go_again rfl ?_
        exact (ih (j + 1) true pre hjl' hd' hi hend).sub (by simp)
      · rw [if_neg (by simpa using hc)]
        have e1 : (units j false (c :: r)).length = (units (j + 1) false r).length + 1 := by simp [units, hc]
        rw [e1]
        have hp : G.items[G.items.length - 1 - (units (j + 1) false r).length]? = some (.tup [.int j, .str [c]]) := by
          rw [hi]
          simp [units, uPV, hc]
        refine go_cons (go_yield ho room_for (own' _) (by (first | exact mem_look (by kernel_rfl!) | exact map_look (by kernel_rfl!) | simp [PV.atom, putv, del])) rfl rfl (by simp [hgg, Frame.guarded]) hp (fun X s => ev_tuple (evs_cons (ev_name (by (first | exact mem_look (by kernel_rfl!) | exact map_look (by kernel_rfl!) | simp [gcx, putv, del]))) (evs_cons (ev_name (by (first | exact mem_look (by kernel_rfl!) | exact map_look (by kernel_rfl!) | simp [gcx, putv, del]))) evs_nil))) ?_)
        refine go_nil ?_
        show Go _ _ _ _ _ _ _ (K' .next) _ _
        rw [hK']
        refine go_again rfl ?_
        have := ih (j + 1) false (pre ++ [.tup [.int j, .str [c]]]) hjl' hd' (by rw [hi]; simp [units, uPV, hc]) hend
        exact this.sub (by (first | exact mem_look (by kernel_rfl!) | exact map_look (by kernel_rfl!) | simp [putv, del]))

theorem go_iter {G : Gx} {l : List Nat} (T : TF H0 mg mb) (he : mg (PySem.Str.ofString "enumerate") = Option.none) (he' : mb (PySem.Str.ofString "enumerate") = some (.type "enumerate")) (hl : l.length < 100000) (hasc : ∀ c ∈ l, c < 128)
    (ho : GxOk H0 G) (hsc : G.env.scope = scopeN 1) (hit : G.items = (units 0 false l).map uPV) :
    Go prog w H0 G (units 0 false l).length (.func (bodyN 1) G.env) [] ((model prog w).den (.func (bodyN 1) G.env)) (["addr"].zip [.str l]) (fun _ => True) := by
  have kp : G.env.kindOf (PySem.Str.ofString "pos") = some .local := kind_of hsc (by decide +kernel)
  have ke : G.env.kindOf (PySem.Str.ofString "escape") = some .local := kind_of hsc (by decide +kernel)
  have kc : G.env.kindOf (PySem.Str.ofString "ch") = some .local := kind_of hsc (by decide +kernel)
  have kn : G.env.kindOf (PySem.Str.ofString "enumerate") = some .globalImplicit := kind_of hsc (by decide +kernel)
  generalize hb : bodyN 1 = body
  have hb2 := hb
  simp only [bodyN, bodyIn, nthS, TX, PySem.Challenge.pw_pk0038_02] at hb2
  refine go_func fun K H hK => ?_
  rw [← hb2]
  refine go_cons (go_st (vs' := [("pos", .int 0), ("addr", .str l)]) ho room_func own_true (fun s => st_assign ev_int (.inl kp)) ?_)
  refine go_cons (go_st (vs' := [("escape", .bool false), ("pos", .int 0), ("addr", .str l)]) ho room_func own_true (fun s => st_assign ev_bool (.inl ke)) ?_)
  refine go_cons ?_
  refine go_for (T' := fun e i => Te l 0 e i) room_func own_true ?_ ?_
  · intro A s ok F
    refine wpAny_callName (C := gcx H0 G.env G.n [] _ s) (b := true) T ⟨kn, .inr ⟨he, he'⟩⟩ (.inr (.inl ⟨_, rfl⟩)) (evs_cons (ev_name (p := .str l) (by (first | exact mem_look (by kernel_rfl!) | exact map_look (by kernel_rfl!) | simp [gcx]))) evs_nil) ok F (fun vs s₁ r st F1 => ?_) rfl (by decide +kernel)
    obtain ⟨v, ws, rfl, r1, r2⟩ := r.cons_inv
    obtain rfl := r2.nil_inv
    obtain ⟨t, rfl⟩ := r1.str_inv
    refine call_enumerate_str fun h' he1 hi1 hsz hk => wpAny_pyIter_enum he1 ⟨st.trans (.hp hk), _, _, rfl, size_le_of_keeps st.heap (get?_ge (Nat.le_succ _)), size_le_of_keeps st.heap (get?_size _), Nat.succ_ne_self _, ⟨_, he1⟩, t, ?_⟩
    have hty : strIterType (⟨l.toArray⟩ : PySem.Str) = "str_ascii_iterator" := by
      unfold strIterType
      rw [if_pos]
      simpa using hasc
    rw [← hty]; exact hi1
  · intro e i kk p hei h1 h2 h3 h4 hiX hkk
    refine go_iter_loop ho hsc hei h1 h2 h3 h4 hiX hl rfl l 0 false [] (Nat.zero_le _) rfl (by simpa using hit) (fun esc pre hi => ?_)
    rw [hkk]
    refine go_cons (go_if (r := esc) room_func own_true (fun s => bt_bool (ev_name (b := true) (by (first | exact mem_look (by kernel_rfl!) | exact map_look (by kernel_rfl!) | simp [gcx])))) ?_)
    cases esc with
    | true =>
      rw [if_pos rfl]
      have e1 : (units l.length true []).length = 0 + 1 := rfl
      rw [e1]
      have hp : G.items[G.items.length - 1 - 0]? = some (.tup [.int ((l.length - 1 : Nat) : Int), .str [92]]) := by
        rw [hi]
        simp [units, uPV]
      refine go_cons (go_yield ho room_func own_true (by simp [PV.atom]) rfl rfl rfl hp (fun X s => ev_tuple (evs_cons (ev_name (by (first | exact mem_look (by kernel_rfl!) | exact map_look (by kernel_rfl!) | simp [gcx]))) (evs_cons (ev_str (l := [92])) evs_nil))) ?_)
      refine go_nil (go_nil ?_)
      show Go _ _ _ _ _ _ _ (K .next) _ _
      rw [hK]
      exact go_end0
    | false =>
      rw [if_neg Bool.false_ne_true]
      refine go_nil (go_nil ?_)
      show Go _ _ _ _ _ _ _ (K .next) _ _
      rw [hK]
      exact go_end0
end
end Mine

namespace Mine

def Has (H0 : Heap) (mg : PySem.Str → Option Value) (i : Nat) (name : String) (params : List String) : Prop := ∃ a, Fn H0 a (bodyN i) (scopeN i) params ∧ mg (PySem.Str.ofString name) = some (.ref a)
def biTable : List (String × Value) := [("enumerate", .type "enumerate"), ("len", .builtin "len"), ("abs", .builtin "abs"), ("int", .type "int"), ("divmod", .builtin "divmod"), ("sum", .builtin "sum"), ("max", .builtin "max"),
  ("bytes", .type "bytes"), ("list", .type "list"), ("range", .type "range"), ("sorted", .builtin "sorted")]
structure Lib (H0 : Heap) (mg mb : PySem.Str → Option Value) : Prop where
  tf : TF H0 mg mb
  iter : Has H0 mg 1 "_iter_escaped_chars" ["addr"]
  strip : Has H0 mg 2 "_strip_quoted_realnames" ["addr"]
  check : Has H0 mg 3 "_check_parenthesis" ["addr"]
  pre : Has H0 mg 4 "_pre_parse_validation" ["email_header_fields"]
  int2ap : Has H0 mg 6 "Int2AP" ["num"]
  bi : ∀ x v, (x, v) ∈ biTable → mg (PySem.Str.ofString x) = Option.none ∧ mb (PySem.Str.ofString x) = some v

theorem Fn.callee {H0 : Heap} {a : Addr} {body : List Stmt} {scope : Scope} {names : List String} (f : Fn H0 a body scope names) : Callee H0 (.ref a) := by
  obtain ⟨o, fd, h1, h2, _⟩ := f.at_
  exact .inr (.inr ⟨a, o, fd, rfl, h1, h2⟩)

theorem sum_len_le {m : Nat} : ∀ {ls : List (List Nat)}, (∀ x ∈ ls, x.length ≤ m) → (ls.map List.length).sum ≤ ls.length * m
  | [], _ => by simp
  | x :: ls, h => by
    have h1 := h x List.mem_cons_self
    have h2 := sum_len_le (m := m) (ls := ls) fun y hy => h y (List.mem_cons_of_mem _ hy)
    rw [List.map_cons, List.sum_cons, List.length_cons, Nat.succ_mul]
    omega

/-! the units' places -/
def incr (L : Nat) : Nat → List (Nat × List Nat) → Prop
  | _, [] => True
  | lo, u :: r => lo ≤ u.1 ∧ u.1 < L ∧ incr L (u.1 + 1) r
theorem units_incr {L : Nat} : ∀ (r : List Nat) (i : Nat) (esc : Bool) (lo : Nat), i + r.length = L → (if esc then lo + 1 ≤ i else lo ≤ i) → incr L lo (units i esc r)
  | [], i, false, lo, _, _ => trivial
  | [], i, true, lo, h, h' => by
    simp only [if_true, List.length_nil] at h h'
    exact ⟨show lo ≤ i - 1 by omega, show i - 1 < L by omega, trivial⟩
  | c :: r, i, true, lo, h, h' => by
    simp only [if_true, List.length_cons] at h h'
    exact ⟨show lo ≤ i by omega, show i < L by omega, units_incr r (i + 1) false (i + 1) (by omega) (by simp)⟩
  | c :: r, i, false, lo, h, h' => by
    simp only [Bool.false_eq_true, if_false, List.length_cons] at h h'
    unfold units
    split
    · exact units_incr r (i + 1) true lo (by omega) (by simp; omega)
    · exact ⟨show lo ≤ i by omega, show i < L by omega, units_incr r (i + 1) false (i + 1) (by omega) (by simp)⟩
theorem units_len : ∀ (r : List Nat) (i : Nat) (esc : Bool), (units i esc r).length ≤ r.length + 1
  | [], i, false => by simp [units]
  | [], i, true => by simp [units]
  | c :: r, i, true => by
    have := units_len r (i + 1) false
    simp only [units, List.length_cons]; omega
  | c :: r, i, false => by
    unfold units
    have h1 := units_len r (i + 1) false
    have h2 := units_len r (i + 1) true
    split
    · simp only [List.length_cons]; omega
    · simp only [List.length_cons]; omega

/-! taking stretches between marks away -/
structure SS where
  start : Nat
  op : Option Nat
  res : List (List Nat)
def sstep (l : List Nat) (S : SS) (u : Nat × List Nat) : SS :=
  if u.2 = [34] then match S.op with
    | .none => { S with op := some u.1 }
    | .some o => ⟨u.1 + 1, .none, if S.start = o then S.res else S.res ++ [(l.drop S.start).take (o - S.start)]⟩
  else S
def sfold (l : List Nat) (us : List (Nat × List Nat)) : SS := us.foldl (sstep l) ⟨0, .none, []⟩
def strip (l : List Nat) : List Nat :=
  if 34 ∈ l then ((sfold l (units 0 false l)).res ++ (if (sfold l (units 0 false l)).start < l.length then [l.drop (sfold l (units 0 false l)).start] else [])).flatten else l

structure SOk (l : List Nat) (lo k : Nat) (S : SS) : Prop where
  st : S.start ≤ lo
  op : ∀ o, S.op = some o → S.start ≤ o ∧ o < lo
  res : S.res.length ≤ k
  len : ∀ x ∈ S.res, x.length ≤ l.length
  tot : S.res.flatten.length ≤ S.start
  mem : ∀ x ∈ S.res, ∀ c ∈ x, c ∈ l
theorem sok_step {l : List Nat} {lo k : Nat} {S : SS} {u : Nat × List Nat} (h : SOk l lo k S) (hu : lo ≤ u.1) : SOk l (u.1 + 1) (k + 1) (sstep l S u) := by
  unfold sstep
  split
  · cases ho : S.op with
    | none => exact ⟨by have := h.st; show S.start ≤ _; omega, fun o e => by cases e; have := h.st; exact ⟨show S.start ≤ _ by omega, by omega⟩, by have := h.res; show S.res.length ≤ _; omega, h.len, h.tot, h.mem⟩
    | some o =>
      have hoo := h.op o ho
      refine ⟨Nat.le_refl _, fun o e => (by cases e), ?_, ?_, ?_, ?_⟩
      · have := h.res
        dsimp only
        split
        · omega
        · simp only [List.length_append, List.length_cons, List.length_nil]; omega
      · intro x hx
        dsimp only at hx
        split at hx
        · exact h.len x hx
        · rcases List.mem_append.mp hx with hx | hx
          · exact h.len x hx
          · obtain rfl := List.mem_singleton.mp hx
            simp; omega
      · have := h.tot
        dsimp only
        split
        · omega
        · simp only [List.flatten_append, List.length_append, List.flatten_cons, List.flatten_nil, List.append_nil, List.length_take, List.length_drop]; omega
      · intro x hx c hc
        dsimp only at hx
        split at hx
        · exact h.mem x hx c hc
        · rcases List.mem_append.mp hx with hx | hx
          · exact h.mem x hx c hc
          · obtain rfl := List.mem_singleton.mp hx
            exact List.mem_of_mem_drop (List.mem_of_mem_take hc)
  · exact ⟨by have := h.st; omega, fun o e => by have := h.op o e; exact ⟨this.1, by omega⟩, by have := h.res; omega, h.len, h.tot, h.mem⟩
theorem sok_fold {l : List Nat} {L : Nat} : ∀ (us : List (Nat × List Nat)) (lo k : Nat) (S : SS), incr L lo us → SOk l lo k S → ∀ i, i ≤ us.length → ∃ lo', SOk l lo' (k + i) ((us.take i).foldl (sstep l) S) ∧ incr L lo' (us.drop i) ∧ (lo' ≤ L ∨ lo' = lo)
  | us, lo, k, S, hu, h, 0, _ => ⟨lo, by simpa using h, by simpa using hu, .inr rfl⟩
  | [], lo, k, S, hu, h, i + 1, hi => by simp at hi
  | u :: us, lo, k, S, hu, h, i + 1, hi => by
    obtain ⟨lo', h1, h2, h3⟩ := sok_fold us (u.1 + 1) (k + 1) (sstep l S u) hu.2.2 (sok_step h hu.1) i (by simpa using hi)
    refine ⟨lo', ?_, by simpa using h2, .inl ?_⟩
    · have : k + (i + 1) = k + 1 + i := by omega
      rw [this]; simpa using h1
    · have := hu.2.1
      rcases h3 with h3 | h3 <;> omega
theorem sok_at (l : List Nat) (i : Nat) (hi : i ≤ (units 0 false l).length) : ∃ lo, SOk l lo i (sfold l ((units 0 false l).take i)) ∧ incr l.length lo ((units 0 false l).drop i) ∧ lo ≤ l.length := by
  obtain ⟨lo, h1, h2, h3⟩ := sok_fold (l := l) (L := l.length) (units 0 false l) 0 0 ⟨0, .none, []⟩ (units_incr l 0 false 0 (by simp) (by simp)) ⟨Nat.le_refl _, fun o e => (by cases e), Nat.le_refl _, fun x hx => (by cases hx), Nat.le_refl _, fun x hx => (by cases hx)⟩ i hi
  exact ⟨lo, by simpa [sfold] using h1, h2, by omega⟩

theorem strip_len (l : List Nat) : (strip l).length ≤ l.length := by
  unfold strip
  split
  · obtain ⟨lo, h, _, hlo⟩ := sok_at l _ (Nat.le_refl _)
    rw [List.take_length] at h
    generalize sfold l (units 0 false l) = S at h
    have h1 := h.st
    have h2 := h.tot
    split
    · simp only [List.flatten_append, List.length_append, List.flatten_cons, List.flatten_nil, List.append_nil, List.length_drop]; omega
    · simp only [List.append_nil]; omega
  · exact Nat.le_refl _
theorem strip_mem (l : List Nat) : ∀ c ∈ strip l, c ∈ l := by
  unfold strip
  split
  · obtain ⟨lo, h, _, hlo⟩ := sok_at l _ (Nat.le_refl _)
    rw [List.take_length] at h
    generalize sfold l (units 0 false l) = S at h
    intro c hc
    obtain ⟨x, hx, hc⟩ := List.mem_flatten.mp hc
    rcases List.mem_append.mp hx with hx | hx
    · exact h.mem x hx c hc
    · split at hx
      · obtain rfl := List.mem_singleton.mp hx
        exact List.mem_of_mem_drop hc
      · cases hx
  · exact fun c h => h

def optPV : Option Nat → PV
  | .none => .none
  | .some o => .int o

section
variable {prog : Program} {w : World} {H0 : Heap} {mg mb : PySem.Str → Option Value}

theorem iter_ok (L : Lib H0 mg mb) (n : Nat) {l : List Nat} (hl : l.length < 500) (hasc : ∀ c ∈ l, c < 128) : ∃ a, mg (PySem.Str.ofString "_iter_escaped_chars") = some (.ref a) ∧ Callee H0 (.ref a) ∧ CallG prog w H0 (n + 1) (.ref a) [.str l] ((units 0 false l).map uPV) := by
  obtain ⟨a, f, hm⟩ := L.iter
  refine ⟨a, hm, f.callee, callG_def L.tf f (by decide +kernel) rfl (by simp [PV.atom]) fun G hG hsc hn hi => ?_⟩
  have hb := L.bi "enumerate" (.type "enumerate") (by simp [biTable])
  rw [List.length_map]
  exact go_iter (prog := prog) (w := w) L.tf hb.1 hb.2 (by omega) hasc hG hsc hi

theorem strip_ok (L : Lib H0 mg mb) (n : Nat) {l : List Nat} (hl : l.length < 500) (hasc : ∀ c ∈ l, c < 128) : ∃ a, mg (PySem.Str.ofString "_strip_quoted_realnames") = some (.ref a) ∧ Callee H0 (.ref a) ∧ CallX prog w H0 (n + 2) (.ref a) [.str l] (.str (strip l)) := by
  obtain ⟨a, f, hm⟩ := L.strip
  obtain ⟨ai, hmi, hci, hgi⟩ := iter_ok (prog := prog) (w := w) L n hl hasc
  refine ⟨a, hm, f.callee, callX_def L.tf f (by decide +kernel) rfl fun env s X hsc => ?_⟩
  have ks : env.kindOf (PySem.Str.ofString "start") = some .local := kind_of hsc (by decide +kernel)
  have ko : env.kindOf (PySem.Str.ofString "open_pos") = some .local := kind_of hsc (by decide +kernel)
  have kr : env.kindOf (PySem.Str.ofString "result") = some .local := kind_of hsc (by decide +kernel)
  have kp : env.kindOf (PySem.Str.ofString "pos") = some .local := kind_of hsc (by decide +kernel)
  have kc : env.kindOf (PySem.Str.ofString "ch") = some .local := kind_of hsc (by decide +kernel)
  have gi : ∀ C : Cx, C.env = env → GName mg mb C (PySem.Str.ofString "_iter_escaped_chars") (.ref ai) := fun C hC => ⟨by rw [hC]; exact kind_of hsc (by decide +kernel), .inl hmi⟩
  have gl : ∀ C : Cx, C.env = env → GName mg mb C (PySem.Str.ofString "len") (.builtin "len") := fun C hC => ⟨by rw [hC]; exact kind_of hsc (by decide +kernel), .inr (L.bi _ _ (by simp [biTable]))⟩
  generalize hb : bodyN 2 = body
  simp only [bodyN, bodyIn, nthS, TX, PySem.Challenge.pw_pk0038_02] at hb
  subst hb
  refine run_if (M := fun C' => C' = entry env s (n + 1) X false ["addr"] [.str l] ∧ 34 ∈ l) (bt_cmp (b1 := true) (b2 := true) (ev_str (l := [34])) (ev_name (p := .str l) (by (first | exact mem_look (by kernel_rfl!) | exact map_look (by kernel_rfl!) | simp [entry]))) cm_notIns) (fun hr => run_ret (b := true) (ev_name (p := .str l) (by (first | exact mem_look (by kernel_rfl!) | exact map_look (by kernel_rfl!) | simp [entry]))) ?_) (fun hr => run_nil ⟨rfl, by simpa using hr⟩) ?_
  · have : 34 ∉ l := by simpa using hr
    simp [strip, this]
  rintro C' ⟨rfl, h34⟩ -
  refine run_seq (st_assign ev_int (.inl ks)) ?_
  rintro C' rfl -
  refine run_seq (st_assign ev_none (.inl ko)) ?_
  rintro C' rfl -
  refine run_seq (st_assignOwn (evF_list evs_nil) (.inl kr)) ?_
  rintro C' ⟨ar, rfl⟩ -
  refine run_for2 (items := (units 0 false l).map fun q => (PV.int q.1, PV.str q.2)) (fun i => [("addr", .str l), ("start", .int (sfold l ((units 0 false l).take i)).start), ("open_pos", optPV (sfold l ((units 0 false l).take i)).op)])
    (fun i => [("result", ar, (sfold l ((units 0 false l).take i)).res.map .str)]) ?_ ?_ ?_ (.inl kp) (.inl kc) ?_ ?_
  · rw [List.map_map]
    exact evIt_gen (b := true) L.tf (gi _ rfl) hci (evs_cons (ev_name (p := .str l) (by (first | exact mem_look (by kernel_rfl!) | exact map_look (by kernel_rfl!) | simp [entry, Cx.put, Cx.putOwn, del]))) evs_nil) hgi
  · (first | exact mem_look (by kernel_rfl!) | exact map_look (by kernel_rfl!) | simp [entry, Cx.put, Cx.putOwn, del, sfold, optPV])
  · (first | exact mem_look (by kernel_rfl!) | exact map_look (by kernel_rfl!) | simp [entry, Cx.put, Cx.putOwn, del, sfold])
  · intro i p q hpq
    rw [List.getElem?_map] at hpq
    obtain ⟨u, hu, e⟩ := Option.map_eq_some_iff.mp hpq
    cases e
    have hi : i < (units 0 false l).length := by
      rcases Nat.lt_or_ge i (units 0 false l).length with q | q
      · exact q
      · rw [List.getElem?_eq_none q] at hu; cases hu
    obtain ⟨lo, hS, hinc, hlo⟩ := sok_at l i (Nat.le_of_lt hi)
    have hnext : sfold l ((units 0 false l).take (i + 1)) = sstep l (sfold l ((units 0 false l).take i)) u := by
      unfold sfold
      rw [List.take_add_one, hu]
      simp
    rw [hnext]
    generalize sfold l ((units 0 false l).take i) = S at hS ⊢
    have hres : S.res.length < 1000000 := by
      have h1 := hS.res
      have h2 := units_len l 0 false
      omega
    refine run_if (r := u.2 == [34]) (M := fun C' => C'.X = _ ∧ (∀ q ∈ _, q ∈ C'.vs) ∧ ∀ q ∈ _, q ∈ C'.own) (bt_cmp (b1 := true) (b2 := true) (ev_name (p := .str u.2) (by (first | exact mem_look (by kernel_rfl!) | exact map_look (by kernel_rfl!) | simp [Cx.put]))) (ev_str (l := [34])) cm_eqs) (fun hr => ?_) (fun hr => run_nil ?_) (fun C' h _ => run_nil h)
    · have hu2 : u.2 = [34] := by simpa using hr
      refine run_if (r := match optPV S.op with | .none => true | _ => false) (M := fun C' => C'.X = _ ∧ (∀ q ∈ _, q ∈ C'.vs) ∧ ∀ q ∈ _, q ∈ C'.own) (bt_cmp (b1 := true) (b2 := true) (ev_name (p := optPV S.op) (by (first | exact mem_look (by kernel_rfl!) | exact map_look (by kernel_rfl!) | simp [Cx.put, del, Cx.w]))) ev_none (cm_isNone rfl)) (fun hr => ?_) (fun hr => ?_) (fun C' h _ => run_nil h)
      · have ho : S.op = Option.none := by
          cases h : S.op with
          | none => rfl
          | some o => rw [h] at hr; cases hr
        refine run_seq (st_assign (p := .int u.1) (ev_name (by (first | exact mem_look (by kernel_rfl!) | exact map_look (by kernel_rfl!) | simp [Cx.put, del]))) (.inl ko)) ?_
        rintro C' rfl -
        refine run_nil ⟨rfl, ?_, ?_⟩
        · (first | exact mem_look (by kernel_rfl!) | exact map_look (by kernel_rfl!) | simp [sstep, hu2, ho, Cx.put, del, Cx.w, optPV])
        · (first | exact mem_look (by kernel_rfl!) | exact map_look (by kernel_rfl!) | simp [sstep, hu2, ho, Cx.put, del, Cx.w])
      · obtain ⟨o, ho⟩ : ∃ o, S.op = some o := by
          cases h : S.op with
          | none => rw [h] at hr; cases hr
          | some o => exact ⟨o, rfl⟩
        obtain ⟨h1, h2⟩ := hS.op o ho
        refine run_if (r := (S.start : Int) != o) (M := fun C' => C'.X = ar :: X ∧ ("addr", .str l) ∈ C'.vs ∧ ("pos", .int u.1) ∈ C'.vs ∧ ("result", ar, (if S.start = o then S.res else S.res ++ [(l.drop S.start).take (o - S.start)]).map .str) ∈ C'.own) (bt_cmp (b1 := true) (b2 := true) (ev_name (p := .int S.start) (by (first | exact mem_look (by kernel_rfl!) | exact map_look (by kernel_rfl!) | simp [Cx.put, del, Cx.w]))) (ev_name (p := .int o) (by (first | exact mem_look (by kernel_rfl!) | exact map_look (by kernel_rfl!) | simp [Cx.put, del, Cx.w, ho, optPV]))) cm_ne) (fun hr => ?_) (fun hr => ?_) ?_
        · refine run_seq (st_append (l := S.res.map .str) (x := "result") (a := ar) (by (first | exact mem_look (by kernel_rfl!) | exact map_look (by kernel_rfl!) | simp [Cx.put, del, Cx.w])) (ev_sliceS (b1 := true) (m := S.start) (n := o) (i := some (S.start : Int)) (j := some (o : Int)) (ev_name (p := .str l) (by (first | exact mem_look (by kernel_rfl!) | exact map_look (by kernel_rfl!) | simp [Cx.put, del, Cx.w]))) (evP_some (b := true) (ev_name (by (first | exact mem_look (by kernel_rfl!) | exact map_look (by kernel_rfl!) | simp [Cx.put, del, Cx.w])))) (evP_some (b := true) (ev_name (by (first | exact mem_look (by kernel_rfl!) | exact map_look (by kernel_rfl!) | simp [Cx.put, del, Cx.w, ho, optPV])))) rfl (.inl rfl) h1 (by omega) (by omega)) (by simpa using hres)) ?_
          rintro C' rfl -
          have hz : ¬ (S.start : Int) = o := by simpa using hr
          have hne : ¬ S.start = o := by omega
          refine run_nil ⟨rfl, by (first | exact mem_look (by kernel_rfl!) | exact map_look (by kernel_rfl!) | simp [Cx.put, del, Cx.w]), by (first | exact mem_look (by kernel_rfl!) | exact map_look (by kernel_rfl!) | simp [Cx.put, del, Cx.w]), ?_⟩
          rw [if_neg hne]
          (first | exact mem_look (by kernel_rfl!) | exact map_look (by kernel_rfl!) | simp [Cx.put, del, Cx.w, upOwn])
        · have hz : (S.start : Int) = o := by simpa using hr
          have hne : S.start = o := by omega
          refine run_nil ⟨rfl, by (first | exact mem_look (by kernel_rfl!) | exact map_look (by kernel_rfl!) | simp [Cx.put, del, Cx.w]), by (first | exact mem_look (by kernel_rfl!) | exact map_look (by kernel_rfl!) | simp [Cx.put, del, Cx.w]), ?_⟩
          rw [if_pos hne]
          (first | exact mem_look (by kernel_rfl!) | exact map_look (by kernel_rfl!) | simp [Cx.put, del, Cx.w])
        · rintro C' ⟨hX, hva, hvp, hown⟩ hlk
          have hE : C'.env = env := hlk.1
          refine run_seq (st_assign (ev_bin (b1 := true) (b2 := true) (ev_name hvp) ev_int op_add) (.inl (by rw [hE]; exact ks))) ?_
          rintro C'' rfl -
          refine run_seq (st_assign ev_none (.inl (by show C'.env.kindOf _ = _; rw [hE]; exact ko))) ?_
          rintro C'' rfl -
          refine run_nil ⟨hX, ?_, ?_⟩
          · (first | exact mem_look (by kernel_rfl!) | exact map_look (by kernel_rfl!) | simp [sstep, hu2, ho, Cx.put, mem_del, optPV, hva])
          · (first | exact mem_look (by kernel_rfl!) | exact map_look (by kernel_rfl!) | simp [sstep, hu2, ho, Cx.put, mem_del, hown])
    · have hu2 : ¬ u.2 = [34] := by simpa using hr
      refine ⟨rfl, ?_, ?_⟩
      · (first | exact mem_look (by kernel_rfl!) | exact map_look (by kernel_rfl!) | simp [sstep, hu2, Cx.put, del, Cx.w])
      · (first | exact mem_look (by kernel_rfl!) | exact map_look (by kernel_rfl!) | simp [sstep, hu2, Cx.put, del, Cx.w])
  · obtain ⟨lo, hS, -, hlo⟩ := sok_at l _ (Nat.le_refl _)
    rw [List.length_map]
    rw [List.take_length] at hS ⊢
    have hstrip : strip l = ((sfold l (units 0 false l)).res ++ (if (sfold l (units 0 false l)).start < l.length then [l.drop (sfold l (units 0 false l)).start] else [])).flatten := by
      unfold strip; rw [if_pos h34]
    rw [hstrip]
    generalize sfold l (units 0 false l) = S at hS ⊢
    have hst : S.start ≤ l.length := Nat.le_trans hS.st hlo
    have hres : S.res.length ≤ 501 := by
      have h1 := hS.res
      have h2 := units_len l 0 false
      omega
    refine run_if (r := decide ((S.start : Int) < l.length)) (M := fun C' => ("result", ar, (S.res ++ (if S.start < l.length then [l.drop S.start] else [])).map PV.str) ∈ C'.own) (bt_cmp (b1 := true) (b2 := true) (ev_name (p := .int S.start) (by (first | exact mem_look (by kernel_rfl!) | exact map_look (by kernel_rfl!) | simp [Cx.w]))) (ev_call (b := true) L.tf (gl _ rfl) (.inl ⟨_, rfl⟩) (evs_cons (ev_name (p := .str l) (by (first | exact mem_look (by kernel_rfl!) | exact map_look (by kernel_rfl!) | simp [Cx.w]))) evs_nil) (callX_lenS (by omega))) cm_lt) (fun hr => ?_) (fun hr => ?_) ?_
    · refine run_seq (st_append (l := S.res.map .str) (x := "result") (a := ar) (by (first | exact mem_look (by kernel_rfl!) | exact map_look (by kernel_rfl!) | simp [Cx.w])) (ev_sliceS (b1 := true) (m := S.start) (n := l.length) (i := some (S.start : Int)) (j := Option.none) (ev_name (p := .str l) (by (first | exact mem_look (by kernel_rfl!) | exact map_look (by kernel_rfl!) | simp [Cx.w]))) (evP_some (b := true) (ev_name (by (first | exact mem_look (by kernel_rfl!) | exact map_look (by kernel_rfl!) | simp [Cx.w])))) evP_none rfl (.inr ⟨rfl, rfl⟩) hst (Nat.le_refl _) (by omega)) (by simp; omega)) ?_
      rintro C' rfl -
      have hlt : S.start < l.length := by simpa using hr
      refine run_nil ?_
      rw [if_pos hlt]
      have : (l.drop S.start).take (l.length - S.start) = l.drop S.start := List.take_of_length_le (by simp)
      (first | exact mem_look (by kernel_rfl!) | exact map_look (by kernel_rfl!) | simp [Cx.w, upOwn, this])
    · have hlt : ¬ S.start < l.length := by simpa using hr
      refine run_nil ?_
      rw [if_neg hlt]
      (first | exact mem_look (by kernel_rfl!) | exact map_look (by kernel_rfl!) | simp [Cx.w])
    · intro C' hown hlk
      refine run_ret (b := false) (ev_join (ev_str (l := [])) (ev_own hown) ?_) rfl hlk.2.2.2.2.1
      have h1 := sum_len_le (m := l.length) (ls := S.res ++ (if S.start < l.length then [l.drop S.start] else [])) fun x hx => by
        rcases List.mem_append.mp hx with hx | hx
        · exact hS.len x hx
        · split at hx
          · obtain rfl := List.mem_singleton.mp hx
            simp
          · cases hx
      have h2 : (S.res ++ (if S.start < l.length then [l.drop S.start] else [])).length ≤ 502 := by
        rw [List.length_append]
        split
        · simp only [List.length_cons, List.length_nil]; omega
        · simp only [List.length_nil]; omega
      have h3 := Nat.mul_le_mul h2 (show l.length ≤ 500 by omega)
      omega
end
end Mine

namespace Mine

/-- what a unit counts -/
def uval (u : Nat × List Nat) : Int := if u.2 = [40] then 1 else if u.2 = [41] then -1 else 0
def bal (us : List (Nat × List Nat)) : Int := (us.map uval).sum
theorem bal_snoc (us : List (Nat × List Nat)) (u : Nat × List Nat) : bal (us ++ [u]) = bal us + uval u := by simp [bal]
theorem bal_take {us : List (Nat × List Nat)} {i : Nat} {u : Nat × List Nat} (h : us[i]? = some u) : bal (us.take (i + 1)) = bal (us.take i) + uval u := by
  rw [List.take_add_one, h]; exact bal_snoc _ _
/-- no prefix falls below nothing -/
def up (us : List (Nat × List Nat)) : Bool := (List.range (us.length + 1)).all fun i => decide (0 ≤ bal (us.take i))
theorem up_iff {us : List (Nat × List Nat)} : up us = true ↔ ∀ i, 0 ≤ bal (us.take i) := by
  unfold up
  rw [List.all_eq_true]
  constructor
  · intro h i
    rcases Nat.lt_or_ge i (us.length + 1) with q | q
    · simpa using h i (by simpa using q)
    · have := h us.length (by simp)
      rw [List.take_of_length_le (by omega)]
      simpa [List.take_of_length_le] using this
  · intro h i _
    simpa using h i
def chk (us : List (Nat × List Nat)) : Bool := up us && bal us == 0
def check (l : List Nat) : Bool := chk (units 0 false (strip l))

section
variable {prog : Program} {w : World} {H0 : Heap} {mg mb : PySem.Str → Option Value}

theorem check_ok (L : Lib H0 mg mb) (n : Nat) {l : List Nat} (hl : l.length < 500) (hasc : ∀ c ∈ l, c < 128) : ∃ a, mg (PySem.Str.ofString "_check_parenthesis") = some (.ref a) ∧ Callee H0 (.ref a) ∧ CallX prog w H0 (n + 3) (.ref a) [.str l] (.bool (check l)) := by
  obtain ⟨a, f, hm⟩ := L.check
  obtain ⟨as, hms, hcs, hgs⟩ := strip_ok (prog := prog) (w := w) L n hl hasc
  have hl' : (strip l).length < 500 := Nat.lt_of_le_of_lt (strip_len l) hl
  obtain ⟨ai, hmi, hci, hgi⟩ := iter_ok (prog := prog) (w := w) L (n + 1) (l := strip l) hl' (fun c hc => hasc c (strip_mem l c hc))
  refine ⟨a, hm, f.callee, callX_def L.tf f (by decide +kernel) rfl fun env s X hsc => ?_⟩
  have ka : env.kindOf (PySem.Str.ofString "addr") = some .local := kind_of hsc (by decide +kernel)
  have ko : env.kindOf (PySem.Str.ofString "opens") = some .local := kind_of hsc (by decide +kernel)
  have kp : env.kindOf (PySem.Str.ofString "pos") = some .local := kind_of hsc (by decide +kernel)
  have kc : env.kindOf (PySem.Str.ofString "ch") = some .local := kind_of hsc (by decide +kernel)
  have gi : ∀ C : Cx, C.env = env → GName mg mb C (PySem.Str.ofString "_iter_escaped_chars") (.ref ai) := fun C hC => ⟨by rw [hC]; exact kind_of hsc (by decide +kernel), .inl hmi⟩
  have gs : ∀ C : Cx, C.env = env → GName mg mb C (PySem.Str.ofString "_strip_quoted_realnames") (.ref as) := fun C hC => ⟨by rw [hC]; exact kind_of hsc (by decide +kernel), .inl hms⟩
  unfold check
  generalize hb : bodyN 3 = body
  simp only [bodyN, bodyIn, nthS, TX, PySem.Challenge.pw_pk0038_02] at hb
  subst hb
  refine run_seq (st_assign (ev_call (b := true) L.tf (gs _ rfl) hcs (evs_cons (ev_name (p := .str l) (by (first | exact mem_look (by kernel_rfl!) | exact map_look (by kernel_rfl!) | simp [entry]))) evs_nil) hgs) (.inl ka)) ?_
  rintro C' rfl -
  refine run_seq (st_assign ev_int (.inl ko)) ?_
  rintro C' rfl -
  generalize strip l = t at *
  generalize hus : units 0 false t = us at *
  refine run_for2A (items := us.map fun q => (PV.int q.1, PV.str q.2)) (fun i => [("opens", .int (bal (us.take i)))]) (fun i => []) (fun i => ∀ j, j ≤ i → 0 ≤ bal (us.take j)) (fun j hj => by
      obtain rfl : j = 0 := by omega
      simp [bal]) ?_ ?_ (by simp) (.inl kp) (.inl kc) ?_ ?_
  · rw [List.map_map]
    exact evIt_gen (b := true) L.tf (gi _ rfl) hci (evs_cons (ev_name (p := .str t) (by (first | exact mem_look (by kernel_rfl!) | exact map_look (by kernel_rfl!) | simp [entry, Cx.put, del]))) evs_nil) hgi
  · (first | exact mem_look (by kernel_rfl!) | exact map_look (by kernel_rfl!) | simp [entry, Cx.put, del, bal])
  · intro i p q hal hpq
    rw [List.getElem?_map] at hpq
    obtain ⟨u, hu, e⟩ := Option.map_eq_some_iff.mp hpq
    cases e
    have hnext := bal_take hu
    have h0 : 0 ≤ bal (us.take i) := hal i (Nat.le_refl _)
    have alive : 0 ≤ bal (us.take (i + 1)) → ∀ j, j ≤ i + 1 → 0 ≤ bal (us.take j) := fun h j hj => by
      rcases Nat.lt_or_ge j (i + 1) with q | q
      · exact hal j (by omega)
      · obtain rfl : j = i + 1 := by omega
        exact h
    refine run_if (r := u.2 == [40]) (M := fun C' => (∀ j, j ≤ i + 1 → 0 ≤ bal (us.take j)) ∧ C'.X = X ∧ (∀ q ∈ [("opens", PV.int (bal (us.take (i + 1))))], q ∈ C'.vs) ∧ ∀ q ∈ ([] : List (String × Addr × List PV)), q ∈ C'.own) (bt_cmp (b1 := true) (b2 := true) (ev_name (p := .str u.2) (by (first | exact mem_look (by kernel_rfl!) | exact map_look (by kernel_rfl!) | simp [Cx.put]))) (ev_str (l := [40])) cm_eqs) (fun hr => ?_) (fun hr => ?_) (fun C' h _ => run_nil h)
    · have hu2 : u.2 = [40] := by simpa using hr
      have hv : uval u = 1 := by simp [uval, hu2]
      refine run_seq (st_aug (p := .int (bal (us.take i))) (by (first | exact mem_look (by kernel_rfl!) | exact map_look (by kernel_rfl!) | simp [Cx.put, del, Cx.w])) (b := true) ev_int rfl aug_add (.inl ko)) ?_
      rintro C' rfl -
      refine run_nil ⟨alive (by omega), rfl, ?_, by simp⟩
      rw [hnext, hv]
      (first | exact mem_look (by kernel_rfl!) | exact map_look (by kernel_rfl!) | simp [Cx.put])
    · have hu2 : ¬ u.2 = [40] := by simpa using hr
      refine run_if (r := u.2 == [41]) (M := fun C' => (∀ j, j ≤ i + 1 → 0 ≤ bal (us.take j)) ∧ C'.X = X ∧ (∀ q ∈ [("opens", PV.int (bal (us.take (i + 1))))], q ∈ C'.vs) ∧ ∀ q ∈ ([] : List (String × Addr × List PV)), q ∈ C'.own) (bt_cmp (b1 := true) (b2 := true) (ev_name (p := .str u.2) (by (first | exact mem_look (by kernel_rfl!) | exact map_look (by kernel_rfl!) | simp [Cx.put]))) (ev_str (l := [41])) cm_eqs) (fun hr => ?_) (fun hr => ?_) (fun C' h _ => run_nil h)
      · have hu3 : u.2 = [41] := by simpa using hr
        have hv : uval u = -1 := by simp [uval, hu2, hu3]
        refine run_seq (st_aug (p := .int (bal (us.take i))) (by (first | exact mem_look (by kernel_rfl!) | exact map_look (by kernel_rfl!) | simp [Cx.put, del, Cx.w])) (b := true) ev_int rfl aug_sub (.inl ko)) ?_
        rintro C' rfl -
        have hb1 : bal (us.take i) - 1 = bal (us.take (i + 1)) := by rw [hnext, hv]; omega
        rw [hb1]
        refine run_if (r := decide (bal (us.take (i + 1)) < 0)) (M := fun C' => (∀ j, j ≤ i + 1 → 0 ≤ bal (us.take j)) ∧ C'.X = X ∧ (∀ q ∈ [("opens", PV.int (bal (us.take (i + 1))))], q ∈ C'.vs) ∧ ∀ q ∈ ([] : List (String × Addr × List PV)), q ∈ C'.own) (bt_cmp (b1 := true) (b2 := true) (ev_name (p := .int (bal (us.take (i + 1)))) (by (first | exact mem_look (by kernel_rfl!) | exact map_look (by kernel_rfl!) | simp [Cx.put]))) ev_int cm_lt) (fun hr => ?_) (fun hr => ?_) (fun C' h _ => run_nil h)
        · refine run_ret (b := true) ev_bool ?_
          have hlt : bal (us.take (i + 1)) < 0 := by simpa using hr
          have : up us = false := by
            rw [Bool.eq_false_iff]
            intro h
            have := up_iff.mp h (i + 1)
            omega
          simp [chk, this]
        · have hge : ¬ bal (us.take (i + 1)) < 0 := by simpa using hr
          exact run_nil ⟨alive (by omega), rfl, by (first | exact mem_look (by kernel_rfl!) | exact map_look (by kernel_rfl!) | simp [Cx.put]), by simp⟩
      · have hu3 : ¬ u.2 = [41] := by simpa using hr
        have hv : uval u = 0 := by simp [uval, hu2, hu3]
        refine run_nil ⟨alive (by omega), rfl, ?_, by simp⟩
        rw [hnext, hv]
        (first | exact mem_look (by kernel_rfl!) | exact map_look (by kernel_rfl!) | simp [Cx.put, del, Cx.w])
  · intro hal
    rw [List.length_map] at hal ⊢
    have hup : up us = true := up_iff.mpr fun i => by
      rcases Nat.lt_or_ge us.length i with q | q
      · have := hal us.length (Nat.le_refl _)
        rw [List.take_of_length_le (Nat.le_of_lt q)]
        rwa [List.take_length] at this
      · exact hal i q
    refine run_ret (b := true) (ev_cmp (b1 := true) (b2 := true) (ev_name (p := .int (bal us)) (by (first | exact mem_look (by kernel_rfl!) | exact map_look (by kernel_rfl!) | simp [Cx.w]))) ev_int cm_eq) ?_
    simp [chk, hup]
end
end Mine

namespace Mine

def bad : List Nat := [40, 39, 39, 44, 32, 39, 39, 41]
def valid (l : List Nat) : List Nat := if check l then l else bad

section
variable {prog : Program} {w : World} {H0 : Heap} {mg mb : PySem.Str → Option Value}

theorem check_at (L : Lib H0 mg mb) (n : Nat) : ∃ a, mg (PySem.Str.ofString "_check_parenthesis") = some (.ref a) ∧ Callee H0 (.ref a) ∧ ∀ l : List Nat, l.length < 500 → (∀ c ∈ l, c < 128) → CallX prog w H0 (n + 3) (.ref a) [.str l] (.bool (check l)) := by
  obtain ⟨a, f, hm⟩ := L.check
  refine ⟨a, hm, f.callee, fun l hl ha => ?_⟩
  obtain ⟨b, hb, _, h⟩ := check_ok (prog := prog) (w := w) L n hl ha
  rw [hm] at hb; cases hb
  exact h

theorem pre_ok (L : Lib H0 mg mb) (n : Nat) {ls : List (List Nat)} (hn : ls.length < 500) (hl : ∀ l ∈ ls, l.length < 500) (hasc : ∀ l ∈ ls, ∀ c ∈ l, c < 128) :
    ∃ a, mg (PySem.Str.ofString "_pre_parse_validation") = some (.ref a) ∧ Callee H0 (.ref a) ∧ CallF prog w H0 (n + 4) (.ref a) [.lst (ls.map .str)] ((ls.map valid).map .str) := by
  obtain ⟨a, f, hm⟩ := L.pre
  obtain ⟨ac, hmc, hcc, hgc⟩ := check_at (prog := prog) (w := w) L n
  refine ⟨a, hm, f.callee, callF_def L.tf f (by decide +kernel) rfl (by simp [PV.atom]) fun env s X hsc => ?_⟩
  have kv : env.kindOf (PySem.Str.ofString "v") = some .local := kind_of hsc (by decide +kernel)
  have ka : env.kindOf (PySem.Str.ofString "accepted_values") = some .local := kind_of hsc (by decide +kernel)
  have gc : ∀ C : Cx, C.env = env → GName mg mb C (PySem.Str.ofString "_check_parenthesis") (.ref ac) := fun C hC => ⟨by rw [hC]; exact kind_of hsc (by decide +kernel), .inl hmc⟩
  generalize hb : bodyN 4 = body
  simp only [bodyN, bodyIn, nthS, TX, PySem.Challenge.pw_pk0038_02] at hb
  subst hb
  refine run_seq (st_assignOwn (evF_list evs_nil) (.inl ka)) ?_
  rintro C' ⟨ar, rfl⟩ -
  refine run_for (items := ls.map .str) (fun i => []) (fun i => [("accepted_values", ar, ((ls.take i).map valid).map .str)]) ?_ (by simp) ?_ (.inl kv) ?_ ?_
  · exact evIt_lst (ev_name (by (first | exact mem_look (by kernel_rfl!) | exact map_look (by kernel_rfl!) | simp [entry, Cx.putOwn, del])))
  · (first | exact mem_look (by kernel_rfl!) | exact map_look (by kernel_rfl!) | simp [entry, Cx.putOwn, del])
  · intro i p hp
    rw [List.getElem?_map] at hp
    obtain ⟨l, hu, e⟩ := Option.map_eq_some_iff.mp hp
    subst e
    have hmem : l ∈ ls := List.mem_of_getElem? hu
    have hil : i < ls.length := by
      rcases Nat.lt_or_ge i ls.length with q | q
      · exact q
      · rw [List.getElem?_eq_none q] at hu; cases hu
    refine run_if (r := !check l) (M := fun C' => C'.X = ar :: X ∧ ("v", .str (valid l)) ∈ C'.vs ∧ C'.own = [("accepted_values", ar, ((ls.take i).map valid).map .str)]) (bt_not (bt_bool (b := true) (ev_call L.tf (gc _ rfl) hcc (evs_cons (ev_name (p := .str l) (by (first | exact mem_look (by kernel_rfl!) | exact map_look (by kernel_rfl!) | simp [Cx.put]))) evs_nil) (hgc l (hl l hmem) (hasc l hmem))))) (fun hr => ?_) (fun hr => ?_) ?_
    · have hc : check l = false := by simpa using hr
      refine run_seq (st_assign (ev_str (l := bad)) (.inl kv)) ?_
      rintro C' rfl -
      exact run_nil ⟨rfl, by (first | exact mem_look (by kernel_rfl!) | exact map_look (by kernel_rfl!) | simp [Cx.put, valid, hc]), by (first | exact mem_look (by kernel_rfl!) | exact map_look (by kernel_rfl!) | simp [Cx.put, del, Cx.w])⟩
    · have hc : check l = true := by simpa using hr
      exact run_nil ⟨rfl, by (first | exact mem_look (by kernel_rfl!) | exact map_look (by kernel_rfl!) | simp [Cx.put, valid, hc]), by (first | exact mem_look (by kernel_rfl!) | exact map_look (by kernel_rfl!) | simp [Cx.put, del, Cx.w])⟩
    · rintro C' ⟨hX, hv, ho⟩ hlk
      refine run_seq (st_append (l := ((ls.take i).map valid).map .str) (x := "accepted_values") (a := ar) (by rw [ho]; simp) (ev_name hv) (by simp; omega)) ?_
      rintro C'' rfl -
      refine run_nil ⟨hX, by simp, ?_⟩
      rw [ho, List.take_add_one, hu]
      simp [upOwn]
  · refine run_retOwn (l := (ls.map valid).map .str) (a := ar) ?_ rfl
    (first | exact mem_look (by kernel_rfl!) | exact map_look (by kernel_rfl!) | simp [Cx.w, List.take_of_length_le])

theorem bt_int {C : Cx} {b : Bool} {e : Expr} {i : Int} (h : Ev prog w H0 C b e (.int i)) (he : ∀ env whole, isTrue e env whole = (do let v ← whole; standAt e.pos; holding [v] (truthy v)) := by intro _ _; rfl) : Bt prog w H0 C e (i != 0) :=
  fun A s ok F => wpAny_isTrue_value (ev_then h ok F fun v s₁ r1 st1 F1 => by obtain ⟨t, rfl⟩ := r1.int_inv; exact PyProof.Rows.truthy_int ⟨rfl, st1⟩) (he _ _)
end

/-- the letters of a number -/
def ap (N : Nat) : List UInt8 := if h : N = 0 then [] else ap (N / 16) ++ [(65 + N % 16).toUInt8]
decreasing_by omega
theorem ap_zero : ap 0 = [] := by unfold ap; simp
theorem ap_pos {N : Nat} (h : N ≠ 0) : ap N = ap (N / 16) ++ [(65 + N % 16).toUInt8] := by
  conv => lhs; unfold ap
  simp [h]
theorem ap_get : ∀ (N m : Nat), m < (ap N).length → (ap N)[m]? = some (65 + N / 16 ^ ((ap N).length - 1 - m) % 16).toUInt8 := by
  intro N
  induction N using Nat.strongRecOn with
  | _ N ih =>
    intro m hm
    by_cases h : N = 0
    · subst h; rw [ap_zero] at hm; simp at hm
    · rw [ap_pos h] at hm ⊢
      simp only [List.length_append, List.length_cons, List.length_nil] at hm ⊢
      rcases Nat.lt_or_ge m (ap (N / 16)).length with q | q
      · rw [List.getElem?_append_left q, ih (N / 16) (by omega) m q]
        have e : (ap (N / 16)).length + (0 + 1) - 1 - m = ((ap (N / 16)).length - 1 - m) + 1 := by omega
        rw [e, Nat.pow_succ', Nat.div_div_eq_div_mul]
      · obtain rfl : m = (ap (N / 16)).length := by omega
        rw [List.getElem?_append_right (Nat.le_refl _)]
        simp
theorem ap_div : ∀ (N m : Nat), N / 16 ^ m ≠ 0 ↔ m < (ap N).length := by
  intro N
  induction N using Nat.strongRecOn with
  | _ N ih =>
    intro m
    by_cases h : N = 0
    · subst h; simp [ap_zero]
    · rw [ap_pos h]
      simp only [List.length_append, List.length_cons, List.length_nil]
      cases m with
      | zero => simp [h]
      | succ m =>
        have := ih (N / 16) (by omega) m
        rw [Nat.div_div_eq_div_mul, ← Nat.pow_succ'] at this
        rw [this]; omega
theorem ap_len {N k : Nat} (h : N < 16 ^ k) : (ap N).length ≤ k := by
  rcases Nat.lt_or_ge k (ap N).length with q | q
  · exact absurd (Nat.div_eq_of_lt h) ((ap_div N k).mpr q)
  · exact q

theorem letter : ∀ m : Nat, m < 16 → (([65, 66, 67, 68, 69, 70, 71, 72, 73, 74, 75, 76, 77, 78, 79, 80] : List UInt8).drop m).take (m + 1 - m) = [(65 + m).toUInt8] := by decide

section
variable {prog : Program} {w : World} {H0 : Heap} {mg mb : PySem.Str → Option Value}
theorem int2ap_ok (L : Lib H0 mg mb) (n : Nat) {N : Int} (hN : N.natAbs < 16 ^ 20) :
    ∃ a, mg (PySem.Str.ofString "Int2AP") = some (.ref a) ∧ Callee H0 (.ref a) ∧ CallX prog w H0 (n + 1) (.ref a) [.int N] (.bytes (ap N.natAbs)) := by
  obtain ⟨a, f, hm⟩ := L.int2ap
  refine ⟨a, hm, f.callee, callX_def L.tf f (by decide +kernel) rfl fun env s X hsc => ?_⟩
  have kv : env.kindOf (PySem.Str.ofString "val") = some .local := kind_of hsc (by decide +kernel)
  have kA : env.kindOf (PySem.Str.ofString "AP") = some .local := kind_of hsc (by decide +kernel)
  have kn : env.kindOf (PySem.Str.ofString "num") = some .local := kind_of hsc (by decide +kernel)
  have km : env.kindOf (PySem.Str.ofString "mod") = some .local := kind_of hsc (by decide +kernel)
  have g1 : ∀ C : Cx, C.env = env → GName mg mb C (PySem.Str.ofString "int") (.type "int") := fun C hC => ⟨by rw [hC]; exact kind_of hsc (by decide +kernel), .inr (L.bi _ _ (by simp [biTable]))⟩
  have g2 : ∀ C : Cx, C.env = env → GName mg mb C (PySem.Str.ofString "abs") (.builtin "abs") := fun C hC => ⟨by rw [hC]; exact kind_of hsc (by decide +kernel), .inr (L.bi _ _ (by simp [biTable]))⟩
  have g3 : ∀ C : Cx, C.env = env → GName mg mb C (PySem.Str.ofString "divmod") (.builtin "divmod") := fun C hC => ⟨by rw [hC]; exact kind_of hsc (by decide +kernel), .inr (L.bi _ _ (by simp [biTable]))⟩
  generalize hM : N.natAbs = M at *
  have hlen := ap_len hN
  generalize hb : bodyN 6 = body
  simp only [bodyN, bodyIn, nthS, TX, PySem.Challenge.pw_pk0038_02] at hb
  subst hb
  refine run_seq (st_assign ev_bytes (.inl kv)) ?_
  rintro C' rfl -
  refine run_seq (st_assign ev_bytes (.inl kA)) ?_
  rintro C' rfl -
  refine run_seq (st_assign (ev_call (b := true) (p := .int N.natAbs) L.tf (g1 _ rfl) (.inr (.inl ⟨_, rfl⟩)) (evs_cons (ev_call (b := true) L.tf (g2 _ rfl) (.inl ⟨_, rfl⟩) (evs_cons (ev_name (p := .int N) (by (first | exact mem_look (by kernel_rfl!) | exact map_look (by kernel_rfl!) | simp [entry, Cx.put, del]))) evs_nil) callX_abs) evs_nil) callX_int) (.inl kn)) ?_
  rintro C' rfl -
  rw [hM]
  refine run_while (fun m => [("num", .int ((M / 16 ^ ((ap M).length - m) : Nat) : Int)), ("val", .bytes ((ap M).drop m)), ("AP", .bytes [65, 66, 67, 68, 69, 70, 71, 72, 73, 74, 75, 76, 77, 78, 79, 80])]) (ap M).length ?_ ?_ ?_ ?_ ?_
  · (first | exact mem_look (by kernel_rfl!) | exact map_look (by kernel_rfl!) | simp [entry, Cx.put, del])
  · intro i hi
    refine bt_eq (bt_int (b := true) (ev_name (p := .int ((M / 16 ^ ((ap M).length - (i + 1)) : Nat) : Int)) (by exact List.mem_cons_self))) ?_
    have : M / 16 ^ ((ap M).length - (i + 1)) ≠ 0 := (ap_div M _).mpr (by omega)
    rw [bne_iff_ne]
    omega
  · refine bt_eq (bt_int (b := true) (ev_name (p := .int ((M / 16 ^ ((ap M).length - 0) : Nat) : Int)) (by exact List.mem_cons_self))) ?_
    have : M / 16 ^ ((ap M).length - 0) = 0 := by
      rw [Nat.sub_zero]
      rcases Nat.eq_zero_or_pos (M / 16 ^ (ap M).length) with q | q
      · exact q
      · exact absurd ((ap_div M _).mp (by omega)) (Nat.lt_irrefl _)
    rw [this]; rfl
  · intro i hi
    have e1 : (ap M).length - i = ((ap M).length - (i + 1)) + 1 := by omega
    have hget := ap_get M i hi
    have e3 : (ap M).length - 1 - i = (ap M).length - (i + 1) := by omega
    rw [e3] at hget
    have hdrop : (ap M).drop i = [(65 + M / 16 ^ ((ap M).length - (i + 1)) % 16).toUInt8] ++ (ap M).drop (i + 1) := by
      rw [List.drop_eq_getElem_cons hi]
      rw [List.getElem?_eq_getElem hi] at hget
      simp only [Option.some.injEq] at hget
      rw [hget]; rfl
    have hq : M / 16 ^ ((ap M).length - i) = M / 16 ^ ((ap M).length - (i + 1)) / 16 := by
      rw [e1, Nat.pow_succ, Nat.div_div_eq_div_mul]
    rw [hdrop, hq]
    generalize M / 16 ^ ((ap M).length - (i + 1)) = Z
    refine run_seq (st_pair (p := .int ((Z / 16 : Nat) : Int)) (q := .int ((Z % 16 : Nat) : Int)) (ev_eq (ev_call (b := true) L.tf (g3 _ rfl) (.inl ⟨_, rfl⟩) (evs_cons (ev_name (p := .int (Z : Int)) (by (first | exact mem_look (by kernel_rfl!) | exact map_look (by kernel_rfl!) | simp [Cx.w]))) (evs_cons ev_int evs_nil)) (callX_divmod (by decide) (by decide))) (by simp)) (.inl kn) (.inl km)) ?_
    rintro C' rfl -
    refine run_seq (st_assign (ev_bin (b1 := true) (b2 := true) (ev_eq (ev_sliceB (b1 := true) (l := [65, 66, 67, 68, 69, 70, 71, 72, 73, 74, 75, 76, 77, 78, 79, 80]) (m := Z % 16) (n := Z % 16 + 1) (ev_name (by (first | exact mem_look (by kernel_rfl!) | exact map_look (by kernel_rfl!) | simp [Cx.put, del, Cx.w]))) (evP_some (b := true) (ev_name (by (first | exact mem_look (by kernel_rfl!) | exact map_look (by kernel_rfl!) | simp [Cx.put, del, Cx.w])))) (evP_some (b := true) (ev_eq (ev_bin (b1 := true) (b2 := true) (ev_name (p := .int ((Z % 16 : Nat) : Int)) (by (first | exact mem_look (by kernel_rfl!) | exact map_look (by kernel_rfl!) | simp [Cx.put, del, Cx.w]))) ev_int op_add) (by simp))) (Nat.le_succ _) (by have := Nat.mod_lt Z (show 0 < 16 by decide); simp; omega) (by simp)) (congrArg PV.bytes (letter _ (Nat.mod_lt _ (by decide))))) (ev_name (p := .bytes ((ap M).drop (i + 1))) (by (first | exact mem_look (by kernel_rfl!) | exact map_look (by kernel_rfl!) | simp [Cx.put, del, Cx.w]))) (op_addb (by simp; omega))) (.inl kv)) ?_
    rintro C' rfl -
    exact run_nil ⟨rfl, by (first | exact mem_look (by kernel_rfl!) | exact map_look (by kernel_rfl!) | simp [Cx.put, del, Cx.w]), by (first | exact mem_look (by kernel_rfl!) | exact map_look (by kernel_rfl!) | simp [Cx.put, Cx.w, entry, del])⟩
  · exact run_ret (b := true) (ev_name (p := .bytes (ap M)) (by (first | exact mem_look (by kernel_rfl!) | exact map_look (by kernel_rfl!) | simp [Cx.w]))) rfl
end
end Mine

namespace Mine

section
variable {prog : Program} {w : World} {H0 : Heap} {mg mb : PySem.Str → Option Value} {C : Cx}

end
end Mine

set_option linter.unusedSimpArgs false
namespace Mine

section
variable {prog : Program} {w : World} {H0 : Heap} {mg mb : PySem.Str → Option Value} {C : Cx}
/-- a name, its place in the list found -/
theorem ev_n {b : Bool} {x : String} {p : PV} {pos : Pos} (h : (x, p) ∈ C.vs := by (first | exact mem_look (by kernel_rfl!) | exact map_look (by kernel_rfl!) | simp [Cx.put, Cx.putOwn, Cx.w, Cx.inner, entry, del, upOwn])) (hd : (PySem.Str.ofString x == ("__debug__" : PySem.Str)) = false := by decide +kernel) :
    Ev prog w H0 C b (.Name (PySem.Str.ofString x) pos) p := ev_name h hd
theorem ev_o {x : String} {a : Addr} {l : List PV} {pos : Pos} (h : (x, a, l) ∈ C.own := by (first | exact mem_look (by kernel_rfl!) | exact map_look (by kernel_rfl!) | simp [Cx.put, Cx.putOwn, Cx.w, Cx.inner, entry, del, upOwn])) (hd : (PySem.Str.ofString x == ("__debug__" : PySem.Str)) = false := by decide +kernel) :
    Ev prog w H0 C false (.Name (PySem.Str.ofString x) pos) (.lst l) := ev_own h hd
theorem ev_addI {b b1 b2 : Bool} {l r : Expr} {pos : Pos} {p q : Int} (h1 : Ev prog w H0 C b1 l (.int p)) (h2 : Ev prog w H0 C b2 r (.int q)) : Ev prog w H0 C b (.BinOp l .Add r pos) (.int (p + q)) := ev_bin h1 h2 op_add
theorem ev_subI {b b1 b2 : Bool} {l r : Expr} {pos : Pos} {p q : Int} (h1 : Ev prog w H0 C b1 l (.int p)) (h2 : Ev prog w H0 C b2 r (.int q)) : Ev prog w H0 C b (.BinOp l .Sub r pos) (.int (p - q)) := ev_bin h1 h2 op_sub
theorem ev_divI {b b1 b2 : Bool} {l r : Expr} {pos : Pos} {p q : Int} (h1 : Ev prog w H0 C b1 l (.int p)) (h2 : Ev prog w H0 C b2 r (.int q)) (hb : 0 < q := by decide) (hb2 : q < 1073741824 := by decide) : Ev prog w H0 C b (.BinOp l .FloorDiv r pos) (.int (p / q)) := ev_bin h1 h2 (op_div hb hb2)
theorem ev_modI {b b1 b2 : Bool} {l r : Expr} {pos : Pos} {p q : Int} (h1 : Ev prog w H0 C b1 l (.int p)) (h2 : Ev prog w H0 C b2 r (.int q)) (hb : 0 < q := by decide) : Ev prog w H0 C b (.BinOp l .Mod r pos) (.int (p % q)) := ev_bin h1 h2 (op_mod hb)
theorem mul_okR {a b : Int} (h1 : -1099511627776 ≤ b) (h2 : b ≤ 1099511627776) : IntMulOk a b := .of_right (PySem.intBits_le_64 (by omega) (by omega))
theorem mul_okL {a b : Int} (h1 : -1099511627776 ≤ a) (h2 : a ≤ 1099511627776) : IntMulOk a b := .of_left (PySem.intBits_le_64 (by omega) (by omega))
/-- a product whose right factor is bounded -/
theorem ev_mulR {b b1 b2 : Bool} {l r : Expr} {pos : Pos} {p q : Int} (h1 : Ev prog w H0 C b1 l (.int p)) (h2 : Ev prog w H0 C b2 r (.int q)) (h3 : -1099511627776 ≤ q := by omega) (h4 : q ≤ 1099511627776 := by omega) : Ev prog w H0 C b (.BinOp l .Mult r pos) (.int (p * q)) := ev_bin h1 h2 (op_mul (mul_okR h3 h4))
theorem ev_mulL {b b1 b2 : Bool} {l r : Expr} {pos : Pos} {p q : Int} (h1 : Ev prog w H0 C b1 l (.int p)) (h2 : Ev prog w H0 C b2 r (.int q)) (h3 : -1099511627776 ≤ p := by omega) (h4 : p ≤ 1099511627776 := by omega) : Ev prog w H0 C b (.BinOp l .Mult r pos) (.int (p * q)) := ev_bin h1 h2 (op_mul (mul_okL h3 h4))
theorem ev_powI {b b1 b2 : Bool} {l r : Expr} {pos : Pos} {p q : Int} {k : Nat} (h1 : Ev prog w H0 C b1 l (.int p)) (h2 : Ev prog w H0 C b2 r (.int q)) (hk : q = k) (h3 : k ≤ 1000000) (ha : p.natAbs < 2 ^ 64 := by decide) : Ev prog w H0 C b (.BinOp l .Pow r pos) (.int (p ^ k)) := ev_bin h1 h2 (op_pow hk h3 ha)
end

section
variable {prog : Program} {w : World} {H0 : Heap} {mg mb : PySem.Str → Option Value} {C : Cx}
def unInt : PV → Int
  | .int i => i
  | _ => 0
def unNat : PV → Nat
  | .int i => i.toNat
  | _ => 0
/-- all that a comprehension's scope must be -/
def compOkX (sc : Scope) (ts : List String) (scope : Scope) (nm : List String) : Bool :=
  compOk sc ts && (sc.names.all fun q => q.2 != .free || scope.names.lookup q.1 == some .cell) && nm.all fun x => sc.names.lookup (PySem.Str.ofString x) == some .free
theorem compOkX_at {sc scope : Scope} {ts nm : List String} (h : compOkX sc ts scope nm = true) {env : Env} (hsc : env.scope = scope) : compOk sc ts = true ∧ (∀ n, (n, NameKind.free) ∈ sc.names → env.kindOf n = some .cell) ∧ ∀ x ∈ nm, sc.names.lookup (PySem.Str.ofString x) = some .free := by
  unfold compOkX at h
  simp only [Bool.and_eq_true, List.all_eq_true, Bool.or_eq_true, bne_iff_ne, beq_iff_eq] at h
  obtain ⟨⟨h1, h2⟩, h3⟩ := h
  exact ⟨h1, fun n hn => kind_of hsc ((h2 _ hn).resolve_left fun q => q rfl), h3⟩

theorem evF_compG {α : Type} {x : String} {px pos : Pos} {elt iter : Expr} {ifs : List Expr} {sc : Scope} (scope : Scope) (f : α → PV) (g : PV → α) (hg : ∀ a, g (f a) = a) (xs : List α) (tst : α → Bool) (val : α → PV) (nm : List String) (vs : List (String × PV)) (own : List (String × Addr × List PV))
    (hit : EvIt prog w H0 C iter (xs.map f)) (hsz : xs.length < 1000000) (hsc : C.env.scope = scope) (hok : compOkX sc [x] scope nm = true) (hnm : vs.map (·.1) ++ own.map (·.1) = nm)
    (hv : ∀ q ∈ vs, q ∈ C.vs) (ho : ∀ q ∈ own, q ∈ C.own)
    (tests : ∀ env D a, a ∈ xs → env.scope = relabel sc C.env → Tests prog w H0 ((C.inner env D vs own).put x (f a)) ifs (tst a))
    (elts : ∀ env D a, a ∈ xs → tst a = true → env.scope = relabel sc C.env → Ev prog w H0 ((C.inner env D vs own).put x (f a)) true elt (val a))
    (hs : ∀ x, foldedSetIterable iter C.env x = pure x := by intro _; rfl) : EvF prog w H0 C (.ListComp elt [⟨.Name (PySem.Str.ofString x) px, iter, ifs, 0⟩] sc pos) ((xs.filter tst).map val) := by
  obtain ⟨h1, h2, h3⟩ := compOkX_at hok hsc
  have e : ((xs.map f).filter (fun p => tst (g p))).map (fun p => val (g p)) = (xs.filter tst).map val := by
    rw [List.filter_map, List.map_map]
    congr 1
    · funext a; simp only [Function.comp, hg]
    · congr 1; funext a; simp only [Function.comp, hg]
  rw [← e]
  refine evF_comp (fun p => tst (g p)) (fun p => val (g p)) vs own hit (by simpa using hsz) h1 h2 (fun q hq => ⟨hv q hq, h3 _ (by rw [← hnm]; simp; exact .inl ⟨_, hq⟩)⟩) (fun q hq => ⟨ho q hq, h3 _ (by rw [← hnm]; simp; exact .inr ⟨_, _, hq⟩)⟩) ?_ ?_ hs
  · intro env D p hp he
    obtain ⟨a, ha, rfl⟩ := List.mem_map.mp hp
    rw [hg]; exact tests env D a ha he
  · intro env D p hp ht he
    obtain ⟨a, ha, rfl⟩ := List.mem_map.mp hp
    rw [hg] at ht ⊢; exact elts env D a ha ht he

theorem st_assignCompG {α : Type} {x y : String} {px py pos spos : Pos} {elt iter : Expr} {ifs : List Expr} {sc : Scope} (scope : Scope) (f : α → PV) (g : PV → α) (hg : ∀ a, g (f a) = a) (xs : List α) (tst : α → Bool) (val : α → PV) (nm : List String) (vs : List (String × PV)) (own : List (String × Addr × List PV))
    (hit : EvIt prog w H0 C iter (xs.map f)) (hsz : xs.length < 1000000) (hsc : C.env.scope = scope) (hok : compOkX sc [x] scope nm = true) (hnm : vs.map (·.1) ++ own.map (·.1) = nm)
    (hv : ∀ q ∈ vs, q ∈ C.vs) (ho : ∀ q ∈ own, q ∈ C.own)
    (tests : ∀ env D a, a ∈ xs → env.scope = relabel sc C.env → Tests prog w H0 ((C.inner env D vs own).put x (f a)) ifs (tst a))
    (elts : ∀ env D a, a ∈ xs → tst a = true → env.scope = relabel sc C.env → Ev prog w H0 ((C.inner env D vs own).put x (f a)) true elt (val a))
    (hk : C.env.kindOf (PySem.Str.ofString y) = some .local ∨ C.env.kindOf (PySem.Str.ofString y) = some .cell)
    (hsw : swapsWith (.ListComp elt [⟨.Name (PySem.Str.ofString x) px, iter, ifs, 0⟩] sc pos) (some (.Name (PySem.Str.ofString y) py)) spos.line C.env = pure true)
    (hs : ∀ x, foldedSetIterable iter C.env x = pure x := by intro _; rfl) :
    St1 prog w H0 C (.Assign [.Name (PySem.Str.ofString y) py] (.ListComp elt [⟨.Name (PySem.Str.ofString x) px, iter, ifs, 0⟩] sc pos) spos) (fun C' => C' = C.put y (.lst ((xs.filter tst).map val))) := by
  obtain ⟨h1, h2, h3⟩ := compOkX_at hok hsc
  have e : ((xs.map f).filter (fun p => tst (g p))).map (fun p => val (g p)) = (xs.filter tst).map val := by
    rw [List.filter_map, List.map_map]
    congr 1
    · funext a; simp only [Function.comp, hg]
    · congr 1; funext a; simp only [Function.comp, hg]
  rw [← e]
  refine st_assignComp (fun p => tst (g p)) (fun p => val (g p)) vs own hit (by simpa using hsz) h1 h2 (fun q hq => ⟨hv q hq, h3 _ (by rw [← hnm]; simp; exact .inl ⟨_, hq⟩)⟩) (fun q hq => ⟨ho q hq, h3 _ (by rw [← hnm]; simp; exact .inr ⟨_, _, hq⟩)⟩) ?_ ?_ hk hsw hs
  · intro env D p hp he
    obtain ⟨a, ha, rfl⟩ := List.mem_map.mp hp
    rw [hg]; exact tests env D a ha he
  · intro env D p hp ht he
    obtain ⟨a, ha, rfl⟩ := List.mem_map.mp hp
    rw [hg] at ht ⊢; exact elts env D a ha ht he

theorem swaps_cell {e : Expr} {t : PySem.Str} {p : Pos} {line : Nat} {env : Env} (hk : env.kindOf t = some .cell) : swapsWith e (some (.Name t p)) line env = pure false := by
  unfold swapsWith
  split
  · have : (NameKind.cell == NameKind.local) = false := rfl
    simp [hk, this]
  · rfl
theorem swaps_local {elt : Expr} {gs : List Comprehension} {sc : Scope} {pos p : Pos} {t : PySem.Str} {line : Nat} {env : Env} (hk : env.kindOf t = some .local) (hb : env.scope.kind = .function) (hl : (p.line == pos.line) = true)
    (hn : (sc.names.any fun (n, k) => n == t && (k == .local || k == .cell)) = false) : swapsWith (.ListComp elt gs sc pos) (some (.Name t p)) line env = pure true := by
  have hb' : (env.blockKind == .function) = true := by unfold Env.blockKind; rw [hb]; rfl
  have hl' : (p.line == (Expr.ListComp elt gs sc pos).pos.line) = true := hl
  have hk' : (env.kindOf t == some .local) = true := by rw [hk]; rfl
  show (pure (env.blockKind == .function && env.kindOf t == some .local && p.line == (Expr.ListComp elt gs sc pos).pos.line && !(sc.names.any fun (n, k) => n == t && (k == .local || k == .cell))) : Sem Bool) = pure true
  rw [hb', hk', hl', hn]
  rfl
theorem st_assignCell {x : String} {px pos : Pos} {e : Expr} {p : PV} (h : Ev prog w H0 C true e p) (hk : C.env.kindOf (PySem.Str.ofString x) = some .cell) :
    St1 prog w H0 C (.Assign [.Name (PySem.Str.ofString x) px] e pos) (fun C' => C' = C.put x p) := st_assign h (.inr hk) (swaps_cell hk)
theorem st_assignOwnCell {x : String} {px pos : Pos} {e : Expr} {l : List PV} (h : EvF prog w H0 C e l) (hk : C.env.kindOf (PySem.Str.ofString x) = some .cell) :
    St1 prog w H0 C (.Assign [.Name (PySem.Str.ofString x) px] e pos) (fun C' => ∃ a, C' = C.putOwn x a l) := st_assignOwn h (.inr hk) (swaps_cell hk)
/-- a natural number -/
abbrev iN (i : Nat) : PV := .int (i : Int)
theorem unNat_iN (i : Nat) : unNat (iN i) = i := by simp [unNat]
theorem rangeL_zero (n : Nat) : rangeL 0 n = (List.range n).map iN := by
  unfold rangeL
  congr 1; funext i
  rw [Int.zero_add]
theorem evIt_rangeN {b : Bool} {e : Expr} {np pos : Pos} {n : Nat} (T : TF H0 mg mb) (hn : GName mg mb C (PySem.Str.ofString "range") (.type "range")) (h : Ev prog w H0 C b e (.int n)) (hb : n < 1000000) (he : isStarred e = false := by rfl) :
    EvIt prog w H0 C (.Call (.Name (PySem.Str.ofString "range") np) [e] [] pos) ((List.range n).map iN) := by
  rw [← rangeL_zero]; exact evIt_range T hn h hb he

theorem run_forR {x : String} {px pos : Pos} {iter : Expr} {body rest : List Stmt} {n : Nat} (vsK : Nat → List (String × PV)) (ownK : Nat → List (String × Addr × List PV)) {N : Cx → Prop} {R : PV → Prop}
    (hit : EvIt prog w H0 C iter ((List.range n).map iN)) (h0v : ∀ q ∈ vsK 0, q ∈ C.vs) (h0o : ∀ q ∈ ownK 0, q ∈ C.own)
    (hk : C.env.kindOf (PySem.Str.ofString x) = some .local ∨ C.env.kindOf (PySem.Str.ofString x) = some .cell)
    (turn : ∀ i, i < n → Run prog w H0 ((C.w (vsK i) (ownK i)).put x (iN i)) body (fun C' => C'.X = C.X ∧ (∀ q ∈ vsK (i + 1), q ∈ C'.vs) ∧ ∀ q ∈ ownK (i + 1), q ∈ C'.own) R)
    (k : Run prog w H0 (C.w (vsK n) (ownK n)) rest N R)
    (hs : ∀ x, foldedSetIterable iter C.env x = pure x := by intro _; rfl) : Run prog w H0 C (.For (.Name (PySem.Str.ofString x) px) iter body [] pos :: rest) N R := by
  refine run_for vsK ownK hit h0v h0o hk (fun i p hp => ?_) (by rw [List.length_map, List.length_range]; exact k) hs
  rw [List.getElem?_map] at hp
  rcases Nat.lt_or_ge i n with q | q
  · rw [List.getElem?_range q] at hp
    cases hp; exact turn i q
  · rw [List.getElem?_eq_none (by simpa using q)] at hp; cases hp
end

section
variable {prog : Program} {w : World} {H0 : Heap} {mg mb : PySem.Str → Option Value} {C : Cx}
theorem ev_idxN {b b2 : Bool} {value slice : Expr} {pos : Pos} {α : Type} {f : α → PV} {l : List α} {i : Nat} {a : α} (hv : Ev prog w H0 C b value (.lst (l.map f))) (hi : Ev prog w H0 C b2 slice (iN i)) (h : l[i]? = some a) (hl : l.length < 1000000)
    (hs : ∀ o i, subscripted slice false o i = operate [o, i] (getItem o i) := by intro _ _; rfl) : Ev prog w H0 C b (.Subscript value slice pos) (f a) :=
  ev_idx hv hi (by rw [pidx_nat, List.getElem?_map, h]; rfl) (by simpa using hl) hs
end
section
variable {prog : Program} {w : World} {H0 : Heap} {mg mb : PySem.Str → Option Value} {C : Cx}
theorem cm_inN {xs : List Nat} {i : Nat} : Cm prog w .In (iN i) (.lst (xs.map iN)) (decide (i ∈ xs)) := by
  have := cm_inL (prog := prog) (w := w) (xs := xs.map fun n : Nat => (n : Int)) (i := (i : Int))
  rw [List.map_map] at this
  have e : decide ((i : Int) ∈ xs.map fun n : Nat => (n : Int)) = decide (i ∈ xs) := by
    rw [decide_eq_decide, List.mem_map]
    exact ⟨fun ⟨a, ha, e⟩ => by obtain rfl : a = i := by omega
                                exact ha, fun h => ⟨i, h, rfl⟩⟩
  rw [e] at this
  exact this
theorem natInt_inj {xs ys : List Nat} : ((xs.map fun n : Nat => (n : Int)) == (ys.map fun n : Nat => (n : Int))) = (xs == ys) := by
  rw [Bool.eq_iff_iff]
  simp only [beq_iff_eq]
  constructor
  · intro h
    have := congrArg (List.map Int.toNat) h
    simpa [List.map_map, Function.comp_def] using this
  · intro h; rw [h]
theorem cm_eqN {xs ys : List Nat} : Cm prog w .Eq (.lst (xs.map iN)) (.lst (ys.map iN)) (xs == ys) := by
  have := cm_eqL (prog := prog) (w := w) kd_int (xs := xs.map fun n : Nat => (n : Int)) (ys := ys.map fun n : Nat => (n : Int)) (fun _ _ => trivial) (fun _ _ => trivial)
  rw [List.map_map, List.map_map, natInt_inj] at this
  exact this
theorem bt_and2 {x y : Expr} {pos : Pos} {r r' : Bool} (h : Bt prog w H0 C x r) (h' : r = true → Bt prog w H0 C y r') : Bt prog w H0 C (.BoolOp .And [x, y] pos) (r && r') :=
  bt_eq (bt_and (btAll_cons h fun hr => btAll_cons (h' hr) fun _ => btAll_nil)) (by simp)
theorem getD_get {l : List Nat} {i : Nat} (h : i < l.length) : l[i]? = some (l.getD i 0) := by rw [List.getD_eq_getElem?_getD, List.getElem?_eq_getElem h]; rfl

end
section
variable {prog : Program} {w : World} {H0 : Heap} {mg mb : PySem.Str → Option Value} {C : Cx}

theorem int2ap_at (L : Lib H0 mg mb) (n : Nat) : ∃ a, mg (PySem.Str.ofString "Int2AP") = some (.ref a) ∧ Callee H0 (.ref a) ∧ ∀ N : Int, N.natAbs < 16 ^ 20 → CallX prog w H0 (n + 1) (.ref a) [.int N] (.bytes (ap N.natAbs)) := by
  obtain ⟨a, f, hm⟩ := L.int2ap
  refine ⟨a, hm, f.callee, fun N hN => ?_⟩
  obtain ⟨b, hb, _, h⟩ := int2ap_ok (prog := prog) (w := w) L n hN
  rw [hm] at hb; cases hb
  exact h

/-- what is drawn from the script -/
def draw (c M : Int) (k st : Int) (taken : List Int) : Int := (c + ((pick taken (some k) Option.none (some st)).map (· % M)).sum) % M
theorem ev_draw {b : Bool} {scope : Scope} {c M k st : Int} {taken : List Int} {sc : Scope} {k0 k1 k2 k3 k4 : Nat} {p0 p1 p2 p3 p4 p5 p6 p7 p8 p9 p10 p11 p12 p13 p14 p15 : Pos} (T : TF H0 mg mb) (hn : GName mg mb C (PySem.Str.ofString "sum") (.builtin "sum")) (hsc : C.env.scope = scope) (hok : compOkX sc ["x"] scope [] = true)
    (hM : 0 < M) (hM2 : M ≤ 4294967296) (hst : st ≠ 0) (ht : ("taken", PV.lst (taken.map .int)) ∈ C.vs) (hl : taken.length ≤ 60) :
    Ev prog w H0 C b (.BinOp (.BinOp (.Constant (.int c) k0 p0) .Add (.Call (.Name (PySem.Str.ofString "sum") p1) [.ListComp (.BinOp (.Name (PySem.Str.ofString "x") p2) .Mod (.Constant (.int M) k1 p3) p4) [⟨.Name (PySem.Str.ofString "x") p5, .Subscript (.Name (PySem.Str.ofString "taken") p6) (.Slice (some (.Constant (.int k) k2 p7)) Option.none (some (.Constant (.int st) k3 p8)) p9) p10, [], 0⟩] sc p11] [] p12) p13) .Mod (.Constant (.int M) k4 p14) p15)
      (.int (draw c M k st taken)) := by
  have hpl : (pick taken (some k) Option.none (some st)).length ≤ 60 := Nat.le_trans (pick_length_le _ _ _ _) hl
  refine ev_modI (b1 := true) (b2 := true) (ev_addI (b1 := true) (b2 := true) ev_int (ev_call (b := true) T hn (.inl ⟨_, rfl⟩) (evs_cons (ev_new (evF_eq (evF_compG scope PV.int unInt (fun _ => rfl) (pick taken (some k) Option.none (some st)) (fun _ => true) (fun x => .int (x % M)) [] [] [] (evIt_lst (ev_eq (ev_new (evF_slice (l := taken.map .int) (ev_n ht) (evP_some (b := true) ev_int) evP_none (evP_some (b := true) ev_int) (by simpa using hst) (by simp; omega))) (congrArg PV.lst (pick_map _ _ _ _ _)))) (by omega) hsc hok rfl (by simp) (by simp) (fun env D p _ _ => tests_nil) (fun env2 D x hx _ he => ev_modI (b1 := true) (b2 := true) (ev_n (p := .int x)) ev_int hM)) (q := ((pick taken (some k) Option.none (some st)).map (· % M)).map .int) ?_)) evs_nil) (callX_sum ?_ ?_))) ev_int hM
  · rw [List.filter_eq_self.mpr (by simp), List.map_map]; rfl
  · simp; omega
  · intro x hx
    obtain ⟨y, _, rfl⟩ := List.mem_map.mp hx
    have := Int.emod_nonneg y (b := M) (by omega)
    have := Int.emod_lt_of_pos y hM
    omega
theorem draw_lt (c k st : Int) (taken : List Int) {M : Int} (hM : 0 < M) : 0 ≤ draw c M k st taken ∧ draw c M k st taken < M := ⟨Int.emod_nonneg _ (by omega), Int.emod_lt_of_pos _ hM⟩
end
theorem ap_ge (N : Nat) : ∀ c ∈ ap N, 65 ≤ c.toNat := fun c hc => by
  obtain ⟨i, hi, rfl⟩ := List.mem_iff_getElem.mp hc
  have := ap_get N i hi
  rw [List.getElem?_eq_getElem hi] at this
  simp only [Option.some.injEq] at this
  rw [this]
  have h2 : N / 16 ^ ((ap N).length - 1 - i) % 16 < 16 := Nat.mod_lt _ (by decide)
  simp only [Nat.toUInt8, UInt8.toNat_ofNat']
  omega
theorem getD_getI {l : List Int} {i : Nat} (h : i < l.length) : l[i]? = some (l.getD i 0) := by rw [List.getD_eq_getElem?_getD, List.getElem?_eq_getElem h]; rfl
theorem pre_at {prog : Program} {w : World} {H0 : Heap} {mg mb : PySem.Str → Option Value} (L : Lib H0 mg mb) (n : Nat) : ∃ a, mg (PySem.Str.ofString "_pre_parse_validation") = some (.ref a) ∧ Callee H0 (.ref a) ∧ ∀ ls : List (List Nat), ls.length < 500 → (∀ l ∈ ls, l.length < 500) → (∀ l ∈ ls, ∀ c ∈ l, c < 128) → CallF prog w H0 (n + 4) (.ref a) [.lst (ls.map .str)] ((ls.map valid).map .str) := by
  obtain ⟨a, f, hm⟩ := L.pre
  refine ⟨a, hm, f.callee, fun ls h1 h2 h3 => ?_⟩
  obtain ⟨b, hb, _, h⟩ := pre_ok (prog := prog) (w := w) L n h1 h2 h3
  rw [hm] at hb; cases hb
  exact h
end Mine

namespace Mine

/-- stretches between marks are taken away (`true`: within one) -/
def stp : Bool → List (List Nat) → List (List Nat)
  | _, [] => []
  | false, u :: r => if u = [34] then (if [34] ∈ r then stp true r else u :: r) else u :: stp false r
  | true, u :: r => if u = [34] then stp false r else stp true r

theorem units_flat : ∀ (r : List Nat) (i : Nat) (esc : Bool), ((units i esc r).map (·.2)).flatten = (if esc then [92] else []) ++ r
  | [], i, false => by simp [units]
  | [], i, true => by simp [units]
  | c :: r, i, true => by simp [units, units_flat r (i + 1) false]
  | c :: r, i, false => by
    unfold units
    split
    · rename_i h
      subst h
      rw [units_flat r (i + 1) true]; simp
    · simp [units_flat r (i + 1) false]

def fin (l : List Nat) (S : SS) : List Nat := S.res.flatten ++ l.drop S.start
/-- what is left, from a place on -/
def todo (l : List Nat) (i : Nat) (S : SS) (us : List (Nat × List Nat)) : List Nat :=
  match S.op with
  | .none => S.res.flatten ++ (l.drop S.start).take (i - S.start) ++ (stp false (us.map (·.2))).flatten
  | .some o => if [34] ∈ us.map (·.2) then S.res.flatten ++ (l.drop S.start).take (o - S.start) ++ (stp true (us.map (·.2))).flatten else fin l S

theorem drop_take {l : List Nat} {a b c : Nat} (h1 : a ≤ b) (h2 : b ≤ c) : (l.drop a).take (c - a) = (l.drop a).take (b - a) ++ (l.drop b).take (c - b) := by
  have e : c - a = (b - a) + (c - b) := by omega
  rw [e, List.take_add, List.drop_drop]
  congr 3
  omega
theorem fold_todo {l : List Nat} : ∀ (n : Nat) (r : List Nat) (i : Nat) (S : SS), r.length ≤ n → l.drop i = r → i ≤ l.length → S.start ≤ i → (∀ o, S.op = some o → S.start ≤ o ∧ o < i) →
    fin l ((units i false r).foldl (sstep l) S) = todo l i S (units i false r)
  | n, [], i, S, hn, hd, hi, hst, hop => by
    have hi' : i = l.length := by
      have := congrArg List.length hd
      simp at this; omega
    unfold todo
    cases ho : S.op with
    | none =>
      simp only [units, List.foldl_nil, List.map_nil, fin]
      rw [List.take_of_length_le (by simp; omega)]
      simp [stp]
    | some o => simp [units, fin]
  | 0, c :: r, i, S, hn, hd, hi, hst, hop => by simp at hn
  | n + 1, c :: r, i, S, hn, hd, hi, hst, hop => by
    have hlen : l.length - i = r.length + 1 := by
      have := congrArg List.length hd
      simpa using this
    have hd1 : l.drop (i + 1) = r := by
      have := congrArg (List.drop 1) hd
      simpa using this
    have htk1 : (l.drop i).take 1 = [c] := by rw [hd]; rfl
    by_cases hc : c = 92
    · subst hc
      cases r with
      | nil =>
        -- a backslash alone at the end
        simp only [units, if_true, List.foldl_cons, List.foldl_nil]
        have e : sstep l S (i + 1 - 1, [92]) = S := by simp [sstep]
        rw [e]
        unfold todo
        cases ho : S.op with
        | none =>
          simp only [List.map_cons, List.map_nil, stp, fin]
          rw [if_neg (by decide)]
          have h1 := drop_take (l := l) hst (show i ≤ i + 1 by omega)
          have h2 : l.drop S.start = (l.drop S.start).take (i + 1 - S.start) := by rw [List.take_of_length_le]; simp at hlen ⊢; omega
          rw [show i + 1 - i = 1 by omega, htk1] at h1
          rw [List.append_assoc]
          congr 1
          rw [h1] at h2
          simpa using h2
        | some o => simp [fin]
      | cons d r =>
        simp only [List.length_cons] at hn hlen
        have hd2 : l.drop (i + 2) = r := by
          have := congrArg (List.drop 1) hd1
          simpa using this
        have htk2 : (l.drop i).take 2 = [92, d] := by rw [hd]; rfl
        have e0 : units i false (92 :: d :: r) = (i + 1, [92, d]) :: units (i + 2) false r := by simp [units]
        have e : sstep l S (i + 1, [92, d]) = S := by simp [sstep]
        rw [e0, List.foldl_cons, e, fold_todo n r (i + 2) S (by omega) hd2 (by omega) (by omega) (fun o h => by have := hop o h; omega)]
        unfold todo
        cases ho : S.op with
        | none =>
          simp only [List.map_cons, stp]
          rw [if_neg (by simp), drop_take (l := l) hst (show i ≤ i + 2 by omega), show i + 2 - i = 2 by omega, htk2]
          simp
        | some o =>
          simp only [List.map_cons, stp, List.mem_cons]
          have hne : ¬ ([34] : List Nat) = [92, d] := by simp
          have hne' : ¬ ([92, d] : List Nat) = [34] := by simp
          simp only [hne, hne', false_or, if_false]
    · have e0 : units i false (c :: r) = (i, [c]) :: units (i + 1) false r := by simp [units, hc]
      rw [e0, List.foldl_cons]
      by_cases hm : c = 34
      · subst hm
        cases ho : S.op with
        | none =>
          have e : sstep l S (i, [34]) = { S with op := some i } := by simp [sstep, ho]
          rw [e, fold_todo n r (i + 1) _ (by simpa using hn) hd1 (by omega) (by show S.start ≤ _; omega) (fun o h => by cases h; exact ⟨hst, by omega⟩)]
          unfold todo
          simp only [ho, List.map_cons, stp, if_true]
          split
          · rfl
          · simp only [fin, List.flatten_cons, units_flat, Bool.false_eq_true, if_false, List.nil_append]
            have h2 : l.drop S.start = (l.drop S.start).take (i - S.start) ++ l.drop i := by
              have := List.take_append_drop (i - S.start) (l.drop S.start)
              rw [List.drop_drop, show S.start + (i - S.start) = i by omega] at this
              exact this.symm
            rw [hd] at h2
            rw [List.append_assoc]
            congr 1
        | some o =>
          obtain ⟨h1, h2⟩ := hop o ho
          have e : sstep l S (i, [34]) = ⟨i + 1, .none, if S.start = o then S.res else S.res ++ [(l.drop S.start).take (o - S.start)]⟩ := by simp [sstep, ho]
          rw [e, fold_todo n r (i + 1) _ (by simpa using hn) hd1 (by omega) (Nat.le_refl _) (fun o h => by cases h)]
          unfold todo
          simp only [ho, List.map_cons, stp, List.mem_cons, true_or, if_true, Nat.sub_self, List.take_zero, List.append_nil]
          split
          · rename_i hs
            rw [hs]; simp
          · simp
      · have e : sstep l S (i, [c]) = S := by simp [sstep, hm]
        rw [e, fold_todo n r (i + 1) S (by simpa using hn) hd1 (by omega) (by omega) (fun o h => by have := hop o h; omega)]
        unfold todo
        have hne : ¬ ([34] : List Nat) = [c] := fun h => hm (by simpa using h.symm)
        have hne' : ¬ ([c] : List Nat) = [34] := fun h => hm (by simpa using h)
        cases ho : S.op with
        | none =>
          simp only [List.map_cons, stp, hne', if_false]
          rw [drop_take (l := l) hst (show i ≤ i + 1 by omega), show i + 1 - i = 1 by omega, htk1]
          simp
        | some o => simp only [List.map_cons, stp, List.mem_cons, hne, hne', false_or, if_false]

theorem stp_none : ∀ {us : List (List Nat)}, [34] ∉ us → stp false us = us
  | [], _ => rfl
  | u :: r, h => by
    simp only [List.mem_cons, not_or] at h
    simp only [stp]
    rw [if_neg (fun e => h.1 e.symm), stp_none h.2]
theorem unit_mem : ∀ {r : List Nat} {i : Nat} {esc : Bool} {u : List Nat}, u ∈ (units i esc r).map (·.2) → ∀ c ∈ u, c ∈ (if esc then [92] else []) ++ r := fun {r i esc u} hu c hc => by
  rw [← units_flat r i esc]
  exact List.mem_flatten.mpr ⟨u, hu, hc⟩
theorem strip_stp (l : List Nat) : strip l = (stp false ((units 0 false l).map (·.2))).flatten := by
  have h := fold_todo (l := l) l.length l 0 ⟨0, .none, []⟩ (Nat.le_refl _) rfl (Nat.zero_le _) (Nat.le_refl _) (fun o h => by cases h)
  unfold todo at h
  simp only [List.flatten_nil, List.drop_zero, Nat.sub_self, List.take_zero, List.nil_append] at h
  unfold strip
  split
  · rw [← h]
    unfold fin sfold
    rw [List.flatten_append]
    congr 1
    split
    · simp
    · rename_i hh
      rw [List.drop_eq_nil_of_le (by omega)]; rfl
  · rename_i h34
    rw [stp_none (fun hm => h34 (by have := unit_mem hm 34 (by simp); simpa using this)), units_flat]
    rfl

/-! a text of units read again -/
def cpl (u : List Nat) : Prop := (∃ c, c ≠ 92 ∧ u = [c]) ∨ ∃ c, u = [92, c]
def okU : List (List Nat) → Prop
  | [] => True
  | u :: r => (cpl u ∧ okU r) ∨ (u = [92] ∧ r = [])
theorem okU_units : ∀ (n : Nat) (r : List Nat) (i : Nat), r.length ≤ n → okU ((units i false r).map (·.2))
  | n, [], i, _ => trivial
  | 0, c :: r, i, h => by simp at h
  | n + 1, c :: r, i, h => by
    by_cases hc : c = 92
    · subst hc
      cases r with
      | nil => simp [units, okU]
      | cons d r =>
        have e0 : units i false (92 :: d :: r) = (i + 1, [92, d]) :: units (i + 2) false r := by simp [units]
        rw [e0]
        exact .inl ⟨.inr ⟨d, rfl⟩, okU_units n r (i + 2) (by simp at h; omega)⟩
    · have e0 : units i false (c :: r) = (i, [c]) :: units (i + 1) false r := by simp [units, hc]
      rw [e0]
      exact .inl ⟨.inl ⟨c, hc, rfl⟩, okU_units n r (i + 1) (by simpa using h)⟩
theorem okU_stp : ∀ (us : List (List Nat)) (b : Bool), okU us → okU (stp b us)
  | [], b, h => by cases b <;> exact trivial
  | u :: r, false, h => by
    simp only [stp]
    rcases h with ⟨h1, h2⟩ | ⟨h1, h2⟩
    · split
      · split
        · exact okU_stp r true h2
        · exact .inl ⟨h1, h2⟩
      · exact .inl ⟨h1, okU_stp r false h2⟩
    · subst h1 h2
      simp [stp, okU]
  | u :: r, true, h => by
    simp only [stp]
    rcases h with ⟨h1, h2⟩ | ⟨h1, h2⟩
    · split
      · exact okU_stp r false h2
      · exact okU_stp r true h2
    · subst h1 h2
      simp [stp, okU]
theorem retok : ∀ (us : List (List Nat)) (i : Nat), okU us → (units i false us.flatten).map (·.2) = us
  | [], i, h => by simp [units]
  | u :: r, i, h => by
    rcases h with ⟨h1, h2⟩ | ⟨h1, h2⟩
    · rcases h1 with ⟨c, hc, rfl⟩ | ⟨c, rfl⟩
      · simp [units, hc, retok r (i + 1) h2]
      · simp [units, retok r (i + 1 + 1) h2]
    · subst h1 h2
      simp [units]
theorem toks_strip (l : List Nat) : (units 0 false (strip l)).map (·.2) = stp false ((units 0 false l).map (·.2)) := by
  rw [strip_stp]
  exact retok _ _ (okU_stp _ _ (okU_units l.length l 0 (Nat.le_refl _)))

/-! the count of brackets -/
def uv (u : List Nat) : Int := if u = [40] then 1 else if u = [41] then -1 else 0
def scan : Int → List Int → Bool
  | b, [] => b == 0
  | b, v :: r => decide (0 ≤ b + v) && scan (b + v) r
theorem scan_iff : ∀ (vs : List Int) (b : Int), 0 ≤ b → (scan b vs = true ↔ (∀ i, 0 ≤ b + (vs.take i).sum) ∧ b + vs.sum = 0)
  | [], b, hb => by simp [scan]; intro h; omega
  | v :: r, b, hb => by
    simp only [scan, Bool.and_eq_true, decide_eq_true_eq]
    constructor
    · rintro ⟨h1, h2⟩
      obtain ⟨h3, h4⟩ := (scan_iff r (b + v) h1).mp h2
      refine ⟨fun i => ?_, by rw [List.sum_cons]; omega⟩
      cases i with
      | zero => simpa using hb
      | succ i => rw [List.take_succ_cons, List.sum_cons]; have := h3 i; omega
    · rintro ⟨h1, h2⟩
      have h0 : 0 ≤ b + v := by have := h1 1; simpa using this
      refine ⟨h0, (scan_iff r (b + v) h0).mpr ⟨fun i => ?_, by rw [List.sum_cons] at h2; omega⟩⟩
      have := h1 (i + 1)
      rw [List.take_succ_cons, List.sum_cons] at this
      omega
theorem chk_scan (us : List (Nat × List Nat)) : chk us = scan 0 ((us.map (·.2)).map uv) := by
  rw [Bool.eq_iff_iff, scan_iff _ _ (Int.le_refl _)]
  unfold chk
  rw [Bool.and_eq_true, up_iff, beq_iff_eq]
  have e : (us.map (·.2)).map uv = us.map uval := by rw [List.map_map]; rfl
  rw [e]
  have h2 : ∀ i, bal (us.take i) = ((us.map uval).take i).sum := fun i => by unfold bal; rw [List.map_take]
  have h3 : bal us = (us.map uval).sum := rfl
  simp only [h2, h3, Int.zero_add]
theorem scan_filter : ∀ (vs : List Int) (b : Int), 0 ≤ b → scan b vs = scan b (vs.filter fun v => v != 0)
  | [], b, hb => rfl
  | v :: r, b, hb => by
    by_cases hv : v = 0
    · subst hv
      rw [List.filter_cons_of_neg (by simp)]
      have e : b + 0 = b := Int.add_zero b
      simp only [scan, e, hb, decide_true, Bool.true_and]
      exact scan_filter r b hb
    · rw [List.filter_cons_of_pos (by simpa using hv)]
      simp only [scan]
      by_cases h : 0 ≤ b + v
      · rw [scan_filter r (b + v) h]
      · simp [h]
theorem check_scan (l : List Nat) : check l = scan 0 (((stp false ((units 0 false l).map (·.2))).map uv).filter fun v => v != 0) := by
  unfold check
  rw [chk_scan, toks_strip, ← scan_filter _ _ (Int.le_refl _)]
end Mine

namespace Mine

theorem compTurn_two0 (elt t1 i1 t2 i2 : Expr) (sc : Scope) (pos : Pos) (it acc : Value) (env : Env) :
    compTurn (.ListComp elt [⟨t1, i1, [], 0⟩, ⟨t2, i2, [], 0⟩] sc pos) 0 it acc env = (do
      standAt i1.pos
      match ← pyNext it with
      | none => pure (.done .next)
      | some v =>
        letOwnedTupleGo t1 it v
        assign t1 env v
        let x ← eval i2 env
        standAt i2.pos
        let x ← foldedSetIterable i2 env x
        let _ ← runOwn (.compStart (.ListComp elt [⟨t1, i1, [], 0⟩, ⟨t2, i2, [], 0⟩] sc pos) 1 (← holding [x] (pyIter x)) acc env) env
        again (.compLoop (.ListComp elt [⟨t1, i1, [], 0⟩, ⟨t2, i2, [], 0⟩] sc pos) 0 it acc env)) := by rfl
theorem compTurn_two1 (elt t1 i1 t2 i2 : Expr) (sc : Scope) (pos : Pos) (it acc : Value) (env : Env) :
    compTurn (.ListComp elt [⟨t1, i1, [], 0⟩, ⟨t2, i2, [], 0⟩] sc pos) 1 it acc env = (do
      standAt i2.pos
      match ← pyNext it with
      | none => pure (.done .next)
      | some v =>
        letOwnedTupleGo t2 it v
        assign t2 env v
        (do let _ ← call (.builtin "list.append") [acc, ← eval elt env])
        again (.compLoop (.ListComp elt [⟨t1, i1, [], 0⟩, ⟨t2, i2, [], 0⟩] sc pos) 1 it acc env)) := by rfl

section
variable {prog : Program} {w : World} {H0 : Heap} {mg mb : PySem.Str → Option Value} {C : Cx}

theorem codeTwo1 {A : Around} {R : Result → Shared → Prop} {s : Shared} {elt t1 i1 t2 i2 : Expr} {sc : Scope} {pos : Pos} {it acc : Value} {env : Env} (I : Nat → Shared → Prop)
    (turn : ∀ n s, I n s → wpAny (model prog w) A (pyNext it) (fun r s₁ => match r with
      | none => R (.ok .next) s₁
      | some v => wpAny (model prog w) A (letOwnedTupleGo t2 it v) (fun _ s₁ => wpAny (model prog w) A (assign t2 env v) (fun _ s₂ =>
          wpAny (model prog w) A (eval elt env) (fun x s₄ => wpAny (model prog w) A (call (.builtin "list.append") [acc, x]) (fun _ s₅ => ∃ m, m < n ∧ I m s₅) (fun _ _ => False) s₄) (fun _ _ => False) s₂) (fun _ _ => False) s₁) (fun _ _ => False) s₁) (fun _ _ => False) s)
    (n : Nat) (h : I n s) : codeAny (model prog w) A (.compLoop (.ListComp elt [⟨t1, i1, [], 0⟩, ⟨t2, i2, [], 0⟩] sc pos) 1 it acc env) R s := by
  refine codeAny_loop rfl I (fun n s hI => ?_) n h
  show wpAny _ A ((compTurn (.ListComp elt [⟨t1, i1, [], 0⟩, ⟨t2, i2, [], 0⟩] sc pos) 1 it acc env).onRaise (fun x => do noteFrame x env; theTreesLotGoes x)) _ _ s
  refine wpAny_onRaise (wpAny_mono (E := fun _ _ => False) ?_ (fun _ _ h => h) fun _ _ h => h.elim)
  rw [compTurn_two1]
  refine wpAny_bind (wpAny_standAt (wpAny_bind (wpAny_mono (turn n s hI) (fun r s₁ h₁ => ?_) fun _ _ h' => h')))
  cases r with
  | none => exact wpAny_pure h₁
  | some v =>
    refine wpAny_bind (wpAny_mono h₁ (fun _ s₁ h₁ => ?_) fun _ _ h => h)
    refine wpAny_bind (wpAny_mono h₁ (fun _ s₂ h₂ => ?_) fun _ _ h' => h')
    exact wpAny_bind (wpAny_bind (wpAny_mono h₂ (fun x s₄ h₄ => wpAny_bind (wpAny_mono h₄ (fun _ s₅ h₅ => wpAny_pure (wpAny_pure ⟨rfl, h₅⟩)) fun _ _ h' => h')) fun _ _ h' => h'))
theorem codeTwo0 {A : Around} {R : Result → Shared → Prop} {s : Shared} {elt t1 i1 t2 i2 : Expr} {sc : Scope} {pos : Pos} {it acc : Value} {env : Env} (I : Nat → Shared → Prop)
    (turn : ∀ n s, I n s → wpAny (model prog w) A (pyNext it) (fun r s₁ => match r with
      | none => R (.ok .next) s₁
      | some v => wpAny (model prog w) A (letOwnedTupleGo t1 it v) (fun _ s₁ => wpAny (model prog w) A (assign t1 env v) (fun _ s₂ =>
          wpAny (model prog w) A (eval i2 env) (fun x s₃ => wpAny (model prog w) A (pyIter x) (fun it2 s₄ =>
            codeAny (model prog w) A (.compStart (.ListComp elt [⟨t1, i1, [], 0⟩, ⟨t2, i2, [], 0⟩] sc pos) 1 it2 acc env) (fun r s₅ => match r with | .ok _ => ∃ m, m < n ∧ I m s₅ | .error _ => False) s₄) (fun _ _ => False) s₃) (fun _ _ => False) s₂) (fun _ _ => False) s₁) (fun _ _ => False) s₁) (fun _ _ => False) s)
    (n : Nat) (h : I n s) (hs : ∀ x, foldedSetIterable i2 env x = pure x) : codeAny (model prog w) A (.compLoop (.ListComp elt [⟨t1, i1, [], 0⟩, ⟨t2, i2, [], 0⟩] sc pos) 0 it acc env) R s := by
  refine codeAny_loop rfl I (fun n s hI => ?_) n h
  show wpAny _ A ((compTurn (.ListComp elt [⟨t1, i1, [], 0⟩, ⟨t2, i2, [], 0⟩] sc pos) 0 it acc env).onRaise (fun x => do noteFrame x env; theTreesLotGoes x)) _ _ s
  refine wpAny_onRaise (wpAny_mono (E := fun _ _ => False) ?_ (fun _ _ h => h) fun _ _ h => h.elim)
  rw [compTurn_two0]
  refine wpAny_bind (wpAny_standAt (wpAny_bind (wpAny_mono (turn n s hI) (fun r s₁ h₁ => ?_) fun _ _ h' => h')))
  cases r with
  | none => exact wpAny_pure h₁
  | some v =>
    refine wpAny_bind (wpAny_mono h₁ (fun _ s₁ h₁ => ?_) fun _ _ h => h)
    refine wpAny_bind (wpAny_mono h₁ (fun _ s₂ h₂ => ?_) fun _ _ h' => h')
    refine wpAny_bind (wpAny_mono h₂ (fun x s₃ h₃ => ?_) fun _ _ h' => h')
    refine wpAny_bind (wpAny_standAt (wpAny_bind (wpAny_of_eq (hs x) ?_)))
    refine wpAny_bind (wpAny_holding (wpAny_mono h₃ (fun it2 s₄ h₄ => ?_) fun _ _ h' => h'))
    refine wpAny_bind (wpAny_runOwn (codeAny_mono h₄ fun r s₅ h₅ => ?_))
    cases r with
    | ok f => exact wpAny_pure ⟨rfl, h₅⟩
    | error e => exact h₅.elim
theorem codeStart1 {A : Around} {R : Result → Shared → Prop} {s : Shared} {elt t1 i1 t2 i2 : Expr} {sc : Scope} {pos : Pos} {it acc : Value} {env : Env}
    (h0 : codeAny (model prog w) A (.compLoop (.ListComp elt [⟨t1, i1, [], 0⟩, ⟨t2, i2, [], 0⟩] sc pos) 1 it acc env) R s)
    (h : wpAny (model prog w) A (pyIter it) (fun it' s' => codeAny (model prog w) A (.compLoop (.ListComp elt [⟨t1, i1, [], 0⟩, ⟨t2, i2, [], 0⟩] sc pos) 1 it' acc env) R s')
      (fun _ _ => False) s) :
    codeAny (model prog w) A (.compStart (.ListComp elt [⟨t1, i1, [], 0⟩, ⟨t2, i2, [], 0⟩] sc pos) 1 it acc env) R s := by
  refine codeAny_of_tree ?_
  show wpAny _ _ ((compStart (.ListComp elt [⟨t1, i1, [], 0⟩, ⟨t2, i2, [], 0⟩] sc pos) 1 it acc env).onRaise (fun x => do noteFrame x env; standAt theWindowsPlace)) _ _ s
  refine wpAny_onRaise (wpAny_mono (E := fun _ _ => False) ?_ (fun _ _ h => h) fun _ _ h => h.elim)
  unfold compStart
  show wpAny _ _ (ask >>= _) _ _ s
  refine wpAny_bind (wpAny_askSetting (wpAny_ite ?_))
  split
  · first
      | exact wpAny_bind (wpAny_pure (wpAny_pure (And.intro rfl h0)))
      | exact wpAny_pure (And.intro rfl h0)
  · first
      | exact wpAny_bind (wpAny_rule (wpAny_bind (wpAny_standAt (wpAny_bind (wpAny_mono h (fun it' s' h' => wpAny_pure (And.intro rfl h')) fun _ _ x => x)))))
      | (refine wpAny_bind (wpAny_rule ?_); show wpAny _ _ (standAt i2.pos >>= _) _ _ s; exact wpAny_bind (wpAny_standAt (wpAny_bind (wpAny_mono h (fun it' s' h' => wpAny_pure (And.intro rfl h')) fun _ _ x => x))))
end
end Mine

namespace Mine
/-- all stays but what is at two places -/
structure Kp (D L : Addr) (s s' : Shared) : Prop where
  heap : ∀ b o, b ≠ D → b ≠ L → s.heap.get? b = some o → s'.heap.get? b = some o
  gens : ∀ (j : Nat) (z : GenState), s.gens[j]? = some z → s'.gens[j]? = some z
  bare : AllBare s.gens → AllBare s'.gens
  os : s'.os = s.os
  tks : s.toks ≤ s'.toks
theorem Kp.of {D L : Addr} {s s' : Shared} (st : Step s s') : Kp D L s s' := ⟨fun b o _ _ e => st.heap b o e, st.gens, st.bare, st.os, st.tks⟩
theorem Kp.then {D L : Addr} {s s' s'' : Shared} (a : Kp D L s s') (b : Kp D L s' s'') : Kp D L s s'' :=
  ⟨fun x o h1 h2 e => b.heap x o h1 h2 (a.heap x o h1 h2 e), fun j z e => b.gens j z (a.gens j z e), fun h => b.bare (a.bare h), b.os.trans a.os, Nat.le_trans a.tks b.tks⟩
theorem Kp.mv {D L : Addr} {s s' s'' : Shared} (a : Kp D L s s') (m : Mv s [] s' s'') : Kp D L s s'' :=
  ⟨fun x o h1 h2 e => m.heap x o (.inl (.inl ⟨o, e⟩)) (a.heap x o h1 h2 e), fun j z e => m.gens j z (gens_lt e) (a.gens j z e), fun h => m.bare (a.bare h), m.os.trans a.os, Nat.le_trans a.tks m.tks⟩
theorem Kp.step {D L : Addr} {s₀ s s' : Shared} (st : Step s₀ s) (hD : s₀.heap.get? D = Option.none) (hL : s₀.heap.get? L = Option.none) (k : Kp D L s s') : Step s₀ s' :=
  ⟨fun b o e => k.heap b o (fun q => by rw [q, hD] at e; cases e) (fun q => by rw [q, hL] at e; cases e) (st.heap b o e), fun j z e => k.gens j z (st.gens j z e), fun h => k.bare (st.bare h), k.os.trans st.os, Nat.le_trans st.tks k.tks⟩

section
variable {prog : Program} {w : World} {H0 : Heap} {mg mb : PySem.Str → Option Value} {C : Cx}

/-- the inner loop of `[elt for x in .. for y in ..]` -/
theorem comp_inner {A : Around} {s₇ : Shared} {x y : String} {px py pos : Pos} {elt i1 i2 : Expr} {sc : Scope} {items2 : List PV} {val : PV → PV} {env : Env} {D I2 : Addr} {C1 : Cx} {St2 : Nat → Shared → Prop} {its0 : Array Value} {l0 : List PV} {R : Result → Shared → Prop}
    (T2 : Iter prog w H0 A I2 C1.X [] s₇ items2 St2) (hen : C1.env = env) (hy : env.kindOf (PySem.Str.ofString y) = some .local) (hDX : D ∈ C1.X) (hDown : ∀ q ∈ C1.own, q.2.1 ≠ D) (hD0 : C1.s0.heap.get? D = Option.none) (hDL : D ≠ env.locals)
    (F7 : Fs H0 C1 s₇) (ok : AOK C1.n A) (hsz : l0.length + items2.length < 1000000) (hyv : ∀ q ∈ C1.vs, q.1 ≠ y) (hyo : ∀ q ∈ C1.own, q.1 ≠ y)
    (elts : ∀ q, q ∈ items2 → Ev prog w H0 (C1.put y q) true elt (val q))
    (post : ∀ s' its, Fs H0 C1 s' → s'.heap.PlainList D its → Rps s'.heap C1.X its.toList (l0 ++ items2.map val) → Kp D env.locals s₇ s' → R (.ok .next) s')
    {s₉ : Shared} (st79 : Step s₇ s₉) (hst : St2 0 s₉) (hp : s₉.heap.PlainList D its0) (rs0 : Rps s₉.heap C1.X its0.toList l0) :
    codeAny (model prog w) A (.compLoop (.ListComp elt [⟨.Name (PySem.Str.ofString x) px, i1, [], 0⟩, ⟨.Name (PySem.Str.ofString y) py, i2, [], 0⟩] sc pos) 1 (.ref I2) (.ref D) env) R s₉ := by
  have P : Apart H0 C1 s₇ [] := F7.apart'
  obtain ⟨oD, eD⟩ := F7.xs D hDX
  have hns7 : ∀ {s' : Shared}, Fs H0 C1 s' → ∀ b o, s'.heap.get? b = some o → isSeqObj o → b ≠ env.locals := fun {s'} F b o e hq hb => by
    subst hb
    obtain ⟨mm, hn⟩ := F.ns
    rw [hen] at hn
    obtain ⟨o', e', h, _⟩ := ns_obj hn
    rw [e] at e'; cases e'; exact h hq
  have alloc : ∀ {s' : Shared}, Fs H0 C1 s' → Kp D env.locals s₇ s' → ∀ a, a ∈ C1.X ∨ Pr s₇ [] a → ∃ o, s'.heap.get? a = some o := fun {s'} F hk a ha => by
    rcases ha with ha | ⟨o, e⟩ | ha
    · exact F.xs a ha
    · by_cases h1 : a = D
      · rw [h1]; exact F.xs D hDX
      · by_cases h2 : a = env.locals
        · obtain ⟨mm, hn⟩ := F.ns
          rw [hen] at hn
          obtain ⟨o', e', _⟩ := ns_obj hn
          exact ⟨o', by rw [h2]; exact e'⟩
        · exact ⟨o, hk.heap a o h1 h2 e⟩
    · cases ha
  refine codeTwo1 (fun m s' => ∃ j its, m = items2.length + 1 - j ∧ j ≤ items2.length ∧ St2 j s' ∧ Fs H0 C1 s' ∧ s'.heap.PlainList D its ∧ Rps s'.heap C1.X its.toList (l0 ++ (items2.take j).map val) ∧ Kp D env.locals s₇ s') ?_ (items2.length + 1)
    ⟨0, its0, rfl, Nat.zero_le _, hst, F7.go st79, hp, by simpa using rs0, .of st79⟩
  rintro m s' ⟨j, its, rfl, hj, st, Fi, hp, rs, hk⟩
  by_cases hlt : j < items2.length
  · obtain ⟨p, hpi⟩ : ∃ p, items2[j]? = some p := ⟨_, List.getElem?_eq_getElem hlt⟩
    have hmem : p ∈ items2 := List.mem_of_getElem? hpi
    refine wpAny_mono (T2.item j s' p Fi.glb Fi.tk st hpi (alloc Fi hk)) (fun r s₅ hr => ?_) fun _ _ h => h
    obtain ⟨v, rfl, rv, st', mv⟩ := hr
    have F5 : Fs H0 C1 s₅ := Fs.mv P (Cx.like_refl _) rfl Fi mv
    have hp5 : s₅.heap.PlainList D its := hp.at fun o e => mv.heap _ o (.inl (.inl ⟨oD, eD⟩)) e
    have rs5 : Rps s₅.heap C1.X its.toList (l0 ++ (items2.take j).map val) := rs.mono fun b o e hq hb => ⟨hb, mv.heap b o (.inr hq) e⟩
    have k5 := hk.mv mv
    refine wpAny_mono (T2.lets (j + 1) s₅ _ v st') (fun _ s₆ e => ?_) fun _ _ h => h
    subst e
    refine wpAny_assign_Name ?_
    have hst1 := store_loc (prog := prog) (w := w) (A := A) (C := C1) (x := y) (v := v) (p := p) (Q := fun _ sN => ∃ h' t, s₆.toks ≤ t ∧ Heap.SameBut C1.env.locals s₆.heap h' ∧ Fs H0 (C1.put y p) { s₆ with heap := h', toks := t } ∧ sN = { s₆ with heap := h', toks := t }) F5 (by rw [hen]; exact hy) rv fun h' t a b c => ⟨h', t, a, b, c, rfl⟩
    rw [hen] at hst1
    refine wpAny_mono hst1 (fun _ sN hN => ?_) fun _ _ h => h
    obtain ⟨h', t, htk, hs', F6, rfl⟩ := hN
    have keep6 : ∀ b o, b ≠ env.locals → s₆.heap.get? b = some o → h'.get? b = some o := fun b o h1 e => (hs'.2 b h1).trans e
    have nsq := hns7 F5
    have st6 : St2 (j + 1) { s₆ with heap := h', toks := t } := T2.stay P (Cx.like_refl _) rfl F5 st' ⟨fun b o h1 _ _ e => keep6 b o (by rw [← hen]; exact h1) e, fun _ _ e => e⟩
    have hp6 : h'.PlainList D its := hp5.at fun o e => keep6 _ o hDL e
    have rs6 : Rps h' C1.X its.toList (l0 ++ (items2.take j).map val) := rs5.mono fun b o e hq hb => ⟨hb, keep6 b o (nsq b o e hq) e⟩
    have k6 : Kp D env.locals s₇ { s₆ with heap := h', toks := t } := k5.then ⟨fun b o _ h2 e => keep6 b o h2 e, fun _ _ e => e, id, rfl, htk⟩
    have he := elts p hmem A { s₆ with heap := h', toks := t } ok F6
    rw [show (C1.put y p).env = env from hen] at he
    refine wpAny_mono he (fun z s₉ hr9 => ?_) fun _ _ h => h
    obtain ⟨ry, st9⟩ := hr9
    have hp9 : s₉.heap.PlainList D its := hp6.at fun o e => st9.heap _ o e
    have hitsz : its.size ≤ l0.length + items2.length := by
      have h1 := rs.length
      rw [Array.length_toList, List.length_append, List.length_map, List.length_take] at h1
      omega
    refine wpAny_list_append_plain hp9 (fun h2 hp' hs2 => ?_) (by rw [sizeLine_eq]; omega)
    have ry' : Rp s₉.heap C1.X z (val p) := ry
    have F9 : Fs H0 C1 s₉ := by
      have := (F6.go st9).sub (vs := C1.vs) (own := C1.own) (fun q hq => List.mem_cons_of_mem _ (mem_del.mpr ⟨hq, hyv q hq⟩)) (fun q hq => mem_del.mpr ⟨hq, hyo q hq⟩)
      exact this
    have k9 : Kp D env.locals s₇ { s₉ with heap := h2 } := (k6.then (.of st9)).then ⟨fun b o h1 _ e => (hs2.2 b h1).trans e, fun _ _ e => e, id, rfl, Nat.le_refl _⟩
    have st9' : St2 (j + 1) s₉ := T2.keep _ _ _ st6 (fun b o e _ => st9.heap b o e) st9.gens
    have htake : items2.take (j + 1) = items2.take j ++ [p] := by
      rw [List.take_add_one, hpi]; rfl
    refine ⟨items2.length + 1 - (j + 1), by omega, j + 1, its.push z, rfl, hlt, ?_, F9.chg hDX hDown hD0 hp9 hp' hs2, hp', ?_, k9⟩
    · refine T2.keep _ s₉ _ st9' (fun b o e hb => (hs2.2 b ?_).trans e) (fun _ _ e => e)
      rintro rfl
      rcases hb with ⟨hb, _⟩ | ⟨_, hb⟩
      · exact hb (.inl ⟨oD, eD⟩)
      · exact hb hDX
    · rw [htake, List.map_append, ← List.append_assoc]
      have := ((rps_but hDX hs2 (rs6.keeps st9.heap)).snoc (rp_but hDX hs2 ry'))
      simpa using this
  · have hin : j = items2.length := by omega
    subst hin
    refine wpAny_mono (T2.done s' Fi.glb Fi.tk st (alloc Fi hk)) (fun r s₅ hr => ?_) fun _ _ h => h
    obtain ⟨rfl, mv⟩ := hr
    rw [List.take_length] at rs
    exact post s₅ its (Fs.mv P (Cx.like_refl _) rfl Fi mv) (hp.at fun o e => mv.heap _ o (.inl (.inl ⟨oD, eD⟩)) e) (rs.mono fun b o e hq hb => ⟨hb, mv.heap b o (.inr hq) e⟩) (hk.mv mv)
end
end Mine

namespace Mine
section
variable {prog : Program} {w : World} {H0 : Heap} {mg mb : PySem.Str → Option Value} {C : Cx}

theorem evF_two {x y : String} {px py pos : Pos} {elt i1 i2 : Expr} {sc : Scope} {items items2 : List PV} (scope : Scope) (val : PV → PV → PV) (nm : List String) (vs : List (String × PV))
    (hit : EvIt prog w H0 C i1 items) (hsz : items.length * items2.length + items2.length < 1000000) (hsc : C.env.scope = scope) (hokx : compOkX sc [x, y] scope nm = true) (hnm : vs.map (·.1) = nm) (hxy : x ≠ y) (hxn : x ∉ nm) (hyn : y ∉ nm)
    (hv : ∀ q ∈ vs, q ∈ C.vs)
    (hit2 : ∀ env D p, p ∈ items → env.scope = relabel sc C.env → EvIt prog w H0 ((C.inner env D vs []).put x p) i2 items2)
    (elts : ∀ env D p q, p ∈ items → q ∈ items2 → env.scope = relabel sc C.env → Ev prog w H0 (((C.inner env D vs []).put x p).put y q) true elt (val p q))
    (hs1 : ∀ x, foldedSetIterable i1 C.env x = pure x := by intro _; rfl) (hs2 : ∀ env x, foldedSetIterable i2 env x = pure x := by intro _ _; rfl) :
    EvF prog w H0 C (.ListComp elt [⟨.Name (PySem.Str.ofString x) px, i1, [], 0⟩, ⟨.Name (PySem.Str.ofString y) py, i2, [], 0⟩] sc pos) (items.flatMap fun p => items2.map (val p)) := fun A s ok F => by
  obtain ⟨hok, hfree, hlk⟩ := compOkX_at hokx hsc
  have hok' := hok
  unfold compOk at hok'
  simp only [Bool.and_eq_true, List.all_eq_true, bne_iff_ne, Bool.or_eq_true, beq_iff_eq] at hok'
  obtain ⟨⟨⟨⟨hcell, hkind⟩, hnames⟩, hfrees⟩, htl⟩ := hok'
  have hxl := compLocal' hok (List.mem_cons_self)
  have hyl := compLocal' hok (List.mem_cons_of_mem _ List.mem_cons_self)
  rw [eval_ListComp]
  obtain ⟨cl, hclos, hcl⟩ := closure_ok (scope := sc) (env := C.env) fun n hn => F.cdf n (hfree n hn)
  refine wpAny_comprehension_free (g := ⟨.Name (PySem.Str.ofString x) px, i1, [], 0⟩) (gs := [⟨.Name (PySem.Str.ofString y) py, i2, [], 0⟩]) rfl hs1 hclos hkind (fun y hy hl => (hnames y hy).resolve_left fun h => h hl) (wpAny_mono (hit A s ok F) (fun xv s₁ h₁ => wpAny_mono h₁ (fun it s₂ h₂ => ?_) fun _ _ h => h) fun _ _ h => h)
  obtain ⟨st2, I, rfl, mk⟩ := h₂
  have hDs : s.heap.get? s₂.heap.objs.size = Option.none := size_le_of_keeps st2.heap (get?_size _)
  obtain ⟨St, T, st0⟩ := mk (s₂.heap.objs.size :: C.X) [s₂.heap.objs.size, s₂.heap.objs.size + 1] (fun a h => List.mem_cons_of_mem _ h) (fun a ha => by
    rcases List.mem_cons.mp ha with e | ha
    · subst e; exact .inr (get?_size _)
    · exact .inl ha) (fun a ha => by
    rcases List.mem_cons.mp ha with e | ha
    · subst e; exact get?_size _
    · obtain rfl := List.mem_singleton.mp ha
      exact get?_ge (Nat.le_succ _))
  refine wpAny_newObj_type (wpAny_newFunctionEnv hcell (by intro y hy; simp at hy) (fun h₁ hns₁ hsb₁ => ?_) hkind)
  dsimp only at hns₁ hsb₁ ⊢
  generalize hH2 : s₂.heap.push { cls := .type "list", dict := Option.none, data := .seq ([] : List Value).toArray } = H2 at hns₁ hsb₁ ⊢
  have hC : H2.objs.size = s₂.heap.objs.size + 1 := by rw [← hH2, Heap.size_push]
  generalize hDD : s₂.heap.objs.size = D at *
  generalize hLL : H2.objs.size = L at *
  have hDL : D ≠ L := by omega
  have hLs : s.heap.get? L = Option.none := size_le_of_keeps st2.heap (get?_ge (by omega))
  have up : ∀ b o, s₂.heap.get? b = some o → h₁.get? b = some o := fun b o e => hsb₁.extBut b o (by have h1 : b < s₂.heap.objs.size := Heap.lt_size e; have h2 : s₂.heap.objs.size = D := hDD; have h3 : L = D + 1 := hC; exact Nat.ne_of_lt (by rw [h3, ← h2]; exact Nat.lt_succ_of_lt h1)) (Heap.get?_push_of_some _ (hH2 ▸ Heap.get?_push_of_some _ e))
  have hacc : h₁.PlainList D #[] := ⟨_, hsb₁.extBut _ _ hDL (Heap.get?_push_of_some _ (hH2 ▸ hDD ▸ Heap.get?_push_size _ rfl))⟩
  generalize henv : compEnvC sc cl L C.env = env
  have eenv : env.scope = relabel sc C.env := by rw [← henv]; rfl
  have eloc : env.locals = L := by rw [← henv]; rfl
  have hLw : Pr s [D, D + 1] L := .inr (by have h3 : L = D + 1 := hC; rw [h3]; exact List.mem_cons_of_mem _ List.mem_cons_self)
  have hDw : Pr s [D, D + 1] D := .inr List.mem_cons_self
  have kx : env.kindOf (PySem.Str.ofString x) = some .local := compLocal hok List.mem_cons_self eenv
  have ky : env.kindOf (PySem.Str.ofString y) = some .local := compLocal hok (List.mem_cons_of_mem _ List.mem_cons_self) eenv
  have hvn : ∀ q ∈ vs, q.1 ∈ nm := fun q hq => by rw [← hnm]; exact List.mem_map.mpr ⟨q, hq, rfl⟩
  have loop : ∀ s₄ : Shared, s₄ = { s₂ with heap := h₁, toks := s₂.toks + ([] : List (PySem.Str × Value)).length } →
      codeAny (model prog w) A (.compLoop (.ListComp elt [⟨.Name (PySem.Str.ofString x) px, i1, [], 0⟩, ⟨.Name (PySem.Str.ofString y) py, i2, [], 0⟩] sc pos) 0 (.ref I) (.ref D) env) (compPost (model prog w) A (fun _ _ => False) Option.none (fun v s' => ∃ a its, v = .ref a ∧ s.heap.get? a = Option.none ∧ s'.heap.PlainList a its ∧ Rps s'.heap (a :: C.X) its.toList (items.flatMap fun p => items2.map (val p)) ∧ Step s s') (.ref D) L) s₄ := by
    rintro s₄ rfl
    have st4 : Step s { s₂ with heap := h₁, toks := s₂.toks + ([] : List (PySem.Str × Value)).length } := st2.trans (.ht up (Nat.le_add_right _ _))
    have F4 : Fs H0 (C.inner env D vs []) { s₂ with heap := h₁, toks := s₂.toks + ([] : List (PySem.Str × Value)).length } := by
      rw [← henv]
      exact F.compEnter st4 hok hfree hcl (fun q hq => ⟨hv q hq, hlk _ (hvn q hq)⟩) (fun q hq => nomatch hq) hDs (let ⟨n, e⟩ := hacc; ⟨_, e⟩) hLs ⟨_, hns₁⟩
    have P : Apart H0 (C.inner env D vs []) s [D, D + 1] := by
      have Q0 : Apart H0 C s [D, D + 1] := F.apart'
      refine ⟨Q0.glb, Q0.s0, Q0.g0, by show Pr s [D, D + 1] env.locals; rw [eloc]; exact hLw, fun x c hm => ?_, fun a ha => ?_⟩
      · have hm' : (x, c) ∈ cl := by have : (x, c) ∈ env.cells := hm; rw [← henv] at this; exact this
        exact Q0.cel x c (mem_of_lookup ((hcl x c).mp hm').2)
      · rcases List.mem_cons.mp ha with e | ha
        · subst e; exact hDw
        · exact Q0.X a ha
    have alloc : ∀ {s' : Shared}, Fs H0 (C.inner env D vs []) s' → Step s s' → ∀ a, a ∈ (D :: C.X) ∨ Pr s [D, D + 1] a → ∃ o, s'.heap.get? a = some o := fun {s'} Fi stp a ha => by
      rcases ha with ha | ⟨o, e⟩ | ha
      · exact Fi.xs a ha
      · exact ⟨o, stp.heap a o e⟩
      · rcases List.mem_cons.mp ha with e | ha
        · subst e; exact Fi.xs a List.mem_cons_self
        · obtain rfl := List.mem_singleton.mp ha
          obtain ⟨mm, hn⟩ := Fi.ns
          obtain ⟨o, e, _⟩ := ns_obj hn
          have h3 : L = D + 1 := hC
          rw [← h3, ← eloc]; exact ⟨o, e⟩
    refine codeTwo0 (fun m s' => ∃ i its, m = items.length + 1 - i ∧ i ≤ items.length ∧ St i s' ∧ Fs H0 (C.inner env D vs []) s' ∧ s'.heap.PlainList D its ∧ Rps s'.heap (D :: C.X) its.toList ((items.take i).flatMap fun p => items2.map (val p)) ∧ Step s s') ?_ (items.length + 1)
      ⟨0, #[], rfl, Nat.zero_le _, T.keep 0 _ _ st0 (fun b o e _ => up b o e) (fun _ _ e => e), F4, hacc, by simpa using Rps.nil, st4⟩ (hs2 env)
    rintro m s' ⟨i, its, rfl, hi, st, Fi, hp, rs, stp⟩
    by_cases hlt : i < items.length
    · obtain ⟨p, hpi⟩ : ∃ p, items[i]? = some p := ⟨_, List.getElem?_eq_getElem hlt⟩
      have hmem : p ∈ items := List.mem_of_getElem? hpi
      refine wpAny_mono (T.item i s' p Fi.glb Fi.tk st hpi (alloc Fi stp)) (fun r s₅ hr => ?_) fun _ _ h => h
      obtain ⟨v, rfl, rv, st', mv⟩ := hr
      have F5 : Fs H0 (C.inner env D vs []) s₅ := Fs.mv P (Cx.like_refl _) rfl Fi mv
      have hp5 : s₅.heap.PlainList D its := hp.at fun o e => mv.heap _ o (.inl hDw) e
      have rs5 : Rps s₅.heap (D :: C.X) its.toList ((items.take i).flatMap fun p => items2.map (val p)) := rs.mono fun b o e hq hb => ⟨hb, mv.heap b o (.inr hq) e⟩
      have stp5 : Step s s₅ := stp.mv mv
      refine wpAny_mono (T.lets (i + 1) s₅ _ v st') (fun _ s₆ e => ?_) fun _ _ h => h
      subst e
      refine wpAny_assign_Name (store_loc (C := C.inner env D vs []) F5 kx rv fun h7 t7 htk7 hs7 F7 => ?_)
      have keep7 : ∀ b o, b ≠ env.locals → s₆.heap.get? b = some o → h7.get? b = some o := fun b o h1 e => (hs7.2 b h1).trans e
      have nsq : ∀ b o, s₆.heap.get? b = some o → isSeqObj o → b ≠ env.locals := fun b o e hq hb => by
        subst hb
        obtain ⟨mm, hn⟩ := F5.ns
        obtain ⟨o', e', h, _⟩ := ns_obj hn
        have e'' : s₆.heap.get? env.locals = some o' := e'
        rw [e] at e''; cases e''; exact h hq
      have st7 : St (i + 1) { s₆ with heap := h7, toks := t7 } := T.stay P (Cx.like_refl _) rfl F5 st' ⟨fun b o h1 _ _ e => keep7 b o h1 e, fun _ _ e => e⟩
      have hp7 : h7.PlainList D its := hp5.at fun o e => keep7 _ o (by rw [eloc]; exact hDL) e
      have rs7 : Rps h7 (D :: C.X) its.toList ((items.take i).flatMap fun p => items2.map (val p)) := rs5.mono fun b o e hq hb => ⟨hb, keep7 b o (nsq b o e hq) e⟩
      have stp7 : Step s { s₆ with heap := h7, toks := t7 } := ⟨fun b o e => keep7 b o (fun q => by rw [q, eloc, hLs] at e; cases e) (stp5.heap b o e), stp5.gens, stp5.bare, stp5.os, Nat.le_trans stp5.tks htk7⟩
      have hi2 := hit2 env D p hmem eenv A { s₆ with heap := h7, toks := t7 } ok F7
      refine wpAny_mono hi2 (fun xx s₈ h₈ => ?_) fun _ _ h => h
      refine wpAny_mono h₈ (fun it2 s₉ h₉ => ?_) fun _ _ h => h
      obtain ⟨st79, I2, rfl, mk2⟩ := h₉
      obtain ⟨St2, T2, st20⟩ := mk2 (D :: C.X) [] (fun _ h => h) (fun _ h => .inl h) (fun _ h => nomatch h)
      have hlen0 : ((items.take i).flatMap fun p => items2.map (val p)).length = (items.take i).length * items2.length := by
        rw [List.length_flatMap]
        simp only [List.length_map]
        generalize items.take i = ll
        induction ll with
        | nil => simp
        | cons a ll ih => rw [List.map_cons, List.sum_cons, ih, List.length_cons, Nat.succ_mul]; omega
      have hle : (items.take i).length * items2.length ≤ items.length * items2.length := Nat.mul_le_mul_right _ (by rw [List.length_take]; omega)
      have htake : items.take (i + 1) = items.take i ++ [p] := by
        rw [List.take_add_one, hpi]; rfl
      have hDe : D ≠ env.locals := by rw [eloc]; exact hDL
      have hLe : s.heap.get? env.locals = Option.none := by rw [eloc]; exact hLs
      have inner := comp_inner (env := env) (x := x) (px := px) (py := py) (pos := pos) (i1 := i1) (i2 := i2) (sc := sc) (elt := elt) (A := A) (val := val p) (R := fun r s₅ => match r with | .ok _ => ∃ m, m < items.length + 1 - i ∧ ∃ i_1 its, m = items.length + 1 - i_1 ∧ i_1 ≤ items.length ∧ St i_1 s₅ ∧ Fs H0 (C.inner env D vs []) s₅ ∧ s₅.heap.PlainList D its ∧ Rps s₅.heap (D :: C.X) its.toList ((items.take i_1).flatMap fun p => items2.map (val p)) ∧ Step s s₅ | .error _ => False)
        (C1 := (C.inner env D vs []).put x p) (D := D) T2 rfl ky List.mem_cons_self (fun q hq => nomatch (mem_del.mp hq).1) (size_le_of_keeps F.step.heap hDs) hDe F7 ok (by rw [hlen0]; omega)
        (fun q hq => by
          rcases List.mem_cons.mp hq with e | hq
          · rw [e]; exact hxy
          · exact fun e => hyn (e ▸ hvn q (mem_del.mp hq).1))
        (fun q hq => nomatch (mem_del.mp hq).1) (fun q hq => elts env D p q hmem hq eenv)
        (fun sE itsE FE hpE rsE kE => by
          refine ⟨items.length + 1 - (i + 1), by omega, i + 1, itsE, rfl, hlt, ?_, ?_, hpE, ?_, kE.step stp7 hDs hLe⟩
          · refine T.keep _ _ _ st7 (fun b o e hb => kE.heap b o ?_ ?_ e) kE.gens
            · rintro rfl
              rcases hb with ⟨hb, _⟩ | ⟨_, hb⟩
              · exact hb hDw
              · exact hb List.mem_cons_self
            · rintro rfl
              rcases hb with ⟨hb, _⟩ | ⟨hq, _⟩
              · exact hb (by rw [eloc]; exact hLw)
              · obtain ⟨mm, hn⟩ := F7.ns
                obtain ⟨o', e', h, _⟩ := ns_obj hn
                have e'' : h7.get? env.locals = some o' := e'
                have e3 : h7.get? env.locals = some o := e
                rw [e3] at e''; cases e''; exact h hq
          · exact FE.sub (vs := vs) (own := []) (fun q hq => List.mem_cons_of_mem _ (mem_del.mpr ⟨hq, fun e => hxn (e ▸ hvn q hq)⟩)) (fun q hq => nomatch hq)
          · rw [htake, List.flatMap_append]
            have rsE' : Rps sE.heap (D :: C.X) itsE.toList _ := rsE
            simpa using rsE') st79 st20 (hp7.at fun o e => st79.heap _ o e) (rs7.keeps st79.heap)
      refine codeStart1 inner (wpAny_mono (T2.self 0 _ st20) (fun v s'' h => ?_) fun _ _ h => h)
      obtain ⟨rfl, rfl⟩ := h
      exact inner
    · have hin : i = items.length := by omega
      subst hin
      refine wpAny_mono (T.done s' Fi.glb Fi.tk st (alloc Fi stp)) (fun r s₅ hr => ?_) fun _ _ h => h
      obtain ⟨rfl, mv⟩ := hr
      rw [List.take_length] at rs
      refine post_new F D L s₅ its hDs (hp.at fun o e => mv.heap _ o (.inl hDw) e) (rs.mono fun b o e hq hb => ⟨hb, mv.heap b o (.inr hq) e⟩) (stp.mv mv) hLs hDL ?_
      obtain ⟨mm, hn⟩ := Fi.ns
      exact ⟨mm, by rw [← eloc]; exact hn.at' fun o e => mv.heap _ o (.inl (by show Pr s [D, D + 1] env.locals; rw [eloc]; exact hLw)) e⟩
  have henv' : ({ scope := relabel sc C.env, locals := L, globals := C.env.globals, cells := cl, qual := C.env.qual, func := Option.none, code := C.env.code, frame := C.env.frame, builtins := C.env.builtins } : Env) = env := by rw [← henv]; rfl
  show codeAny _ _ (.compStart _ 0 (.ref I) (.ref D) ({ scope := relabel sc C.env, locals := L, globals := C.env.globals, cells := cl, qual := C.env.qual, func := Option.none, code := C.env.code, frame := C.env.frame, builtins := C.env.builtins } : Env)) _ _
  rw [henv']
  refine codeAny_compStart_list (loop _ rfl) (wpAny_mono (T.self 0 _ (T.keep 0 _ _ st0 (fun b o e _ => up b o e) (fun _ _ e => e))) (fun v s' h => ?_) fun _ _ h => h.elim)
  obtain ⟨rfl, rfl⟩ := h
  exact loop _ rfl
end
end Mine

namespace Mine
section
variable {prog : Program} {w : World} {H0 : Heap} {mg mb : PySem.Str → Option Value} {C : Cx}

theorem mem_dl {α : Type} {x y : String} {p : α} {l : List (String × α)} (h : (x, p) ∈ l) (hn : x ≠ y) : (x, p) ∈ del y l := mem_del.mpr ⟨h, hn⟩
theorem cm_ge {a b : Int} : Cm prog w .GtE (.int a) (.int b) (decide (b ≤ a)) := cm_int fun A s t u Q h => PyProof.Rows.ge_int h
theorem bt_or2 {x y : Expr} {pos : Pos} {r r' : Bool} (h : Bt prog w H0 C x r) (h' : r = false → Bt prog w H0 C y r') : Bt prog w H0 C (.BoolOp .Or [x, y] pos) (r || r') :=
  fun A s ok F => wpAny_isTrue_BoolOp (wpAny_allTrue_Or_cons (bt_then h ok F fun s₁ st1 F1 => by
    cases r with
    | true => exact ⟨rfl, st1⟩
    | false => exact wpAny_allTrue_Or_cons (bt_then (h' rfl) ok F1 fun s₂ st2 F2 => by
        cases r' with
        | true => exact ⟨rfl, st1.trans st2⟩
        | false => exact wpAny_allTrue_Or_nil ⟨rfl, st1.trans st2⟩)))
theorem bt_and3 {x y z : Expr} {pos : Pos} {r r' r'' : Bool} (h : Bt prog w H0 C x r) (h' : r = true → Bt prog w H0 C y r') (h'' : r' = true → Bt prog w H0 C z r'') : Bt prog w H0 C (.BoolOp .And [x, y, z] pos) (r && (r' && r'')) :=
  bt_eq (bt_and (btAll_cons h fun hr => btAll_cons (h' hr) fun hr' => btAll_cons (h'' hr') fun _ => btAll_nil)) (by simp)

/-- from one number up to another -/
def rng (m n : Nat) : List Nat := (List.range (n - m)).map (m + ·)
theorem rng_eq (m n : Nat) : rangeL (m : Int) (n - m) = (rng m n).map iN := by
  unfold rangeL rng
  rw [List.map_map]
  apply List.map_congr_left
  intro i _
  simp only [Function.comp, iN]
  congr 1
theorem rng_len (m n : Nat) : (rng m n).length = n - m := by simp [rng]
theorem rng_get {m n i : Nat} (h : i < n - m) : (rng m n)[i]? = some (m + i) := by unfold rng; rw [List.getElem?_map, List.getElem?_range h]; rfl
theorem mem_rng {m n i : Nat} : i ∈ rng m n ↔ m ≤ i ∧ i < n := by
  unfold rng
  simp only [List.mem_map, List.mem_range]
  constructor
  · rintro ⟨j, hj, rfl⟩; omega
  · rintro ⟨h1, h2⟩; exact ⟨i - m, by omega, by omega⟩
theorem evIt_rng {b : Bool} {e e' : Expr} {np pos : Pos} {m n : Nat} (T : TF H0 mg mb) (hn : GName mg mb C (PySem.Str.ofString "range") (.type "range")) (h : Ev prog w H0 C b e (.int m)) (h' : Ev prog w H0 C b e' (.int n)) (hb : m < 1000000) (hb' : n < 1000000) (he : isStarred e = false := by rfl) (he' : isStarred e' = false := by rfl) :
    EvIt prog w H0 C (.Call (.Name (PySem.Str.ofString "range") np) [e, e'] [] pos) ((rng m n).map iN) := by
  rw [← rng_eq]; exact evIt_range2 T hn h h' hb hb' he he'
theorem run_forRng {x : String} {px pos : Pos} {iter : Expr} {body rest : List Stmt} {m n : Nat} (vsK : Nat → List (String × PV)) (ownK : Nat → List (String × Addr × List PV)) {N : Cx → Prop} {R : PV → Prop}
    (hit : EvIt prog w H0 C iter ((rng m n).map iN)) (h0v : ∀ q ∈ vsK 0, q ∈ C.vs) (h0o : ∀ q ∈ ownK 0, q ∈ C.own)
    (hk : C.env.kindOf (PySem.Str.ofString x) = some .local ∨ C.env.kindOf (PySem.Str.ofString x) = some .cell)
    (turn : ∀ i, i < n - m → Run prog w H0 ((C.w (vsK i) (ownK i)).put x (iN (m + i))) body (fun C' => C'.X = C.X ∧ (∀ q ∈ vsK (i + 1), q ∈ C'.vs) ∧ ∀ q ∈ ownK (i + 1), q ∈ C'.own) R)
    (k : Run prog w H0 (C.w (vsK (n - m)) (ownK (n - m))) rest N R)
    (hs : ∀ x, foldedSetIterable iter C.env x = pure x := by intro _; rfl) : Run prog w H0 C (.For (.Name (PySem.Str.ofString x) px) iter body [] pos :: rest) N R := by
  refine run_for vsK ownK hit h0v h0o hk (fun i p hp => ?_) (by rw [List.length_map, rng_len]; exact k) hs
  rw [List.getElem?_map] at hp
  rcases Nat.lt_or_ge i (n - m) with q | q
  · rw [rng_get q] at hp
    cases hp; exact turn i q
  · rw [List.getElem?_eq_none (by rw [rng_len]; exact q)] at hp; cases hp

/-- `list(range(n))` -/
theorem evF_listRange {b : Bool} {e : Expr} {rp lp pos pos' : Pos} {n : Nat} (T : TF H0 mg mb) (hr : GName mg mb C (PySem.Str.ofString "range") (.type "range")) (hl : GName mg mb C (PySem.Str.ofString "list") (.type "list")) (h : Ev prog w H0 C b e (iN n)) (hb : n < 1000000) (he : isStarred e = false := by rfl) :
    EvF prog w H0 C (.Call (.Name (PySem.Str.ofString "list") lp) [.Call (.Name (PySem.Str.ofString "range") rp) [e] [] pos] [] pos') ((List.range n).map iN) := fun A s ok F => by
  refine wpAny_Call_NameR (wpAny_gname T hl F ?_ (by decide +kernel))
  refine callWith_callee (H0 := H0) (.inr (.inl ⟨_, rfl⟩)) (by rw [starEach_plain _ rfl]; simp [backTo]) ?_
  refine Calls.evalArgs_plain ?_
  refine wpAny_items_cons (e := .Call (.Name (PySem.Str.ofString "range") rp) [e] [] pos) (rest := []) (env := C.env) ?_ rfl
  refine wpAny_callName T hr (.inr (.inl ⟨_, rfl⟩)) (evs_cons h evs_nil he) ok F (fun vs s₁ r st F1 => ?_) (by simp [he]) (by decide +kernel)
  obtain ⟨v, ws, rfl, r1, r2⟩ := r.cons_inv
  obtain rfl := r2.nil_inv
  obtain ⟨t, rfl⟩ := r1.int_inv
  refine call_range_1 ?_
  have hsz : Builtin.Range.rangeSize 0 (n : Int) 1 = ((n : Nat) : Int) := by rw [rangeSize_one]; split <;> omega
  have st1 : Step s { s₁ with heap := s₁.heap.push { cls := .type "range", data := .fields #[.int 0 s₁.toks, .int n t, .int 1 (s₁.toks + 1)] }, toks := s₁.toks + 2 } := st.trans (.ht (fun _ _ e => Heap.get?_push_of_some _ e) (by omega))
  refine wpAny_items_nil ⟨(F.go st1).glb, ?_⟩
  refine wpAny_with_toks (n := s₁.toks + 2) (Nat.le_refl _) (call_list_range ok.han (IsRange.new ..) (small_one (by decide) (by decide) (by omega) (by omega)) hsz (by omega) fun h' tk acc' c' hk hS hacc => ?_)
  intro htk
  refine ⟨_, acc', rfl, size_le_of_keeps st1.heap (get?_size _), ⟨c', hS⟩, ?_, st1.trans (.ht hk htk)⟩
  have key : ∀ (k : Nat), k ≤ n → Rps h' ((s₁.heap.objs.size + 1 : Addr) :: C.X) (acc'.toList.take k) (((List.range n).map iN).take k) := fun k => by
    induction k with
    | zero => intro _; simpa using Rps.nil
    | succ k ih =>
      intro hk'
      have hlt : k < acc'.size := by rw [hacc.1]; omega
      have e1 : acc'.toList[k]? = some acc'[k] := by rw [Array.getElem?_toList, Array.getElem?_eq_getElem hlt]
      have e2 : ((List.range n).map iN)[k]? = some (iN k) := by rw [List.getElem?_map, List.getElem?_range (by omega)]; rfl
      rw [List.take_add_one, List.take_add_one, e1, e2]
      obtain ⟨u, hu⟩ := hacc.2 k acc'[k] (Array.getElem?_eq_getElem hlt)
      refine (ih (by omega)).append (.cons ?_ .nil)
      rw [hu]
      have : (0 : Int) + (k : Int) * 1 = (k : Int) := by omega
      rw [this]; exact .int _ _
  have := key n (Nat.le_refl _)
  rw [List.take_of_length_le (by rw [Array.length_toList, hacc.1]; exact Nat.le_refl _), List.take_of_length_le (by simp)] at this
  have esz : (s₁.heap.push { cls := .type "range", data := .fields #[.int 0 s₁.toks, .int n t, .int 1 (s₁.toks + 1)] }).objs.size = s₁.heap.objs.size + 1 := Heap.size_push ..
  rw [← esz] at this
  exact this
theorem st_set {x : String} {a : Addr} {l : List PV} {p : PV} {i : Nat} {b : Bool} {px ipos pos : Pos} {e ie : Expr} (hx : (x, a, l) ∈ C.own) (h : Ev prog w H0 C true e p) (hi : Ev prog w H0 C b ie (.int i)) (hl : i < l.length) (hl2 : l.length < 1000000)
    (hd : (PySem.Str.ofString x == ("__debug__" : PySem.Str)) = false := by decide +kernel)
    (hs : swapsWith e (some (.Subscript (.Name (PySem.Str.ofString x) px) ie ipos)) pos.line C.env = pure false := by rfl) :
    St1 prog w H0 C (.Assign [.Subscript (.Name (PySem.Str.ofString x) px) ie ipos] e pos) (fun C' => C' = { C with own := upOwn x (l.set i p) C.own }) := fun A s ok F => by
  refine wpAny_Assign_Subscript (ev_then h ok F fun v s₁ r1 st1 F1 => ?_) hs
  obtain ⟨h1, h2, h3, items, h4, h5⟩ := F1.owns _ hx
  refine wpAny_Name (loadVar F1 h3 (ev_then hi ok F1 fun iv s₂ r2 st2 F2 => ?_)) hd
  obtain ⟨t, rfl⟩ := r2.int_inv
  have h4' : s₂.heap.PlainList a items := h4.at fun o e => st2.heap _ o e
  have hlen : items.size = l.length := by rw [← h5.length, Array.length_toList]
  obtain ⟨n, e4⟩ := id h4'
  refine ki_setAt e4 (by omega) (by omega) (by rw [hlen]; omega) ?_
  have hs' : Heap.SameBut a s₂.heap (s₂.heap.update a (Obj.mapSeq fun x => x.setIfInBounds (i : Int).toNat v)) := Heap.SameBut.update ..
  refine ⟨rfl, ((StepB.of (st1.trans st2))).then ⟨fun b o _ _ hb e => (hs'.2 b fun q => hb (by rw [q]; exact h1)).trans e, fun _ _ e => e⟩, _, rfl, ⟨rfl, rfl, rfl, rfl, rfl, fun _ h => h⟩, ?_, fun b hb => .inl hb⟩
  refine F2.turn hx (items' := items.setIfInBounds i v) ⟨n, ?_⟩ hs' ?_
  · rw [Heap.get?_update_self _ e4 rfl]
    simp [Obj.mapSeq]
  · have := ((rps_but h1 hs' (h5.keeps st2.heap)).set (rp_but h1 hs' (r1.keeps st2.heap)) i)
    simpa using this
end
end Mine

namespace Mine

/-! the row -/
def rowUp (n bits k high : Nat) : Nat := if high = 0 then 1 else if high = n - k then 0 else bits / 2 ^ (k - 1) % 2
def rowSt (n bits : Nat) : Nat → List Nat × Nat
  | 0 => ([], 0)
  | k + 1 => ((rowSt n bits k).1 ++ [rowUp n bits k (rowSt n bits k).2], (rowSt n bits k).2 + 2 * rowUp n bits k (rowSt n bits k).2 - 1)
theorem rowSt_len (n bits : Nat) : ∀ k, (rowSt n bits k).1.length = k
  | 0 => rfl
  | k + 1 => by simp [rowSt, rowSt_len n bits k]
theorem rowSt_hi (n bits : Nat) : ∀ k, (rowSt n bits k).2 ≤ k
  | 0 => Nat.le_refl _
  | k + 1 => by
    have ih := rowSt_hi n bits k
    have : rowUp n bits k (rowSt n bits k).2 ≤ 1 := by
      unfold rowUp
      split
      · exact Nat.le_refl _
      · split
        · exact Nat.zero_le _
        · omega
    simp only [rowSt]; omega

/-! rings -/
def stepF (size turn foot : Nat) : Nat := (if (foot + turn) % 2 = 0 then foot + 1 else foot + size - 1) % size
def neN (a b : Nat) : Bool := !(Nat.beq a b)
theorem neN_eq (a b : Nat) : neN a b = (a != b) := by
  unfold neN
  by_cases h : a = b
  · subst h
    rw [show Nat.beq a a = true from Nat.beq_refl a]; simp
  · have hb : Nat.beq a b = false := by rw [Bool.eq_false_iff]; intro z; exact h (Nat.eq_of_beq_eq_true z)
    rw [hb]; simpa using h
def rIn (arch : List Nat) (turn : Nat) (S : List Nat × Nat) : Nat → List Nat × Nat
  | 0 => S
  | k + 1 => ((rIn arch turn S k).1.filter (fun o => neN o (rIn arch turn S k).2 && neN o (arch.getD (rIn arch turn S k).2 0)), stepF arch.length turn (arch.getD (rIn arch turn S k).2 0))
def rOut (arch : List Nat) (turn : Nat) : Nat → List Nat × Nat
  | 0 => (List.range arch.length, 0)
  | k + 1 => if k ∈ (rOut arch turn k).1 then ((rIn arch turn ((rOut arch turn k).1, k) (arch.length / 2)).1, (rOut arch turn k).2 + 1) else rOut arch turn k
theorem rIn_len (arch : List Nat) (turn : Nat) (S : List Nat × Nat) : ∀ k, (rIn arch turn S k).1.length ≤ S.1.length
  | 0 => Nat.le_refl _
  | k + 1 => Nat.le_trans (List.length_filter_le _ _) (rIn_len arch turn S k)
theorem rIn_lt {arch : List Nat} {turn : Nat} {S : List Nat × Nat} (hn : 0 < arch.length) (hS : S.2 < arch.length) : ∀ k, (rIn arch turn S k).2 < arch.length
  | 0 => hS
  | k + 1 => Nat.mod_lt _ hn
theorem rOut_len (arch : List Nat) (turn : Nat) : ∀ k, (rOut arch turn k).1.length ≤ arch.length
  | 0 => by simp [rOut]
  | k + 1 => by
    have ih := rOut_len arch turn k
    simp only [rOut]
    split
    · exact Nat.le_trans (rIn_len _ _ _ _) ih
    · exact ih
theorem stepF_int {size turn foot : Nat} (hs : foot < size) : (if (foot + turn) % 2 = 0 then ((foot : Int) + 1) else ((foot : Int) - 1)) % (size : Int) = (stepF size turn foot : Nat) := by
  unfold stepF
  split
  · rw [Int.natCast_emod]; rfl
  · rw [Int.natCast_emod]
    have : ((foot + size - 1 : Nat) : Int) = (foot : Int) - 1 + size := by omega
    rw [this, Int.add_emod_right]

section
variable {prog : Program} {w : World} {H0 : Heap} {mg mb : PySem.Str → Option Value}

theorem row_ok (L : Lib H0 mg mb) (hw : Has H0 mg 8 "_law_row" ["pairs", "bits"]) (n : Nat) : ∃ a, mg (PySem.Str.ofString "_law_row") = some (.ref a) ∧ Callee H0 (.ref a) ∧ ∀ pairs bits : Nat, pairs ≤ 9 →
    CallX prog w H0 (n + 1) (.ref a) [iN pairs, iN bits] (.lst ((rowSt (2 * pairs) bits (2 * pairs)).1.map iN)) := by
  obtain ⟨a, f, hm⟩ := hw
  refine ⟨a, hm, f.callee, fun pairs bits hp => callX_def L.tf f (by decide +kernel) rfl fun env s X hsc => ?_⟩
  have k1 : env.kindOf (PySem.Str.ofString "row") = some .local := kind_of hsc (by decide +kernel)
  have k2 : env.kindOf (PySem.Str.ofString "high") = some .local := kind_of hsc (by decide +kernel)
  have k3 : env.kindOf (PySem.Str.ofString "place") = some .local := kind_of hsc (by decide +kernel)
  have k4 : env.kindOf (PySem.Str.ofString "up") = some .local := kind_of hsc (by decide +kernel)
  have g2 : ∀ C : Cx, C.env = env → GName mg mb C (PySem.Str.ofString "range") (.type "range") := fun C hC => ⟨by rw [hC]; exact kind_of hsc (by decide +kernel), .inr (L.bi _ _ (by simp [biTable]))⟩
  generalize hb : bodyN 8 = body
  simp only [bodyN, bodyIn, nthS, TX, PySem.Challenge.pw_pk0038_02] at hb
  subst hb
  have e2 : (2 : Int) * (pairs : Int) = ((2 * pairs : Nat) : Int) := by omega
  refine run_seq (st_assignOwn (evF_list evs_nil) (.inl k1)) ?_
  rintro C' ⟨ar, rfl⟩ -
  refine run_seq (st_assign ev_int (.inl k2)) ?_
  rintro C' rfl -
  refine run_forR (n := 2 * pairs) (fun i => [("high", iN (rowSt (2 * pairs) bits i).2), ("pairs", iN pairs), ("bits", iN bits)]) (fun i => [("row", ar, (rowSt (2 * pairs) bits i).1.map iN)]) (evIt_rangeN L.tf (g2 _ rfl) (b := true) (ev_eq (ev_mulL (b1 := true) (b2 := true) ev_int (ev_n (p := iN pairs)) (by decide) (by decide)) (by rw [e2])) (by omega)) ?_ ?_ (.inl k3) ?_ ?_
  · exact map_look (by kernel_rfl!)
  · exact map_look (by kernel_rfl!)
  · intro i hi
    have hhi := rowSt_hi (2 * pairs) bits i
    have hll := rowSt_len (2 * pairs) bits i
    have h0 : i = 0 → (rowSt (2 * pairs) bits i).2 = 0 := fun h => by subst h; rfl
    show Run _ _ _ _ _ (fun C' => C'.X = _ ∧ (∀ q ∈ [("high", iN ((rowSt (2 * pairs) bits i).2 + 2 * rowUp (2 * pairs) bits i (rowSt (2 * pairs) bits i).2 - 1)), ("pairs", iN pairs), ("bits", iN bits)], q ∈ C'.vs) ∧ ∀ q ∈ [("row", ar, ((rowSt (2 * pairs) bits i).1 ++ [rowUp (2 * pairs) bits i (rowSt (2 * pairs) bits i).2]).map iN)], q ∈ C'.own) _
    generalize rowSt (2 * pairs) bits i = S at hhi hll h0 ⊢
    refine run_if (r := decide (S.2 = 0)) (M := fun C' => C'.X = ar :: X ∧ ("up", iN (rowUp (2 * pairs) bits i S.2)) ∈ C'.vs ∧ ("high", iN S.2) ∈ C'.vs ∧ ("pairs", iN pairs) ∈ C'.vs ∧ ("bits", iN bits) ∈ C'.vs ∧ C'.own = [("row", ar, S.1.map iN)])
      (bt_eq (bt_cmp (b1 := true) (b2 := true) (ev_n (p := iN S.2)) ev_int cm_eq) (by rw [Bool.eq_iff_iff]; simp)) (fun h => ?_) (fun h => ?_) ?_
    · have h' : S.2 = 0 := by simpa using h
      refine run_seq (st_assign (p := .int 1) ev_int (.inl k4)) ?_
      rintro C' rfl -
      have : rowUp (2 * pairs) bits i S.2 = 1 := by unfold rowUp; rw [if_pos h']
      rw [this]
      exact run_nil ⟨rfl, mem_look (by kernel_rfl!), mem_look (by kernel_rfl!), mem_look (by kernel_rfl!), mem_look (by kernel_rfl!), rfl⟩
    · have h' : ¬ S.2 = 0 := by simpa using h
      have hi0 : i ≠ 0 := fun z => h' (h0 z)
      refine run_if (r := decide (S.2 = 2 * pairs - i)) (M := fun C' => C'.X = ar :: X ∧ ("up", iN (rowUp (2 * pairs) bits i S.2)) ∈ C'.vs ∧ ("high", iN S.2) ∈ C'.vs ∧ ("pairs", iN pairs) ∈ C'.vs ∧ ("bits", iN bits) ∈ C'.vs ∧ C'.own = [("row", ar, S.1.map iN)])
        (bt_eq (bt_cmp (b1 := true) (b2 := true) (ev_n (p := iN S.2)) (ev_subI (b1 := true) (b2 := true) (ev_mulL (b1 := true) (b2 := true) ev_int (ev_n (p := iN pairs)) (by decide) (by decide)) (ev_n (p := iN i))) cm_eq) (by rw [Bool.eq_iff_iff]; simp; omega)) (fun h2 => ?_) (fun h2 => ?_) (fun C' h _ => run_nil h)
      · have h2' : S.2 = 2 * pairs - i := by simpa using h2
        refine run_seq (st_assign (p := .int 0) ev_int (.inl k4)) ?_
        rintro C' rfl -
        have : rowUp (2 * pairs) bits i S.2 = 0 := by unfold rowUp; rw [if_neg h', if_pos h2']
        rw [this]
        exact run_nil ⟨rfl, mem_look (by kernel_rfl!), mem_look (by kernel_rfl!), mem_look (by kernel_rfl!), mem_look (by kernel_rfl!), rfl⟩
      · have h2' : ¬ S.2 = 2 * pairs - i := by simpa using h2
        have hpw : (2 : Int) ^ (i - 1) = ((2 ^ (i - 1) : Nat) : Int) := by simp
        have hpp : 0 < 2 ^ (i - 1) := Nat.pow_pos (by decide)
        have hpl : 2 ^ (i - 1) < 1073741824 := Nat.lt_of_le_of_lt (Nat.pow_le_pow_right (by decide) (show i - 1 ≤ 20 by omega)) (by decide)
        refine run_seq (st_assign (p := iN (bits / 2 ^ (i - 1) % 2)) (ev_eq (ev_modI (b1 := true) (b2 := true) (ev_divI (b1 := true) (b2 := true) (q := ((2 ^ (i - 1) : Nat) : Int)) (ev_n (p := iN bits)) (ev_eq (ev_powI (b1 := true) (b2 := true) (k := i - 1) (q := (i : Int) - 1) ev_int (ev_subI (b1 := true) (b2 := true) (ev_n (p := iN i)) ev_int) (by omega) (by omega)) (by rw [hpw])) (by omega) (by omega)) ev_int) (by simp)) (.inl k4)) ?_
        rintro C' rfl -
        have : rowUp (2 * pairs) bits i S.2 = bits / 2 ^ (i - 1) % 2 := by unfold rowUp; rw [if_neg h', if_neg h2']
        rw [this]
        exact run_nil ⟨rfl, mem_look (by kernel_rfl!), mem_look (by kernel_rfl!), mem_look (by kernel_rfl!), mem_look (by kernel_rfl!), rfl⟩
    · rintro C' ⟨hX, hu, hh, hp1, hp2, hown⟩ hlk
      have hup : 1 ≤ S.2 + 2 * rowUp (2 * pairs) bits i S.2 := by
        unfold rowUp
        split
        · omega
        · omega
      generalize rowUp (2 * pairs) bits i S.2 = u at hu hup ⊢
      have hE : C'.env = env := hlk.1
      refine run_seq (st_append (l := S.1.map iN) (x := "row") (a := ar) (by rw [hown]; exact List.mem_singleton.mpr rfl) (ev_name hu) (by rw [List.length_map, hll]; omega)) ?_
      rintro C'' rfl -
      have eh : (S.2 : Int) + 2 * (u : Int) - 1 = ((S.2 + 2 * u - 1 : Nat) : Int) := by omega
      refine run_seq (st_assign (p := iN (S.2 + 2 * u - 1)) (ev_eq (ev_subI (b1 := true) (b2 := true) (ev_addI (b1 := true) (b2 := true) (ev_name (p := iN S.2) hh) (ev_mulL (b1 := true) (b2 := true) ev_int (ev_name (p := iN u) hu) (by decide) (by decide))) ev_int) (by rw [eh])) (.inl (by show C'.env.kindOf _ = _; rw [hE]; exact k2))) ?_
      rintro C'' rfl -
      refine run_nil ⟨hX, ?_, ?_⟩
      · refine List.forall_mem_cons.mpr ⟨List.mem_cons_self, List.forall_mem_cons.mpr ⟨List.mem_cons_of_mem _ (mem_dl hp1 (by decide)), List.forall_mem_cons.mpr ⟨List.mem_cons_of_mem _ (mem_dl hp2 (by decide)), fun q hq => nomatch hq⟩⟩⟩
      · rw [List.map_append]
        refine List.forall_mem_cons.mpr ⟨mem_dl ?_ (by decide), fun q hq => nomatch hq⟩
        show _ ∈ upOwn "row" _ C'.own
        rw [hown]
        exact List.mem_singleton.mpr rfl
  · exact run_retOwn (l := (rowSt (2 * pairs) bits (2 * pairs)).1.map iN) (a := ar) (List.mem_singleton.mpr rfl) rfl

theorem rings_ok (L : Lib H0 mg mb) (hw : Has H0 mg 9 "_law_rings" ["arch", "turn"]) (n : Nat) : ∃ a, mg (PySem.Str.ofString "_law_rings") = some (.ref a) ∧ Callee H0 (.ref a) ∧ ∀ (arch : List Nat) (turn : Nat), 0 < arch.length → arch.length ≤ 60 → (∀ x ∈ arch, x < arch.length) →
    CallX prog w H0 (n + 1) (.ref a) [.lst (arch.map iN), iN turn] (iN (rOut arch turn arch.length).2) := by
  obtain ⟨a, f, hm⟩ := hw
  refine ⟨a, hm, f.callee, fun arch turn hz hl ha => callX_def L.tf f (by decide +kernel) rfl fun env s X hsc => ?_⟩
  have k1 : env.kindOf (PySem.Str.ofString "size") = some .local := kind_of hsc (by decide +kernel)
  have k2 : env.kindOf (PySem.Str.ofString "unseen") = some .local := kind_of hsc (by decide +kernel)
  have k3 : env.kindOf (PySem.Str.ofString "rings") = some .local := kind_of hsc (by decide +kernel)
  have k4 : env.kindOf (PySem.Str.ofString "first") = some .local := kind_of hsc (by decide +kernel)
  have k5 : env.kindOf (PySem.Str.ofString "place") = some .cell := kind_of hsc (by decide +kernel)
  have k6 : env.kindOf (PySem.Str.ofString "step") = some .local := kind_of hsc (by decide +kernel)
  have k7 : env.kindOf (PySem.Str.ofString "foot") = some .cell := kind_of hsc (by decide +kernel)
  have g1 : ∀ C : Cx, C.env = env → GName mg mb C (PySem.Str.ofString "len") (.builtin "len") := fun C hC => ⟨by rw [hC]; exact kind_of hsc (by decide +kernel), .inr (L.bi _ _ (by simp [biTable]))⟩
  have g2 : ∀ C : Cx, C.env = env → GName mg mb C (PySem.Str.ofString "range") (.type "range") := fun C hC => ⟨by rw [hC]; exact kind_of hsc (by decide +kernel), .inr (L.bi _ _ (by simp [biTable]))⟩
  have g3 : ∀ C : Cx, C.env = env → GName mg mb C (PySem.Str.ofString "list") (.type "list") := fun C hC => ⟨by rw [hC]; exact kind_of hsc (by decide +kernel), .inr (L.bi _ _ (by simp [biTable]))⟩
  have hfun : env.scope.kind = .function := by rw [hsc]; rfl
  generalize hb : bodyN 9 = body
  simp only [bodyN, bodyIn, nthS, TX, PySem.Challenge.pw_pk0038_02] at hb
  subst hb
  refine run_seq (st_assign (p := iN arch.length) (ev_eq (ev_call (b := true) L.tf (g1 _ rfl) (.inl ⟨_, rfl⟩) (evs_cons (ev_n (p := .lst (arch.map iN))) evs_nil) (callX_len (by rw [List.length_map]; omega))) (by rw [List.length_map])) (.inl k1)) ?_
  rintro C' rfl -
  refine run_seq (st_assign (p := .lst ((List.range arch.length).map iN)) (ev_new (evF_listRange (b := true) L.tf (g2 _ rfl) (g3 _ rfl) (ev_n (p := iN arch.length)) (by omega))) (.inl k2)) ?_
  rintro C' rfl -
  refine run_seq (st_assign ev_int (.inl k3)) ?_
  rintro C' rfl -
  refine run_forR (n := arch.length) (fun i => [("unseen", .lst ((rOut arch turn i).1.map iN)), ("rings", iN (rOut arch turn i).2), ("arch", .lst (arch.map iN)), ("turn", iN turn), ("size", iN arch.length)]) (fun i => []) (evIt_rangeN L.tf (g2 _ rfl) (b := true) (ev_n (p := iN arch.length)) (by omega)) ?_ ?_ (.inl k4) ?_ ?_
  · exact map_look (by kernel_rfl!)
  · exact map_look (by kernel_rfl!)
  · intro i hi
    have hul := rOut_len arch turn i
    show Run _ _ _ _ _ (fun C' => C'.X = _ ∧ (∀ q ∈ [("unseen", PV.lst ((if i ∈ (rOut arch turn i).1 then ((rIn arch turn ((rOut arch turn i).1, i) (arch.length / 2)).1, (rOut arch turn i).2 + 1) else rOut arch turn i).1.map iN)), ("rings", iN (if i ∈ (rOut arch turn i).1 then ((rIn arch turn ((rOut arch turn i).1, i) (arch.length / 2)).1, (rOut arch turn i).2 + 1) else rOut arch turn i).2), ("arch", .lst (arch.map iN)), ("turn", iN turn), ("size", iN arch.length)], q ∈ C'.vs) ∧ _) _
    generalize rOut arch turn i = S at hul ⊢
    refine run_if (r := decide (i ∈ S.1)) (M := fun C' => C'.X = X ∧ (∀ q ∈ [("unseen", PV.lst ((if i ∈ S.1 then ((rIn arch turn (S.1, i) (arch.length / 2)).1, S.2 + 1) else S).1.map iN)), ("rings", iN (if i ∈ S.1 then ((rIn arch turn (S.1, i) (arch.length / 2)).1, S.2 + 1) else S).2), ("arch", .lst (arch.map iN)), ("turn", iN turn), ("size", iN arch.length)], q ∈ C'.vs) ∧ ∀ q ∈ ([] : List (String × Addr × List PV)), q ∈ C'.own)
      (bt_cmp (b1 := true) (b2 := true) (ev_n (p := iN i)) (ev_n (p := .lst (S.1.map iN))) cm_inN) (fun h => ?_) (fun h => ?_) (fun C' h _ => run_nil h)
    · have hm : i ∈ S.1 := by simpa using h
      rw [if_pos hm]
      refine run_seq (st_assign (p := iN (S.2 + 1)) (ev_eq (ev_addI (b1 := true) (b2 := true) (ev_n (p := iN S.2)) ev_int) rfl) (.inl k3)) ?_
      rintro C' rfl -
      refine run_seq (st_assignCell (ev_n (p := iN i)) k5) ?_
      rintro C' rfl -
      refine run_forR (n := arch.length / 2) (fun j => [("unseen", .lst ((rIn arch turn (S.1, i) j).1.map iN)), ("place", iN (rIn arch turn (S.1, i) j).2), ("rings", iN (S.2 + 1)), ("arch", .lst (arch.map iN)), ("turn", iN turn), ("size", iN arch.length)]) (fun i => []) (evIt_rangeN L.tf (g2 _ rfl) (b := true) (ev_eq (ev_divI (b1 := true) (b2 := true) (ev_n (p := iN arch.length)) ev_int) (by simp)) (by omega)) ?_ ?_ (.inl k6) ?_ ?_
      · exact map_look (by kernel_rfl!)
      · exact map_look (by kernel_rfl!)
      · intro j hj
        have hpl := rIn_lt (turn := turn) (S := (S.1, i)) hz hi j
        have hjl := rIn_len arch turn (S.1, i) j
        show Run _ _ _ _ _ (fun C' => C'.X = _ ∧ (∀ q ∈ [("unseen", PV.lst (((rIn arch turn (S.1, i) j).1.filter (fun o => neN o (rIn arch turn (S.1, i) j).2 && neN o (arch.getD (rIn arch turn (S.1, i) j).2 0))).map iN)), ("place", iN (stepF arch.length turn (arch.getD (rIn arch turn (S.1, i) j).2 0))), ("rings", iN (S.2 + 1)), ("arch", .lst (arch.map iN)), ("turn", iN turn), ("size", iN arch.length)], q ∈ C'.vs) ∧ _) _
        generalize rIn arch turn (S.1, i) j = Z at hpl hjl ⊢
        have hg : arch[Z.2]? = some (arch.getD Z.2 0) := getD_get hpl
        have hfl : arch.getD Z.2 0 < arch.length := ha _ (List.mem_of_getElem? hg)
        refine run_seq (st_assignCell (p := iN (arch.getD Z.2 0)) (ev_idxN (b := true) (f := iN) (l := arch) (b2 := true) ev_n (ev_n (p := iN Z.2)) hg (by omega)) k7) ?_
        rintro C' rfl -
        generalize arch.getD Z.2 0 = foot at hfl ⊢
        refine run_seq (st_assignCompG (scopeN 9) iN unNat unNat_iN Z.1 (fun o => neN o Z.2 && neN o foot) iN ["foot", "place"] [("foot", iN foot), ("place", iN Z.2)] [] (evIt_lst (ev_n (p := .lst (Z.1.map iN)))) (by simp only at hjl; omega) hsc (by decide +kernel) rfl (map_look (by kernel_rfl!)) (by simp) (fun env2 D o ho he => ?_) (fun env2 D o ho _ he => ev_n) (.inl k2) (swaps_local k2 hfun rfl (by decide +kernel))) ?_
        · exact tests_one (bt_and2 (bt_eq (bt_cmp (b1 := true) (b2 := true) (ev_n (p := iN o)) (ev_n (p := iN Z.2)) cm_ne) (by rw [neN_eq, Bool.eq_iff_iff]; simp; omega)) fun _ => bt_eq (bt_cmp (b1 := true) (b2 := true) (ev_n (p := iN o)) (ev_n (p := iN foot)) cm_ne) (by rw [neN_eq, Bool.eq_iff_iff]; simp; omega))
        rintro C' rfl -
        refine run_seq (st_assignCell (p := iN (stepF arch.length turn foot)) (ev_eq (ev_modI (b1 := true) (b2 := true) (p := if (foot + turn) % 2 = 0 then ((foot : Int) + 1) else ((foot : Int) - 1)) (q := (arch.length : Int)) (ev_ife (r := decide ((foot + turn) % 2 = 0)) (bt_eq (bt_cmp (b1 := true) (b2 := true) (ev_modI (b1 := true) (b2 := true) (ev_addI (b1 := true) (b2 := true) (ev_n (p := iN foot)) (ev_n (p := iN turn))) ev_int) ev_int cm_eq) (by rw [Bool.eq_iff_iff]; simp; omega)) (fun h => ?_) (fun h => ?_)) (ev_n (p := iN arch.length)) (by omega)) (by rw [stepF_int hfl])) k5) ?_
        · have h' : (foot + turn) % 2 = 0 := by simpa using h
          rw [if_pos h']
          exact ev_addI (b1 := true) (b2 := true) (ev_n (p := iN foot)) ev_int
        · have h' : ¬ (foot + turn) % 2 = 0 := by simpa using h
          rw [if_neg h']
          exact ev_subI (b1 := true) (b2 := true) (ev_n (p := iN foot)) ev_int
        rintro C' rfl -
        exact run_nil ⟨rfl, map_look (by kernel_rfl!), by simp⟩
      · exact run_nil ⟨rfl, map_look (by kernel_rfl!), by simp⟩
    · have hm : ¬ i ∈ S.1 := by simpa using h
      rw [if_neg hm]
      exact run_nil ⟨rfl, map_look (by kernel_rfl!), by simp⟩
  · exact run_ret (b := true) (ev_n (p := iN (rOut arch turn arch.length).2)) rfl
end
end Mine

namespace Mine

def sg (s : Nat) : Int := if s = 1 then 1 else -1
def sliceL {α : Type} (l : List α) (a b : Nat) : List α := (l.drop a).take (b - a)
/-- a stretch closes -/
def balN : Nat → List Nat → Bool
  | h, [] => Nat.beq h 0
  | h, s :: r => bif Nat.beq s 1 then balN (h + 1) r else (match h with | 0 => false | h + 1 => balN h r)
theorem balN_scan : ∀ (l : List Nat) (h : Nat), scan (h : Int) (l.map sg) = balN h l
  | [], h => by
    simp only [List.map_nil, scan, balN]
    cases h with
    | zero => rfl
    | succ h =>
      have : Nat.beq (h + 1) 0 = false := rfl
      rw [this, beq_eq_false_iff_ne]
      omega
  | s :: r, h => by
    simp only [List.map_cons, scan, balN]
    by_cases hs : s = 1
    · subst hs
      have e : (h : Int) + sg 1 = ((h + 1 : Nat) : Int) := by simp [sg]
      rw [e, balN_scan r (h + 1)]
      have : decide (0 ≤ ((h + 1 : Nat) : Int)) = true := by simp; omega
      rw [this]; rfl
    · have hb : Nat.beq s 1 = false := by rw [Bool.eq_false_iff]; intro z; exact hs (Nat.eq_of_beq_eq_true z)
      have e : sg s = -1 := by unfold sg; rw [if_neg hs]
      rw [hb, e]
      cases h with
      | zero => rfl
      | succ h =>
        have e2 : (((h + 1 : Nat) : Int) + -1) = (h : Int) := by omega
        rw [e2, balN_scan r h]
        have : decide (0 ≤ (h : Int)) = true := by simp
        rw [this]; rfl
def balS (signs : List Nat) (a b : Nat) : Bool := balN 0 (sliceL signs a b)
theorem balS_scan (signs : List Nat) (a b : Nat) : balS signs a b = scan 0 ((sliceL signs a b).map sg) := (balN_scan _ 0).symm
def eStep (signs : List Nat) (left right : Nat) (e : List Int) : List Int :=
  if signs.getD left 0 = 1 ∧ signs.getD right 0 = 0 ∧ e.getD left 0 < 0 ∧ balS signs left (right + 1) = true then e.set left (right : Int) else e
def eIn (signs : List Nat) (left : Nat) (e : List Int) : Nat → List Int
  | 0 => e
  | k + 1 => eStep signs left (left + 1 + k) (eIn signs left e k)
def eOut (signs : List Nat) : Nat → List Int
  | 0 => List.replicate signs.length (-1)
  | k + 1 => eIn signs k (eOut signs k) (signs.length - (k + 1))
theorem eIn_len (signs : List Nat) (left : Nat) (e : List Int) : ∀ k, (eIn signs left e k).length = e.length
  | 0 => rfl
  | k + 1 => by
    have ih := eIn_len signs left e k
    simp only [eIn, eStep]
    split
    · rw [List.length_set]; exact ih
    · exact ih
theorem eOut_len (signs : List Nat) : ∀ k, (eOut signs k).length = signs.length
  | 0 => by simp [eOut]
  | k + 1 => by simp only [eOut]; rw [eIn_len, eOut_len signs k]
def leftsE (signs : List Nat) (e : List Int) : List Int := ((List.range signs.length).filter fun p => signs.getD p 0 == 1).map fun p => e.getD p 0
def rightsE (signs : List Nat) : List Nat := (List.range signs.length).filter fun p => signs.getD p 0 == 0
def aSt (signs : List Nat) (e : List Int) : Nat → List Int
  | 0 => e
  | k + 1 => if signs.getD k 0 = 1 then (aSt signs e k).set (e.getD k 0).toNat (k : Int) else aSt signs e k
theorem aSt_len (signs : List Nat) (e : List Int) : ∀ k, (aSt signs e k).length = e.length
  | 0 => rfl
  | k + 1 => by
    have ih := aSt_len signs e k
    simp only [aSt]
    split
    · rw [List.length_set]; exact ih
    · exact ih
theorem rights_sorted (signs : List Nat) : ((rightsE signs).map fun n : Nat => (n : Int)).Pairwise (· ≤ ·) := by
  unfold rightsE
  rw [List.pairwise_map]
  have h : (List.range signs.length).Pairwise (· < ·) := List.pairwise_lt_range
  exact (h.filter _).imp fun h => by omega

section
variable {prog : Program} {w : World} {H0 : Heap} {mg mb : PySem.Str → Option Value}

theorem arches_ok (L : Lib H0 mg mb) (hw : Has H0 mg 10 "_law_arches" ["units", "signs"]) (n : Nat) : ∃ a, mg (PySem.Str.ofString "_law_arches") = some (.ref a) ∧ Callee H0 (.ref a) ∧ ∀ (us : List (List Nat)) (signs : List Nat), us.length = signs.length → signs.length ≤ 12 → (∀ u ∈ us, u.length ≤ 10) → (∀ u ∈ us, ∀ c ∈ u, c < 128) →
    (∀ l r, l < r → r < signs.length → check (sliceL us l (r + 1)).flatten = balS signs l (r + 1)) →
    ((rightsE signs).map fun n : Nat => (n : Int)).Perm (leftsE signs (eOut signs signs.length)) →
    (∀ k, k < signs.length → signs.getD k 0 = 1 → 0 ≤ (eOut signs signs.length).getD k 0 ∧ (eOut signs signs.length).getD k 0 < signs.length) →
    CallX prog w H0 (n + 4) (.ref a) [.lst (us.map .str), .lst (signs.map iN)] (.lst ((aSt signs (eOut signs signs.length) signs.length).map .int)) := by
  obtain ⟨a, f, hm⟩ := hw
  obtain ⟨ac, hmc, hcc, okc⟩ := check_at (prog := prog) (w := w) L n
  refine ⟨a, hm, f.callee, fun us signs hul hsz hu1 hu2 hchk hperm hends => callX_def L.tf f (by decide +kernel) rfl fun env s X hsc => ?_⟩
  have k1 : env.kindOf (PySem.Str.ofString "size") = some .local := kind_of hsc (by decide +kernel)
  have k2 : env.kindOf (PySem.Str.ofString "ends") = some .cell := kind_of hsc (by decide +kernel)
  have k3 : env.kindOf (PySem.Str.ofString "left") = some .local := kind_of hsc (by decide +kernel)
  have k4 : env.kindOf (PySem.Str.ofString "right") = some .local := kind_of hsc (by decide +kernel)
  have k5 : env.kindOf (PySem.Str.ofString "told") = some .local := kind_of hsc (by decide +kernel)
  have k6 : env.kindOf (PySem.Str.ofString "arch") = some .local := kind_of hsc (by decide +kernel)
  have g1 : ∀ C : Cx, C.env = env → GName mg mb C (PySem.Str.ofString "len") (.builtin "len") := fun C hC => ⟨by rw [hC]; exact kind_of hsc (by decide +kernel), .inr (L.bi _ _ (by simp [biTable]))⟩
  have g2 : ∀ C : Cx, C.env = env → GName mg mb C (PySem.Str.ofString "range") (.type "range") := fun C hC => ⟨by rw [hC]; exact kind_of hsc (by decide +kernel), .inr (L.bi _ _ (by simp [biTable]))⟩
  have g3 : ∀ C : Cx, C.env = env → GName mg mb C (PySem.Str.ofString "list") (.type "list") := fun C hC => ⟨by rw [hC]; exact kind_of hsc (by decide +kernel), .inr (L.bi _ _ (by simp [biTable]))⟩
  have g4 : ∀ C : Cx, C.env = env → GName mg mb C (PySem.Str.ofString "sorted") (.builtin "sorted") := fun C hC => ⟨by rw [hC]; exact kind_of hsc (by decide +kernel), .inr (L.bi _ _ (by simp [biTable]))⟩
  have g5 : ∀ C : Cx, C.env = env → GName mg mb C (PySem.Str.ofString "_check_parenthesis") (.ref ac) := fun C hC => ⟨by rw [hC]; exact kind_of hsc (by decide +kernel), .inl hmc⟩
  generalize hb : bodyN 10 = body
  simp only [bodyN, bodyIn, nthS, TX, PySem.Challenge.pw_pk0038_02] at hb
  subst hb
  generalize hZ : signs.length = Z at *
  have hget : ∀ i, i < Z → signs[i]? = some (signs.getD i 0) := fun i hi => getD_get (by omega)
  have helen : ∀ k, (eOut signs k).length = Z := fun k => (eOut_len signs k).trans hZ
  refine run_seq (st_assign (p := iN Z) (ev_eq (ev_call (b := true) L.tf (g1 _ rfl) (.inl ⟨_, rfl⟩) (evs_cons (ev_n (p := .lst (signs.map iN))) evs_nil) (callX_len (by rw [List.length_map]; omega))) (by rw [List.length_map, hZ])) (.inl k1)) ?_
  rintro C' rfl -
  refine run_seq (st_assignOwnCell (l := (eOut signs 0).map .int) (evF_eq (evF_mul (b := true) (p := .int (-1)) (n := (Z : Int)) (ev_new (evF_list (evs_cons (ev_neg (b1 := true) ev_int) evs_nil))) (ev_n (p := iN Z)) (by omega) (by omega)) (by rw [Int.toNat_natCast, eOut, List.map_replicate, hZ])) k2) ?_
  rintro C' ⟨ae, rfl⟩ -
  refine run_forR (n := Z) (fun i => [("units", .lst (us.map .str)), ("signs", .lst (signs.map iN)), ("size", iN Z)]) (fun i => [("ends", ae, (eOut signs i).map .int)]) (evIt_rangeN L.tf (g2 _ rfl) (b := true) (ev_n (p := iN Z)) (by omega)) (map_look (by kernel_rfl!)) (map_look (by kernel_rfl!)) (.inl k3) ?_ ?_
  · intro l hl
    have hel := helen l
    have eN : eOut signs (l + 1) = eIn signs l (eOut signs l) (Z - (l + 1)) := by rw [eOut, hZ]
    rw [eN]
    generalize eOut signs l = e0 at hel ⊢
    have hinl : ∀ k, (eIn signs l e0 k).length = Z := fun k => (eIn_len signs l e0 k).trans hel
    refine run_forRng (m := l + 1) (n := Z) (fun i => [("left", iN l), ("units", .lst (us.map .str)), ("signs", .lst (signs.map iN)), ("size", iN Z)]) (fun j => [("ends", ae, (eIn signs l e0 j).map .int)]) (evIt_rng (b := true) L.tf (g2 _ rfl) (ev_eq (ev_addI (b1 := true) (b2 := true) (ev_n (p := iN l)) ev_int) rfl) (ev_n (p := iN Z)) (by omega) (by omega)) (map_look (by kernel_rfl!)) (map_look (by kernel_rfl!)) (.inl k4) ?_ ?_
    · intro j hj
      have hjl := hinl j
      generalize hrr : l + 1 + j = r at *
      have hlr : l < r := by omega
      have hrZ : r < Z := by omega
      have eN2 : eIn signs l e0 (j + 1) = eStep signs l r (eIn signs l e0 j) := by rw [eIn, hrr]
      rw [eN2]
      generalize eIn signs l e0 j = e at hjl ⊢
      have hsl := hget l (by omega)
      have hsr := hget r hrZ
      have hge : e[l]? = some (e.getD l 0) := getD_getI (by omega)
      have hn : ∀ C' : Cx, C'.X = ae :: X → C'.vs = C'.vs → True := fun _ _ _ => trivial
      refine run_if (r := decide (signs.getD l 0 = 1) && (decide (signs.getD r 0 = 0) && decide (e.getD l 0 < 0))) (M := fun C' => C'.X = ae :: X ∧ (∀ q ∈ [("left", iN l), ("units", PV.lst (us.map .str)), ("signs", .lst (signs.map iN)), ("size", iN Z)], q ∈ C'.vs) ∧ ∀ q ∈ [("ends", ae, (eStep signs l r e).map PV.int)], q ∈ C'.own)
        (bt_and3 (bt_eq (bt_cmp (b1 := true) (b2 := true) (ev_idxN (f := iN) (l := signs) (b2 := true) ev_n (ev_n (p := iN l)) hsl (by omega)) ev_int cm_eq) (by rw [Bool.eq_iff_iff]; simp only [beq_iff_eq, decide_eq_true_eq]; omega)) (fun _ => bt_eq (bt_cmp (b1 := true) (b2 := true) (ev_idxN (f := iN) (l := signs) (b2 := true) ev_n (ev_n (p := iN r)) hsr (by omega)) ev_int cm_eq) (by rw [Bool.eq_iff_iff]; simp only [beq_iff_eq, decide_eq_true_eq]; omega))
          (fun _ => bt_cmp (b1 := true) (b2 := true) (p := .int (e.getD l 0)) (ev_atom (b' := false) (ev_idxN (f := .int) (l := e) (b2 := true) (ev_o (a := ae)) (ev_n (p := iN l)) hge (by omega)) rfl) ev_int cm_lt)) (fun h => ?_) (fun h => ?_) (fun C' h _ => run_nil h)
      · simp only [Bool.and_eq_true, decide_eq_true_eq] at h
        have hslc : (sliceL us l (r + 1)).length ≤ 12 := by unfold sliceL; rw [List.length_take, List.length_drop]; omega
        have hsm : ∀ u ∈ sliceL us l (r + 1), u ∈ us := fun u hu => List.mem_of_mem_drop (List.mem_of_mem_take hu)
        have hfl : (sliceL us l (r + 1)).flatten.length ≤ 120 := by
          have := sum_len_le (m := 10) (ls := sliceL us l (r + 1)) fun x hx => hu1 x (hsm x hx)
          rw [List.length_flatten]
          have h2 := Nat.mul_le_mul_right 10 hslc
          omega
        refine run_seq (st_assign (p := .bool (balS signs l (r + 1))) (ev_eq (ev_call (b := true) L.tf (g5 _ rfl) hcc (evs_cons (ev_join (b := true) (ls := sliceL us l (r + 1)) (ev_str (l := [])) (ev_new (evF_eq (evF_slice (l := us.map .str) (i := some ((l : Nat) : Int)) (j := some (((r + 1 : Nat)) : Int)) (k := Option.none) ev_n (evP_some (b := true) (ev_n (p := iN l))) (evP_some (b := true) (ev_eq (ev_addI (b1 := true) (b2 := true) (ev_n (p := iN r)) ev_int) rfl)) evP_none (by decide) (by rw [List.length_map]; omega)) ?_)) ?_) evs_nil) (okc _ (by omega) (fun c hc => by
            obtain ⟨u, hu, hc⟩ := List.mem_flatten.mp hc
            exact hu2 u (hsm u hu) c hc))) (by rw [hchk l r hlr hrZ])) (.inl k5)) ?_
        · rw [pick_map]
          congr 1
          exact pick_ab us l (r + 1) (by omega) (by omega)
        · rw [List.length_flatten] at hfl; omega
        rintro C' rfl -
        refine run_if (r := balS signs l (r + 1)) (M := fun C' => C'.X = ae :: X ∧ (∀ q ∈ [("left", iN l), ("units", PV.lst (us.map .str)), ("signs", .lst (signs.map iN)), ("size", iN Z)], q ∈ C'.vs) ∧ ∀ q ∈ [("ends", ae, (eStep signs l r e).map PV.int)], q ∈ C'.own)
          (bt_eq (bt_cmp (b1 := true) (b2 := true) (ev_n (p := .bool (balS signs l (r + 1)))) ev_bool cm_isb) (by cases balS signs l (r + 1) <;> rfl)) (fun hb => ?_) (fun hb => ?_) (fun C' h _ => run_nil h)
        · have hst : eStep signs l r e = e.set l (r : Int) := by unfold eStep; rw [if_pos ⟨h.1, h.2.1, h.2.2, hb⟩]
          rw [hst]
          refine run_seq (st_set (x := "ends") (a := ae) (l := e.map .int) (p := iN r) (i := l) (b := true) (mem_look (by kernel_rfl!)) (ev_n (p := iN r)) (ev_n (p := iN l)) (by rw [List.length_map]; omega) (by rw [List.length_map]; omega)) ?_
          rintro C' rfl -
          refine run_nil ⟨rfl, map_look (by kernel_rfl!), ?_⟩
          rw [List.map_set]
          exact map_look (by kernel_rfl!)
        · have hst : eStep signs l r e = e := by unfold eStep; rw [if_neg (fun z => by rw [hb] at z; cases z.2.2.2)]
          rw [hst]
          refine run_if (r := false) (M := fun C' => C'.X = ae :: X ∧ (∀ q ∈ [("left", iN l), ("units", PV.lst (us.map .str)), ("signs", .lst (signs.map iN)), ("size", iN Z)], q ∈ C'.vs) ∧ ∀ q ∈ [("ends", ae, e.map PV.int)], q ∈ C'.own)
            (bt_eq (bt_cmp (b1 := true) (b2 := true) (ev_n (p := .bool (balS signs l (r + 1)))) ev_bool cm_isNotb) (by rw [hb]; rfl)) (fun h => by cases h) (fun _ => run_nil ⟨rfl, map_look (by kernel_rfl!), map_look (by kernel_rfl!)⟩) (fun C' h _ => run_nil h)
      · have hst : eStep signs l r e = e := by
          unfold eStep
          rw [if_neg]
          rintro ⟨a1, a2, a3, _⟩
          rw [decide_eq_true a1, decide_eq_true a2, decide_eq_true a3] at h
          cases h
        rw [hst]
        exact run_nil ⟨rfl, map_look (by kernel_rfl!), map_look (by kernel_rfl!)⟩
    · exact run_nil ⟨rfl, map_look (by kernel_rfl!), map_look (by kernel_rfl!)⟩
  · have hel := helen Z
    generalize eOut signs Z = e at hperm hends hel ⊢
    have hge : ∀ i, i < Z → e[i]? = some (e.getD i 0) := fun i hi => getD_getI (by omega)
    have hll : (leftsE signs e).length ≤ 12 := by
      unfold leftsE
      rw [List.length_map]
      exact Nat.le_trans (List.length_filter_le _ _) (by rw [List.length_range]; omega)
    have hrl : (rightsE signs).length ≤ 12 := by
      unfold rightsE
      exact Nat.le_trans (List.length_filter_le _ _) (by rw [List.length_range]; omega)
    refine run_if (r := false) (M := fun C'' => C'' = _) (bt_eq (bt_cmp (b1 := true) (b2 := true) (ev_new (evF_call L.tf (g4 _ rfl) (.inl ⟨_, rfl⟩) (evs_cons (ev_new (evF_eq (evF_compG (scopeN 10) iN unNat unNat_iN (List.range Z) (fun p => signs.getD p 0 == 1) (fun p => .int (e.getD p 0)) ["signs", "ends"] [("signs", .lst (signs.map iN))] [("ends", ae, e.map .int)] (evIt_rangeN L.tf (g2 _ rfl) (b := true) (ev_n (p := iN Z)) (by omega)) (by rw [List.length_range]; omega) hsc (by decide +kernel) rfl (map_look (by kernel_rfl!)) (map_look (by kernel_rfl!)) (fun env2 D p hp he => ?_) (fun env2 D p hp _ he => ?_)) (q := (leftsE signs e).map .int) ?_)) evs_nil) (callF_sorted (by omega) hperm (rights_sorted signs))))
      (ev_new (evF_compG (scopeN 10) iN unNat unNat_iN (List.range Z) (fun p => signs.getD p 0 == 0) iN ["signs"] [("signs", .lst (signs.map iN))] [] (evIt_rangeN L.tf (g2 _ rfl) (b := true) (ev_n (p := iN Z)) (by omega)) (by rw [List.length_range]; omega) hsc (by decide +kernel) rfl (map_look (by kernel_rfl!)) (by simp) (fun env2 D p hp he => ?_) (fun env2 D p hp _ he => ev_n))) (t := false) ?_) rfl) (fun h => by cases h) (fun _ => run_nil rfl) ?_
    · have hp : p < Z := by simpa using hp
      exact tests_one (bt_eq (bt_cmp (b1 := true) (b2 := true) (ev_idxN (f := iN) (l := signs) (b2 := true) ev_n (ev_n (p := iN p)) (hget p hp) (by omega)) ev_int cm_eq) (by rw [Bool.eq_iff_iff]; simp only [beq_iff_eq]; omega))
    · have hp : p < Z := by simpa using hp
      exact ev_atom (b' := false) (ev_idxN (f := .int) (l := e) (b2 := true) (ev_o (a := ae)) (ev_n (p := iN p)) (hge p hp) (by omega)) rfl
    · unfold leftsE; rw [List.map_map, hZ]; rfl
    · have hp : p < Z := by simpa using hp
      exact tests_one (bt_eq (bt_cmp (b1 := true) (b2 := true) (ev_idxN (f := iN) (l := signs) (b2 := true) ev_n (ev_n (p := iN p)) (hget p hp) (by omega)) ev_int cm_eq) (by rw [Bool.eq_iff_iff]; simp only [beq_iff_eq]; omega))
    · have := cm_neL (prog := prog) (w := w) kd_int (xs := (rightsE signs).map fun n : Nat => (n : Int)) (ys := (rightsE signs).map fun n : Nat => (n : Int)) (fun _ _ => trivial) (fun _ _ => trivial)
      rw [bne_self_eq_false] at this
      have e2 : (((rightsE signs).map fun n : Nat => (n : Int)).map PV.int) = (rightsE signs).map iN := by rw [List.map_map]; rfl
      have e3 : ((List.range Z).filter fun p => signs.getD p 0 == 0) = rightsE signs := by unfold rightsE; rw [hZ]
      rw [e2] at this
      rw [e2, e3]
      exact this
    rintro C' rfl -
    refine run_seq (st_assignOwn (evF_callA (b := false) L.tf (g3 _ rfl) (.inr (.inl ⟨_, rfl⟩)) (evs_cons (ev_o (a := ae) (l := e.map .int)) evs_nil) (callF_list (by rw [List.length_map]; omega)) (fun p hp => by obtain ⟨l, _, rfl⟩ := List.mem_map.mp hp; rfl)) (.inl k6)) ?_
    rintro C' ⟨aa, rfl⟩ -
    refine run_forR (n := Z) (fun i => [("signs", .lst (signs.map iN))]) (fun i => [("arch", aa, (aSt signs e i).map .int), ("ends", ae, e.map .int)]) (evIt_rangeN L.tf (g2 _ rfl) (b := true) (ev_n (p := iN Z)) (by omega)) (map_look (by kernel_rfl!)) (map_look (by kernel_rfl!)) (.inl k3) ?_ ?_
    · intro k hk
      have hal := aSt_len signs e k
      have eN : aSt signs e (k + 1) = if signs.getD k 0 = 1 then (aSt signs e k).set (e.getD k 0).toNat (k : Int) else aSt signs e k := rfl
      rw [eN]
      generalize aSt signs e k = ar at hal ⊢
      refine run_if (r := decide (signs.getD k 0 = 1)) (M := fun C' => C'.X = aa :: ae :: X ∧ (∀ q ∈ [("signs", PV.lst (signs.map iN))], q ∈ C'.vs) ∧ ∀ q ∈ [("arch", aa, (if signs.getD k 0 = 1 then ar.set (e.getD k 0).toNat (k : Int) else ar).map PV.int), ("ends", ae, e.map .int)], q ∈ C'.own)
        (bt_eq (bt_cmp (b1 := true) (b2 := true) (ev_idxN (f := iN) (l := signs) (b2 := true) ev_n (ev_n (p := iN k)) (hget k hk) (by omega)) ev_int cm_eq) (by rw [Bool.eq_iff_iff]; simp only [beq_iff_eq, decide_eq_true_eq]; omega)) (fun h => ?_) (fun h => ?_) (fun C' h _ => run_nil h)
      · have h' : signs.getD k 0 = 1 := by simpa using h
        obtain ⟨hn1, hn2⟩ := hends k hk h'
        have hcast : e.getD k 0 = (((e.getD k 0).toNat : Nat) : Int) := by omega
        rw [if_pos h']
        refine run_seq (st_set (x := "arch") (a := aa) (l := ar.map .int) (p := iN k) (i := (e.getD k 0).toNat) (b := false) (mem_look (by kernel_rfl!)) (ev_n (p := iN k)) (ev_eq (ev_idxN (f := .int) (l := e) (b2 := true) (ev_o (a := ae)) (ev_n (p := iN k)) (hge k hk) (by omega)) (by rw [← hcast])) (by rw [List.length_map]; omega) (by rw [List.length_map]; omega)) ?_
        rintro C' rfl -
        refine run_nil ⟨rfl, map_look (by kernel_rfl!), ?_⟩
        rw [List.map_set]
        exact map_look (by kernel_rfl!)
      · have h' : ¬ signs.getD k 0 = 1 := by simpa using h
        rw [if_neg h']
        exact run_nil ⟨rfl, map_look (by kernel_rfl!), map_look (by kernel_rfl!)⟩
    · exact run_retOwn (l := (aSt signs e Z).map .int) (a := aa) (mem_look (by kernel_rfl!)) rfl
end
end Mine

namespace Mine

/-! rows that close -/
def dy : Nat → Nat → List (List Nat)
  | 0, h => if h = 0 then [[]] else []
  | r + 1, h => if h > r + 1 then [] else (dy r (h + 1)).map (1 :: ·) ++ (if h = 0 then [] else (dy r (h - 1)).map (0 :: ·))
def rowF (n bits : Nat) : Nat → Nat → Nat → List Nat
  | 0, _, _ => []
  | r + 1, k, h => rowUp n bits k h :: rowF n bits r (k + 1) (h + 2 * rowUp n bits k h - 1)
theorem rowSt_F (n bits : Nat) : ∀ r k, (rowSt n bits (k + r)).1 = (rowSt n bits k).1 ++ rowF n bits r k (rowSt n bits k).2
  | 0, k => by simp [rowF]
  | r + 1, k => by
    have ih := rowSt_F n bits r (k + 1)
    rw [show k + (r + 1) = k + 1 + r by omega, ih]
    simp [rowSt, rowF]
theorem rowF_dy (n bits : Nat) : ∀ r k h, n = k + r → h ≤ r → (r + h) % 2 = 0 → rowF n bits r k h ∈ dy r h
  | 0, k, h, _, hr, _ => by
    obtain rfl : h = 0 := by omega
    simp [rowF, dy]
  | r + 1, k, h, hn, hr, hp => by
    have hup : rowUp n bits k h = 0 ∨ rowUp n bits k h = 1 := by
      unfold rowUp
      split
      · exact .inr rfl
      · split
        · exact .inl rfl
        · omega
    have h0 : h = 0 → rowUp n bits k h = 1 := fun z => by unfold rowUp; rw [if_pos z]
    have h1 : h = r + 1 → rowUp n bits k h = 0 := fun z => by unfold rowUp; rw [if_neg (by omega), if_pos (by omega)]
    unfold rowF dy
    rw [if_neg (by omega), List.mem_append]
    rcases hup with hu | hu
    · have hne : ¬ h = 0 := fun z => by have := h0 z; omega
      rw [hu, if_neg hne]
      refine .inr (List.mem_map.mpr ⟨_, rowF_dy n bits r (k + 1) (h - 1) (by omega) (by omega) (by omega), ?_⟩)
      simp
    · have hne : ¬ h = r + 1 := fun z => by have := h1 z; omega
      rw [hu]
      refine .inl (List.mem_map.mpr ⟨_, rowF_dy n bits r (k + 1) (h + 1) (by omega) (by omega) (by omega), ?_⟩)
      simp
theorem row_dy (pairs bits : Nat) : (rowSt (2 * pairs) bits (2 * pairs)).1 ∈ dy (2 * pairs) 0 := by
  have := rowSt_F (2 * pairs) bits (2 * pairs) 0
  rw [Nat.zero_add] at this
  rw [this]
  exact rowF_dy _ bits (2 * pairs) 0 0 (by omega) (by omega) (by omega)

def numW (w : List Nat) : Nat := ((List.range w.length).map fun p => w.getD p 0 * 2 ^ (w.length - 1 - p)).sum
def digs (N : Nat) : List Nat := ((List.range 3).filter fun c => decide (N / 16 ^ (2 - c) ≠ 0)).map fun c => N / 16 ^ (2 - c) % 16
def bitsW (ls : List Nat) : List Nat := ls.flatMap fun l => [8, 4, 2, 1].map fun wt => l / wt % 2
def archW (w : List Nat) : List Nat := (aSt w (eOut w w.length) w.length).map Int.toNat
def tornW (a : List Nat) (b e : Nat) : List Nat := (rng b e).filter fun p => decide (a.getD p 0 < b) || decide (e ≤ a.getD p 0)
def okA (w : List Nat) : Bool := decide (numW w < 4096) && decide (w.length ≤ (bitsW (digs (numW w))).length) && ((bitsW (digs (numW w))).drop ((bitsW (digs (numW w))).length - w.length) == w)
def okB (w : List Nat) : Bool := ((rightsE w).map fun n : Nat => (n : Int)).isPerm (leftsE w (eOut w w.length)) && (List.range w.length).all (fun k => decide (w.getD k 0 = 1 → 0 ≤ (eOut w w.length).getD k 0 ∧ (eOut w w.length).getD k 0 < w.length)) &&
  (aSt w (eOut w w.length) w.length).all (fun x => decide (0 ≤ x) && decide (x < w.length))
def okC (w : List Nat) : Bool := ((rOut (archW w) 0 w.length).2 == ((digs (numW w)).map fun l => l / 8 + l / 2 % 2).sum) && ((rOut (archW w) 1 w.length).2 == 1 + ((digs (numW w)).map fun l => l / 4 % 2 + l % 2).sum)
def wholeW (a : List Nat) (b e : Nat) : Bool := (rng b e).all fun p => !(Nat.blt (a.getD p 0) b) && Nat.blt (a.getD p 0) e
theorem whole_torn (a : List Nat) (b e : Nat) : (tornW a b e == []) = wholeW a b e := by
  rw [Bool.eq_iff_iff]
  unfold tornW wholeW
  rw [beq_iff_eq, List.filter_eq_nil_iff, List.all_eq_true]
  refine forall_congr' fun p => forall_congr' fun _ => ?_
  rw [Bool.and_eq_true, Bool.not_eq_true', Bool.or_eq_true, decide_eq_true_eq, decide_eq_true_eq, Bool.eq_false_iff, Ne, Nat.blt_eq, Nat.blt_eq]
  omega
def okD (w : List Nat) : Bool := (List.range w.length).all fun b => (List.range (w.length + 1 - b)).all fun k => balS w b (b + k) == wholeW (archW w) b (b + k)
theorem okA_8 : ∀ w ∈ dy 8 0, okA w = true := by decide +kernel
theorem okB_8 : ∀ w ∈ dy 8 0, okB w = true := by decide +kernel
theorem okC_8 : ∀ w ∈ dy 8 0, okC w = true := by decide +kernel
theorem okD_8 : ∀ w ∈ dy 8 0, okD w = true := by decide +kernel
theorem okA_10 : ∀ w ∈ dy 10 0, okA w = true := by decide +kernel
theorem okB_10 : ∀ w ∈ dy 10 0, okB w = true := by decide +kernel
theorem okC_10 : ∀ w ∈ dy 10 0, okC w = true := by decide +kernel
theorem okD_10 : ∀ w ∈ dy 10 0, okD w = true := by decide +kernel
/-- the rows of twelve, by their first four brackets -/
theorem dy12 {P : List Nat → Prop} (h1 : ∀ w ∈ dy 8 4, P (1 :: 1 :: 1 :: 1 :: w)) (h2 : ∀ w ∈ dy 8 2, P (1 :: 1 :: 1 :: 0 :: w)) (h3 : ∀ w ∈ dy 8 2, P (1 :: 1 :: 0 :: 1 :: w)) (h4 : ∀ w ∈ dy 8 0, P (1 :: 1 :: 0 :: 0 :: w))
    (h5 : ∀ w ∈ dy 8 2, P (1 :: 0 :: 1 :: 1 :: w)) (h6 : ∀ w ∈ dy 8 0, P (1 :: 0 :: 1 :: 0 :: w)) : ∀ w ∈ dy 12 0, P w := by
  intro w hw
  have e12 : dy 12 0 = (dy 11 1).map (1 :: ·) ++ [] := rfl
  have e11 : dy 11 1 = (dy 10 2).map (1 :: ·) ++ (dy 10 0).map (0 :: ·) := rfl
  have e102 : dy 10 2 = (dy 9 3).map (1 :: ·) ++ (dy 9 1).map (0 :: ·) := rfl
  have e100 : dy 10 0 = (dy 9 1).map (1 :: ·) ++ [] := rfl
  have e93 : dy 9 3 = (dy 8 4).map (1 :: ·) ++ (dy 8 2).map (0 :: ·) := rfl
  have e91 : dy 9 1 = (dy 8 2).map (1 :: ·) ++ (dy 8 0).map (0 :: ·) := rfl
  rw [e12, e11, e102, e100, e93, e91] at hw
  simp only [List.append_nil, List.map_append, List.map_map, List.mem_append, List.mem_map, Function.comp] at hw
  rcases hw with (((⟨v, hv, rfl⟩ | ⟨v, hv, rfl⟩) | (⟨v, hv, rfl⟩ | ⟨v, hv, rfl⟩)) | (⟨v, hv, rfl⟩ | ⟨v, hv, rfl⟩))
  · exact h1 v hv
  · exact h2 v hv
  · exact h3 v hv
  · exact h4 v hv
  · exact h5 v hv
  · exact h6 v hv
theorem okA_12a : ∀ w ∈ dy 8 4, okA (1 :: 1 :: 1 :: 1 :: w) = true := by decide +kernel
theorem okA_12b : ∀ w ∈ dy 8 2, okA (1 :: 1 :: 1 :: 0 :: w) = true := by decide +kernel
theorem okA_12c : ∀ w ∈ dy 8 2, okA (1 :: 1 :: 0 :: 1 :: w) = true := by decide +kernel
theorem okA_12d : ∀ w ∈ dy 8 0, okA (1 :: 1 :: 0 :: 0 :: w) = true := by decide +kernel
theorem okA_12e : ∀ w ∈ dy 8 2, okA (1 :: 0 :: 1 :: 1 :: w) = true := by decide +kernel
theorem okA_12f : ∀ w ∈ dy 8 0, okA (1 :: 0 :: 1 :: 0 :: w) = true := by decide +kernel
theorem okA_12 : ∀ w ∈ dy 12 0, okA w = true := dy12 (P := fun w => okA w = true) okA_12a okA_12b okA_12c okA_12d okA_12e okA_12f
theorem okB_12a : ∀ w ∈ dy 8 4, okB (1 :: 1 :: 1 :: 1 :: w) = true := by decide +kernel
theorem okB_12b : ∀ w ∈ dy 8 2, okB (1 :: 1 :: 1 :: 0 :: w) = true := by decide +kernel
theorem okB_12c : ∀ w ∈ dy 8 2, okB (1 :: 1 :: 0 :: 1 :: w) = true := by decide +kernel
theorem okB_12d : ∀ w ∈ dy 8 0, okB (1 :: 1 :: 0 :: 0 :: w) = true := by decide +kernel
theorem okB_12e : ∀ w ∈ dy 8 2, okB (1 :: 0 :: 1 :: 1 :: w) = true := by decide +kernel
theorem okB_12f : ∀ w ∈ dy 8 0, okB (1 :: 0 :: 1 :: 0 :: w) = true := by decide +kernel
theorem okB_12 : ∀ w ∈ dy 12 0, okB w = true := dy12 (P := fun w => okB w = true) okB_12a okB_12b okB_12c okB_12d okB_12e okB_12f
theorem okC_12a : ∀ w ∈ dy 8 4, okC (1 :: 1 :: 1 :: 1 :: w) = true := by decide +kernel
theorem okC_12b : ∀ w ∈ dy 8 2, okC (1 :: 1 :: 1 :: 0 :: w) = true := by decide +kernel
theorem okC_12c : ∀ w ∈ dy 8 2, okC (1 :: 1 :: 0 :: 1 :: w) = true := by decide +kernel
theorem okC_12d : ∀ w ∈ dy 8 0, okC (1 :: 1 :: 0 :: 0 :: w) = true := by decide +kernel
theorem okC_12e : ∀ w ∈ dy 8 2, okC (1 :: 0 :: 1 :: 1 :: w) = true := by decide +kernel
theorem okC_12f : ∀ w ∈ dy 8 0, okC (1 :: 0 :: 1 :: 0 :: w) = true := by decide +kernel
theorem okC_12 : ∀ w ∈ dy 12 0, okC w = true := dy12 (P := fun w => okC w = true) okC_12a okC_12b okC_12c okC_12d okC_12e okC_12f
theorem okD_12a : ∀ w ∈ dy 8 4, okD (1 :: 1 :: 1 :: 1 :: w) = true := by decide +kernel
theorem okD_12b : ∀ w ∈ dy 8 2, okD (1 :: 1 :: 1 :: 0 :: w) = true := by decide +kernel
theorem okD_12c : ∀ w ∈ dy 8 2, okD (1 :: 1 :: 0 :: 1 :: w) = true := by decide +kernel
theorem okD_12d : ∀ w ∈ dy 8 0, okD (1 :: 1 :: 0 :: 0 :: w) = true := by decide +kernel
theorem okD_12e : ∀ w ∈ dy 8 2, okD (1 :: 0 :: 1 :: 1 :: w) = true := by decide +kernel
theorem okD_12f : ∀ w ∈ dy 8 0, okD (1 :: 0 :: 1 :: 0 :: w) = true := by decide +kernel
theorem okD_12 : ∀ w ∈ dy 12 0, okD w = true := dy12 (P := fun w => okD w = true) okD_12a okD_12b okD_12c okD_12d okD_12e okD_12f
end Mine

namespace Mine

theorem dy_mem : ∀ (r h : Nat), ∀ w ∈ dy r h, ∀ c ∈ w, c < 2
  | 0, h, w, hw => by
    unfold dy at hw
    split at hw
    · obtain rfl := List.mem_singleton.mp hw; intro c hc; cases hc
    · cases hw
  | r + 1, h, w, hw => by
    unfold dy at hw
    split at hw
    · cases hw
    · rcases List.mem_append.mp hw with hw | hw
      · obtain ⟨v, hv, rfl⟩ := List.mem_map.mp hw
        intro c hc
        rcases List.mem_cons.mp hc with rfl | hc
        · decide
        · exact dy_mem r _ v hv c hc
      · split at hw
        · cases hw
        · obtain ⟨v, hv, rfl⟩ := List.mem_map.mp hw
          intro c hc
          rcases List.mem_cons.mp hc with rfl | hc
          · decide
          · exact dy_mem r _ v hv c hc

/-! the word -/
theorem word3_eq {N : Nat} (h : N < 4096) : (([256, 16, 1] : List Nat).filter fun wt => decide (wt ≤ N)).map (fun wt => (65 + N / wt % 16).toUInt8) = ap N := by
  have hlen := ap_len (N := N) (k := 3) h
  have hdiv := ap_div N
  have hget := ap_get N
  generalize hk : (ap N).length = k at *
  have d0 := hdiv 0
  have d1 := hdiv 1
  have d2 := hdiv 2
  simp only [Nat.pow_zero, Nat.div_one, Nat.pow_one, Nat.reducePow] at d0 d1 d2
  have e0 : decide (1 ≤ N) = decide (0 < k) := by rw [decide_eq_decide]; omega
  have e1 : decide (16 ≤ N) = decide (1 < k) := by rw [decide_eq_decide]; omega
  have e2 : decide (256 ≤ N) = decide (2 < k) := by rw [decide_eq_decide]; omega
  simp only [List.filter_cons, List.filter_nil, e0, e1, e2]
  apply List.ext_getElem?
  intro i
  have hget' : i < k → (ap N)[i]? = some (65 + N / 16 ^ (k - 1 - i) % 16).toUInt8 := hget i
  have hnone : k ≤ i → (ap N)[i]? = Option.none := fun z => List.getElem?_eq_none (by omega)
  have : k = 0 ∨ k = 1 ∨ k = 2 ∨ k = 3 := by omega
  rcases this with rfl | rfl | rfl | rfl
  · rw [hnone (Nat.zero_le _)]; rfl
  · match i with
    | 0 => rw [hget' (by omega)]; rfl
    | i + 1 => rw [hnone (by omega)]; rfl
  · match i with
    | 0 => rw [hget' (by omega)]; rfl
    | 1 => rw [hget' (by omega)]; rfl
    | i + 2 => rw [hnone (by omega)]; rfl
  · match i with
    | 0 => rw [hget' (by omega)]; rfl
    | 1 => rw [hget' (by omega)]; rfl
    | 2 => rw [hget' (by omega)]; rfl
    | i + 3 => rw [hnone (by omega)]; rfl
theorem digs_eq {N : Nat} (h : N < 4096) : (ap N).map (fun c => c.toNat - 65) = digs N := by
  rw [← word3_eq h, List.map_map]
  have e : ([256, 16, 1] : List Nat) = (List.range 3).map fun c => 16 ^ (2 - c) := rfl
  rw [e, List.filter_map, List.map_map]
  unfold digs
  have e2 : ((fun wt => decide (wt ≤ N)) ∘ fun c => 16 ^ (2 - c)) = fun c => decide (N / 16 ^ (2 - c) ≠ 0) := by
    funext c
    simp only [Function.comp]
    rw [decide_eq_decide]
    have hp : 0 < 16 ^ (2 - c) := Nat.pow_pos (by decide)
    generalize 16 ^ (2 - c) = m at hp
    rw [Nat.ne_zero_iff_zero_lt, Nat.div_pos_iff]
    exact ⟨fun h => ⟨hp, h⟩, fun h => h.2⟩
  rw [e2]
  apply List.map_congr_left
  intro c _
  simp only [Function.comp]
  have h2 : N / 16 ^ (2 - c) % 16 < 16 := Nat.mod_lt _ (by decide)
  simp only [Nat.toUInt8, UInt8.toNat_ofNat']
  omega
theorem digs_lt (N : Nat) : ∀ x ∈ digs N, x < 16 := fun x hx => by
  obtain ⟨c, _, rfl⟩ := List.mem_map.mp hx
  exact Nat.mod_lt _ (by decide)
theorem digs_len (N : Nat) : (digs N).length ≤ 3 := by
  unfold digs
  rw [List.length_map]
  exact Nat.le_trans (List.length_filter_le _ _) (by simp)

/-! the dress -/
def dressT (d : Nat) : List (List Nat) := [[], [], [], [], [[92, 40]], [[92, 34]], [[92, 41]], [[34], [40], [34]], [[92, 92]], [[34], [92, 34], [41], [34]]].getD d []
def menuL : List (List Nat) := [[], [], [], [], [92, 40], [92, 34], [92, 41], [34, 40, 34], [92, 92], [34, 92, 34, 41, 34]]
theorem menu_dress : ∀ d, menuL.getD d [] = (dressT d).flatten := fun d => by
  rcases Nat.lt_or_ge d 10 with h | h
  · have : d = 0 ∨ d = 1 ∨ d = 2 ∨ d = 3 ∨ d = 4 ∨ d = 5 ∨ d = 6 ∨ d = 7 ∨ d = 8 ∨ d = 9 := by omega
    rcases this with rfl | rfl | rfl | rfl | rfl | rfl | rfl | rfl | rfl | rfl <;> rfl
  · have h1 : menuL.getD d [] = [] := by rw [List.getD_eq_getElem?_getD, List.getElem?_eq_none (by exact h)]; rfl
    have h2 : dressT d = [] := by unfold dressT; rw [List.getD_eq_getElem?_getD, List.getElem?_eq_none (by exact h)]; rfl
    rw [h1, h2]; rfl
def brkC (s : Nat) : Nat := if s = 1 then 40 else 41
def ct (c : Nat × Nat) : List (List Nat) := dressT c.1 ++ [[brkC c.2]]
theorem dress_cases (P : List (List Nat) → Prop) (d : Nat) (h0 : P []) (h4 : P [[92, 40]]) (h5 : P [[92, 34]]) (h6 : P [[92, 41]]) (h7 : P [[34], [40], [34]]) (h8 : P [[92, 92]]) (h9 : P [[34], [92, 34], [41], [34]]) : P (dressT d) := by
  rcases Nat.lt_or_ge d 10 with h | h
  · have : d = 0 ∨ d = 1 ∨ d = 2 ∨ d = 3 ∨ d = 4 ∨ d = 5 ∨ d = 6 ∨ d = 7 ∨ d = 8 ∨ d = 9 := by omega
    rcases this with rfl | rfl | rfl | rfl | rfl | rfl | rfl | rfl | rfl | rfl <;> assumption
  · have h2 : dressT d = [] := by unfold dressT; rw [List.getD_eq_getElem?_getD, List.getElem?_eq_none (by exact h)]; rfl
    rw [h2]; exact h0
theorem brk_ne (s : Nat) : brkC s ≠ 92 ∧ brkC s ≠ 34 ∧ brkC s < 128 := by unfold brkC; split <;> decide
def uvs (us : List (List Nat)) : List Int := (us.map uv).filter fun v => v != 0
theorem uvs_brk (s : Nat) (r : List (List Nat)) : uvs ([brkC s] :: r) = sg s :: uvs r := by
  unfold uvs uv brkC sg
  by_cases h : s = 1 <;> simp [h]
theorem stp_ct (c : Nat × Nat) (r : List (List Nat)) : uvs (stp false (ct c ++ r)) = sg c.2 :: uvs (stp false r) := by
  unfold ct
  have hb := (brk_ne c.2).2.1
  have hu : ¬ ([brkC c.2] : List Nat) = [34] := by simpa using hb
  have base : uvs (stp false ([brkC c.2] :: r)) = sg c.2 :: uvs (stp false r) := by
    simp only [stp]
    rw [if_neg hu, uvs_brk]
  have un : ∀ x, uvs ([92, x] :: stp false ([brkC c.2] :: r)) = uvs (stp false ([brkC c.2] :: r)) := fun x => by
    simp [uvs, uv]
  refine dress_cases (fun D => uvs (stp false (D ++ [[brkC c.2]] ++ r)) = sg c.2 :: uvs (stp false r)) c.1 base ?_ ?_ ?_ ?_ ?_ ?_
  · rw [← base, ← un 40]; simp [stp]
  · rw [← base, ← un 34]; simp [stp]
  · rw [← base, ← un 41]; simp [stp]
  · rw [← base]; simp [stp]
  · rw [← base, ← un 92]; simp [stp]
  · rw [← base]; simp [stp]
theorem ct_ok (c : Nat × Nat) (r : List (List Nat)) (h : okU r) : okU (ct c ++ r) := by
  unfold ct
  have base : okU ([brkC c.2] :: r) := .inl ⟨.inl ⟨_, (brk_ne c.2).1, rfl⟩, h⟩
  have c1 : ∀ x, x ≠ 92 → cpl [x] := fun x hx => .inl ⟨x, hx, rfl⟩
  have c2 : ∀ x, cpl [92, x] := fun x => .inr ⟨x, rfl⟩
  refine dress_cases (fun D => okU (D ++ [[brkC c.2]] ++ r)) c.1 base (.inl ⟨c2 _, base⟩) (.inl ⟨c2 _, base⟩) (.inl ⟨c2 _, base⟩) (.inl ⟨c1 _ (by decide), .inl ⟨c1 _ (by decide), .inl ⟨c1 _ (by decide), base⟩⟩⟩) (.inl ⟨c2 _, base⟩) (.inl ⟨c1 _ (by decide), .inl ⟨c2 _, .inl ⟨c1 _ (by decide), .inl ⟨c1 _ (by decide), base⟩⟩⟩⟩)
theorem ct_ascii (c : Nat × Nat) : (ct c).flatten.length ≤ 6 ∧ ∀ x ∈ (ct c).flatten, x < 128 := by
  unfold ct
  have hb := (brk_ne c.2).2.2
  refine dress_cases (fun D => (D ++ [[brkC c.2]]).flatten.length ≤ 6 ∧ ∀ x ∈ (D ++ [[brkC c.2]]).flatten, x < 128) c.1 ?_ ?_ ?_ ?_ ?_ ?_ ?_ <;> simp <;> omega
theorem check_chunks (cs : List (Nat × Nat)) : check ((cs.map fun c => (ct c).flatten).flatten) = scan 0 (cs.map fun c => sg c.2) := by
  have hf : (cs.map fun c => (ct c).flatten).flatten = ((cs.map ct).flatten).flatten := by
    induction cs with
    | nil => rfl
    | cons c cs ih => simp [ih]
  have hok : okU (cs.map ct).flatten := by
    induction cs with
    | nil => trivial
    | cons c cs ih =>
      rw [List.map_cons, List.flatten_cons]
      exact ct_ok c _ (ih (by
        clear ih hf
        induction cs with
        | nil => rfl
        | cons c cs ih => simp [ih]))
  rw [hf, check_scan, retok _ _ hok]
  have : ∀ cs : List (Nat × Nat), uvs (stp false (cs.map ct).flatten) = cs.map fun c => sg c.2 := fun cs => by
    induction cs with
    | nil => rfl
    | cons c cs ih => rw [List.map_cons, List.flatten_cons, stp_ct, ih]; rfl
  have h := this cs
  unfold uvs at h
  rw [h]
end Mine

namespace Mine

def dgt (dress p : Nat) : Nat := if p % 3 = 1 then dress / 10 ^ (p / 3) % 10 else 0
def csW (dress : Nat) (w : List Nat) : List (Nat × Nat) := (List.range w.length).map fun p => (dgt dress p, w.getD p 0)
def usW (dress : Nat) (w : List Nat) : List (List Nat) := (csW dress w).map fun c => (ct c).flatten
theorem range_getD (w : List Nat) : ((List.range w.length).map fun p => w.getD p 0) = w := by
  apply List.ext_getElem?
  intro i
  rw [List.getElem?_map]
  rcases Nat.lt_or_ge i w.length with h | h
  · rw [List.getElem?_range h, getD_get h]; rfl
  · rw [List.getElem?_eq_none (by simpa using h), List.getElem?_eq_none h]; rfl
theorem cs_snd (dress : Nat) (w : List Nat) : (csW dress w).map (·.2) = w := by
  unfold csW
  rw [List.map_map]
  exact range_getD w
theorem usW_len (dress : Nat) (w : List Nat) : (usW dress w).length = w.length := by simp [usW, csW]
theorem usW_small (dress : Nat) (w : List Nat) : (∀ u ∈ usW dress w, u.length ≤ 10) ∧ ∀ u ∈ usW dress w, ∀ c ∈ u, c < 128 := by
  constructor <;> intro u hu <;> obtain ⟨c, _, rfl⟩ := List.mem_map.mp hu
  · have := (ct_ascii c).1; omega
  · exact (ct_ascii c).2
theorem sliceL_map {α β : Type} (f : α → β) (l : List α) (a b : Nat) : sliceL (l.map f) a b = (sliceL l a b).map f := by
  unfold sliceL; rw [List.map_take, List.map_drop]
theorem check_slice (dress : Nat) (w : List Nat) (l r : Nat) : check (sliceL (usW dress w) l r).flatten = balS w l r := by
  unfold usW
  rw [sliceL_map, check_chunks, balS_scan]
  have : sliceL w l r = (sliceL (csW dress w) l r).map (·.2) := by rw [← sliceL_map, cs_snd]
  rw [this, List.map_map]
  rfl
theorem slice_len {us : List (List Nat)} (h : ∀ u ∈ us, u.length ≤ 10) (h2 : us.length ≤ 12) (a b : Nat) : (sliceL us a b).flatten.length ≤ 120 ∧ (sliceL us a b).length ≤ 12 := by
  have hl : (sliceL us a b).length ≤ 12 := by unfold sliceL; rw [List.length_take, List.length_drop]; omega
  refine ⟨?_, hl⟩
  have := sum_len_le (m := 10) (ls := sliceL us a b) fun x hx => h x (List.mem_of_mem_drop (List.mem_of_mem_take hx))
  rw [List.length_flatten]
  have h2 := Nat.mul_le_mul_right 10 hl
  omega
theorem slice_asc {us : List (List Nat)} (h : ∀ u ∈ us, ∀ c ∈ u, c < 128) (a b : Nat) : ∀ c ∈ (sliceL us a b).flatten, c < 128 := fun c hc => by
  obtain ⟨u, hu, hc⟩ := List.mem_flatten.mp hc
  exact h u (List.mem_of_mem_drop (List.mem_of_mem_take hu)) c hc
theorem sum_cast : ∀ l : List Nat, (l.map fun n : Nat => (n : Int)).sum = (l.sum : Nat)
  | [] => rfl
  | x :: l => by rw [List.map_cons, List.sum_cons, sum_cast l, List.sum_cons]; omega

structure Okw (w : List Nat) : Prop where
  lt : numW w < 4096
  le : w.length ≤ (bitsW (digs (numW w))).length
  bits : (bitsW (digs (numW w))).drop ((bitsW (digs (numW w))).length - w.length) = w
  perm : ((rightsE w).map fun n : Nat => (n : Int)).Perm (leftsE w (eOut w w.length))
  ends : ∀ k, k < w.length → w.getD k 0 = 1 → 0 ≤ (eOut w w.length).getD k 0 ∧ (eOut w w.length).getD k 0 < w.length
  arch : (aSt w (eOut w w.length) w.length).map PV.int = (archW w).map iN
  alt : ∀ x ∈ archW w, x < w.length
  alen : (archW w).length = w.length
  r0 : (rOut (archW w) 0 w.length).2 = ((digs (numW w)).map fun l => l / 8 + l / 2 % 2).sum
  r1 : (rOut (archW w) 1 w.length).2 = 1 + ((digs (numW w)).map fun l => l / 4 % 2 + l % 2).sum
  torn : ∀ b k, b < w.length → b + k ≤ w.length → balS w b (b + k) = (tornW (archW w) b (b + k) == [])
theorem okw_of {w : List Nat} (hA : okA w = true) (hB : okB w = true) (hC : okC w = true) (hD : okD w = true) : Okw w := by
  unfold okA at hA
  unfold okB at hB
  unfold okC at hC
  unfold okD at hD
  simp only [Bool.and_eq_true, decide_eq_true_eq, beq_iff_eq, List.all_eq_true] at hA hB hC hD
  obtain ⟨⟨a1, a2⟩, a3⟩ := hA
  obtain ⟨⟨b1, b2⟩, b3⟩ := hB
  refine ⟨a1, a2, a3, List.isPerm_iff.mp b1, fun k hk h => b2 k (List.mem_range.mpr hk) h, ?_, ?_, ?_, hC.1, hC.2, ?_⟩
  · unfold archW
    rw [List.map_map]
    apply List.map_congr_left
    intro x hx
    have := (b3 x hx).1
    simp only [Function.comp, iN]
    congr 1; omega
  · intro x hx
    obtain ⟨y, hy, rfl⟩ := List.mem_map.mp hx
    have := b3 y hy
    omega
  · unfold archW
    rw [List.length_map, aSt_len, eOut_len]
  · intro b k hb hk
    rw [whole_torn]
    exact hD b (List.mem_range.mpr hb) k (List.mem_range.mpr (by omega))
theorem okw_row (pairs bits : Nat) (h1 : 4 ≤ pairs) (h2 : pairs ≤ 6) : Okw (rowSt (2 * pairs) bits (2 * pairs)).1 := by
  have hd := row_dy pairs bits
  generalize (rowSt (2 * pairs) bits (2 * pairs)).1 = w at hd
  have : pairs = 4 ∨ pairs = 5 ∨ pairs = 6 := by omega
  rcases this with rfl | rfl | rfl
  · exact okw_of (okA_8 w hd) (okB_8 w hd) (okC_8 w hd) (okD_8 w hd)
  · exact okw_of (okA_10 w hd) (okB_10 w hd) (okC_10 w hd) (okD_10 w hd)
  · exact okw_of (okA_12 w hd) (okB_12 w hd) (okC_12 w hd) (okD_12 w hd)
end Mine

namespace Mine
section
variable {prog : Program} {w : World} {H0 : Heap} {mg mb : PySem.Str → Option Value} {C : Cx}
/-- a sum of natural numbers -/
theorem callX_sumN {n : Nat} {l : List Nat} (hl : l.length < 1000) (hb : ∀ x ∈ l, x ≤ 1000000) : CallX prog w H0 n (.builtin "sum") [.lst (l.map iN)] (iN l.sum) := by
  have := callX_sum (prog := prog) (w := w) (H0 := H0) (n := n) (l := l.map fun n : Nat => (n : Int)) (by rw [List.length_map]; omega) (fun x hx => by
    obtain ⟨y, hy, rfl⟩ := List.mem_map.mp hx
    have := hb y hy
    omega)
  rw [List.map_map, sum_cast] at this
  exact this

set_option maxHeartbeats 4000000 in
theorem law_ok (L : Lib H0 mg mb) (h8 : Has H0 mg 8 "_law_row" ["pairs", "bits"]) (h9 : Has H0 mg 9 "_law_rings" ["arch", "turn"]) (h10 : Has H0 mg 10 "_law_arches" ["units", "signs"]) {a : Addr} (f : Fn H0 a (bodyN 11) (scopeN 11) ["script"]) (n : Nat) (ns : List Int) (hns : ns.length ≤ 63) :
    CallX prog w H0 (n + 5) (.ref a) [.lst (ns.map .int)] (.bool true) := by
  obtain ⟨ar, hmr, hcr, okr⟩ := row_ok (prog := prog) (w := w) L h8 (n + 3)
  obtain ⟨ag, hmg, hcg, okg⟩ := rings_ok (prog := prog) (w := w) L h9 (n + 3)
  obtain ⟨as, hms, hcs, oks⟩ := arches_ok (prog := prog) (w := w) L h10 n
  obtain ⟨an, hmn, hcn, okn⟩ := int2ap_at (prog := prog) (w := w) L (n + 3)
  obtain ⟨ap_, hmp, hcp, okp⟩ := pre_at (prog := prog) (w := w) L n
  refine callX_def L.tf f (by decide +kernel) rfl fun env s X hsc => ?_
  have ktaken : env.kindOf (PySem.Str.ofString "taken") = some .local := kind_of hsc (by decide +kernel)
  have kbits : env.kindOf (PySem.Str.ofString "bits") = some .local := kind_of hsc (by decide +kernel)
  have kpairs : env.kindOf (PySem.Str.ofString "pairs") = some .local := kind_of hsc (by decide +kernel)
  have kdress : env.kindOf (PySem.Str.ofString "dress") = some .cell := kind_of hsc (by decide +kernel)
  have ksize : env.kindOf (PySem.Str.ofString "size") = some .cell := kind_of hsc (by decide +kernel)
  have kbegin : env.kindOf (PySem.Str.ofString "begin") = some .cell := kind_of hsc (by decide +kernel)
  have krow : env.kindOf (PySem.Str.ofString "row") = some .cell := kind_of hsc (by decide +kernel)
  have knumber : env.kindOf (PySem.Str.ofString "number") = some .cell := kind_of hsc (by decide +kernel)
  have kword : env.kindOf (PySem.Str.ofString "word") = some .local := kind_of hsc (by decide +kernel)
  have kletters : env.kindOf (PySem.Str.ofString "letters") = some .local := kind_of hsc (by decide +kernel)
  have ksigns : env.kindOf (PySem.Str.ofString "signs") = some .cell := kind_of hsc (by decide +kernel)
  have kmenu : env.kindOf (PySem.Str.ofString "menu") = some .cell := kind_of hsc (by decide +kernel)
  have kunits : env.kindOf (PySem.Str.ofString "units") = some .cell := kind_of hsc (by decide +kernel)
  have karch : env.kindOf (PySem.Str.ofString "arch") = some .cell := kind_of hsc (by decide +kernel)
  have kbehind : env.kindOf (PySem.Str.ofString "behind") = some .cell := kind_of hsc (by decide +kernel)
  have kpieces : env.kindOf (PySem.Str.ofString "pieces") = some .local := kind_of hsc (by decide +kernel)
  have kdue : env.kindOf (PySem.Str.ofString "due") = some .local := kind_of hsc (by decide +kernel)
  have ktorn : env.kindOf (PySem.Str.ofString "torn") = some .local := kind_of hsc (by decide +kernel)
  have khanded : env.kindOf (PySem.Str.ofString "handed") = some .local := kind_of hsc (by decide +kernel)
  have kkept : env.kindOf (PySem.Str.ofString "kept") = some .local := kind_of hsc (by decide +kernel)
  have gsum : ∀ C : Cx, C.env = env → GName mg mb C (PySem.Str.ofString "sum") (.builtin "sum") := fun C hC => ⟨by rw [hC]; exact kind_of hsc (by decide +kernel), .inr (L.bi _ _ (by simp [biTable]))⟩
  have grange : ∀ C : Cx, C.env = env → GName mg mb C (PySem.Str.ofString "range") (.type "range") := fun C hC => ⟨by rw [hC]; exact kind_of hsc (by decide +kernel), .inr (L.bi _ _ (by simp [biTable]))⟩
  have glen : ∀ C : Cx, C.env = env → GName mg mb C (PySem.Str.ofString "len") (.builtin "len") := fun C hC => ⟨by rw [hC]; exact kind_of hsc (by decide +kernel), .inr (L.bi _ _ (by simp [biTable]))⟩
  have glist : ∀ C : Cx, C.env = env → GName mg mb C (PySem.Str.ofString "list") (.type "list") := fun C hC => ⟨by rw [hC]; exact kind_of hsc (by decide +kernel), .inr (L.bi _ _ (by simp [biTable]))⟩
  have gbytes : ∀ C : Cx, C.env = env → GName mg mb C (PySem.Str.ofString "bytes") (.type "bytes") := fun C hC => ⟨by rw [hC]; exact kind_of hsc (by decide +kernel), .inr (L.bi _ _ (by simp [biTable]))⟩
  have gInt2AP : ∀ C : Cx, C.env = env → GName mg mb C (PySem.Str.ofString "Int2AP") (.ref an) := fun C hC => ⟨by rw [hC]; exact kind_of hsc (by decide +kernel), .inl hmn⟩
  have grow : ∀ C : Cx, C.env = env → GName mg mb C (PySem.Str.ofString "_law_row") (.ref ar) := fun C hC => ⟨by rw [hC]; exact kind_of hsc (by decide +kernel), .inl hmr⟩
  have grings : ∀ C : Cx, C.env = env → GName mg mb C (PySem.Str.ofString "_law_rings") (.ref ag) := fun C hC => ⟨by rw [hC]; exact kind_of hsc (by decide +kernel), .inl hmg⟩
  have garches : ∀ C : Cx, C.env = env → GName mg mb C (PySem.Str.ofString "_law_arches") (.ref as) := fun C hC => ⟨by rw [hC]; exact kind_of hsc (by decide +kernel), .inl hms⟩
  have gpre : ∀ C : Cx, C.env = env → GName mg mb C (PySem.Str.ofString "_pre_parse_validation") (.ref ap_) := fun C hC => ⟨by rw [hC]; exact kind_of hsc (by decide +kernel), .inl hmp⟩
  have hfun : env.scope.kind = .function := by rw [hsc]; rfl
  generalize hb : bodyN 11 = body
  simp only [bodyN, bodyIn, nthS, TX, PySem.Challenge.pw_pk0038_02] at hb
  subst hb
  -- the draws
  refine run_seq (st_assign (p := .lst ((ns.take 60).map .int)) (ev_eq (ev_new (evF_slice (l := ns.map .int) (ev_n (p := .lst (ns.map .int))) evP_none (evP_some (b := true) ev_int) evP_none (by decide) (by rw [List.length_map]; omega))) (by rw [pick_map]; exact congrArg (fun l => PV.lst (l.map .int)) (pick_b ns 60))) (.inl ktaken)) ?_
  rintro C' rfl -
  have htl : (ns.take 60).length ≤ 60 := by rw [List.length_take]; omega
  generalize ns.take 60 = taken at htl ⊢
  have hA := draw_lt 13 0 4 taken (M := 2048) (by decide)
  have hP := draw_lt 1 1 4 taken (M := 3) (by decide)
  have hD := draw_lt 9647 2 4 taken (M := 10000) (by decide)
  refine run_seq (st_assign (p := iN (draw 13 2048 0 4 taken).toNat) (ev_eq (ev_draw (scope := scopeN 11) L.tf (gsum _ rfl) hsc (by decide +kernel) (by decide) (by decide) (by decide) (mem_look (by kernel_rfl!)) htl) (by rw [iN, Int.toNat_of_nonneg hA.1])) (.inl kbits)) ?_
  rintro C' rfl -
  refine run_seq (st_assign (p := iN (4 + (draw 1 3 1 4 taken).toNat)) (ev_eq (ev_addI (b1 := true) (b2 := true) ev_int (ev_draw (scope := scopeN 11) L.tf (gsum _ rfl) hsc (by decide +kernel) (by decide) (by decide) (by decide) (mem_look (by kernel_rfl!)) htl)) (by show PV.int _ = PV.int _; congr 1; omega)) (.inl kpairs)) ?_
  rintro C' rfl -
  refine run_seq (st_assignCell (p := iN (draw 9647 10000 2 4 taken).toNat) (ev_eq (ev_draw (scope := scopeN 11) L.tf (gsum _ rfl) hsc (by decide +kernel) (by decide) (by decide) (by decide) (mem_look (by kernel_rfl!)) htl) (by rw [iN, Int.toNat_of_nonneg hD.1])) kdress) ?_
  rintro C' rfl -
  have hP4 : 4 ≤ 4 + (draw 1 3 1 4 taken).toNat := by omega
  have hP6 : 4 + (draw 1 3 1 4 taken).toNat ≤ 6 := by omega
  have hD' : (draw 9647 10000 2 4 taken).toNat < 10000 := by omega
  generalize (draw 13 2048 0 4 taken).toNat = bits
  generalize 4 + (draw 1 3 1 4 taken).toNat = pairs at hP4 hP6 ⊢
  generalize (draw 9647 10000 2 4 taken).toNat = dress at hD' ⊢
  clear hA hP hD
  refine run_seq (st_assignCell (p := iN (2 * pairs)) (ev_eq (ev_mulL (b1 := true) (b2 := true) ev_int (ev_n (p := iN pairs)) (by decide) (by decide)) (by show PV.int _ = PV.int _; congr 1)) ksize) ?_
  rintro C' rfl -
  generalize hZ : 2 * pairs = Z
  have hZ8 : 8 ≤ Z := by omega
  have hZ12 : Z ≤ 12 := by omega
  -- where the stretches begin
  have hB0 : (0 : Int) < (Z : Int) := by omega
  have hpl : (pick taken (some 3) Option.none (some 4)).length ≤ 60 := Nat.le_trans (pick_length_le _ _ _ _) htl
  have hB := draw_lt 1 3 4 taken (M := (Z : Int)) hB0
  refine run_seq (st_assignCell (p := iN (draw 1 Z 3 4 taken).toNat) (ev_eq (ev_modI (b1 := true) (b2 := true) (ev_addI (b1 := true) (b2 := true) ev_int (ev_call (b := true) L.tf (gsum _ rfl) (.inl ⟨_, rfl⟩) (evs_cons (ev_new (evF_eq (evF_compG (scopeN 11) PV.int unInt (fun _ => rfl) (pick taken (some 3) Option.none (some 4)) (fun _ => true) (fun x => .int (x % (Z : Int))) ["size"] [("size", iN Z)] [] (evIt_lst (ev_eq (ev_new (evF_slice (l := taken.map .int) (ev_n (p := .lst (taken.map .int))) (evP_some (b := true) ev_int) evP_none (evP_some (b := true) ev_int) (by decide) (by rw [List.length_map]; omega))) (congrArg PV.lst (pick_map _ _ _ _ _)))) (by omega) hsc (by decide +kernel) rfl (map_look (by kernel_rfl!)) (by simp) (fun env D p _ _ => tests_nil) (fun env2 D x hx _ he => ev_modI (b1 := true) (b2 := true) (ev_n (p := .int x)) (ev_n (p := iN Z)) hB0)) (q := ((pick taken (some 3) Option.none (some 4)).map (· % (Z : Int))).map .int) ?_)) evs_nil) (callX_sum ?_ ?_))) (ev_n (p := iN Z)) hB0) (by rw [iN, Int.toNat_of_nonneg hB.1]; rfl)) kbegin) ?_
  · rw [List.filter_eq_self.mpr (by simp), List.map_map]; rfl
  · rw [List.length_map]; omega
  · intro x hx
    obtain ⟨y, _, rfl⟩ := List.mem_map.mp hx
    have := Int.emod_nonneg y (b := (Z : Int)) (by omega)
    have := Int.emod_lt_of_pos y hB0
    omega
  rintro C' rfl -
  have hbg : (draw 1 Z 3 4 taken).toNat < Z := by omega
  generalize (draw 1 Z 3 4 taken).toNat = bg at hbg ⊢
  clear hB
  -- the row
  have okw := okw_row pairs bits hP4 hP6
  have hwl : (rowSt (2 * pairs) bits (2 * pairs)).1.length = Z := by rw [rowSt_len]; exact hZ
  refine run_seq (st_assignCell (ev_call (b := true) L.tf (grow _ rfl) hcr (evs_cons (ev_n (p := iN pairs)) (evs_cons (ev_n (p := iN bits)) evs_nil)) (okr pairs bits (by omega))) krow) ?_
  rintro C' rfl -
  have hd := row_dy pairs bits
  have h01 := dy_mem _ _ _ hd
  generalize (rowSt (2 * pairs) bits (2 * pairs)).1 = W at okw hwl h01 ⊢
  have hget : ∀ i, i < Z → W[i]? = some (W.getD i 0) := fun i hi => getD_get (by omega)
  have h01' : ∀ i, i < Z → W.getD i 0 < 2 := fun i hi => h01 _ (List.mem_of_getElem? (hget i hi))
  have hN := okw.lt
  have hNdef : numW W = ((List.range Z).map fun p => W.getD p 0 * 2 ^ (Z - 1 - p)).sum := by unfold numW; rw [hwl]
  have hpw : ∀ p, 2 ^ (Z - 1 - p) ≤ 2048 := fun p => Nat.le_trans (Nat.pow_le_pow_right (by decide) (show Z - 1 - p ≤ 11 by omega)) (by decide)
  have hsumN : CallX prog w H0 (n + 4) (.builtin "sum") [.lst (((List.range Z).map fun p => W.getD p 0 * 2 ^ (Z - 1 - p)).map iN)] (iN (numW W)) := by
    rw [hNdef]
    refine callX_sumN (by rw [List.length_map, List.length_range]; omega) (fun x hx => ?_)
    obtain ⟨p, hp, rfl⟩ := List.mem_map.mp hx
    have hp : p < Z := by simpa using hp
    have h1 := h01' p hp
    have h2 := hpw p
    have h3 := Nat.mul_le_mul (show W.getD p 0 ≤ 1 by omega) h2
    omega
  refine run_seq (st_assignCell (p := iN (numW W)) (ev_call (b := true) L.tf (gsum _ rfl) (.inl ⟨_, rfl⟩) (evs_cons (ev_new (evF_eq (evF_compG (scopeN 11) iN unNat unNat_iN (List.range Z) (fun _ => true) (fun p => iN (W.getD p 0 * 2 ^ (Z - 1 - p))) ["row", "size"] [("row", .lst (W.map iN)), ("size", iN Z)] [] (evIt_rangeN L.tf (grange _ rfl) (b := true) (ev_n (p := iN Z)) (by omega)) (by rw [List.length_range]; omega) hsc (by decide +kernel) rfl (map_look (by kernel_rfl!)) (by simp) (fun env D p _ _ => tests_nil) (fun env2 D p hp _ he => ?_)) (q := ((List.range Z).map fun p => W.getD p 0 * 2 ^ (Z - 1 - p)).map iN) ?_)) evs_nil) hsumN) knumber) ?_
  · have hp : p < Z := by simpa using hp
    have e1 : (Z : Int) - 1 - (p : Int) = ((Z - 1 - p : Nat) : Int) := by omega
    have e2 : (2 : Int) ^ (Z - 1 - p) = ((2 ^ (Z - 1 - p) : Nat) : Int) := by simp
    have hpp := hpw p
    refine ev_eq (ev_mulR (b1 := true) (b2 := true) (p := (W.getD p 0 : Int)) (q := ((2 ^ (Z - 1 - p) : Nat) : Int)) (ev_idxN (f := iN) (l := W) (b2 := true) ev_n (ev_n (p := iN p)) (hget p hp) (by omega)) (ev_eq (ev_powI (b1 := true) (b2 := true) (k := Z - 1 - p) ev_int (ev_subI (b1 := true) (b2 := true) (ev_subI (b1 := true) (b2 := true) (ev_n (p := iN Z)) ev_int) (ev_n (p := iN p))) e1 (by omega)) (by rw [e2])) (Int.le_trans (by decide) (Int.natCast_nonneg _)) (Int.le_trans (Int.ofNat_le.mpr hpp) (by decide))) ?_
    show PV.int _ = PV.int _
    congr 1
  · rw [List.filter_eq_self.mpr (by simp), List.map_map]; rfl
  rintro C' rfl -
  generalize hNN : numW W = N at hN
  -- the word
  have hNn : (-(N : Int)).natAbs = N := by omega
  refine run_seq (st_assign (p := .bytes (ap N)) (ev_eq (ev_call (b := true) L.tf (gInt2AP _ rfl) hcn (evs_cons (ev_neg (b1 := true) (ev_n (p := .int N))) evs_nil) (okn (-(N : Int)) (by rw [hNn]; exact Nat.lt_of_lt_of_le hN (by decide)))) (by rw [hNn])) (.inl kword)) ?_
  rintro C' rfl -
  refine run_if (r := false) (M := fun C'' => C'' = _) (bt_eq (bt_cmp (b1 := true) (b2 := true) (q := .bytes (ap N)) (ev_n (p := .bytes (ap N))) (ev_call (b := true) L.tf (gbytes _ rfl) (.inr (.inl ⟨_, rfl⟩)) (evs_cons (ev_new (evF_eq (evF_compG (scopeN 11) iN unNat unNat_iN [256, 16, 1] (fun wt => decide (wt ≤ N)) (fun wt => .int (65 + ((N / wt % 16 : Nat) : Int))) ["number"] [("number", iN N)] [] (evIt_tup (ev_tuple (evs_cons ev_int (evs_cons ev_int (evs_cons ev_int evs_nil))))) (by simp) hsc (by decide +kernel) rfl (map_look (by kernel_rfl!)) (by simp) (fun env2 D wt hwt he => ?_) (fun env2 D wt hwt _ he => ?_)) (q := ((([256, 16, 1] : List Nat).filter fun wt => decide (wt ≤ N)).map fun wt => 65 + ((N / wt % 16 : Nat) : Int)).map .int) ?_)) evs_nil) ?_) cm_neb) (by simp)) (fun h => by cases h) (fun _ => run_nil rfl) ?_
  · exact tests_one (bt_eq (bt_cmp (b1 := true) (b2 := true) (ev_n (p := iN wt)) (ev_n (p := iN N)) cm_le) (by rw [decide_eq_decide]; omega))
  · have hwt : wt = 256 ∨ wt = 16 ∨ wt = 1 := by simpa using hwt
    exact ev_eq (ev_addI (b1 := true) (b2 := true) ev_int (ev_modI (b1 := true) (b2 := true) (ev_divI (b1 := true) (b2 := true) (ev_n (p := iN N)) (ev_n (p := iN wt)) (by omega) (by omega)) ev_int)) (by simp)
  · rw [List.map_map]; rfl
  · have := callX_bytes (prog := prog) (w := w) (H0 := H0) (n := n + 4) (l := (([256, 16, 1] : List Nat).filter fun wt => decide (wt ≤ N)).map fun wt => 65 + ((N / wt % 16 : Nat) : Int)) (by
      rw [List.length_map]
      exact Nat.lt_of_le_of_lt (List.length_filter_le _ _) (by simp)) (fun x hx => by
      obtain ⟨wt, _, rfl⟩ := List.mem_map.mp hx
      have : N / wt % 16 < 16 := Nat.mod_lt _ (by decide)
      omega)
    have e : ((([256, 16, 1] : List Nat).filter fun wt => decide (wt ≤ N)).map fun wt => 65 + ((N / wt % 16 : Nat) : Int)).map (fun x => x.toNat.toUInt8) = ap N := by
      rw [List.map_map, ← word3_eq hN]
      apply List.map_congr_left
      intro wt _
      show ((65 + ((N / wt % 16 : Nat) : Int)).toNat).toUInt8 = _
      congr 1
    rw [e] at this
    exact this
  rintro C' rfl -
  -- the letters
  have hapl := ap_len (N := N) (k := 3) hN
  refine run_seq (st_assignCompG (scopeN 11) (fun c : UInt8 => PV.int c.toNat) (fun p => (unNat p).toUInt8) (fun c => by simp [unNat]) (ap N) (fun _ => true) (fun c => iN (c.toNat - 65)) [] [] [] (evIt_bytes (b := true) (ev_n (p := .bytes (ap N)))) (by omega) hsc (by decide +kernel) rfl (by simp) (by simp) (fun env D p _ _ => tests_nil) (fun env2 D c hc _ he => ?_) (.inl kletters) (swaps_local kletters hfun rfl (by decide +kernel))) ?_
  · have := ap_ge N c hc
    exact ev_eq (ev_subI (b1 := true) (b2 := true) (ev_n (p := .int c.toNat)) ev_int) (by show PV.int _ = PV.int _; congr 1; omega)
  rintro C' rfl -
  rw [show ((ap N).filter fun _ => true).map (fun c => iN (c.toNat - 65)) = (digs N).map iN by rw [List.filter_eq_self.mpr (by simp), ← digs_eq hN, List.map_map]; rfl]
  have hdl := digs_len N
  have hdx := digs_lt N
  have hbl : (bitsW (digs N)).length ≤ 12 := by
    unfold bitsW
    generalize digs N = ds at hdl
    match ds, hdl with
    | [], _ => simp
    | [a], _ => simp
    | [a, b], _ => simp
    | [a, b, c], _ => simp
    | a :: b :: c :: d :: r, h => simp at h
  -- the signs
  refine run_seq (st_assignCell (p := .lst ((bitsW (digs N)).map iN)) (ev_new (evF_eq (evF_two (items := (digs N).map iN) (items2 := [8, 4, 2, 1].map iN) (scopeN 11) (fun p q => iN (unNat p / unNat q % 2)) [] [] (evIt_lst (ev_n (p := .lst ((digs N).map iN)))) (by simp; omega) hsc (by decide +kernel) rfl (by decide) (by simp) (by simp) (by simp) (fun env2 D p hp he => evIt_tup (ev_tuple (evs_cons ev_int (evs_cons ev_int (evs_cons ev_int (evs_cons ev_int evs_nil)))))) (fun env2 D p q hp hq he => ?_)) ?_)) ksigns) ?_
  · obtain ⟨x, hx, rfl⟩ := List.mem_map.mp hp
    obtain ⟨y, hy, rfl⟩ := List.mem_map.mp hq
    have hy : y = 8 ∨ y = 4 ∨ y = 2 ∨ y = 1 := by simpa using hy
    rw [unNat_iN, unNat_iN]
    exact ev_eq (ev_modI (b1 := true) (b2 := true) (ev_divI (b1 := true) (b2 := true) (ev_n (p := iN x)) (ev_n (p := iN y)) (by omega) (by omega)) ev_int) (by simp)
  · unfold bitsW
    rw [List.flatMap_map, List.map_flatMap]
    congr 1
  rintro C' rfl -
  have hble : Z ≤ (bitsW (digs N)).length := by have := okw.le; rw [hNN, hwl] at this; exact this
  refine run_seq (st_assignCell (p := .lst (W.map iN)) (ev_new (evF_eq (evF_slice (l := (bitsW (digs N)).map iN) (i := some (((bitsW (digs N)).length - Z : Nat) : Int)) (j := Option.none) (k := Option.none) ev_n (evP_some (b := true) (ev_eq (ev_subI (b1 := true) (b2 := true) (ev_call (b := true) L.tf (glen _ rfl) (.inl ⟨_, rfl⟩) (evs_cons (ev_n (p := .lst ((bitsW (digs N)).map iN))) evs_nil) (callX_len (by rw [List.length_map]; omega))) (ev_n (p := iN Z))) (by rw [List.length_map]; show PV.int _ = PV.int _; congr 1; omega))) evP_none evP_none (by decide) (by rw [List.length_map]; omega)) ?_)) ksigns) ?_
  · rw [pick_map, pick_a _ _ (by omega)]
    have := okw.bits
    rw [hNN, hwl] at this
    rw [this]
  rintro C' rfl -
  -- the units
  refine @run_seq prog w H0 _ _ _ _ _ _ (@st_assignCell prog w H0 _ _ _ _ _ (.tup (menuL.map .str)) ?_ kmenu) ?_
  · exact ev_eq (q := .tup (menuL.map .str)) (ev_tuple (evs_cons (ev_str (l := [])) (evs_cons (ev_str (l := [])) (evs_cons (ev_str (l := [])) (evs_cons (ev_str (l := [])) (evs_cons (ev_str (l := [92, 40])) (evs_cons (ev_str (l := [92, 34])) (evs_cons (ev_str (l := [92, 41])) (evs_cons (ev_str (l := [34, 40, 34])) (evs_cons (ev_str (l := [92, 92])) (evs_cons (ev_str (l := [34, 92, 34, 41, 34])) evs_nil))))))))))) rfl
  rintro C' rfl -
  refine run_seq (st_assignCell (p := .lst (((List.range Z).map fun p => menuL.getD (dgt dress p) []).map .str)) (ev_new (evF_eq (evF_compG (scopeN 11) iN unNat unNat_iN (List.range Z) (fun _ => true) (fun p => .str (menuL.getD (dgt dress p) [])) ["menu", "dress"] [("menu", .tup (menuL.map .str)), ("dress", iN dress)] [] (evIt_rangeN L.tf (grange _ rfl) (b := true) (ev_n (p := iN Z)) (by omega)) (by rw [List.length_range]; omega) hsc (by decide +kernel) rfl (map_look (by kernel_rfl!)) (by simp) (fun env D p _ _ => tests_nil) (fun env2 D p hp _ he => ?_)) ?_)) kunits) ?_
  · have hp : p < Z := by simpa using hp
    refine ev_ife (r := decide (p % 3 = 1)) (bt_eq (bt_cmp (b1 := true) (b2 := true) (ev_modI (b1 := true) (b2 := true) (ev_n (p := iN p)) ev_int) ev_int cm_eq) (by rw [Bool.eq_iff_iff]; simp; omega)) (fun h => ?_) (fun h => ?_)
    · have h' : p % 3 = 1 := by simpa using h
      have hdd : dgt dress p = dress / 10 ^ (p / 3) % 10 := by unfold dgt; rw [if_pos h']
      rw [hdd]
      have hpow : (10 : Int) ^ (p / 3) = ((10 ^ (p / 3) : Nat) : Int) := by simp
      have hpp : 0 < 10 ^ (p / 3) := Nat.pow_pos (by decide)
      have hpb : 10 ^ (p / 3) < 1073741824 := Nat.lt_of_le_of_lt (Nat.pow_le_pow_right (by decide) (show p / 3 ≤ 5 by omega)) (by decide)
      have hlt : dress / 10 ^ (p / 3) % 10 < 10 := Nat.mod_lt _ (by decide)
      refine ev_idxT (b2 := true) (l := menuL.map .str) (i := ((dress / 10 ^ (p / 3) % 10 : Nat) : Int)) ev_n (ev_eq (ev_modI (b1 := true) (b2 := true) (ev_divI (b1 := true) (b2 := true) (q := ((10 ^ (p / 3) : Nat) : Int)) (ev_n (p := iN dress)) (ev_eq (ev_powI (b1 := true) (b2 := true) (k := p / 3) (q := ((p / 3 : Nat) : Int)) ev_int (ev_eq (ev_divI (b1 := true) (b2 := true) (ev_n (p := iN p)) ev_int) (by simp)) rfl (by omega)) (by rw [hpow])) (by omega) (by omega)) ev_int) (by simp)) ?_ (by simp [menuL])
      rw [pidx_nat, List.getElem?_map]
      have hml : dress / 10 ^ (p / 3) % 10 < menuL.length := hlt
      rw [List.getD_eq_getElem?_getD, List.getElem?_eq_getElem hml]
      rfl
    · have h' : ¬ p % 3 = 1 := by simpa using h
      have hdd : dgt dress p = 0 := by unfold dgt; rw [if_neg h']
      rw [hdd]
      exact ev_str (l := [])
  · rw [List.filter_eq_self.mpr (by simp), List.map_map]; rfl
  rintro C' rfl -
  have husl := usW_len dress W
  have hus := usW_small dress W
  refine run_seq (st_assignCell (p := .lst ((usW dress W).map .str)) (ev_new (evF_eq (evF_compG (scopeN 11) iN unNat unNat_iN (List.range Z) (fun _ => true) (fun p => .str (ct (dgt dress p, W.getD p 0)).flatten) ["units", "signs"] [("units", .lst (((List.range Z).map fun p => menuL.getD (dgt dress p) []).map .str)), ("signs", .lst (W.map iN))] [] (evIt_rangeN L.tf (grange _ rfl) (b := true) (ev_n (p := iN Z)) (by omega)) (by rw [List.length_range]; omega) hsc (by decide +kernel) rfl (map_look (by kernel_rfl!)) (by simp) (fun env D p _ _ => tests_nil) (fun env2 D p hp _ he => ?_)) ?_)) kunits) ?_
  · have hp : p < Z := by simpa using hp
    have hfl : (ct (dgt dress p, W.getD p 0)).flatten = menuL.getD (dgt dress p) [] ++ [brkC (W.getD p 0)] := by
      unfold ct
      rw [List.flatten_append, menu_dress]
      rfl
    have hml : (menuL.getD (dgt dress p) []).length ≤ 5 := by
      have := (ct_ascii (dgt dress p, W.getD p 0)).1
      rw [hfl, List.length_append, List.length_cons, List.length_nil] at this
      omega
    rw [hfl]
    refine ev_bin (b1 := true) (b2 := true) (ev_idxN (f := .str) (l := (List.range Z).map fun p => menuL.getD (dgt dress p) []) (b2 := true) ev_n (ev_n (p := iN p)) (by rw [List.getElem?_map, List.getElem?_range hp]; rfl) (by rw [List.length_map, List.length_range]; omega)) (ev_ife (p := .str [brkC (W.getD p 0)]) (r := decide (W.getD p 0 = 1)) (bt_eq (bt_cmp (b1 := true) (b2 := true) (ev_idxN (f := iN) (l := W) (b2 := true) ev_n (ev_n (p := iN p)) (hget p hp) (by omega)) ev_int cm_eq) (by rw [Bool.eq_iff_iff]; simp only [beq_iff_eq, decide_eq_true_eq]; omega)) (fun h => ?_) (fun h => ?_)) (op_adds (by rw [List.length_cons, List.length_nil]; omega))
    · have h' : W.getD p 0 = 1 := by simpa using h
      have : brkC (W.getD p 0) = 40 := by unfold brkC; rw [if_pos h']
      rw [this]; exact ev_str (l := [40])
    · have h' : ¬ W.getD p 0 = 1 := by simpa using h
      have : brkC (W.getD p 0) = 41 := by unfold brkC; rw [if_neg h']
      rw [this]; exact ev_str (l := [41])
  · rw [List.filter_eq_self.mpr (by simp)]
    unfold usW csW
    rw [List.map_map, List.map_map, hwl]
    rfl
  rintro C' rfl -
  -- the arches
  have hchs := fun l r => check_slice dress W l r
  generalize usW dress W = us at husl hus hchs
  have hslc := fun b e => slice_len hus.1 (by omega) b e
  have hsla := fun b e => slice_asc hus.2 b e
  refine run_seq (st_assignCell (p := .lst ((archW W).map iN)) (ev_eq (ev_call (b := true) L.tf (garches _ rfl) hcs (evs_cons (ev_n (p := .lst (us.map .str))) (evs_cons (ev_n (p := .lst (W.map iN))) evs_nil)) (oks us W husl (by omega) hus.1 hus.2 (fun l r _ _ => hchs l (r + 1)) okw.perm okw.ends)) (by rw [okw.arch])) karch) ?_
  rintro C' rfl -
  have hal := okw.alen
  have halt := okw.alt
  have har0 := okw.r0
  have har1 := okw.r1
  have htorn := okw.torn
  rw [hNN] at har0 har1
  rw [hwl] at hal halt har0 har1 htorn
  generalize archW W = A at hal halt har0 har1 htorn
  have hAget : ∀ i, i < Z → A[i]? = some (A.getD i 0) := fun i hi => getD_get (by omega)
  have hAne : A ≠ [] := fun h => by rw [h] at hal; simp at hal; omega
  refine run_if (r := false) (M := fun C'' => C'' = _) (bt_eq (bt_cmp (b1 := true) (b2 := true) (ev_n (p := .lst (A.map iN))) (ev_new (evF_list evs_nil)) (cm_eqN (ys := []))) (by rw [beq_eq_false_iff_ne]; exact hAne)) (fun h => by cases h) (fun _ => run_nil rfl) ?_
  rintro C' rfl -
  -- the rings
  refine run_if (r := false) (M := fun C'' => C'' = _) (bt_eq (bt_cmp (b1 := true) (b2 := true) (p := iN (rOut A 0 Z).2) (q := iN ((digs N).map fun l => l / 8 + l / 2 % 2).sum) (ev_eq (ev_call (b := true) L.tf (grings _ rfl) hcg (evs_cons (ev_n (p := .lst (A.map iN))) (evs_cons (ev_eq (q := iN 0) ev_int rfl) evs_nil)) (okg A 0 (by omega) (by omega) (by rw [hal]; exact halt))) (by rw [hal])) (ev_call (b := true) L.tf (gsum _ rfl) (.inl ⟨_, rfl⟩) (evs_cons (ev_new (evF_eq (evF_compG (scopeN 11) iN unNat unNat_iN (digs N) (fun _ => true) (fun l => iN (l / 8 + l / 2 % 2)) [] [] [] (evIt_lst (ev_n (p := .lst ((digs N).map iN)))) (by omega) hsc (by decide +kernel) rfl (by simp) (by simp) (fun env D p _ _ => tests_nil) (fun env2 D l hl _ he => ?_)) (q := ((digs N).map fun l => l / 8 + l / 2 % 2).map iN) ?_)) evs_nil) (callX_sumN (by rw [List.length_map]; omega) (fun x hx => ?_))) cm_ne) (by rw [har0]; simp)) (fun h => by cases h) (fun _ => run_nil rfl) ?_
  · exact ev_eq (ev_addI (b1 := true) (b2 := true) (ev_divI (b1 := true) (b2 := true) (ev_n (p := iN l)) ev_int) (ev_modI (b1 := true) (b2 := true) (ev_divI (b1 := true) (b2 := true) (ev_n (p := iN l)) ev_int) ev_int)) (by simp)
  · rw [List.filter_eq_self.mpr (by simp), List.map_map]; rfl
  · obtain ⟨l, hl, rfl⟩ := List.mem_map.mp hx
    have := hdx l hl
    omega
  rintro C' rfl -
  refine run_if (r := false) (M := fun C'' => C'' = _) (bt_eq (bt_cmp (b1 := true) (b2 := true) (p := iN (rOut A 1 Z).2) (q := .int (1 + (((digs N).map fun l => l / 4 % 2 + l % 2).sum : Nat))) (ev_eq (ev_call (b := true) L.tf (grings _ rfl) hcg (evs_cons (ev_n (p := .lst (A.map iN))) (evs_cons (ev_eq (q := iN 1) ev_int rfl) evs_nil)) (okg A 1 (by omega) (by omega) (by rw [hal]; exact halt))) (by rw [hal])) (ev_addI (b1 := true) (b2 := true) ev_int (ev_call (b := true) (p := iN ((digs N).map fun l => l / 4 % 2 + l % 2).sum) L.tf (gsum _ rfl) (.inl ⟨_, rfl⟩) (evs_cons (ev_new (evF_eq (evF_compG (scopeN 11) iN unNat unNat_iN (digs N) (fun _ => true) (fun l => iN (l / 4 % 2 + l % 2)) [] [] [] (evIt_lst (ev_n (p := .lst ((digs N).map iN)))) (by omega) hsc (by decide +kernel) rfl (by simp) (by simp) (fun env D p _ _ => tests_nil) (fun env2 D l hl _ he => ?_)) (q := ((digs N).map fun l => l / 4 % 2 + l % 2).map iN) ?_)) evs_nil) (callX_sumN (by rw [List.length_map]; omega) (fun x hx => ?_)))) cm_ne) (by rw [har1]; simp)) (fun h => by cases h) (fun _ => run_nil rfl) ?_
  · exact ev_eq (ev_addI (b1 := true) (b2 := true) (ev_modI (b1 := true) (b2 := true) (ev_divI (b1 := true) (b2 := true) (ev_n (p := iN l)) ev_int) ev_int) (ev_modI (b1 := true) (b2 := true) (ev_n (p := iN l)) ev_int)) (by simp)
  · rw [List.filter_eq_self.mpr (by simp), List.map_map]; rfl
  · obtain ⟨l, hl, rfl⟩ := List.mem_map.mp hx
    omega
  rintro C' rfl -
  -- the pieces
  refine run_seq (st_assignCompG (scopeN 11) iN unNat unNat_iN (rng bg (Z + 1)) (fun _ => true) (fun e => .str (sliceL us bg e).flatten) ["begin", "units"] [("begin", iN bg), ("units", .lst (us.map .str))] [] (evIt_rng (b := true) L.tf (grange _ rfl) (ev_n (p := iN bg)) (ev_eq (ev_addI (b1 := true) (b2 := true) (ev_n (p := iN Z)) ev_int) rfl) (by omega) (by omega)) (by rw [rng_len]; omega) hsc (by decide +kernel) rfl (map_look (by kernel_rfl!)) (by simp) (fun env D p _ _ => tests_nil) (fun env2 D e he' _ he => ?_) (.inl kpieces) (swaps_local kpieces hfun rfl (by decide +kernel))) ?_
  · obtain ⟨e1, e2⟩ := mem_rng.mp he'
    obtain ⟨s1, s2⟩ := hslc bg e
    refine ev_join (b := true) (ls := sliceL us bg e) (ev_str (l := [])) (ev_new (evF_eq (evF_slice (l := us.map .str) (i := some ((bg : Nat) : Int)) (j := some ((e : Nat) : Int)) (k := Option.none) ev_n (evP_some (b := true) (ev_n (p := iN bg))) (evP_some (b := true) (ev_n (p := iN e))) evP_none (by decide) (by rw [List.length_map]; omega)) ?_)) ?_
    · rw [pick_map]
      congr 1
      exact pick_ab us bg e e1 (by omega)
    · rw [List.length_flatten] at s1; omega
  rintro C' rfl -
  have hPP : ((rng bg (Z + 1)).filter fun _ => true).map (fun e => PV.str (sliceL us bg e).flatten) = ((rng bg (Z + 1)).map fun e => (sliceL us bg e).flatten).map .str := by
    rw [List.filter_eq_self.mpr (by simp), List.map_map]; rfl
  rw [hPP]
  generalize hPd : ((rng bg (Z + 1)).map fun e => (sliceL us bg e).flatten) = PP
  have hPl : PP.length = Z + 1 - bg := by rw [← hPd, List.length_map, rng_len]
  have hPg : ∀ j, j < Z + 1 - bg → PP[j]? = some (sliceL us bg (bg + j)).flatten := fun j hj => by rw [← hPd, List.getElem?_map, rng_get hj]; rfl
  have hPm : ∀ l ∈ PP, ∃ e, l = (sliceL us bg e).flatten := fun l hl => by
    rw [← hPd] at hl
    obtain ⟨e, _, rfl⟩ := List.mem_map.mp hl
    exact ⟨e, rfl⟩
  have hP1 : ∀ l ∈ PP, l.length < 500 := fun l hl => by obtain ⟨e, rfl⟩ := hPm l hl; have := (hslc bg e).1; omega
  have hP2 : ∀ l ∈ PP, ∀ c ∈ l, c < 128 := fun l hl => by obtain ⟨e, rfl⟩ := hPm l hl; exact hsla bg e
  refine run_seq (st_assignOwn (evF_list evs_nil) (.inl kdue)) ?_
  rintro C' ⟨ad, rfl⟩ -
  refine run_forRng (m := bg) (n := Z + 1) (fun j => [("arch", .lst (A.map iN)), ("begin", iN bg), ("pieces", .lst (PP.map .str))]) (fun j => [("due", ad, ((List.range j).map fun k => if tornW A bg (bg + k) = [] then (sliceL us bg (bg + k)).flatten else bad).map .str)]) (evIt_rng (b := true) L.tf (grange _ rfl) (ev_n (p := iN bg)) (ev_eq (ev_addI (b1 := true) (b2 := true) (ev_n (p := iN Z)) ev_int) rfl) (by omega) (by omega)) (map_look (by kernel_rfl!)) (map_look (by kernel_rfl!)) (.inr kbehind) ?_ ?_
  · intro j hj
    refine run_seq (st_assignCompG (scopeN 11) iN unNat unNat_iN (rng bg (bg + j)) (fun p => decide (A.getD p 0 < bg) || decide (bg + j ≤ A.getD p 0)) iN ["arch", "begin", "behind"] [("arch", .lst (A.map iN)), ("begin", iN bg), ("behind", iN (bg + j))] [] (evIt_rng (b := true) L.tf (grange _ rfl) (ev_n (p := iN bg)) (ev_n (p := iN (bg + j))) (by omega) (by omega)) (by rw [rng_len]; omega) hsc (by decide +kernel) rfl (map_look (by kernel_rfl!)) (by simp) (fun env2 D p hp he => ?_) (fun env2 D p hp _ he => ev_n) (.inl ktorn) (swaps_local ktorn hfun rfl (by decide +kernel))) ?_
    · obtain ⟨p1, p2⟩ := mem_rng.mp hp
      refine tests_one (bt_or2 (bt_eq (bt_cmp (b1 := true) (b2 := true) (ev_idxN (f := iN) (l := A) (b2 := true) ev_n (ev_n (p := iN p)) (hAget p (by omega)) (by omega)) (ev_n (p := iN bg)) cm_lt) ?_) (fun _ => bt_eq (bt_cmp (b1 := true) (b2 := true) (ev_idxN (f := iN) (l := A) (b2 := true) ev_n (ev_n (p := iN p)) (hAget p (by omega)) (by omega)) (ev_n (p := iN (bg + j))) cm_ge) ?_))
      · rw [decide_eq_decide]; exact Int.ofNat_lt
      · rw [decide_eq_decide]; exact Int.ofNat_le
    rintro C' rfl -
    have htd : ((rng bg (bg + j)).filter fun p => decide (A.getD p 0 < bg) || decide (bg + j ≤ A.getD p 0)) = tornW A bg (bg + j) := rfl
    rw [htd]
    refine run_seq (st_append (l := ((List.range j).map fun k => if tornW A bg (bg + k) = [] then (sliceL us bg (bg + k)).flatten else bad).map .str) (x := "due") (a := ad) (p := .str (if tornW A bg (bg + j) = [] then (sliceL us bg (bg + j)).flatten else bad)) (mem_look (by kernel_rfl!)) (ev_ife (r := tornW A bg (bg + j) == []) (bt_cmp (b1 := true) (b2 := true) (ev_n (p := .lst ((tornW A bg (bg + j)).map iN))) (ev_new (evF_list evs_nil)) (cm_eqN (ys := []))) (fun h => ?_) (fun h => ?_)) (by rw [List.length_map, List.length_map, List.length_range]; omega)) ?_
    · have h' : tornW A bg (bg + j) = [] := by simpa using h
      rw [if_pos h']
      exact ev_idxN (f := .str) (l := PP) (i := j) (b2 := true) ev_n (ev_eq (ev_subI (b1 := true) (b2 := true) (ev_n (p := iN (bg + j))) (ev_n (p := iN bg))) (by show PV.int _ = PV.int _; congr 1; omega)) (hPg j hj) (by omega)
    · have h' : ¬ tornW A bg (bg + j) = [] := by simpa using h
      rw [if_neg h']
      exact ev_str (l := bad)
    rintro C' rfl -
    refine run_nil ⟨rfl, map_look (by kernel_rfl!), ?_⟩
    rw [List.range_succ, List.map_append, List.map_append]
    exact map_look (by kernel_rfl!)
  -- validation
  generalize hDd : ((List.range (Z + 1 - bg)).map fun k => if tornW A bg (bg + k) = [] then (sliceL us bg (bg + k)).flatten else bad) = DD
  have hvalid : PP.map valid = DD := by
    rw [← hPd, ← hDd]
    unfold rng
    rw [List.map_map, List.map_map]
    apply List.map_congr_left
    intro k hk
    have hk : k < Z + 1 - bg := by simpa using hk
    simp only [Function.comp, valid, hchs, htorn bg k hbg (by omega), beq_iff_eq]
  have hvc : ∀ x ∈ DD, ∀ c ∈ x, c < 0x110000 := by
    intro x hx c hc
    rw [← hvalid] at hx
    obtain ⟨l, hl, rfl⟩ := List.mem_map.mp hx
    unfold valid at hc
    split at hc
    · have := hP2 l hl c hc; omega
    · have : ∀ c ∈ bad, c < 128 := by decide
      have := this c hc; omega
  have hDl : DD.length ≤ 13 := by rw [← hDd, List.length_map, List.length_range]; omega
  refine run_seq (st_assign (p := .lst (PP.map .str)) (ev_new (evF_call L.tf (glist _ rfl) (.inr (.inl ⟨_, rfl⟩)) (evs_cons (ev_n (p := .lst (PP.map .str))) evs_nil) (callF_list (by rw [List.length_map]; omega)))) (.inl khanded)) ?_
  rintro C' rfl -
  refine run_seq (st_assignOwn (evF_eq (evF_call L.tf (gpre _ rfl) hcp (evs_cons (ev_n (p := .lst (PP.map .str))) evs_nil) (okp PP (by omega) hP1 hP2)) (by rw [hvalid])) (.inl kkept)) ?_
  rintro C' ⟨ak, rfl⟩ -
  refine run_if (r := false) (M := fun C'' => C'' = _) (bt_eq (bt_cmp (b1 := false) (b2 := false) (ev_own (x := "kept") (a := ak) (l := DD.map .str) (mem_look (by kernel_rfl!))) (ev_own (x := "due") (a := ad) (l := DD.map .str) (mem_look (by kernel_rfl!))) (cm_neL kd_str hvc hvc)) (by simp)) (fun h => by cases h) (fun _ => run_nil rfl) ?_
  rintro C' rfl -
  refine run_seq (st_append (l := DD.map .str) (x := "kept") (a := ak) (mem_look (by kernel_rfl!)) (ev_str (l := [])) (by rw [List.length_map]; omega)) ?_
  rintro C' rfl -
  have hP3 : ∀ x ∈ PP, ∀ c ∈ x, c < 0x110000 := fun x hx c hc => by have := hP2 x hx c hc; omega
  exact run_ret (b := true) (p := .bool true) (ev_eq (ev_cmp (b1 := true) (b2 := true) (ev_n (p := .lst (PP.map .str))) (ev_n (p := .lst (PP.map .str))) (cm_eqL kd_str hP3 hP3)) (by simp)) rfl
end
end Mine

namespace Mine

def nameIn : Stmt → PySem.Str
  | .FunctionDef n _ _ _ _ _ _ _ _ _ => n
  | _ => default
def argsIn : Stmt → Arguments
  | .FunctionDef _ a _ _ _ _ _ _ _ _ => a
  | _ => default
def posIn : Stmt → Pos
  | .FunctionDef _ _ _ _ _ _ _ _ _ p => p
  | _ => default
def recN (i : Nat) : DefRec := ⟨nameIn (nthS TX i), argsIn (nthS TX i), bodyN i, scopeN i, posIn (nthS TX i)⟩
def Binds (i : Nat) (names : List String) : Prop := ∀ (pm cd doc : Value) (vs : List Value), vs.length = names.length →
  bindArgs (Calls.docDef (recN i).name (recN i).params (recN i).body (recN i).scope pm cd doc) ⟨vs, []⟩ = pure ((names.map PySem.Str.ofString).zip vs)
theorem has_of {p : Program} {loose : List PySem.Str} {mean : ExcName → Option Value} {mg mb : PySem.Str → Option Value} {h : Heap} (T : Top p loose mean mg mb h) {i k : Nat} {name : String} {names : List String} (hd : (recsOf p)[k]? = some (recN i)) (hn : (recN i).name = PySem.Str.ofString name)
    (hbind : Binds i names) : Has h mg i name names := by
  obtain ⟨a, o, pm, code, doc, h1, h2, h3, h4⟩ := T.fn _ (List.mem_of_getElem? hd)
  refine ⟨a, ⟨o, _, h2, h3, h4, rfl, rfl, rfl, rfl, rfl, fun vs hvs => hbind _ _ _ vs hvs⟩, ?_⟩
  rw [← hn]; exact h1
theorem binds1 : Binds 1 ["addr"] := fun pm cd doc vs h => by
  match vs, h with
  | [v], _ => rfl
theorem binds2 : Binds 2 ["addr"] := fun pm cd doc vs h => by
  match vs, h with
  | [v], _ => rfl
theorem binds3 : Binds 3 ["addr"] := fun pm cd doc vs h => by
  match vs, h with
  | [v], _ => rfl
theorem binds4 : Binds 4 ["email_header_fields"] := fun pm cd doc vs h => by
  match vs, h with
  | [v], _ => rfl
theorem binds6 : Binds 6 ["num"] := fun pm cd doc vs h => by
  match vs, h with
  | [v], _ => rfl
theorem binds8 : Binds 8 ["pairs", "bits"] := fun pm cd doc vs h => by
  match vs, h with
  | [a, b], _ => rfl
theorem binds9 : Binds 9 ["arch", "turn"] := fun pm cd doc vs h => by
  match vs, h with
  | [a, b], _ => rfl
theorem binds10 : Binds 10 ["units", "signs"] := fun pm cd doc vs h => by
  match vs, h with
  | [a, b], _ => rfl
theorem binds11 : Binds 11 ["script"] := fun pm cd doc vs h => by
  match vs, h with
  | [v], _ => rfl
theorem mb_of {p : Program} {loose : List PySem.Str} {mean : ExcName → Option Value} {mg mb : PySem.Str → Option Value} {h : Heap} (T : Top p loose mean mg mb h) (hmg : ∀ x ∈ biTable.map (·.1), mg (PySem.Str.ofString x) = Option.none) : ∀ x v, (x, v) ∈ biTable → mg (PySem.Str.ofString x) = Option.none ∧ mb (PySem.Str.ofString x) = some v := by
  have key : ∀ q ∈ biTable, bootBuiltins (PySem.Str.ofString q.1) = some q.2 := by
    intro q hq
    simp only [biTable, List.mem_cons, List.not_mem_nil, or_false] at hq
    rcases hq with rfl | rfl | rfl | rfl | rfl | rfl | rfl | rfl | rfl | rfl | rfl <;> rfl
  have ne : ∀ q ∈ biTable, PySem.Str.ofString q.1 ≠ "__name__" := by
    intro q hq
    simp only [biTable, List.mem_cons, List.not_mem_nil, or_false] at hq
    rcases hq with rfl | rfl | rfl | rfl | rfl | rfl | rfl | rfl | rfl | rfl | rfl <;> decide +kernel
  intro x v hm
  exact ⟨hmg x (List.mem_map.mpr ⟨_, hm, rfl⟩), (T.builtins _ (ne _ hm)).trans (key _ hm)⟩
end Mine

open PySem PySem.W PySem.W.X PySem.W.ZRun PyProof.Rows
namespace Mine
/-- a name that a written part does not hold -/
theorem none_at {K : Frag} {h : Heap} {a : Addr} {mg : PySem.Str → Option Value} {n : PySem.Str} (X : K.In h) (G : h.Ns a mg) (e : nsIn K a n = some none) : mg n = none := by
  obtain ⟨o, es, ep, ho, hd, _, hf⟩ := G
  unfold nsIn at e
  split at e
  · rename_i c d es' n' sl q
    have := X _ _ q
    rw [ho] at this
    cases this
    cases hd
    split at e
    · cases e
    · rename_i he
      rw [← hf]
      unfold nsFind findBy
      rw [← Array.find?_toList, he]
      rfl
  · cases e
theorem rp_script {h : Heap} {a : Addr} {vs : List Value} {ns : List Int} (hl : h.get? a = some { cls := .type "list", data := .seq vs.toArray }) (hi : IntsAre vs ns) : Rp h [] (.ref a) (.lst (ns.map .int)) :=
  .lst a vs.toArray _ ⟨0, hl⟩ (fun h => nomatch h) (by simpa using Rps.ofInts hi)
theorem caller_ok : AOK 5 callerA := ⟨rfl, by decide +kernel, by decide +kernel⟩
end Mine
open Mine
set_option maxRecDepth 100000 in
set_option maxHeartbeats 0 in
theorem PySem.Challenge.cw_pk0038_02_holds : PySem.Challenge.rw_pk0038_02.Holds := by
  w_on; o_law; z_head; (case hw => w_witness2)
  k_fill
  intro w s₀ s₁ mg mb G y fa o pm cd doc dV kV ho hd hcd hD hmg hg args vals as L hpre hlay hrd hwl hlo
  z_open y L KX ZH ZN ZT
  refine Ground.open G ?_
  intro T B D TE TW
  wrow_args hpre hlay hrd hwl hlo
  have htk := script_toks L ZT
  rename_i ns _ _ _ _ _ _ _ scr vs _ hIL _ _ _ hIA _ hlen _
  have hmgn : ∀ x ∈ biTable.map (·.1), mg (PySem.Str.ofString x) = none := by
    intro x hx
    simp only [biTable, List.map_cons, List.map_nil, List.mem_cons, List.not_mem_nil, or_false] at hx
    rcases hx with rfl | rfl | rfl | rfl | rfl | rfl | rfl | rfl | rfl | rfl | rfl <;> exact none_at KX T.g rfl
  have nob : NoneBooked s₁.heap := by
    obtain ⟨mc, h1, _⟩ := T.nodigits
    exact ⟨mc, h1, none_at KX h1 rfl⟩
  have lib : Lib s₁.heap mg mb := ⟨⟨T.g, T.b, T.nolimit, nob⟩, has_of T (k := 0) rfl rfl binds1, has_of T (k := 1) rfl rfl binds2, has_of T (k := 2) rfl rfl binds3, has_of T (k := 3) rfl rfl binds4, has_of T (k := 4) rfl rfl binds6, mb_of T hmgn⟩
  obtain ⟨la, lf, lm⟩ := has_of T (k := 8) (name := "law") (i := 11) rfl rfl binds11
  have hfa : fa = la := by
    have h2 : some (Value.ref fa) = some (Value.ref la) := hmg.symm.trans lm
    cases h2; rfl
  subst hfa
  have hns : ns.length ≤ 63 := by omega
  have main := law_ok (prog := PySem.Challenge.pw_pk0038_02) (w := w) lib (has_of T (k := 5) rfl rfl binds8) (has_of T (k := 6) rfl rfl binds9) (has_of T (k := 7) rfl rfl binds10) lf 0 ns hns callerA s₁ [] [.ref scr] caller_ok (Nat.le_trans (by decide) htk) (fun _ _ e => e) (fun _ h => nomatch h) (.cons (rp_script (script_obj L hIL) hIA) .nil)
  refine wpAny_mono main (fun v s' hv => ?_) (fun _ _ h => h.elim)
  obtain ⟨rv, st⟩ := hv
  obtain rfl := rv.bool_inv
  refine ⟨.inl ⟨_, _, _, rfl, fun _ => rfl, .bool true, ?_, fun _ => ⟨List.nodup_nil, fun _ h => nomatch h⟩⟩, .of_keep st.heap, st.os, st.bare (.of_eq hg)⟩
  first | rfl | with_unfolding_all rfl | wrow_post

