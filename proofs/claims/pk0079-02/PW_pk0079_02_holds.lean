import PyProof.Rows.All
import Wide.All
import OpenK.AllK
import Wide.FinOn
import PySem.Challenge.RW_pk0079_02
set_option Elab.async false

/- Ev1 -/
section
open PySem PySem.W PyProof.Rows
set_option maxRecDepth 100000
namespace Mine

/-- abstract values: lists, tuples and ranges by value; ref i is the i-th mutable list of the store -/
inductive PVal where
  | none
  | bool (b : Bool)
  | int (i : Int)
  | str (s : Str)
  | lst (vs : List PVal)
  | tup (vs : List PVal)
  | rng (a b : Int)
  | ref (i : Nat)
  | val (v : Value)

noncomputable abbrev PV := Str → Option PVal
noncomputable abbrev PH := List (List PVal)

noncomputable def PlainTup (h : Heap) (a : Addr) (items : Array Value) : Prop := ∃ n, h.get? a = some { cls := .type "tuple", data := .seq items n }
theorem PlainTup.isTuple {h : Heap} {a : Addr} {items : Array Value} (x : PlainTup h a items) : h.IsTuple a items := let ⟨n, e⟩ := x; ⟨_, e, rfl, n, rfl⟩
theorem PlainTup.isTup {h : Heap} {a : Addr} {items : Array Value} (x : PlainTup h a items) : IsTup h a items := let ⟨n, e⟩ := x; ⟨_, e, rfl, n, rfl⟩

mutual
/-- a value by value: its lists lie at addresses that are not in B -/
inductive BRel (h : Heap) (B : List Addr) : PVal → Value → Prop
  | none : BRel h B .none .none
  | bool (b : Bool) : BRel h B (.bool b) (.bool b)
  | int (i : Int) (t : Tok) : BRel h B (.int i) (.int i t)
  | str (s : Str) (t : Tok) : BRel h B (.str s) (.str s t)
  | val (v : Value) : BRel h B (.val v) v
  | lst {vs : List PVal} {a : Addr} {xs : List Value} : h.PlainList a xs.toArray → a ∉ B → BRels h B vs xs → BRel h B (.lst vs) (.ref a)
  | tup {vs : List PVal} {a : Addr} {xs : List Value} : PlainTup h a xs.toArray → a ∉ B → BRels h B vs xs → BRel h B (.tup vs) (.ref a)
  | rng {p q : Int} {a : Addr} {t u v : Tok} : IsRange h a p q 1 t u v → a ∉ B → BRel h B (.rng p q) (.ref a)
inductive BRels (h : Heap) (B : List Addr) : List PVal → List Value → Prop
  | nil : BRels h B [] []
  | cons {v : PVal} {x : Value} {vs : List PVal} {xs : List Value} : BRel h B v x → BRels h B vs xs → BRels h B (v :: vs) (x :: xs)
end

noncomputable def isData (c : Value) : Prop := c = .type "list" ∨ c = .type "tuple" ∨ c = .type "range"
/-- an object that bears a value -/
noncomputable def isDataO (o : Obj) : Prop := isData o.cls ∧ ((∃ xs n, o.data = .seq xs n) ∨ ∃ vs, o.data = .fields vs)
/-- a table or a code object -/
noncomputable def isKeyO (o : Obj) : Prop := (o.cls = .type "code" ∨ o.cls = .none) ∧ ∃ vs, o.data = .fields vs
/-- machinery: a namespace, a cell, an iterator -/
noncomputable def machO (o : Obj) : Prop := (∃ es ep, o.data = .dict es ep) ∨ (∃ v, o.data = .cell v) ∨ (¬ isData o.cls ∧ o.cls ≠ .type "code" ∧ o.cls ≠ .none)
theorem machO.noData {o : Obj} (m : machO o) : ¬ isDataO o := fun ⟨c, d⟩ => by
  rcases m with ⟨es, ep, e⟩ | ⟨v, e⟩ | m
  · rcases d with ⟨_, _, d⟩ | ⟨_, d⟩ <;> (rw [e] at d; cases d)
  · rcases d with ⟨_, _, d⟩ | ⟨_, d⟩ <;> (rw [e] at d; cases d)
  · exact m.1 c
theorem machO.noKey {o : Obj} (m : machO o) : ¬ isKeyO o := fun ⟨c, _, d⟩ => by
  rcases m with ⟨es, ep, e⟩ | ⟨v, e⟩ | m
  · rw [e] at d; cases d
  · rw [e] at d; cases d
  · rcases c with c | c
    · exact m.2.1 c
    · exact m.2.2 c

mutual
theorem BRel.move {h h' : Heap} {B B' : List Addr} (k : ∀ a o, h.get? a = some o → isDataO o → a ∉ B → h'.get? a = some o ∧ a ∉ B') :
    ∀ {v : PVal} {x : Value}, BRel h B v x → BRel h' B' v x
  | _, _, .none => .none
  | _, _, .bool b => .bool b
  | _, _, .int i t => .int i t
  | _, _, .str s t => .str s t
  | _, _, .val v => .val v
  | _, _, .lst ⟨n, e⟩ nb r => have q := k _ _ e ⟨.inl rfl, .inl ⟨_, _, rfl⟩⟩ nb; .lst ⟨n, q.1⟩ q.2 (BRels.move k r)
  | _, _, .tup ⟨n, e⟩ nb r => have q := k _ _ e ⟨.inr (.inl rfl), .inl ⟨_, _, rfl⟩⟩ nb; .tup ⟨n, q.1⟩ q.2 (BRels.move k r)
  | _, _, .rng e nb => have q := k _ _ e ⟨.inr (.inr rfl), .inr ⟨_, rfl⟩⟩ nb; .rng q.1 q.2
theorem BRels.move {h h' : Heap} {B B' : List Addr} (k : ∀ a o, h.get? a = some o → isDataO o → a ∉ B → h'.get? a = some o ∧ a ∉ B') :
    ∀ {vs : List PVal} {xs : List Value}, BRels h B vs xs → BRels h' B' vs xs
  | _, _, .nil => .nil
  | _, _, .cons a r => .cons (BRel.move k a) (BRels.move k r)
end

theorem BRels.length {h : Heap} {B : List Addr} : ∀ {vs : List PVal} {xs : List Value}, BRels h B vs xs → vs.length = xs.length
  | _, _, .nil => rfl
  | _, _, .cons _ r => congrArg (· + 1) (BRels.length r)
theorem BRels.get {h : Heap} {B : List Addr} : ∀ {vs : List PVal} {xs : List Value}, BRels h B vs xs → ∀ {i : Nat} {v : PVal}, vs[i]? = some v → ∃ x, xs[i]? = some x ∧ BRel h B v x
  | _, _, .cons (x := x) a _, 0, _, e => by cases e; exact ⟨x, rfl, a⟩
  | _, _, .cons _ r, i + 1, _, e => BRels.get r (i := i) (by simpa using e)
theorem BRels.append {h : Heap} {B : List Addr} : ∀ {vs : List PVal} {xs : List Value}, BRels h B vs xs → ∀ {ws : List PVal} {ys : List Value}, BRels h B ws ys → BRels h B (vs ++ ws) (xs ++ ys)
  | _, _, .nil, _, _, r => r
  | _, _, .cons a r, _, _, q => .cons a (BRels.append r q)
theorem BRels.reverse {h : Heap} {B : List Addr} : ∀ {vs : List PVal} {xs : List Value}, BRels h B vs xs → BRels h B vs.reverse xs.reverse
  | _, _, .nil => .nil
  | _, _, .cons a r => by rw [List.reverse_cons, List.reverse_cons]; exact (BRels.reverse r).append (.cons a .nil)
theorem BRels.drop {h : Heap} {B : List Addr} : ∀ (n : Nat) {vs : List PVal} {xs : List Value}, BRels h B vs xs → BRels h B (vs.drop n) (xs.drop n)
  | 0, _, _, r => r
  | _ + 1, _, _, .nil => .nil
  | n + 1, _, _, .cons _ r => BRels.drop n r
theorem BRels.take {h : Heap} {B : List Addr} : ∀ (n : Nat) {vs : List PVal} {xs : List Value}, BRels h B vs xs → BRels h B (vs.take n) (xs.take n)
  | 0, _, _, _ => .nil
  | _ + 1, _, _, .nil => .nil
  | n + 1, _, _, .cons a r => .cons a (BRels.take n r)
theorem BRels.set {h : Heap} {B : List Addr} : ∀ {vs : List PVal} {xs : List Value}, BRels h B vs xs → ∀ (i : Nat) {v : PVal} {x : Value}, BRel h B v x → BRels h B (vs.set i v) (xs.set i x)
  | _, _, .nil, _, _, _, _ => .nil
  | _, _, .cons _ r, 0, _, _, a => .cons a r
  | _, _, .cons b r, i + 1, _, _, a => .cons b (BRels.set r i a)
theorem BRels.erase {h : Heap} {B : List Addr} : ∀ {vs : List PVal} {xs : List Value}, BRels h B vs xs → ∀ (i : Nat), BRels h B (vs.eraseIdx i) (xs.eraseIdx i)
  | _, _, .nil, _ => .nil
  | _, _, .cons _ r, 0 => r
  | _, _, .cons b r, i + 1 => .cons b (BRels.erase r i)
/-- the ground of a run: what is never changed (base), the tables of code (T), the globals -/
structure Cx where
  prog : Program
  w : World
  base : Addr → Option Obj
  T : List Addr
  TI : Heap → Prop
  pre : List Addr
  mg : Str → Option Value
  mb : Str → Option Value
  tik : ∀ h h', TI h → (∀ a o, h.get? a = some o → isKeyO o → h'.get? a = some o) → TI h'
  glob : ∀ h : Heap, (∀ b o, base b = some o → h.get? b = some o) → h.Ns mainGlobals mg
  blt : ∀ h : Heap, (∀ b o, base b = some o → h.get? b = some o) → h.Ns builtinsNs mb
  lim : ∀ h : Heap, (∀ b o, base b = some o → h.get? b = some o) → h.NoLimit

noncomputable abbrev Cx.M (X : Cx) : Model := model X.prog X.w

/-- banned: the mutable lists and the tables -/
noncomputable abbrev Cx.ban (X : Cx) (ρ : List Addr) : List Addr := ρ ++ X.T

inductive VRel (X : Cx) (ρ : List Addr) (h : Heap) : PVal → Value → Prop
  | by {v : PVal} {x : Value} : BRel h (X.ban ρ) v x → VRel X ρ h v x
  | ref {i : Nat} {a : Addr} : ρ[i]? = some a → VRel X ρ h (.ref i) (.ref a)
inductive VRels (X : Cx) (ρ : List Addr) (h : Heap) : List PVal → List Value → Prop
  | nil : VRels X ρ h [] []
  | cons {v : PVal} {x : Value} {vs : List PVal} {xs : List Value} : VRel X ρ h v x → VRels X ρ h vs xs → VRels X ρ h (v :: vs) (x :: xs)

noncomputable def Pres (X : Cx) (ρ : List Addr) (h h' : Heap) : Prop := ∀ a o, h.get? a = some o → a ∉ X.ban ρ → h'.get? a = some o
noncomputable def Keeps (h h' : Heap) : Prop := ∀ a o, h.get? a = some o → h'.get? a = some o

theorem Keeps.pres {X : Cx} {ρ : List Addr} {h h' : Heap} (k : Keeps h h') : Pres X ρ h h' := fun a o e _ => k a o e
theorem Keeps.refl (h : Heap) : Keeps h h := fun _ _ e => e
theorem Keeps.trans {h h' h'' : Heap} (k : Keeps h h') (k' : Keeps h' h'') : Keeps h h'' := fun a o e => k' a o (k a o e)
theorem Keeps.push (h : Heap) (o : Obj) : Keeps h (h.push o) := fun _ _ e => Heap.get?_push_of_some o e
theorem Pres.refl (X : Cx) (ρ : List Addr) (h : Heap) : Pres X ρ h h := fun _ _ e _ => e
theorem Pres.trans {X : Cx} {ρ : List Addr} {h h' h'' : Heap} (k : Pres X ρ h h') (k' : Pres X ρ h' h'') : Pres X ρ h h'' := fun a o e n => k' a o (k a o e n) n

theorem BRel.pres {X : Cx} {ρ : List Addr} {h h' : Heap} (p : Pres X ρ h h') {v : PVal} {x : Value} (r : BRel h (X.ban ρ) v x) : BRel h' (X.ban ρ) v x :=
  r.move fun a o e _ n => ⟨p a o e n, n⟩
theorem BRels.pres {X : Cx} {ρ : List Addr} {h h' : Heap} (p : Pres X ρ h h') {v : List PVal} {x : List Value} (r : BRels h (X.ban ρ) v x) : BRels h' (X.ban ρ) v x :=
  r.move fun a o e _ n => ⟨p a o e n, n⟩
theorem VRel.pres {X : Cx} {ρ : List Addr} {h h' : Heap} (p : Pres X ρ h h') : ∀ {v : PVal} {x : Value}, VRel X ρ h v x → VRel X ρ h' v x
  | _, _, .by r => .by (r.pres p)
  | _, _, .ref e => .ref e
structure HRel (X : Cx) (ρ : List Addr) (H : PH) (h : Heap) : Prop where
  keep : ∀ b o, X.base b = some o → h.get? b = some o
  nodup : ρ.Nodup
  apart : ∀ a ∈ ρ, a ∉ X.T
  fresh : ∀ a ∈ X.ban ρ, X.base a = none
  len : ρ.length = H.length
  objs : ∀ (i : Nat) (a : Addr) (vs : List PVal), ρ[i]? = some a → H[i]? = some vs → ∃ xs, h.PlainList a xs.toArray ∧ BRels h (X.ban ρ) vs xs
  tobs : ∀ a ∈ X.T, ∃ o, h.get? a = some o ∧ isKeyO o
  ti : X.TI h
  pre : X.pre <+: ρ

/-- machinery: no data, no code, not of the base -/
noncomputable def Mach (X : Cx) (h : Heap) (a : Addr) : Prop := X.base a = none ∧ ∀ o, h.get? a = some o → machO o

theorem HRel.chg {X : Cx} {ρ : List Addr} {H : PH} {h h' : Heap} (R : HRel X ρ H h) (k : ∀ a o, h.get? a = some o → ¬ Mach X h a → h'.get? a = some o) : HRel X ρ H h' where
  keep := fun b o e => k b o (R.keep b o e) fun m => by rw [m.1] at e; cases e
  nodup := R.nodup
  apart := R.apart
  fresh := R.fresh
  len := R.len
  objs := fun i a vs e1 e2 => by
    obtain ⟨xs, ⟨n, e⟩, r⟩ := R.objs i a vs e1 e2
    have nm : ∀ a o, h.get? a = some o → isDataO o → ¬ Mach X h a := fun a o e d m => (m.2 o e).noData d
    exact ⟨xs, ⟨n, k _ _ e (nm _ _ e ⟨.inl rfl, .inl ⟨_, _, rfl⟩⟩)⟩, r.move fun a o e d n => ⟨k a o e (nm a o e d), n⟩⟩
  tobs := fun a ha => let ⟨o, e, c⟩ := R.tobs a ha; ⟨o, k a o e fun m => (m.2 o e).noKey c, c⟩
  ti := X.tik h h' R.ti fun a o e c => k a o e fun m => (m.2 o e).noKey c
  pre := R.pre
theorem HRel.at {X : Cx} {ρ : List Addr} {H : PH} {h : Heap} (R : HRel X ρ H h) {i : Nat} {a : Addr} (e : ρ[i]? = some a) : ∃ vs xs, H[i]? = some vs ∧ h.PlainList a xs.toArray ∧ BRels h (X.ban ρ) vs xs := by
  have hi : i < H.length := R.len ▸ (List.getElem?_eq_some_iff.mp e).1
  obtain ⟨xs, h1, h2⟩ := R.objs i a H[i] e (by simp [hi])
  exact ⟨_, xs, by simp [hi], h1, h2⟩
theorem HRel.low {X : Cx} {ρ : List Addr} {H : PH} {h : Heap} (R : HRel X ρ H h) : ∀ a ∈ X.ban ρ, a < h.objs.size := fun a ha => by
  rcases List.mem_append.mp ha with ha | ha
  · obtain ⟨i, hi, e⟩ := List.getElem_of_mem ha
    obtain ⟨_, _, _, ⟨n, e2⟩, _⟩ := R.at (i := i) (a := a) (by rw [List.getElem?_eq_some_iff]; exact ⟨hi, e⟩)
    exact Heap.lt_size e2
  · obtain ⟨o, e, _⟩ := R.tobs a ha
    exact Heap.lt_size e
theorem HRel.new {X : Cx} {ρ : List Addr} {H : PH} {h : Heap} (R : HRel X ρ H h) : h.objs.size ∉ X.ban ρ := fun m => Nat.lt_irrefl _ (R.low _ m)
theorem HRel.newBase {X : Cx} {ρ : List Addr} {H : PH} {h : Heap} (R : HRel X ρ H h) : X.base h.objs.size = none := by
  cases e : X.base h.objs.size with
  | none => rfl
  | some o => exact absurd (Heap.lt_size (R.keep _ _ e)) (Nat.lt_irrefl _)
theorem HRel.keeps {X : Cx} {ρ : List Addr} {H : PH} {h h' : Heap} (R : HRel X ρ H h) (k : Keeps h h') : HRel X ρ H h' := R.chg fun a o e _ => k a o e

/-- the room of the stack -/
structure Room (d : Nat) (A : Around) : Prop where
  hd : A.handled = none
  dep : A.depth + d < recursionLimit
  un : A.units + 8 * d + 200 < cLine
theorem Room.deeper {d : Nat} {A : Around} (r : Room (d + 1) A) (env : Env) : Room d (A.deeper env) :=
  ⟨r.hd, by have := r.dep; show A.depth + 1 + d < _; (first | lia | omega), by have := r.un; show A.units + 3 + 8 * d + 200 < _; (first | lia | omega)⟩
theorem Room.less {d d' : Nat} {A : Around} (r : Room d A) (h : d' ≤ d) : Room d' A := ⟨r.hd, by have := r.dep; (first | lia | omega), by have := r.un; (first | lia | omega)⟩

/-- the frame -/
structure FRel (X : Cx) (ρ : List Addr) (sc : Scope) (env : Env) (V : PV) (h : Heap) : Prop where
  scope : env.scope = sc
  kind : sc.kind = .function
  glo : env.globals = mainGlobals
  bui : env.builtins = builtinsNs
  nb : env.locals ∉ X.ban ρ
  nc : ∀ x c, env.cells.lookup x = some c → c ∉ X.ban ρ
  ml : Mach X h env.locals
  mc : ∀ x c, sc.names.lookup x = some .cell → env.cells.lookup x = some c → Mach X h c
  ns : ∃ m, h.Ns env.locals m ∧ ∀ x v, V x = some v → sc.names.lookup x = some .local → ∃ r, m x = some r ∧ VRel X ρ h v r
  cel : ∀ x v, V x = some v → (sc.names.lookup x = some .cell ∨ sc.names.lookup x = some .free) → ∃ c r, env.cells.lookup x = some c ∧ h.IsCell c (some r) ∧ VRel X ρ h v r
  own : ∀ x, (sc.names.lookup x = some .cell ∨ sc.names.lookup x = some .free) → ∃ c, env.cells.lookup x = some c
  cex : ∀ x c, env.cells.lookup x = some c → ∃ ov, h.IsCell c ov
  inj : ∀ x y c, env.cells.lookup x = some c → env.cells.lookup y = some c → x = y

theorem FRel.pres {X : Cx} {ρ : List Addr} {sc : Scope} {env : Env} {V : PV} {h h' : Heap} (F : FRel X ρ sc env V h) (p : Pres X ρ h h') : FRel X ρ sc env V h' where
  scope := F.scope
  kind := F.kind
  glo := F.glo
  bui := F.bui
  nb := F.nb
  nc := F.nc
  ml := by
    obtain ⟨m, ⟨o, es, ep, e, r⟩, hm⟩ := F.ns
    exact ⟨F.ml.1, fun o' e' => by rw [p _ _ e F.nb] at e'; cases e'; exact F.ml.2 o e⟩
  mc := fun x c hl hc => by
    obtain ⟨ov, o, e2, e3⟩ := F.cex x c hc
    exact ⟨(F.mc x c hl hc).1, fun o' e' => by rw [p _ _ e2 (F.nc x c hc)] at e'; cases e'; exact (F.mc x c hl hc).2 o e2⟩
  ns := by
    obtain ⟨m, ⟨o, es, ep, e, r⟩, hm⟩ := F.ns
    exact ⟨m, ⟨o, es, ep, p _ _ e F.nb, r⟩, fun x v hv hl => let ⟨r, e1, e2⟩ := hm x v hv hl; ⟨r, e1, e2.pres p⟩⟩
  cel := fun x v hv hl => let ⟨c, r, e1, ⟨o, e2, e3⟩, e4⟩ := F.cel x v hv hl; ⟨c, r, e1, ⟨o, p _ _ e2 (F.nc x c e1), e3⟩, e4.pres p⟩
  own := F.own
  cex := fun x c e1 => let ⟨ov, o, e2, e3⟩ := F.cex x c e1; ⟨ov, o, p _ _ e2 (F.nc x c e1), e3⟩
  inj := F.inj

noncomputable abbrev EF := PV → PH → Option (PVal × PH)
noncomputable abbrev BF := PV → PH → Option (Bool × PH)
noncomputable abbrev LF := PV → PH → Option (List PVal × PH)

noncomputable abbrev Cont (X : Cx) (ρ : List Addr) (H' : PH) (v : PVal) (s : Shared) (Q : Value → Shared → Prop) : Prop :=
  ∀ r h' tk', HRel X ρ H' h' → VRel X ρ h' v r → Pres X ρ s.heap h' → Q r { s with heap := h', toks := tk' }

noncomputable def SimE (X : Cx) (d : Nat) (sc : Scope) (e : Expr) (f : EF) : Prop :=
  ∀ (V : PV) (H : PH) (v : PVal) (H' : PH) (env : Env) (s : Shared) (ρ : List Addr) (A : Around) (Q : Value → Shared → Prop) (E : Value → Shared → Prop),
    f V H = some (v, H') → Room d A → HRel X ρ H s.heap → FRel X ρ sc env V s.heap → Cont X ρ H' v s Q → wpAny X.M A (eval e env) Q E s
noncomputable def SimB (X : Cx) (d : Nat) (sc : Scope) (e : Expr) (f : BF) : Prop :=
  ∀ (V : PV) (H : PH) (b : Bool) (H' : PH) (env : Env) (s : Shared) (ρ : List Addr) (A : Around) (Q : Bool → Shared → Prop) (E : Value → Shared → Prop),
    f V H = some (b, H') → Room d A → HRel X ρ H s.heap → FRel X ρ sc env V s.heap → (∀ h' tk', HRel X ρ H' h' → Pres X ρ s.heap h' → Q b { s with heap := h', toks := tk' }) →
    wpAny X.M A (isTrue e env (eval e env)) Q E s
/-- the arguments, or the items of a display -/
noncomputable def SimL (X : Cx) (d : Nat) (sc : Scope) (es : List Expr) (f : LF) : Prop :=
  ∀ (V : PV) (H : PH) (vs : List PVal) (H' : PH) (env : Env) (s : Shared) (ρ : List Addr) (A : Around) (pos : Pos) (Q : List Value → Shared → Prop) (E : Value → Shared → Prop),
    f V H = some (vs, H') → Room d A → HRel X ρ H s.heap → FRel X ρ sc env V s.heap → (∀ rs h' tk', HRel X ρ H' h' → VRels X ρ h' vs rs → Pres X ρ s.heap h' → Q rs { s with heap := h', toks := tk' }) →
    wpAny X.M A (spliced (backTo pos (starEach es env))) Q E s

end Mine

end

/- Ev2 -/
section
open PySem PySem.W PyProof.Rows
set_option maxRecDepth 100000
namespace Mine

section inv
variable {X : Cx} {ρ : List Addr} {h : Heap} {x : Value}
theorem VRel.int_inv {i : Int} (r : VRel X ρ h (.int i) x) : ∃ t, x = .int i t := by
  cases r with | «by» r => cases r with | int _ t => exact ⟨t, rfl⟩
theorem VRel.str_inv {i : Str} (r : VRel X ρ h (.str i) x) : ∃ t, x = .str i t := by
  cases r with | «by» r => cases r with | str _ t => exact ⟨t, rfl⟩
theorem VRel.bool_inv {i : Bool} (r : VRel X ρ h (.bool i) x) : x = .bool i := by
  cases r with | «by» r => cases r with | bool _ => rfl
theorem VRel.val_inv {v : Value} (r : VRel X ρ h (.val v) x) : x = v := by
  cases r with | «by» r => cases r with | val _ => rfl
theorem VRel.lst_inv {vs : List PVal} (r : VRel X ρ h (.lst vs) x) : ∃ a xs, x = .ref a ∧ h.PlainList a xs.toArray ∧ a ∉ X.ban ρ ∧ BRels h (X.ban ρ) vs xs := by
  cases r with | «by» r => cases r with | lst p n r => exact ⟨_, _, rfl, p, n, r⟩
theorem VRel.tup_inv {vs : List PVal} (r : VRel X ρ h (.tup vs) x) : ∃ a xs, x = .ref a ∧ PlainTup h a xs.toArray ∧ a ∉ X.ban ρ ∧ BRels h (X.ban ρ) vs xs := by
  cases r with | «by» r => cases r with | tup p n r => exact ⟨_, _, rfl, p, n, r⟩
theorem VRel.rng_inv {p q : Int} (r : VRel X ρ h (.rng p q) x) : ∃ a t u v, x = .ref a ∧ IsRange h a p q 1 t u v ∧ a ∉ X.ban ρ := by
  cases r with | «by» r => cases r with | rng p n => exact ⟨_, _, _, _, rfl, p, n⟩
theorem VRel.ref_inv {i : Nat} (r : VRel X ρ h (.ref i) x) : ∃ a, x = .ref a ∧ ρ[i]? = some a := by
  cases r with
  | «by» r => cases r
  | ref e => exact ⟨_, rfl, e⟩
theorem VRel.int (i : Int) (t : Tok) : VRel X ρ h (.int i) (.int i t) := .by (.int i t)
theorem VRel.str (i : Str) (t : Tok) : VRel X ρ h (.str i) (.str i t) := .by (.str i t)
theorem VRel.bool (i : Bool) : VRel X ρ h (.bool i) (.bool i) := .by (.bool i)
theorem VRel.none : VRel X ρ h .none .none := .by .none
theorem VRel.val (v : Value) : VRel X ρ h (.val v) v := .by (.val v)
end inv

/-- a new list, by value -/
theorem newLst {X : Cx} {ρ : List Addr} {H : PH} {h : Heap} (R : HRel X ρ H h) {vs : List PVal} {xs : List Value} (r : BRels h (X.ban ρ) vs xs) {n : Nat} :
    VRel X ρ (h.push { cls := .type "list", data := .seq xs.toArray n }) (.lst vs) (.ref h.objs.size) :=
  .by (.lst ⟨n, Heap.get?_push_size _ rfl⟩ R.new (r.pres (X := X) (Keeps.push h _).pres))
theorem newTup {X : Cx} {ρ : List Addr} {H : PH} {h : Heap} (R : HRel X ρ H h) {vs : List PVal} {xs : List Value} (r : BRels h (X.ban ρ) vs xs) {n : Nat} :
    VRel X ρ (h.push { cls := .type "tuple", data := .seq xs.toArray n }) (.tup vs) (.ref h.objs.size) :=
  .by (.tup ⟨n, Heap.get?_push_size _ rfl⟩ R.new (r.pres (X := X) (Keeps.push h _).pres))

noncomputable def repL {α : Type} (n : Nat) (xs : List α) : List α := (List.replicate n xs).flatten

/-- binary operators -/
noncomputable def addP (a b : PVal) : Option PVal := match a, b with
  | .int x, .int y => some (.int (x + y))
  | .str x, .str y => if x.length + y.length ≤ sizeLine then some (.str (x ++ y)) else none
  | .lst x, .lst y => if x.length + y.length ≤ sizeLine then some (.lst (x ++ y)) else none
  | _, _ => none
noncomputable def mulP (a b : PVal) : Option PVal := match b with
  | .int y => (match a with
    | .int x => if Builtin.Int.intBits x + Builtin.Int.intBits y ≤ 134217728 then some (.int (x * y)) else none
    | .str x => if 0 ≤ y ∧ y ≤ 1000000 ∧ x.length * y.toNat ≤ 1000000 then some (.str (Txt.mul x y)) else none
    | .lst x => if -(2 ^ 63) ≤ y ∧ y < 2 ^ 63 ∧ x.length * y.toNat ≤ sizeLine then some (.lst (repL y.toNat x)) else none
    | _ => none)
  | _ => none
noncomputable def intI : PVal → Option Int
  | .int x => some x
  | _ => none
theorem intI_some {a : PVal} {x : Int} (h : intI a = some x) : a = .int x := by
  cases a <;> cases h; rfl
noncomputable def numP (op : Operator) (x y : Int) : Option Int := match op with
  | .Sub => some (x - y)
  | .FloorDiv => if y ≠ 0 ∧ Builtin.Int.intBits y ≤ 9000 then some (x.fdiv y) else none
  | .Mod => if y = 0 then none else some (x.fmod y)
  | .LShift => if 0 ≤ y ∧ (Builtin.Int.intBits x : Int) + y ≤ 2 ^ 27 then some (x * 2 ^ y.toNat) else none
  | .RShift => if 0 ≤ y then some (x.fdiv (2 ^ y.toNat)) else none
  | .BitXor => some (Builtin.bitXor x y)
  | .Pow => if 0 ≤ y ∧ (Builtin.Int.intBits x : Int) * y ≤ 2 ^ 27 then some (x ^ y.toNat) else none
  | _ => none
noncomputable def binP (op : Operator) (a b : PVal) : Option PVal := match op with
  | .Add => addP a b
  | .Mult => mulP a b
  | op => (intI a).bind fun x => (intI b).bind fun y => (numP op x y).map .int

theorem repArr (items : List Value) (n : Nat) : (List.foldl (fun x1 x2 => x1 ++ x2) #[] (List.replicate (if items.toArray.isEmpty = true then 0 else n) items.toArray)) = (repL n items).toArray := by
  have g : ∀ (k : Nat) (acc : Array Value), List.foldl (fun x1 x2 => x1 ++ x2) acc (List.replicate k items.toArray) = acc ++ (repL k items).toArray := by
    intro k
    induction k with
    | zero => intro acc; simp [repL]
    | succ k ih => intro acc; rw [List.replicate_succ, List.foldl_cons, ih]; simp [repL, List.replicate_succ, Array.append_assoc]
  rw [g]
  cases items with
  | nil => simp [repL]
  | cons a r => simp

theorem BRels.rep {h : Heap} {B : List Addr} {vs : List PVal} {xs : List Value} (r : BRels h B vs xs) : ∀ n, BRels h B (repL n vs) (repL n xs)
  | 0 => .nil
  | n + 1 => by
    have := r.append (BRels.rep r n)
    simpa [repL, List.replicate_succ] using this

theorem mulOk_of {x : Str} {y : Int} (h0 : 0 ≤ y) (h1 : y ≤ 1000000) (h2 : x.length * y.toNat ≤ 1000000) : MulOk x y := by
  refine ⟨by rw [Bool.or_eq_false_iff]; exact ⟨decide_eq_false (by (first | lia | omega)), decide_eq_false (by (first | lia | omega))⟩, fun h3 h4 => ?_, fun _ _ => ?_⟩
  · have h5 : (x.length : Int) * y ≤ 1000000 := by
      have e : (y.toNat : Int) = y := Int.toNat_of_nonneg h0
      have h2' : ((x.length * y.toNat : Nat) : Int) ≤ ((1000000 : Nat) : Int) := Int.ofNat_le.mpr h2
      rw [Int.natCast_mul, e] at h2'
      exact h2'
    have h6 : (x.length : Int) ≤ (2 ^ 63 - 1) / y := (Int.le_ediv_iff_mul_le (by (first | lia | omega))).mpr (by (first | lia | omega))
    (first | lia | omega)
  · have : x.length * y.toNat ≤ sizeLine := Nat.le_trans h2 (by decide)
    unfold Builtin.Str.tooLong; exact decide_eq_false (by (first | lia | omega))

theorem noPy {x y : Int} (h0 : y ≠ 0) (h : Builtin.Int.intBits y ≤ 9000) : Builtin.divisionGoesByPylong x y = false := by
  refine PyProof.noPylong_of_log2 ?_
  unfold Builtin.Int.intBits at h
  rw [if_neg (by simpa using h0)] at h
  (first | lia | omega)

section ops
variable {X : Cx} {ρ : List Addr} {H : PH} {s : Shared} {A : Around} {Q : Value → Shared → Prop} {E : Value → Shared → Prop}

theorem mulList {l : Addr} {items : List Value} {x : Int} {u : Tok} (hl : s.heap.PlainList l items.toArray) (hlo : -(2 ^ 63 : Int) ≤ x) (hhi : x < 2 ^ 63) (hsz : items.length * x.toNat ≤ sizeLine)
    (h : Q (.ref s.heap.objs.size) { s with heap := s.heap.push { cls := .type "list", data := .seq (repL x.toNat items).toArray } }) :
    wpAny X.M A (binaryOp .Mult (.ref l) (.int x u)) Q E s := by
  obtain ⟨k, hl⟩ := hl
  have hsz' : items.toArray.size * x.toNat ≤ 2 ^ 24 := by simpa [sizeLine] using hsz
  exact wpAny_binaryOp_repeat_ref (T := "list") (U := "int") (by decide) ⟨_, hl, rfl⟩ (fun s' => typeIs_int s' x u) noFill_list_mul F.fills_int_mul F.slot_int_rmul repeat_list F.slot_int_index.lookup
    (call_meets F.slot_int_rmul (typeIs_int s x u) F.entry_int_rmul (F.args_int_rmul_2 _ _) (int___rmul___int_list x u l _ k)
      ⟨hl, rfl, ⟨_, hl, rfl⟩, call_meets F.slot_list_mul ⟨_, hl, rfl⟩ F.entry_list_mul (F.args_list_mul_2 _ _)
        (AutoListH.list___mul___list_int_3 l _ k x u (by simp [Builtin.List.listFitsIndex]; (first | lia | omega)) (by (first | lia | omega)) (by simp [Builtin.List.listTooLong, sizeLine]; simpa using hsz'))
        ⟨hl, by rw [repArr]; exact h⟩⟩)

theorem bin_sound {op : Operator} {a b v : PVal} {x y : Value} (hv : binP op a b = some v) (R : HRel X ρ H s.heap) (ra : VRel X ρ s.heap a x) (rb : VRel X ρ s.heap b y)
    (k : ∀ r h' tk', Keeps s.heap h' → VRel X ρ h' v r → Q r { s with heap := h', toks := tk' }) : wpAny X.M A (binaryOp op x y) Q E s := by
  have num : ∀ {x y : Int} {t u : Tok} {w : Int}, numP op x y = some w → v = .int w → wpAny X.M A (binaryOp op (.int x t) (.int y u)) Q E s := fun {x y t u w} hw e => by
    subst e
    unfold numP at hw
    split at hw
    · cases hw; exact PyProof.Rows.sub_int (k _ _ _ (Keeps.refl _) (.int _ _))
    · split at hw
      · rename_i hb; cases hw
        exact PyProof.Rows.floordiv_int hb.1 (k _ _ _ (Keeps.refl _) (.int _ _)) (.inl (noPy hb.1 hb.2))
      · cases hw
    · split at hw
      · cases hw
      · rename_i hb; cases hw
        exact PyProof.Rows.mod_int hb (k _ _ _ (Keeps.refl _) (.int _ _))
    · split at hw
      · rename_i hb; cases hw
        exact PyProof.Rows.lshift_int hb.1 hb.2 (k _ _ _ (Keeps.refl _) (.int _ _))
      · cases hw
    · split at hw
      · rename_i hb; cases hw
        exact PyProof.Rows.rshift_int hb (k _ _ _ (Keeps.refl _) (.int _ _))
      · cases hw
    · cases hw; exact PyProof.Rows.xor_int (k _ _ _ (Keeps.refl _) (.int _ _))
    · split at hw
      · rename_i hb; cases hw
        exact PyProof.Rows.pow_int hb.1 hb.2 (k _ _ _ (Keeps.refl _) (.int _ _))
      · cases hw
    · cases hw
  unfold binP at hv
  split at hv
  · unfold addP at hv
    split at hv
    · obtain ⟨t, rfl⟩ := ra.int_inv; obtain ⟨u, rfl⟩ := rb.int_inv; cases hv
      exact PyProof.Rows.add_int (k _ _ _ (Keeps.refl _) (.int _ _))
    · obtain ⟨t, rfl⟩ := ra.str_inv; obtain ⟨u, rfl⟩ := rb.str_inv
      split at hv
      · rename_i hb; cases hv
        exact PyProof.Rows.add_str (fun _ _ => k _ _ _ (Keeps.refl _) (.str _ _)) hb
      · cases hv
    · obtain ⟨a, xs, rfl, ⟨n, p⟩, _, r⟩ := ra.lst_inv; obtain ⟨b, ys, rfl, ⟨m, q⟩, _, r'⟩ := rb.lst_inv
      split at hv
      · rename_i hb; cases hv
        refine P.add_list p q ?_ (by simpa [← r.length, ← r'.length] using hb)
        have := newLst (n := 0) R (r.append r')
        exact k _ _ s.toks (Keeps.push _ _) (by simpa using this)
      · cases hv
    · cases hv
  · unfold mulP at hv
    split at hv
    · split at hv
      · obtain ⟨t, rfl⟩ := ra.int_inv; obtain ⟨u, rfl⟩ := rb.int_inv
        split at hv
        · rename_i hb; cases hv
          exact PyProof.Rows.mul_int (k _ _ _ (Keeps.refl _) (.int _ _)) (IntMulOk.of_le (Nat.le_refl _) (Nat.le_refl _) hb)
        · cases hv
      · obtain ⟨t, rfl⟩ := ra.str_inv; obtain ⟨u, rfl⟩ := rb.int_inv
        split at hv
        · rename_i hb; cases hv
          exact SB.mul (mulOk_of hb.1 hb.2.1 hb.2.2) (fun _ _ => k _ _ _ (Keeps.refl _) (.str _ _))
        · cases hv
      · obtain ⟨a, xs, rfl, p, _, r⟩ := ra.lst_inv; obtain ⟨u, rfl⟩ := rb.int_inv
        split at hv
        · rename_i hb; cases hv
          exact mulList p hb.1 hb.2.1 (by rw [← r.length]; exact hb.2.2) (k _ _ s.toks (Keeps.push _ _) (newLst (n := 0) R (r.rep _)))
        · cases hv
      · cases hv
    · cases hv
  · obtain ⟨i, e1, hv⟩ := Option.bind_eq_some_iff.mp hv
    obtain ⟨j, e2, hv⟩ := Option.bind_eq_some_iff.mp hv
    obtain ⟨w, hw, e⟩ := Option.map_eq_some_iff.mp hv
    obtain rfl := intI_some e1
    obtain rfl := intI_some e2
    obtain ⟨t, rfl⟩ := ra.int_inv; obtain ⟨u, rfl⟩ := rb.int_inv
    exact num hw e.symm
end ops

end Mine

end

/- Ev3 -/
section
open PySem PySem.W PyProof.Rows
set_option maxRecDepth 100000
namespace Mine

noncomputable def strI : PVal → Option Str
  | .str x => some x
  | _ => none
theorem strI_some {a : PVal} {x : Str} (h : strI a = some x) : a = .str x := by
  cases a <;> cases h; rfl
noncomputable def intsP : List PVal → Option (List Int)
  | [] => some []
  | v :: r => (intI v).bind fun i => (intsP r).map (i :: ·)
noncomputable def strsP : List PVal → Option (List Str)
  | [] => some []
  | v :: r => (strI v).bind fun i => (strsP r).map (i :: ·)
theorem intsP_cons {v : PVal} {r : List PVal} {ns : List Int} (e : intsP (v :: r) = some ns) : ∃ i ms, v = .int i ∧ intsP r = some ms ∧ ns = i :: ms := by
  obtain ⟨i, e0, e⟩ := Option.bind_eq_some_iff.mp e
  obtain ⟨ms, e1, rfl⟩ := Option.map_eq_some_iff.mp e
  exact ⟨i, ms, intI_some e0, e1, rfl⟩
theorem strsP_cons {v : PVal} {r : List PVal} {ns : List Str} (e : strsP (v :: r) = some ns) : ∃ i ms, v = .str i ∧ strsP r = some ms ∧ ns = i :: ms := by
  obtain ⟨i, e0, e⟩ := Option.bind_eq_some_iff.mp e
  obtain ⟨ms, e1, rfl⟩ := Option.map_eq_some_iff.mp e
  exact ⟨i, ms, strI_some e0, e1, rfl⟩
theorem intsP_sound {h : Heap} {B : List Addr} {vs : List PVal} : ∀ {xs : List Value} {ns : List Int}, intsP vs = some ns → BRels h B vs xs → IntsAre xs ns := by
  induction vs with
  | nil => intro xs ns e r; cases r; cases e; exact .nil
  | cons v r ih =>
    intro xs ns e q
    obtain ⟨i, ms, rfl, e1, rfl⟩ := intsP_cons e
    cases q with | cons a q => cases a with | int _ t => exact .cons _ _ (ih e1 q)
theorem strsP_sound {h : Heap} {B : List Addr} {vs : List PVal} : ∀ {xs : List Value} {ns : List Str}, strsP vs = some ns → BRels h B vs xs → ∃ l : List (Str × Tok), xs = strValues l ∧ l.map (·.1) = ns := by
  induction vs with
  | nil => intro xs ns e r; cases r; cases e; exact ⟨[], rfl, rfl⟩
  | cons v r ih =>
    intro xs ns e q
    obtain ⟨i, ms, rfl, e1, rfl⟩ := strsP_cons e
    cases q with | cons a q =>
      obtain ⟨l, rfl, e2⟩ := ih e1 q
      cases a with | str _ t => exact ⟨(i, t) :: l, rfl, by rw [List.map_cons, e2]⟩

/-- comparisons -/
noncomputable def ordP (op : CmpOp) (x y : Int) : Option Bool := match op with
  | .Lt => some (decide (x < y))
  | .LtE => some (decide (x ≤ y))
  | .Gt => some (decide (x > y))
  | .GtE => some (decide (x ≥ y))
  | _ => none
noncomputable def eqP (a b : PVal) : Option Bool := match a, b with
  | .int x, .int y => some (x == y)
  | .str x, .str y => some (x == y)
  | _, _ => none
noncomputable def neP (a b : PVal) : Option Bool := match a, b with
  | .int x, .int y => some (x != y)
  | .str x, .str y => some (x != y)
  | .bool x, .bool y => some (x != y)
  | .lst x, .lst y => (intsP x).bind fun ns => (intsP y).map fun ms => !decide (ns = ms)
  | _, _ => none
noncomputable def cmpP (op : CmpOp) (a b : PVal) : Option Bool := match op with
  | .Eq => eqP a b
  | .NotEq => neP a b
  | .NotIn => (strI a).bind fun x => (strI b).map fun y => !(Txt.contains y x)
  | op => (intI a).bind fun x => (intI b).bind fun y => ordP op x y

section ops
variable {X : Cx} {ρ : List Addr} {H : PH} {s : Shared} {A : Around} {Q : Value → Shared → Prop} {E : Value → Shared → Prop} {d : Nat}

theorem cmp_sound {op : CmpOp} {a b : PVal} {v : Bool} {x y : Value} (hv : cmpP op a b = some v) (hA : Room d A) (ra : VRel X ρ s.heap a x) (rb : VRel X ρ s.heap b y) (k : Q (.bool v) s) : wpAny X.M A (compareOp op x y) Q E s := by
  have num : ∀ {x y : Int} {t u : Tok}, ordP op x y = some v → wpAny X.M A (compareOp op (.int x t) (.int y u)) Q E s := fun {x y t u} hw => by
    unfold ordP at hw
    split at hw
    · cases hw; exact PyProof.Rows.lt_int k
    · cases hw; exact PyProof.Rows.le_int k
    · cases hw; exact PyProof.Rows.gt_int k
    · cases hw; exact PyProof.Rows.ge_int k
    · cases hw
  unfold cmpP at hv
  split at hv
  · unfold eqP at hv
    split at hv
    · obtain ⟨t, rfl⟩ := ra.int_inv; obtain ⟨u, rfl⟩ := rb.int_inv; cases hv; exact PyProof.Rows.eq_int k
    · obtain ⟨t, rfl⟩ := ra.str_inv; obtain ⟨u, rfl⟩ := rb.str_inv; cases hv; exact PyProof.Rows.eq_str k
    · cases hv
  · unfold neP at hv
    split at hv
    · obtain ⟨t, rfl⟩ := ra.int_inv; obtain ⟨u, rfl⟩ := rb.int_inv; cases hv; exact PyProof.Rows.ne_int k
    · obtain ⟨t, rfl⟩ := ra.str_inv; obtain ⟨u, rfl⟩ := rb.str_inv; cases hv; exact PyProof.Rows.ne_str k
    · obtain rfl := ra.bool_inv; obtain rfl := rb.bool_inv; cases hv; exact PyProof.Rows.ne_bool k
    · obtain ⟨a, xs, rfl, p, _, r⟩ := ra.lst_inv; obtain ⟨b, ys, rfl, q, _, r'⟩ := rb.lst_inv
      obtain ⟨ns, e1, e2⟩ := Option.bind_eq_some_iff.mp hv
      obtain ⟨ms, e3, rfl⟩ := Option.map_eq_some_iff.mp e2
      exact ke_ne_ints p.isList q.isList (intsP_sound e1 r) (intsP_sound e3 r') (by have := hA.un; (first | lia | omega)) k
    · cases hv
  · obtain ⟨i, e1, hv⟩ := Option.bind_eq_some_iff.mp hv
    obtain ⟨j, e2, hv⟩ := Option.map_eq_some_iff.mp hv
    obtain rfl := strI_some e1
    obtain rfl := strI_some e2
    obtain ⟨t, rfl⟩ := ra.str_inv; obtain ⟨u, rfl⟩ := rb.str_inv; cases hv; exact PyProof.Rows.notIn_str k
  · obtain ⟨i, e1, hv⟩ := Option.bind_eq_some_iff.mp hv
    obtain ⟨j, e2, hv⟩ := Option.bind_eq_some_iff.mp hv
    obtain rfl := intI_some e1
    obtain rfl := intI_some e2
    obtain ⟨t, rfl⟩ := ra.int_inv; obtain ⟨u, rfl⟩ := rb.int_inv
    exact num hv

noncomputable def truthP (v : PVal) (_H : PH) : Option Bool :=
  match v with
  | .bool b => some b
  | .int i => some (i != 0)
  | .str x => if x.length ≤ sizeLine then some (x.length != 0) else none
  | .tup vs => if vs.length ≤ sizeLine then some (!vs.isEmpty) else none
  | .lst vs => if vs.length ≤ sizeLine then some (!vs.isEmpty) else none
  | _ => none
end ops

end Mine

end

/- Ev4 -/
section
open PySem PySem.W PyProof.Rows
set_option maxRecDepth 100000
namespace Mine

section ops
variable {X : Cx} {ρ : List Addr} {H : PH} {s : Shared} {A : Around} {E : Value → Shared → Prop} {d : Nat}

theorem VRels.one {h : Heap} {v : PVal} {xs : List Value} (r : VRels X ρ h [v] xs) : ∃ x, xs = [x] ∧ VRel X ρ h v x := by
  cases r with | cons a r => cases r; exact ⟨_, rfl, a⟩
theorem VRels.two {h : Heap} {v w : PVal} {xs : List Value} (r : VRels X ρ h [v, w] xs) : ∃ x y, xs = [x, y] ∧ VRel X ρ h v x ∧ VRel X ρ h w y := by
  cases r with | cons a r => obtain ⟨y, rfl, b⟩ := r.one; exact ⟨_, _, rfl, a, b⟩
theorem VRels.three {h : Heap} {v w u : PVal} {xs : List Value} (r : VRels X ρ h [v, w, u] xs) : ∃ x y z, xs = [x, y, z] ∧ VRel X ρ h v x ∧ VRel X ρ h w y ∧ VRel X ρ h u z := by
  cases r with | cons a r => obtain ⟨y, z, rfl, b, c⟩ := r.two; exact ⟨_, _, _, rfl, a, b, c⟩
theorem VRels.four {h : Heap} {v w u p : PVal} {xs : List Value} (r : VRels X ρ h [v, w, u, p] xs) : ∃ x y z q, xs = [x, y, z, q] ∧ VRel X ρ h v x ∧ VRel X ρ h w y ∧ VRel X ρ h u z ∧ VRel X ρ h p q := by
  cases r with | cons a r => obtain ⟨y, z, q, rfl, b, c, e⟩ := r.three; exact ⟨_, _, _, _, rfl, a, b, c, e⟩

theorem BRels.empty {h : Heap} {B : List Addr} {vs : List PVal} {xs : List Value} (r : BRels h B vs xs) : (!xs.toArray.isEmpty) = !vs.isEmpty := by cases r <;> rfl

theorem truth_sound {v : PVal} {b : Bool} {x : Value} {Q : Bool → Shared → Prop} (hv : truthP v H = some b) (ra : VRel X ρ s.heap v x) (k : ∀ tk', Q b { s with toks := tk' }) : wpAny X.M A (truthy x) Q E s := by
  unfold truthP at hv
  split at hv
  · obtain rfl := ra.bool_inv; cases hv; exact wpAny_truthy_bool (k s.toks)
  · obtain ⟨t, rfl⟩ := ra.int_inv; cases hv; exact PyProof.Rows.truthy_int (k s.toks)
  · obtain ⟨t, rfl⟩ := ra.str_inv
    split at hv
    · rename_i hl; cases hv
      refine P.truthy_str (by have : sizeLine = 16777216 := rfl; (first | lia | omega)) ?_
      rename_i x
      have e : ((x.length : Int) != 0) = (x.length != 0) := by
        cases x.length with
        | zero => rfl
        | succ n => rfl
      rw [e]; exact k _
    · cases hv
  · obtain ⟨a, xs, rfl, p, _, r⟩ := ra.tup_inv
    split at hv
    · rename_i hl; cases hv
      refine PyProof.Rows.truthy_tuple p.isTup (by have : sizeLine = 16777216 := rfl; have := r.length; simp; (first | lia | omega)) ?_
      have e := r.empty
      rw [e]; exact k _
    · cases hv
  · obtain ⟨a, xs, rfl, p, _, r⟩ := ra.lst_inv
    split at hv
    · rename_i hl; cases hv
      refine wpAny_truthy_list p.isList (by have : sizeLine = 16777216 := rfl; have := r.length; simp; (first | lia | omega)) ?_
      have e := r.empty
      rw [e]; exact k _
    · cases hv
  · cases hv

/-- the i-th mutable list changed -/
theorem HRel.upd {H : PH} {h h' : Heap} (R : HRel X ρ H h) {i : Nat} {a : Addr} (e : ρ[i]? = some a) {vs : List PVal} {xs : List Value} (p : h'.PlainList a xs.toArray) (r : BRels h (X.ban ρ) vs xs) (sb : Heap.SameBut a h h') :
    HRel X ρ (H.set i vs) h' ∧ Pres X ρ h h' := by
  have ha : a ∈ X.ban ρ := List.mem_append_left _ (List.mem_of_getElem? e)
  have P : Pres X ρ h h' := fun b o eb n => (sb.2 b fun q => n (q ▸ ha)).trans eb
  obtain ⟨_, _, _, ⟨n0, e0⟩, _⟩ := R.at e
  refine ⟨⟨fun b o eb => (sb.2 b fun q => ?_).trans (R.keep b o eb), R.nodup, R.apart, R.fresh, by simpa using R.len, fun j b ws ej ew => ?_, fun b hb => ?_, X.tik _ _ R.ti fun b o eb c => (sb.2 b fun q => ?_).trans eb, R.pre⟩, P⟩
  · rw [q, R.fresh a ha] at eb; cases eb
  · by_cases hji : j = i
    · subst hji
      rw [e] at ej; cases ej
      rw [List.getElem?_set_self (R.len ▸ (List.getElem?_eq_some_iff.mp e).1)] at ew
      cases ew
      exact ⟨xs, p, r.pres P⟩
    · rw [List.getElem?_set_ne (Ne.symm hji)] at ew
      obtain ⟨ys, ⟨n, e1⟩, r1⟩ := R.objs j b ws ej ew
      refine ⟨ys, ⟨n, (sb.2 b fun q => hji ?_).trans e1⟩, r1.pres P⟩
      subst q
      obtain ⟨hj, e2⟩ := List.getElem?_eq_some_iff.mp ej
      obtain ⟨hi, e3⟩ := List.getElem?_eq_some_iff.mp e
      exact (List.getElem_inj R.nodup).mp (e2.trans e3.symm)
  · obtain ⟨o, e1, c⟩ := R.tobs b hb
    refine ⟨o, (sb.2 b fun q => ?_).trans e1, c⟩
    subst q
    exact R.apart b (List.mem_of_getElem? e) hb
  · subst q
    rw [e0] at eb
    have eb := Option.some.inj eb
    subst eb
    obtain ⟨_, vs, c⟩ := c
    cases c

noncomputable def rngL (a b : Int) : List PVal := (List.range (b - a).toNat).map fun (k : Nat) => PVal.int (a + (k : Int))
noncomputable def PVal.isRef : PVal → Bool
  | .ref _ => true
  | _ => false
theorem VRel.byval {v : PVal} {x : Value} {h : Heap} (r : VRel X ρ h v x) (n : v.isRef = false) : BRel h (X.ban ρ) v x := by
  cases r with
  | «by» r => exact r
  | ref _ => cases n

inductive BI where
  | len | sum | divmod | range | list | split | startswith | endswith | find | join | count | lcount | bitlen | append | reverse

noncomputable def BI.val : BI → Value
  | .len => .builtin "len"
  | .sum => .builtin "sum"
  | .divmod => .builtin "divmod"
  | .range => .type "range"
  | .list => .type "list"
  | .split => .builtin "str.split"
  | .startswith => .builtin "str.startswith"
  | .endswith => .builtin "str.endswith"
  | .find => .builtin "str.find"
  | .join => .builtin "str.join"
  | .count => .builtin "str.count"
  | .lcount => .builtin "list.count"
  | .bitlen => .builtin "int.bit_length"
  | .append => .builtin "list.append"
  | .reverse => .builtin "list.reverse"

noncomputable def findP (x y : Str) (a b : Int) : Int := match Builtin.Str.occurrences x y (fromIndex x.length a) (min (fromIndex x.length b) x.length) 1 with | k :: _ => (k : Int) | [] => -1

noncomputable def bi_len (args : List PVal) (H : PH) : Option (PVal × PH) := match args with
  | [.str x] => if x.length ≤ sizeLine then some (.int x.length, H) else none
  | [.lst vs] => if vs.length ≤ sizeLine then some (.int vs.length, H) else none
  | [.ref i] => (H[i]?).bind fun vs => if vs.length ≤ sizeLine then some (.int vs.length, H) else none
  | _ => none
noncomputable def bi_sum (args : List PVal) (H : PH) : Option (PVal × PH) := match args with
  | [.lst vs] => (intsP vs).map fun ns => (.int ns.sum, H)
  | _ => none
noncomputable def bi_divmod (args : List PVal) (H : PH) : Option (PVal × PH) := match args with
  | [.int a, .int b] => if b ≠ 0 ∧ Builtin.Int.intBits b ≤ 9000 then some (.tup [.int (a.fdiv b), .int (a.fmod b)], H) else none
  | _ => none
noncomputable def bi_range (args : List PVal) (H : PH) : Option (PVal × PH) := match args with
  | [.int n] => some (.rng 0 n, H)
  | [.int a, .int b] => some (.rng a b, H)
  | _ => none
noncomputable def bi_list (args : List PVal) (H : PH) : Option (PVal × PH) := match args with
  | [.rng a b] => if -1000000 ≤ a ∧ a ≤ 1000000 ∧ -1000000 ≤ b ∧ b ≤ 1000000 then some (.lst (rngL a b), H) else none
  | _ => none
noncomputable def bi_split (args : List PVal) (H : PH) : Option (PVal × PH) := match args with
  | [.str x, .str y] => if y.length ≠ 0 ∧ x.length ≤ sizeLine ∧ (Txt.split x y).length ≤ sizeLine then some (.lst ((Txt.split x y).map .str), H) else none
  | _ => none
noncomputable def bi_startswith (args : List PVal) (H : PH) : Option (PVal × PH) := match args with
  | [.str x, .str y] => some (.bool (Txt.startswith x y), H)
  | _ => none
noncomputable def bi_endswith (args : List PVal) (H : PH) : Option (PVal × PH) := match args with
  | [.str x, .str y] => some (.bool (Txt.endswith x y), H)
  | _ => none
noncomputable def bi_find (args : List PVal) (H : PH) : Option (PVal × PH) := match args with
  | [.str x, .str y, .int a, .int b] => some (.int (findP x y a b), H)
  | _ => none
noncomputable def bi_join (args : List PVal) (H : PH) : Option (PVal × PH) := match args with
  | [.str x, .lst vs] => (strsP vs).bind fun ts => if JoinOk x ts = true then some (.str (Txt.join x ts), H) else none
  | _ => none
noncomputable def bi_count (args : List PVal) (H : PH) : Option (PVal × PH) := match args with
  | [.str x, .str y] => some (.int (Txt.count x y), H)
  | _ => none
noncomputable def bi_lcount (args : List PVal) (H : PH) : Option (PVal × PH) := match args with
  | [.lst vs, .int k] => (intsP vs).map fun ns => (.int (ns.count k : Nat), H)
  | _ => none
noncomputable def bi_bitlen (args : List PVal) (H : PH) : Option (PVal × PH) := match args with
  | [.int a] => some (.int (Builtin.Int.intBits a), H)
  | _ => none
noncomputable def bi_append (args : List PVal) (H : PH) : Option (PVal × PH) := match args with
  | [.ref i, v] => (H[i]?).bind fun vs => if v.isRef = false ∧ vs.length ≤ sizeLine then some (.none, H.set i (vs ++ [v])) else none
  | _ => none
noncomputable def bi_reverse (args : List PVal) (H : PH) : Option (PVal × PH) := match args with
  | [.ref i] => (H[i]?).bind fun vs => if vs.length ≤ sizeLine then some (.none, H.set i vs.reverse) else none
  | _ => none
noncomputable def biP (f : BI) (args : List PVal) (H : PH) : Option (PVal × PH) := match f with
  | .len => bi_len args H
  | .sum => bi_sum args H
  | .divmod => bi_divmod args H
  | .range => bi_range args H
  | .list => bi_list args H
  | .split => bi_split args H
  | .startswith => bi_startswith args H
  | .endswith => bi_endswith args H
  | .find => bi_find args H
  | .join => bi_join args H
  | .count => bi_count args H
  | .lcount => bi_lcount args H
  | .bitlen => bi_bitlen args H
  | .append => bi_append args H
  | .reverse => bi_reverse args H

theorem gives_find4 (x y : Str) (i j : Int) (t u v w : Tok) : Gives (Builtin.«str.find» ⟨[.str x t, .str y u, .int i v, .int j w], []⟩) (.int (findP x y i j)) := by
  show Gives (match Builtin.Str.occurrences x y (fromIndex x.length i) (min (fromIndex x.length j) x.length) 1 with | k :: _ => retInt k | [] => (do rule "str.find.not-found"; retInt (-1))) _
  unfold findP
  cases Builtin.Str.occurrences x y (fromIndex x.length i) (min (fromIndex x.length j) x.length) 1 with
  | nil => exact .rule (.of_eq rfl)
  | cons k _ => exact .of_eq rfl

theorem split_call {Q : Value → Shared → Prop} {x y : Str} {t u : Tok} (hy : y.length ≠ 0) (hx : x.length ≤ sizeLine) (hn : (Txt.split x y).length ≤ sizeLine)
    (k : ∀ (l : List (Str × Tok)) (tk : Nat), l.map (·.1) = Txt.split x y → Q (.ref s.heap.objs.size) { s with heap := s.heap.push { cls := .type "list", data := .seq (strValues l).toArray }, toks := tk }) :
    wpAny X.M A (call (.builtin "str.split") [.str x t, .str y u]) Q E s := by
  have hy' : (y.length == 0) = false := by simpa using hy
  cases h1 : (decide (x.length < y.length) || decide (Builtin.Str.strKind x < Builtin.Str.strKind y))
  · cases hf : (Builtin.Str.occurrences x y 0 x.length (x.length + 1)).isEmpty
    · have e : Txt.split x y = Builtin.Str.partsBetween x (Builtin.Str.occurrences x y 0 x.length (x.length + 1)) y.length := (if_neg (ne_true_of_eq_false h1)).trans (if_neg (ne_true_of_eq_false hf))
      refine call_meets F.slot_str_split (typeIs_str _ _ _) F.entry_str_split (F.args_str_split_2 _ _) (meets_str_split_sep x y t u h1 hy' hf hx (e ▸ hn)) ?_
      show wants Q E _ { s with toks := _, heap := s.heap.push { cls := .type "list", data := .seq (strsFrom s.toks (Builtin.Str.partsBetween x (Builtin.Str.occurrences x y 0 x.length (x.length + 1)) y.length)).toArray } }
      rw [strsFrom_eq]
      exact k (PySem.numbered s.toks _) _ ((numbered_texts _ _).trans e.symm)
    · exact call_meets F.slot_str_split (typeIs_str _ _ _) F.entry_str_split (F.args_str_split_2 _ _) (meets_str_split_not_found x y t u h1 hy' hf)
        (k [(x, t)] s.toks ((if_neg (ne_true_of_eq_false h1)).trans (if_pos hf)).symm)
  · exact call_meets F.slot_str_split (typeIs_str _ _ _) F.entry_str_split (F.args_str_split_2 _ _) (meets_str_split_cannot_occur x y t u h1) (k [(x, t)] s.toks (if_pos h1).symm)

theorem BRels.strs {h : Heap} {B : List Addr} : ∀ {l : List (Str × Tok)} {xs : List Str}, l.map (·.1) = xs → BRels h B (xs.map .str) (strValues l)
  | [], _, e => by subst e; exact .nil
  | (x, t) :: l, _, e => by subst e; exact .cons (.str x t) (BRels.strs (l := l) rfl)

theorem rng_items {h : Heap} {B : List Addr} (a : Int) : ∀ (n m : Nat) (xs : List Value), xs.length = n → (∀ i v, xs[i]? = some v → ∃ t, v = Value.int (a + ((i + m : Nat) : Int)) t) →
    BRels h B ((List.range n).map fun (k : Nat) => PVal.int (a + ((k + m : Nat) : Int))) xs := by
  intro n
  induction n with
  | zero => intro m xs e _; cases xs with | nil => exact .nil | cons _ _ => cases e
  | succ n ih =>
    intro m xs e k
    cases xs with
    | nil => cases e
    | cons x xs =>
      obtain ⟨t, rfl⟩ := k 0 x (by simp)
      rw [List.range_succ_eq_map, List.map_cons, List.map_map]
      refine .cons (.int _ t) ?_
      have := ih (m + 1) xs (by simpa using e) fun i v hv => by
        obtain ⟨t, rfl⟩ := k (i + 1) v (by simpa using hv)
        exact ⟨t, by congr 2; (first | lia | omega)⟩
      have e2 : ((fun (k : Nat) => PVal.int (a + ((k + m : Nat) : Int))) ∘ Nat.succ) = fun (k : Nat) => PVal.int (a + ((k + (m + 1) : Nat) : Int)) := by
        funext k; simp only [Function.comp]; congr 2; (first | lia | omega)
      rw [e2]; exact this

theorem rng_rel {h : Heap} {B : List Addr} {a b : Int} {acc : Array Value} (hI : ItemsOf (fun i v => ∃ t, v = Value.int (a + i * 1) t) acc (b - a).toNat) : BRels h B (rngL a b) acc.toList := by
  have := rng_items (h := h) (B := B) a (b - a).toNat 0 acc.toList (by simpa using hI.1) fun i v hv => by
    obtain ⟨t, rfl⟩ := hI.2 i v (by simpa using hv)
    exact ⟨t, by simp⟩
  simpa [rngL] using this

theorem rng_small {a b : Int} (h : -1000000 ≤ a ∧ a ≤ 1000000 ∧ -1000000 ≤ b ∧ b ≤ 1000000) : Builtin.Range.small a b 1 = true ∧ Builtin.Range.rangeSize a b 1 = ((b - a).toNat : Int) := by
  have h2 := PyProof.Rows.rangeSize_nat a b
  have fit : ∀ i : Int, -10000000 ≤ i → i ≤ 10000000 → Builtin.Range.rangeFitsLong i = true := fun i h1 h2 => by
    unfold Builtin.Range.rangeFitsLong
    rw [Bool.and_eq_true]
    exact ⟨decide_eq_true (by (first | lia | omega)), decide_eq_true (by (first | lia | omega))⟩
  refine ⟨?_, h2⟩
  unfold Builtin.Range.small
  rw [h2, fit a (by (first | lia | omega)) (by (first | lia | omega)), fit b (by (first | lia | omega)) (by (first | lia | omega)), fit 1 (by (first | lia | omega)) (by (first | lia | omega)), fit _ (by (first | lia | omega)) (by (first | lia | omega)), if_pos (by decide), fit (b + (1 - 1)) (by (first | lia | omega)) (by (first | lia | omega))]
  simp

theorem bi_sound {f : BI} {args : List PVal} {v : PVal} {H' : PH} {xs : List Value} {Q : Value → Shared → Prop} (hv : biP f args H = some (v, H')) (hA : Room d A) (R : HRel X ρ H s.heap) (ra : VRels X ρ s.heap args xs)
    (k : ∀ r h' tk', HRel X ρ H' h' → VRel X ρ h' v r → Pres X ρ s.heap h' → Q r { s with heap := h', toks := tk' }) : wpAny X.M A (call f.val xs) Q E s := by
  have hS : sizeLine = 16777216 := rfl
  have keepS : ∀ v r tk, VRel X ρ s.heap v r → (v = v) → ∀ {H'' : PH}, H'' = H → (∀ r h' tk', HRel X ρ H'' h' → VRel X ρ h' v r → Pres X ρ s.heap h' → Q r { s with heap := h', toks := tk' }) → Q r { s with toks := tk } :=
    fun v r tk rv _ H'' e k => by subst e; exact k r s.heap tk R rv (Pres.refl _ _ _)
  cases f
  · replace hv : bi_len args H = some (v, H') := hv
    unfold bi_len at hv
    split at hv
    · -- len str
      obtain ⟨_, rfl, a⟩ := ra.one; obtain ⟨t, rfl⟩ := a.str_inv
      split at hv
      · cases hv; exact PyProof.Rows.len_str (by (first | lia | omega)) (k _ s.heap _ R (.int _ _) (Pres.refl _ _ _))
      · cases hv
    · obtain ⟨_, rfl, a⟩ := ra.one; obtain ⟨aa, ys, rfl, p, _, r⟩ := a.lst_inv
      split at hv
      · cases hv
        have := r.length
        refine Calls.call_len_list p.isList (by simp; (first | lia | omega)) (k _ s.heap _ R ?_ (Pres.refl _ _ _))
        rw [this]; simpa using VRel.int _ _
      · cases hv
    · obtain ⟨_, rfl, a⟩ := ra.one; obtain ⟨aa, rfl, e⟩ := a.ref_inv
      obtain ⟨vs, ys, e2, p, r⟩ := R.at e
      rw [e2] at hv
      simp only [Option.bind_some] at hv
      split at hv
      · cases hv
        have := r.length
        refine Calls.call_len_list p.isList (by simp; (first | lia | omega)) (k _ s.heap _ R ?_ (Pres.refl _ _ _))
        rw [this]; simpa using VRel.int _ _
      · cases hv
    · cases hv
  · replace hv : bi_sum args H = some (v, H') := hv
    unfold bi_sum at hv
    split at hv
    · obtain ⟨_, rfl, a⟩ := ra.one; obtain ⟨aa, ys, rfl, p, _, r⟩ := a.lst_inv
      obtain ⟨ns, e, e2⟩ := Option.map_eq_some_iff.mp hv
      cases e2
      have hi := intsP_sound e r
      obtain ⟨zs, ez⟩ := hi.allInts.items
      have hl : s.heap.IsList aa (intItems zs) := ez ▸ p.isList
      refine sum_intListG hA.hd hl fun h' tk t' hk => ?_
      have en : preSum (numAt zs) zs.size = ns.sum := by
        have := hi.numsOf
        rw [preSum_eq, List.take_of_length_le (by simp)]
        rw [← nums_intItems, ← ez]; simpa using congrArg List.sum this
      rw [en]
      exact k _ h' tk (R.keeps hk) (.int _ _) (Keeps.pres hk)
    · cases hv
  · replace hv : bi_divmod args H = some (v, H') := hv
    unfold bi_divmod at hv
    split at hv
    · obtain ⟨_, _, rfl, a, b⟩ := ra.two; obtain ⟨t, rfl⟩ := a.int_inv; obtain ⟨u, rfl⟩ := b.int_inv
      split at hv
      · rename_i hb; cases hv
        refine divmod_int hb.1 ?_ (.inl (noPy hb.1 hb.2))
        exact k _ _ _ (R.keeps (Keeps.push _ _)) (newTup (n := 0) R (.cons (.int _ _) (.cons (.int _ _) .nil))) (Keeps.push _ _).pres
      · cases hv
    · cases hv
  · replace hv : bi_range args H = some (v, H') := hv
    unfold bi_range at hv
    split at hv
    · obtain ⟨_, rfl, a⟩ := ra.one; obtain ⟨t, rfl⟩ := a.int_inv
      cases hv
      exact call_range_1 (k _ _ _ (R.keeps (Keeps.push _ _)) (.by (.rng (IsRange.new ..) R.new)) (Keeps.push _ _).pres)
    · obtain ⟨_, _, rfl, a, b⟩ := ra.two; obtain ⟨t, rfl⟩ := a.int_inv; obtain ⟨u, rfl⟩ := b.int_inv
      cases hv
      exact call_range_2 (k _ _ _ (R.keeps (Keeps.push _ _)) (.by (.rng (IsRange.new ..) R.new)) (Keeps.push _ _).pres)
    · cases hv
  · replace hv : bi_list args H = some (v, H') := hv
    unfold bi_list at hv
    split at hv
    · obtain ⟨_, rfl, a⟩ := ra.one; obtain ⟨r, t, u, w, rfl, p, _⟩ := a.rng_inv
      split at hv
      · rename_i hb; cases hv
        obtain ⟨h1, h2⟩ := rng_small hb
        refine call_list_range hA.hd p h1 h2 (by (first | lia | omega)) fun h' tk acc c' hk hn hI => ?_
        refine k _ h' tk (R.keeps hk) ?_ (Keeps.pres hk)
        exact .by (.lst (xs := acc.toList) ⟨c', hn⟩ R.new (rng_rel hI))
      · cases hv
    · cases hv
  · replace hv : bi_split args H = some (v, H') := hv
    unfold bi_split at hv
    split at hv
    · obtain ⟨_, _, rfl, a, b⟩ := ra.two; obtain ⟨t, rfl⟩ := a.str_inv; obtain ⟨u, rfl⟩ := b.str_inv
      split at hv
      · rename_i hb; cases hv
        refine split_call hb.1 hb.2.1 hb.2.2 fun l tk e => ?_
        exact k _ _ _ (R.keeps (Keeps.push _ _)) (newLst (n := 0) R (BRels.strs e)) (Keeps.push _ _).pres
      · cases hv
    · cases hv
  · replace hv : bi_startswith args H = some (v, H') := hv
    unfold bi_startswith at hv
    split at hv
    · obtain ⟨_, _, rfl, a, b⟩ := ra.two; obtain ⟨t, rfl⟩ := a.str_inv; obtain ⟨u, rfl⟩ := b.str_inv
      cases hv; exact SC.startswith (k _ s.heap s.toks R (.bool _) (Pres.refl _ _ _))
    · cases hv
  · replace hv : bi_endswith args H = some (v, H') := hv
    unfold bi_endswith at hv
    split at hv
    · obtain ⟨_, _, rfl, a, b⟩ := ra.two; obtain ⟨t, rfl⟩ := a.str_inv; obtain ⟨u, rfl⟩ := b.str_inv
      cases hv; exact SC.endswith (k _ s.heap s.toks R (.bool _) (Pres.refl _ _ _))
    · cases hv
  · replace hv : bi_find args H = some (v, H') := hv
    unfold bi_find at hv
    split at hv
    · obtain ⟨_, _, _, _, rfl, a, b, c, dd⟩ := ra.four; obtain ⟨t, rfl⟩ := a.str_inv; obtain ⟨u, rfl⟩ := b.str_inv; obtain ⟨v1, rfl⟩ := c.int_inv; obtain ⟨w1, rfl⟩ := dd.int_inv
      cases hv
      exact call_gives F.slot_str_find (typeIs_str _ _ _) F.entry_str_find (F.args_str_find_4 _ _ _ _) (gives_find4 _ _ _ _ _ _ _ _) (k _ s.heap _ R (.int _ _) (Pres.refl _ _ _))
    · cases hv
  · replace hv : bi_join args H = some (v, H') := hv
    unfold bi_join at hv
    split at hv
    · obtain ⟨_, _, rfl, a, b⟩ := ra.two; obtain ⟨t, rfl⟩ := a.str_inv; obtain ⟨l, ys, rfl, p, _, r⟩ := b.lst_inv
      obtain ⟨ts, e1, e2⟩ := Option.bind_eq_some_iff.mp hv
      split at e2
      · rename_i hj; cases e2
        obtain ⟨l', rfl, e3⟩ := strsP_sound e1 r
        exact SC.join p.isList e3 hj fun t' tk => k _ s.heap tk R (.str _ _) (Pres.refl _ _ _)
      · cases e2
    · cases hv
  · replace hv : bi_count args H = some (v, H') := hv
    unfold bi_count at hv
    split at hv
    · obtain ⟨_, _, rfl, a, b⟩ := ra.two; obtain ⟨t, rfl⟩ := a.str_inv; obtain ⟨u, rfl⟩ := b.str_inv
      cases hv; exact SC.count (k _ s.heap _ R (.int _ _) (Pres.refl _ _ _))
    · cases hv
  · replace hv : bi_lcount args H = some (v, H') := hv
    unfold bi_lcount at hv
    split at hv
    · obtain ⟨_, _, rfl, a, b⟩ := ra.two; obtain ⟨l, ys, rfl, p, _, r⟩ := a.lst_inv; obtain ⟨t, rfl⟩ := b.int_inv
      obtain ⟨ns, e, e2⟩ := Option.map_eq_some_iff.mp hv
      cases e2
      exact count_list_ints p.isList (intsP_sound e r) (k _ s.heap _ R (.int _ _) (Pres.refl _ _ _))
    · cases hv
  · replace hv : bi_bitlen args H = some (v, H') := hv
    unfold bi_bitlen at hv
    split at hv
    · obtain ⟨_, rfl, a⟩ := ra.one; obtain ⟨t, rfl⟩ := a.int_inv
      cases hv; exact call_int_bit_length (k _ s.heap _ R (.int _ _) (Pres.refl _ _ _))
    · cases hv
  · replace hv : bi_append args H = some (v, H') := hv
    unfold bi_append at hv
    split at hv
    · obtain ⟨_, _, rfl, a, b⟩ := ra.two; obtain ⟨aa, rfl, e⟩ := a.ref_inv
      obtain ⟨vs, ys, e2, p, r⟩ := R.at e
      rw [e2] at hv
      simp only [Option.bind_some] at hv
      split at hv
      · rename_i hb; cases hv
        refine wpAny_list_append_plain p (fun h' p' sb => ?_) (by have := r.length; simp; (first | lia | omega))
        have e3 : ys.toArray.push ‹Value› = (ys ++ [‹Value›]).toArray := by simp
        rw [e3] at p'
        have q := R.upd e p' (r.append (.cons (b.byval hb.1) .nil)) sb
        exact k _ h' s.toks q.1 .none q.2
      · cases hv
    · cases hv
  · replace hv : bi_reverse args H = some (v, H') := hv
    unfold bi_reverse at hv
    split at hv
    · obtain ⟨_, rfl, a⟩ := ra.one; obtain ⟨aa, rfl, e⟩ := a.ref_inv
      obtain ⟨vs, ys, e2, ⟨n, p⟩, r⟩ := R.at e
      rw [e2] at hv
      simp only [Option.bind_some] at hv
      split at hv
      · rename_i hb; cases hv
        refine call_meets F.slot_list_reverse ⟨_, p, rfl⟩ F.entry_list_reverse (F.args_list_reverse_1 _) (AutoSeq1.list_reverse_list_0 aa ys.toArray n (by have := r.length; simp; (first | lia | omega))) ⟨p, ?_⟩
        have p' := IsL.update p (fun x => x.reverse)
        have q := R.upd e (xs := ys.reverse) ⟨_, by simpa using p'⟩ r.reverse (Heap.SameBut.update ..)
        exact k _ _ s.toks q.1 .none q.2
      · cases hv
    · cases hv
end ops

end Mine

end

/- Ev5 -/
section
open PySem PySem.W PyProof.Rows
set_option maxRecDepth 100000
namespace Mine

/-- an iterator over values by value -/
structure Iter (X : Cx) (ρ : List Addr) (I : Addr) (vs : List PVal) (St : Nat → Heap → Prop) : Prop where
  nb : I ∉ X.ban ρ
  mach : ∀ i h, St i h → Mach X h I ∧ ∃ o, h.get? I = some o
  frame : ∀ i h h' (N : Addr → Prop), St i h → ¬ N I → (∀ t, N t → Mach X h t) → (∀ b o, ¬ N b → b ∉ X.ban ρ → h.get? b = some o → h'.get? b = some o) → St i h'
  item : ∀ (A : Around), A.handled = none → ∀ (i : Nat) (v : PVal) (s : Shared) (Q : Option Value → Shared → Prop) (E : Value → Shared → Prop), vs[i]? = some v → St i s.heap →
    (∀ r h' tk, BRel s.heap (X.ban ρ) v r → St (i + 1) h' → (∀ b o, b ≠ I → s.heap.get? b = some o → h'.get? b = some o) → Q (some r) { s with heap := h', toks := tk }) → wpAny X.M A (pyNext (.ref I)) Q E s
  done : ∀ (A : Around), A.handled = none → ∀ (s : Shared) (Q : Option Value → Shared → Prop) (E : Value → Shared → Prop), St vs.length s.heap →
    (∀ h' tk, (∀ b o, b ≠ I → s.heap.get? b = some o → h'.get? b = some o) → Q none { s with heap := h', toks := tk }) → wpAny X.M A (pyNext (.ref I)) Q E s
  self : ∀ (A : Around) (i : Nat) (s : Shared) (Q : Value → Shared → Prop) (E : Value → Shared → Prop), St i s.heap → Q (.ref I) s → wpAny X.M A (pyIter (.ref I)) Q E s

theorem Iter.pres {X : Cx} {ρ : List Addr} {I : Addr} {vs : List PVal} {St : Nat → Heap → Prop} (it : Iter X ρ I vs St) {i : Nat} {h h' : Heap} (st : St i h) (p : Pres X ρ h h') : St i h' :=
  it.frame i h h' (fun _ => False) st (fun q => q) (fun _ q => q.elim) fun b o _ n e => p b o e n
theorem Iter.but {X : Cx} {ρ : List Addr} {I : Addr} {vs : List PVal} {St : Nat → Heap → Prop} (it : Iter X ρ I vs St) {i : Nat} {h h' : Heap} {t : Addr} (st : St i h) (ht : t ≠ I) (mt : Mach X h t) (ke : ∀ b o, b ≠ t → h.get? b = some o → h'.get? b = some o) : St i h' :=
  it.frame i h h' (fun b => b = t) st (fun q => ht q.symm) (fun _ q => q ▸ mt) fun b o n _ e => ke b o n e

theorem Iter.of_walks {X : Cx} {ρ : List Addr} {I : Addr} {fp : List Addr} {vs : List PVal} {P : Nat → Value → Prop} {St : Nat → Heap → Prop} (St' : Heap → Prop) (W : ∀ A : Around, A.handled = none → Walks X.prog X.w A I fp [I] vs.length P St)
    (nb : I ∉ X.ban ρ) (base : X.base I = none) (cls : ∀ i h, St i h → ∃ o, h.get? I = some o ∧ ¬ isData o.cls ∧ o.cls ≠ .type "code" ∧ o.cls ≠ .none) (hfp : ∀ b ∈ fp, b ∉ X.ban ρ)
    (hfd : ∀ i h, St i h → ∀ b ∈ fp, b = I ∨ ∃ o, h.get? b = some o ∧ isDataO o)
    (hP : ∀ i v r h, vs[i]? = some v → P i r → St' h → BRel h (X.ban ρ) v r)
    (fr : ∀ (N : Addr → Prop) h h', (∀ t, N t → ∀ o, h.get? t = some o → ¬ isDataO o) → St' h → (∀ b o, ¬ N b → b ∉ X.ban ρ → h.get? b = some o → h'.get? b = some o) → St' h')
    (selfA : ∀ (A : Around) (i : Nat) (s : Shared) (Q : Value → Shared → Prop) (E : Value → Shared → Prop), St i s.heap → Q (.ref I) s → wpAny X.M A (pyIter (.ref I)) Q E s) :
    Iter X ρ I vs (fun i h => St i h ∧ St' h) where
  nb := nb
  mach := fun i h st => by
    obtain ⟨o, e, c⟩ := cls i h st.1
    exact ⟨⟨base, fun o' e' => by rw [e] at e'; cases e'; exact .inr (.inr c)⟩, o, e⟩
  frame := fun i h h' N st nI mN ke => by
    refine ⟨(W { } rfl).frame i h h' st.1 fun b hb o e => ke b o (fun q => ?_) (hfp b hb) e, fr N h h' (fun t ht o e => ((mN t ht).2 o e).noData) st.2 ke⟩
    rcases hfd i h st.1 b hb with rfl | ⟨o', e', d'⟩
    · exact nI q
    · exact ((mN b q).2 o' e').noData d'
  item := fun A hA i v s Q E hv st k => by
    have hi : i < vs.length := (List.getElem?_eq_some_iff.mp hv).1
    obtain ⟨o, e, c⟩ := cls i _ st.1
    refine (W A hA).item i s Q E hi st.1 fun r h' tk hr st' ke => ?_
    have ke' : ∀ b o, b ≠ I → s.heap.get? b = some o → h'.get? b = some o := fun b o hb e => ke b o (by simpa using hb) e
    exact k r h' tk (hP i v r s.heap hv hr st.2) ⟨st', fr (fun b => b = I) s.heap h' (fun t ht o' e' => by subst ht; rw [e] at e'; cases e'; exact fun q => c.1 q.1) st.2 fun b o hb _ e => ke' b o hb e⟩ ke'
  done := fun A hA s Q E st k => (W A hA).done s Q E st.1 fun h' tk ke => k h' tk fun b o hb e => ke b o (by simpa using hb) e
  self := fun A i s Q E st k => selfA A i s Q E st.1 k

noncomputable def itemsP (v : PVal) : Option (List PVal) :=
  match v with
  | .lst vs => if vs.length ≤ sizeLine then some vs else none
  | .tup vs => if vs.length ≤ sizeLine then some vs else none
  | .rng a b => if -1000000 ≤ a ∧ a ≤ 1000000 ∧ -1000000 ≤ b ∧ b ≤ 1000000 then some (rngL a b) else none
  | .str x => if x.length ≤ sizeLine then some (x.cps.toList.map fun c => .str ⟨#[c]⟩) else none
  | _ => none

section
variable {X : Cx} {ρ : List Addr} {H : PH} {s : Shared} {A : Around} {E : Value → Shared → Prop} {d : Nat}

theorem BRels.getR {h : Heap} {B : List Addr} : ∀ {vs : List PVal} {xs : List Value}, BRels h B vs xs → ∀ {i : Nat} {v : PVal} {x : Value}, vs[i]? = some v → xs[i]? = some x → BRel h B v x
  | _, _, .cons a _, 0, _, _, e, e' => by cases e; cases e'; exact a
  | _, _, .cons _ r, i + 1, _, _, e, e' => BRels.getR r (i := i) (by simpa using e) (by simpa using e')

theorem BRels.butN {h h' : Heap} {N : Addr → Prop} {vs : List PVal} {xs : List Value} (r : BRels h (X.ban ρ) vs xs) (hI : ∀ t, N t → ∀ o, h.get? t = some o → ¬ isDataO o) (ke : ∀ b o, ¬ N b → b ∉ X.ban ρ → h.get? b = some o → h'.get? b = some o) : BRels h' (X.ban ρ) vs xs :=
  r.move fun a o e c n => ⟨ke a o (fun q => hI a q o e c) n e, n⟩
theorem BRel.but {h h' : Heap} {I : Addr} {v : PVal} {x : Value} (r : BRel h (X.ban ρ) v x) (hI : ∀ o, h.get? I = some o → ¬ isDataO o) (ke : ∀ b o, b ≠ I → h.get? b = some o → h'.get? b = some o) : BRel h' (X.ban ρ) v x :=
  r.move fun a o e c n => ⟨ke a o (fun q => hI o (q ▸ e) c) e, n⟩

theorem iter_start {v : PVal} {x : Value} {vs : List PVal} {Q : Value → Shared → Prop} (hv : itemsP v = some vs) (R : HRel X ρ H s.heap) (rv : VRel X ρ s.heap v x)
    (k : ∀ h' tk, (∀ σ : List Addr, (∀ a ∈ σ, h'.get? a = none) → ∃ St, Iter X (ρ ++ σ) s.heap.objs.size vs St ∧ St 0 h') → Keeps s.heap h' → h'.objs.size = s.heap.objs.size + 1 → Q (.ref s.heap.objs.size) { s with heap := h', toks := tk }) : wpAny X.M A (pyIter x) Q E s := by
  have base := R.newBase
  have nbσ : ∀ (σ : List Addr) (o : Obj), o.isFreed = false → (∀ a ∈ σ, (s.heap.push o).get? a = none) → s.heap.objs.size ∉ X.ban (ρ ++ σ) := fun σ o ho hσ q => by
    have e := Heap.get?_push_size s.heap ho
    rcases List.mem_append.mp q with q | q
    · rcases List.mem_append.mp q with q | q
      · exact R.new (List.mem_append_left _ q)
      · rw [hσ _ q] at e; cases e
    · exact R.new (List.mem_append_right _ q)
  have naσ : ∀ (a : Addr) (σ : List Addr) (o o' : Obj), s.heap.get? a = some o' → a ∉ X.ban ρ → (∀ a ∈ σ, (s.heap.push o).get? a = none) → a ∉ X.ban (ρ ++ σ) := fun a σ o o' e na hσ q => by
    rcases List.mem_append.mp q with q | q
    · rcases List.mem_append.mp q with q | q
      · exact na (List.mem_append_left _ q)
      · have := Heap.get?_push_of_some o e; rw [hσ _ q] at this; cases this
    · exact na (List.mem_append_right _ q)
  have rσ : ∀ {vs : List PVal} {xs : List Value} (σ : List Addr) (o : Obj), BRels s.heap (X.ban ρ) vs xs → (∀ a ∈ σ, (s.heap.push o).get? a = none) → BRels (s.heap.push o) (X.ban (ρ ++ σ)) vs xs := fun σ o r hσ =>
    r.move fun a o' e _ n => ⟨Heap.get?_push_of_some o e, naσ a σ o o' e n hσ⟩
  have sz : ∀ o, (s.heap.push o).objs.size = s.heap.objs.size + 1 := fun o => Heap.size_push ..
  unfold itemsP at hv
  split at hv
  · obtain ⟨a, xs, rfl, p, na, r⟩ := rv.lst_inv
    split at hv
    · cases hv
      have hne : a ≠ s.heap.objs.size := by obtain ⟨n, p⟩ := p; exact Nat.ne_of_lt (Heap.lt_size p)
      refine wpAny_pyIter_list p.isList (k _ s.toks (fun σ hσ => ?_) (Keeps.push _ _) (sz _))
      obtain ⟨n, p⟩ := p
      have nb := nbσ σ _ rfl hσ
      have na := naσ a σ _ _ p na hσ
      have it := Iter.of_walks (X := X) (ρ := ρ ++ σ) (I := s.heap.objs.size) (vs := vs) (St := fun i h => h.IsListIter s.heap.objs.size a i ∧ h.IsList a xs.toArray) (fun h => BRels h (X.ban (ρ ++ σ)) vs xs)
        (fun A hA => by have := Walks.list (prog := X.prog) (w := X.w) hA s.heap.objs.size a hne xs.toArray; rwa [show xs.toArray.size = vs.length from by simp [r.length]] at this)
        nb base (fun i h st => by obtain ⟨o, e, c, _⟩ := st.1; exact ⟨o, e, by rw [c]; simp [isData], by rw [c]; simp, by rw [c]; simp⟩) (fun b hb => by simp at hb; rcases hb with rfl | rfl; exact nb; exact na)
        (fun i h st b hb => by simp at hb; rcases hb with rfl | rfl; exact .inl rfl; obtain ⟨o, e, c, n, d⟩ := st.2; exact .inr ⟨o, e, by simp [isData, c], .inl ⟨_, n, d⟩⟩)
        (fun i v r' h hv hr st => st.getR hv (by simpa using hr)) (fun N h h' hI st ke => st.butN hI ke) (fun A i s Q E st k => wpAny_pyIter_listiter st.1 k)
      exact ⟨_, it, ⟨⟨_, Heap.get?_push_size _ rfl, rfl, rfl⟩, ⟨_, Heap.get?_push_of_some _ p, rfl, n, rfl⟩⟩, rσ σ _ r hσ⟩
    · cases hv
  · obtain ⟨a, xs, rfl, p, na, r⟩ := rv.tup_inv
    split at hv
    · cases hv
      have hne : a ≠ s.heap.objs.size := by obtain ⟨n, p⟩ := p; exact Nat.ne_of_lt (Heap.lt_size p)
      refine wpAny_pyIter_tuple p.isTuple (k _ s.toks (fun σ hσ => ?_) (Keeps.push _ _) (sz _))
      obtain ⟨n, p⟩ := p
      have nb := nbσ σ _ rfl hσ
      have na := naσ a σ _ _ p na hσ
      have it := Iter.of_walks (X := X) (ρ := ρ ++ σ) (I := s.heap.objs.size) (vs := vs) (St := fun i h => h.IsTupleIter s.heap.objs.size a i ∧ h.IsTuple a xs.toArray) (fun h => BRels h (X.ban (ρ ++ σ)) vs xs)
        (fun A hA => by have := Walks.tuple (prog := X.prog) (w := X.w) hA s.heap.objs.size a hne xs.toArray; rwa [show xs.toArray.size = vs.length from by simp [r.length]] at this)
        nb base (fun i h st => by obtain ⟨o, e, c, _⟩ := st.1; exact ⟨o, e, by rw [c]; simp [isData], by rw [c]; simp, by rw [c]; simp⟩) (fun b hb => by simp at hb; rcases hb with rfl | rfl; exact nb; exact na)
        (fun i h st b hb => by simp at hb; rcases hb with rfl | rfl; exact .inl rfl; obtain ⟨o, e, c, n, d⟩ := st.2; exact .inr ⟨o, e, by simp [isData, c], .inl ⟨_, n, d⟩⟩)
        (fun i v r' h hv hr st => st.getR hv (by simpa using hr)) (fun N h h' hI st ke => st.butN hI ke) (fun A i s Q E st k => wpAny_pyIter_tupleiter st.1 k)
      exact ⟨_, it, ⟨⟨_, Heap.get?_push_size _ rfl, rfl, rfl⟩, ⟨_, Heap.get?_push_of_some _ p, rfl, n, rfl⟩⟩, rσ σ _ r hσ⟩
    · cases hv
  · rename_i p q
    obtain ⟨a, t, u, w, rfl, hr, na⟩ := rv.rng_inv
    split at hv
    · rename_i hb; cases hv
      obtain ⟨h1, h2⟩ := rng_small hb
      have hl : (rngL p q).length = (q - p).toNat := by simp [rngL]
      refine wpAny_pyIter_range hr h1 (k _ s.toks (fun σ hσ => ?_) (Keeps.push _ _) (sz _))
      have nb := nbσ σ _ rfl hσ
      have it := Iter.of_walks (X := X) (ρ := ρ ++ σ) (I := s.heap.objs.size) (vs := rngL p q) (fun _ => True)
        (fun A hA => by have := Walks.range (prog := X.prog) (w := X.w) hA s.heap.objs.size p 1 (q - p).toNat; rwa [← hl] at this)
        nb base (fun i h st => ⟨_, st, by simp [isData], by simp, by simp⟩) (fun b hb => by simp at hb; subst hb; exact nb) (fun i h st b hb => by simp at hb; exact .inl hb)
        (fun i v r' h hv hr st => by
          obtain ⟨t, rfl⟩ := hr
          have hi : i < (q - p).toNat := hl ▸ (List.getElem?_eq_some_iff.mp hv).1
          have : v = .int (p + i) := by simpa [rngL, hi, eq_comm] using hv
          subst this
          rw [Int.mul_one]; exact .int _ _) (fun N h h' hI st ke => trivial) (fun A i s Q E st k => wpAny_pyIter_rangeiter st k)
      refine ⟨_, it, ?_, trivial⟩
      have e := Heap.get?_push_size s.heap (o := { cls := .type "range_iterator", data := .fields #[rawInt p, rawInt (Builtin.Range.rangeSize p q 1), rawInt 1] }) rfl
      rw [h2] at e ⊢
      simpa [IsRangeIter, hl] using e
    · cases hv
  · rename_i x
    obtain ⟨t, rfl⟩ := rv.str_inv
    split at hv
    · cases hv
      have hl : (x.cps.toList.map fun c => PVal.str ⟨#[c]⟩).length = x.cps.size := by simp
      have prf : ∀ σ i v r' h, (x.cps.toList.map fun c => PVal.str ⟨#[c]⟩)[i]? = some v → SignAt x i r' → True → BRel h (X.ban (ρ ++ σ)) v r' := fun σ i v r' h hv hr _ => by
        obtain ⟨c, u, e, rfl⟩ := hr
        have hv' : (x.cps[i]?).map (fun c => PVal.str ⟨#[c]⟩) = some v := by simpa using hv
        rw [e] at hv'
        cases hv'
        exact .str _ _
      cases ha : x.cps.all (· < 128)
      · refine wpAny_pyIter_wide ha (k _ s.toks (fun σ hσ => ?_) (Keeps.push _ _) (sz _))
        have nb := nbσ σ _ rfl hσ
        have it := Iter.of_walks (X := X) (ρ := ρ ++ σ) (I := s.heap.objs.size) (vs := x.cps.toList.map fun c => PVal.str ⟨#[c]⟩) (fun _ => True)
          (fun A hA => by have := Walks.strWide (prog := X.prog) (w := X.w) hA s.heap.objs.size x t; rwa [← hl] at this)
          nb base (fun i h st => by obtain ⟨o, e, c, _⟩ := st; exact ⟨o, e, by rw [c]; simp [isData], by rw [c]; simp, by rw [c]; simp⟩) (fun b hb => by simp at hb; subst hb; exact nb) (fun i h st b hb => by simp at hb; exact .inl hb)
          (prf σ) (fun N h h' hI st ke => trivial) (fun A i s Q E st k => wpAny_pyIter_striter_wide st k)
        exact ⟨_, it, ⟨_, Heap.get?_push_size _ rfl, rfl, rfl⟩, trivial⟩
      · refine wpAny_pyIter_ascii ha (k _ s.toks (fun σ hσ => ?_) (Keeps.push _ _) (sz _))
        have nb := nbσ σ _ rfl hσ
        have it := Iter.of_walks (X := X) (ρ := ρ ++ σ) (I := s.heap.objs.size) (vs := x.cps.toList.map fun c => PVal.str ⟨#[c]⟩) (fun _ => True)
          (fun A hA => by have := Walks.strAscii (prog := X.prog) (w := X.w) hA s.heap.objs.size x t; rwa [← hl] at this)
          nb base (fun i h st => by obtain ⟨o, e, c, _⟩ := st; exact ⟨o, e, by rw [c]; simp [isData], by rw [c]; simp, by rw [c]; simp⟩) (fun b hb => by simp at hb; subst hb; exact nb) (fun i h st b hb => by simp at hb; exact .inl hb)
          (prf σ) (fun N h h' hI st ke => trivial) (fun A i s Q E st k => wpAny_pyIter_striter_ascii st k)
        exact ⟨_, it, ⟨_, Heap.get?_push_size _ rfl, rfl, rfl⟩, trivial⟩
    · cases hv
  · cases hv
end
end Mine

end

/- Ev6 -/
section
open PySem PySem.W PyProof.Rows
set_option maxRecDepth 100000
namespace Mine

noncomputable def fConst (v : PVal) : EF := fun _ H => some (v, H)
noncomputable def fVar (x : Str) : EF := fun V H => (V x).map fun v => (v, H)
noncomputable def fBin (op : Operator) (f g : EF) : EF := fun V H => (f V H).bind fun p => (g V p.2).bind fun q => (binP op p.1 q.1).map fun v => (v, q.2)
noncomputable def fCmp (op : CmpOp) (f g : EF) : EF := fun V H => (f V H).bind fun p => (g V p.2).bind fun q => (cmpP op p.1 q.1).map fun v => (.bool v, q.2)
noncomputable def bCmp (op : CmpOp) (f g : EF) : BF := fun V H => (f V H).bind fun p => (g V p.2).bind fun q => (cmpP op p.1 q.1).map fun v => (v, q.2)
noncomputable def bVal (f : EF) : BF := fun V H => (f V H).bind fun p => (truthP p.1 p.2).map fun b => (b, p.2)
noncomputable def bNot (f : BF) : BF := fun V H => (f V H).map fun p => (!p.1, p.2)
noncomputable def bOr (f g : BF) : BF := fun V H => (f V H).bind fun p => if p.1 = true then some (true, p.2) else g V p.2
noncomputable def fNot (f : EF) : EF := fun V H => (f V H).bind fun p => (truthP p.1 p.2).map fun b => (.bool (!b), p.2)
noncomputable def fNeg (i : Int) : EF := fConst (.int (-i))
noncomputable def fAnd (f g : EF) : EF := fun V H => (f V H).bind fun p => (truthP p.1 p.2).bind fun b => if b = true then g V p.2 else some p
noncomputable def lNil : LF := fun _ H => some ([], H)
noncomputable def lCons (f : EF) (g : LF) : LF := fun V H => (f V H).bind fun p => (g V p.2).map fun q => (p.1 :: q.1, q.2)
noncomputable def starP (v : PVal) : Option (List PVal) := match v with
  | .lst vs => if vs.length ≤ sizeLine then some vs else none
  | _ => none
noncomputable def lStar (f : EF) (g : LF) : LF := fun V H => (f V H).bind fun p => (starP p.1).bind fun vs => (g V p.2).map fun q => (vs ++ q.1, q.2)
noncomputable def allBy (vs : List PVal) : Bool := vs.all fun v => !v.isRef
noncomputable def fList (g : LF) : EF := fun V H => (g V H).bind fun p => if allBy p.1 = true ∧ p.1.length ≤ sizeLine then some (.lst p.1, p.2) else none
noncomputable def fTup (g : LF) : EF := fun V H => (g V H).bind fun p => if allBy p.1 = true ∧ p.1.length ≤ sizeLine then some (.tup p.1, p.2) else none
noncomputable def fBi (b : BI) (g : LF) : EF := fun V H => (g V H).bind fun p => biP b p.1 p.2
noncomputable abbrev GF := Addr → List PVal → PH → Option (PVal × PH)
noncomputable def fCall (f : EF) (G : GF) (g : LF) : EF := fun V H => (f V H).bind fun p => match p.1 with
  | .val (.ref a) => (g V p.2).bind fun q => G a q.1 q.2
  | _ => none

section
variable {X : Cx} {d : Nat} {sc : Scope}

theorem sim_int {i : Int} {k : Nat} {pos : Pos} : SimE X d sc (.Constant (.int i) k pos) (fConst (.int i)) := by
  intro V H v H' env s ρ A Q E hf hA R F k; cases hf
  exact wpAny_Constant_int (k _ s.heap _ R (.int _ _) (Pres.refl _ _ _))
theorem sim_str {i : Str} {k : Nat} {pos : Pos} : SimE X d sc (.Constant (.str i) k pos) (fConst (.str i)) := by
  intro V H v H' env s ρ A Q E hf hA R F k; cases hf
  exact Calls.Constant_str (k _ s.heap _ R (.str _ _) (Pres.refl _ _ _))
theorem sim_bool {i : Bool} {k : Nat} {pos : Pos} : SimE X d sc (.Constant (.bool i) k pos) (fConst (.bool i)) := by
  intro V H v H' env s ρ A Q E hf hA R F k; cases hf
  exact wpAny_pure (k _ s.heap s.toks R (.bool _) (Pres.refl _ _ _))

theorem sim_local {x : Str} {pos : Pos} (hl : sc.names.lookup x = some .local) (hd : (x == ("__debug__" : Str)) = false) : SimE X d sc (.Name x pos) (fVar x) := by
  intro V H v H' env s ρ A Q E hf hA R F k
  obtain ⟨v', e, e2⟩ := Option.map_eq_some_iff.mp hf
  cases e2
  obtain ⟨m, hn, hm⟩ := F.ns
  obtain ⟨r, e1, e2⟩ := hm x _ e hl
  exact wpAny_Name (wpAny_loadName_local (by rw [F.scope]; exact F.kind) (by show env.scope.names.lookup x = _; rw [F.scope]; exact hl) hn e1 (k r s.heap s.toks R e2 (Pres.refl _ _ _))) hd
theorem sim_cell {x : Str} {pos : Pos} (hl : sc.names.lookup x = some .cell) (hd : (x == ("__debug__" : Str)) = false) : SimE X d sc (.Name x pos) (fVar x) := by
  intro V H v H' env s ρ A Q E hf hA R F k
  obtain ⟨v', e, e2⟩ := Option.map_eq_some_iff.mp hf
  cases e2
  obtain ⟨c, r, e1, e2, e3⟩ := F.cel x _ e (.inl hl)
  exact wpAny_Name (wpAny_loadName_cell (by rw [F.scope]; exact F.kind) (by show env.scope.names.lookup x = _; rw [F.scope]; exact hl) e1 e2 (k r s.heap s.toks R e3 (Pres.refl _ _ _))) hd
theorem sim_free {x : Str} {pos : Pos} (hl : sc.names.lookup x = some .free) (hd : (x == ("__debug__" : Str)) = false) (hc : (x == ("__classdict__" : Str)) = false) : SimE X d sc (.Name x pos) (fVar x) := by
  intro V H v H' env s ρ A Q E hf hA R F k
  obtain ⟨v', e, e2⟩ := Option.map_eq_some_iff.mp hf
  cases e2
  obtain ⟨c, r, e1, e2, e3⟩ := F.cel x _ e (.inr hl)
  exact wpAny_Name (wpAny_loadName_free (by rw [F.scope]; exact F.kind) (by show env.scope.names.lookup x = _; rw [F.scope]; exact hl) e1 e2 (k r s.heap s.toks R e3 (Pres.refl _ _ _)) hc) hd
theorem sim_glob {x : Str} {pos : Pos} {v : Value} (hl : sc.names.lookup x = some .globalImplicit) (hd : (x == ("__debug__" : Str)) = false) (hv : X.mg x = some v) : SimE X d sc (.Name x pos) (fConst (.val v)) := by
  intro V H v H' env s ρ A Q E hf hA R F k; cases hf
  exact Calls.Name_function_global (by rw [F.scope]; exact F.kind) (by show env.scope.names.lookup x = _; rw [F.scope]; exact hl)
    (Calls.loadGlobal_global (by rw [F.glo]; exact X.glob _ R.keep) hv (k _ s.heap s.toks R (.val _) (Pres.refl _ _ _))) hd
theorem sim_globStr {x : Str} {pos : Pos} {v : Str} {t : Tok} (hl : sc.names.lookup x = some .globalImplicit) (hd : (x == ("__debug__" : Str)) = false) (hv : X.mg x = some (.str v t)) : SimE X d sc (.Name x pos) (fConst (.str v)) := by
  intro V H v H' env s ρ A Q E hf hA R F k; cases hf
  exact Calls.Name_function_global (by rw [F.scope]; exact F.kind) (by show env.scope.names.lookup x = _; rw [F.scope]; exact hl)
    (Calls.loadGlobal_global (by rw [F.glo]; exact X.glob _ R.keep) hv (k _ s.heap s.toks R (.str _ _) (Pres.refl _ _ _))) hd
theorem sim_globInt {x : Str} {pos : Pos} {v : Int} {t : Tok} (hl : sc.names.lookup x = some .globalImplicit) (hd : (x == ("__debug__" : Str)) = false) (hv : X.mg x = some (.int v t)) : SimE X d sc (.Name x pos) (fConst (.int v)) := by
  intro V H v H' env s ρ A Q E hf hA R F k; cases hf
  exact Calls.Name_function_global (by rw [F.scope]; exact F.kind) (by show env.scope.names.lookup x = _; rw [F.scope]; exact hl)
    (Calls.loadGlobal_global (by rw [F.glo]; exact X.glob _ R.keep) hv (k _ s.heap s.toks R (.int _ _) (Pres.refl _ _ _))) hd
theorem sim_blt {x : Str} {pos : Pos} {v : Value} (hl : sc.names.lookup x = some .globalImplicit) (hd : (x == ("__debug__" : Str)) = false) (hn : X.mg x = none) (hv : X.mb x = some v) : SimE X d sc (.Name x pos) (fConst (.val v)) := by
  intro V H v H' env s ρ A Q E hf hA R F k; cases hf
  exact Calls.Name_function_global (by rw [F.scope]; exact F.kind) (by show env.scope.names.lookup x = _; rw [F.scope]; exact hl)
    (Calls.loadGlobal_builtin (by rw [F.glo]; exact X.glob _ R.keep) hn (by rw [F.bui]; exact X.blt _ R.keep) hv (k _ s.heap s.toks R (.val _) (Pres.refl _ _ _))) hd

theorem sim_bin {l r : Expr} {op : Operator} {pos : Pos} {f g : EF} (hl : SimE X d sc l f) (hr : SimE X d sc r g) : SimE X d sc (.BinOp l op r pos) (fBin op f g) := by
  intro V H v H' env s ρ A Q E hf hA R F k
  obtain ⟨⟨a, H1⟩, e1, hf⟩ := Option.bind_eq_some_iff.mp hf
  obtain ⟨⟨b, H2⟩, e2, hf⟩ := Option.bind_eq_some_iff.mp hf
  obtain ⟨w, e3, e4⟩ := Option.map_eq_some_iff.mp hf
  cases e4
  refine wpAny_BinOp (hl V H a H1 env s ρ A _ _ e1 hA R F fun x h1 t1 R1 v1 p1 => ?_)
  refine hr V H1 b H2 env _ ρ A _ _ e2 hA R1 (F.pres p1) fun y h2 t2 R2 v2 p2 => ?_
  refine bin_sound e3 R2 (v1.pres p2) v2 fun z h3 t3 k3 v3 => ?_
  exact k z h3 t3 (R2.keeps k3) v3 ((p1.trans p2).trans k3.pres)

theorem sim_cmp {l r : Expr} {op : CmpOp} {pos : Pos} {f g : EF} (hm : behindInMarks op r = false) (hl : SimE X d sc l f) (hr : SimE X d sc r g) : SimE X d sc (.Compare l [op] [r] pos) (fCmp op f g) := by
  intro V H v H' env s ρ A Q E hf hA R F k
  obtain ⟨⟨a, H1⟩, e1, hf⟩ := Option.bind_eq_some_iff.mp hf
  obtain ⟨⟨b, H2⟩, e2, hf⟩ := Option.bind_eq_some_iff.mp hf
  obtain ⟨w, e3, e4⟩ := Option.map_eq_some_iff.mp hf
  cases e4
  refine wpAny_Compare1 (hl V H a H1 env s ρ A _ _ e1 hA R F fun x h1 t1 R1 v1 p1 => ?_) hm
  refine hr V H1 b H2 env _ ρ A _ _ e2 hA R1 (F.pres p1) fun y h2 t2 R2 v2 p2 => ?_
  exact cmp_sound e3 hA (v1.pres p2) v2 (k _ h2 t2 R2 (.bool _) (p1.trans p2))
theorem simb_cmp {l r : Expr} {op : CmpOp} {pos : Pos} {f g : EF} (hm : behindInMarks op r = false) (hl : SimE X d sc l f) (hr : SimE X d sc r g) : SimB X d sc (.Compare l [op] [r] pos) (bCmp op f g) := by
  intro V H v H' env s ρ A Q E hf hA R F k
  obtain ⟨⟨a, H1⟩, e1, hf⟩ := Option.bind_eq_some_iff.mp hf
  obtain ⟨⟨b, H2⟩, e2, hf⟩ := Option.bind_eq_some_iff.mp hf
  obtain ⟨w, e3, e4⟩ := Option.map_eq_some_iff.mp hf
  cases e4
  refine wpAny_isTrue_Compare1 (hl V H a H1 env s ρ A _ _ e1 hA R F fun x h1 t1 R1 v1 p1 => ?_) hm
  refine hr V H1 b H2 env _ ρ A _ _ e2 hA R1 (F.pres p1) fun y h2 t2 R2 v2 p2 => ?_
  exact cmp_sound e3 hA (v1.pres p2) v2 (wpAny_truthy_bool (k h2 t2 R2 (p1.trans p2)))
theorem simb_val {e : Expr} {f : EF} (he : ∀ env whole, isTrue e env whole = (do let v ← whole; standAt e.pos; holding [v] (truthy v))) (h : SimE X d sc e f) : SimB X d sc e (bVal f) := by
  intro V H v H' env s ρ A Q E hf hA R F k
  obtain ⟨⟨a, H1⟩, e1, hf⟩ := Option.bind_eq_some_iff.mp hf
  obtain ⟨b, e3, e4⟩ := Option.map_eq_some_iff.mp hf
  cases e4
  refine isTrue_plain (h V H a H1 env s ρ A _ _ e1 hA R F fun x h1 t1 R1 v1 p1 => ?_) (he _ _)
  exact truth_sound e3 v1 fun t2 => k h1 t2 R1 p1
theorem simb_not {e : Expr} {pos : Pos} {f : BF} (h : SimB X d sc e f) : SimB X d sc (.UnaryOp .Not e pos) (bNot f) := by
  intro V H v H' env s ρ A Q E hf hA R F k
  obtain ⟨⟨b, H1⟩, e1, e2⟩ := Option.map_eq_some_iff.mp hf
  cases e2
  show wpAny X.M A (do return !(← isTrue e env (eval e env))) Q E s
  exact wpAny_bind (h V H b H1 env s ρ A _ _ e1 hA R F fun h1 t1 R1 p1 => wpAny_pure (k h1 t1 R1 p1))
theorem simb_or {a b : Expr} {pos : Pos} {f g : BF} (ha : SimB X d sc a f) (hb : SimB X d sc b g) : SimB X d sc (.BoolOp .Or [a, b] pos) (bOr f g) := by
  intro V H v H' env s ρ A Q E hf hA R F k
  obtain ⟨⟨b1, H1⟩, e1, hf⟩ := Option.bind_eq_some_iff.mp hf
  show wpAny X.M A (allTrue .Or [a, b] env) Q E s
  rw [allTrue]
  refine wpAny_bind (ha V H b1 H1 env s ρ A _ _ e1 hA R F fun h1 t1 R1 p1 => ?_)
  cases b1 with
  | true => cases hf; exact wpAny_pure (k h1 t1 R1 p1)
  | false =>
    show wpAny X.M A (allTrue .Or [b] env) Q E _
    rw [allTrue]
    refine wpAny_bind (hb V H1 v H' env _ ρ A _ _ hf hA R1 (F.pres p1) fun h2 t2 R2 p2 => ?_)
    cases v with
    | false => exact wpAny_pure (k h2 t2 R2 (p1.trans p2))
    | true => exact wpAny_pure (k h2 t2 R2 (p1.trans p2))
theorem sim_not {e : Expr} {pos : Pos} {f : EF} (h : SimE X d sc e f) : SimE X d sc (.UnaryOp .Not e pos) (fNot f) := by
  intro V H v H' env s ρ A Q E hf hA R F k
  obtain ⟨⟨a, H1⟩, e1, hf⟩ := Option.bind_eq_some_iff.mp hf
  obtain ⟨b, e3, e4⟩ := Option.map_eq_some_iff.mp hf
  cases e4
  show wpAny X.M A (do let v ← eval e env; standAt pos; holding [v] (unaryOp .Not v)) Q E s
  refine wpAny_bind (h V H a H1 env s ρ A _ _ e1 hA R F fun x h1 t1 R1 v1 p1 => wpAny_bind (wpAny_standAt (wpAny_holding ?_)))
  exact not_of (truth_sound e3 v1 fun t2 => k _ h1 t2 R1 (.bool _) p1)
theorem sim_neg {i : Int} {c : Nat} {p pos : Pos} : SimE X d sc (.UnaryOp .USub (.Constant (.int i) c p) pos) (fNeg i) := by
  intro V H v H' env s ρ A Q E hf hA R F k; cases hf
  show wpAny X.M A (do let v ← eval (.Constant (.int i) c p) env; standAt pos; holding [v] (unaryOp .USub v)) Q E s
  exact wpAny_bind (wpAny_Constant_int (wpAny_bind (wpAny_standAt (wpAny_holding (PyProof.Rows.neg_int (k _ s.heap _ R (.int _ _) (Pres.refl _ _ _)))))))
theorem sim_and {a b : Expr} {pos : Pos} {f g : EF} (ha : SimE X d sc a f) (hb : SimE X d sc b g) : SimE X d sc (.BoolOp .And [a, b] pos) (fAnd f g) := by
  intro V H v H' env s ρ A Q E hf hA R F k
  obtain ⟨⟨a1, H1⟩, e1, hf⟩ := Option.bind_eq_some_iff.mp hf
  obtain ⟨c, e2, hf⟩ := Option.bind_eq_some_iff.mp hf
  show wpAny X.M A (boolOp pos .And [eval a env, eval b env]) Q E s
  rw [boolOp]
  · refine wpAny_bind (ha V H a1 H1 env s ρ A _ _ e1 hA R F fun x h1 t1 R1 v1 p1 => wpAny_bind (wpAny_standAt (wpAny_bind (wpAny_holding (truth_sound e2 v1 fun t2 => ?_)))))
    cases c with
    | false => cases hf; exact wpAny_pure (k _ h1 t2 R1 v1 p1)
    | true =>
      show wpAny X.M A (boolOp pos .And [eval b env]) Q E _
      exact hb V H1 v H' env _ ρ A _ _ hf hA R1 (F.pres p1) fun y h3 t3 R3 v3 p3 => k y h3 t3 R3 v3 (p1.trans p3)
  · intro q; cases q
theorem siml_nil : SimL X d sc [] lNil := by
  intro V H v H' env s ρ A pos Q E hf hA R F k; cases hf
  exact wpAny_pure (k _ s.heap s.toks R .nil (Pres.refl _ _ _))
theorem siml_cons {e : Expr} {es : List Expr} {f : EF} {g : LF} (he : ∀ env, starEach (e :: es) env = (false, eval e env) :: starEach es env) (h : SimE X d sc e f) (hs : SimL X d sc es g) : SimL X d sc (e :: es) (lCons f g) := by
  intro V H v H' env s ρ A pos Q E hf hA R F k
  obtain ⟨⟨a, H1⟩, e1, hf⟩ := Option.bind_eq_some_iff.mp hf
  obtain ⟨⟨vs, H2⟩, e2, e3⟩ := Option.map_eq_some_iff.mp hf
  cases e3
  rw [he]
  refine Calls.spliced_cons (h V H a H1 env s ρ A _ _ e1 hA R F fun x h1 t1 R1 v1 p1 => ?_)
  exact hs V H1 vs H2 env _ ρ A pos _ _ e2 hA R1 (F.pres p1) fun rs h2 t2 R2 v2 p2 => k _ h2 t2 R2 (.cons (v1.pres p2) v2) (p1.trans p2)
theorem VRels.append {ρ : List Addr} {h : Heap} : ∀ {vs : List PVal} {xs : List Value}, VRels X ρ h vs xs → ∀ {ws : List PVal} {ys : List Value}, VRels X ρ h ws ys → VRels X ρ h (vs ++ ws) (xs ++ ys)
  | _, _, .nil, _, _, r => r
  | _, _, .cons a r, _, _, q => .cons a (VRels.append r q)
theorem BRels.toV {ρ : List Addr} {h : Heap} : ∀ {vs : List PVal} {xs : List Value}, BRels h (X.ban ρ) vs xs → VRels X ρ h vs xs
  | _, _, .nil => .nil
  | _, _, .cons a r => .cons (.by a) (BRels.toV r)
theorem siml_star {e : Expr} {p : Pos} {es : List Expr} {f : EF} {g : LF} (h : SimE X d sc e f) (hs : SimL X d sc es g) : SimL X d sc (.Starred e p :: es) (lStar f g) := by
  intro V H v H' env s ρ A pos Q E hf hA R F k
  obtain ⟨⟨a, H1⟩, e1, hf⟩ := Option.bind_eq_some_iff.mp hf
  obtain ⟨ws, e2, hf⟩ := Option.bind_eq_some_iff.mp hf
  obtain ⟨⟨vs, H2⟩, e3, e4⟩ := Option.map_eq_some_iff.mp hf
  cases e4
  refine items_star (h V H a H1 env s ρ A _ _ e1 hA R F fun x h1 t1 R1 v1 p1 => ?_)
  cases a with
  | lst us =>
    simp only [starP] at e2
    split at e2
    · rename_i hl; cases e2
      obtain ⟨aa, xs, rfl, ⟨n, pl⟩, _, r⟩ := v1.lst_inv
      unfold StarOf notIterableAtAll
      refine wpAny_bind (wpAny_specialOf (s := { s with heap := h1, toks := t1 }) ⟨_, pl, rfl⟩ PySem.F.slot_list_iter.lookup (wpAny_pure ⟨rfl, ?_⟩))
      refine wpAny_collect_seq (s := { s with heap := h1, toks := t1 }) aa (.inl rfl) pl rfl rfl (fun h2 k2 => ?_) (by have := r.length; simp; (first | lia | omega))
      have k2' : Keeps h1 h2 := k2
      refine hs V H1 vs H2 env _ ρ A pos _ _ e3 hA (R1.keeps k2') ((F.pres p1).pres k2'.pres) fun rs h3 t3 R3 v3 p3 => ?_
      refine k _ h3 t3 R3 (VRels.append ?_ v3) ((p1.trans k2'.pres).trans p3)
      exact ((r.pres (X := X) k2'.pres).pres p3).toV
    · cases e2
  | _ => cases e2

theorem VRels.byvals {ρ : List Addr} {h : Heap} : ∀ {vs : List PVal} {xs : List Value}, VRels X ρ h vs xs → allBy vs = true → BRels h (X.ban ρ) vs xs
  | _, _, .nil, _ => .nil
  | _, _, .cons a r, e => by
    unfold allBy at e
    rw [List.all_cons, Bool.and_eq_true] at e
    exact .cons (a.byval (by simpa using e.1)) (VRels.byvals r e.2)
theorem VRels.length {ρ : List Addr} {h : Heap} : ∀ {vs : List PVal} {xs : List Value}, VRels X ρ h vs xs → vs.length = xs.length
  | _, _, .nil => rfl
  | _, _, .cons _ r => congrArg (· + 1) (VRels.length r)
theorem sim_list {es : List Expr} {pos : Pos} {g : LF} (h : SimL X d sc es g) : SimE X d sc (.List es pos) (fList g) := by
  intro V H v H' env s ρ A Q E hf hA R F k
  obtain ⟨⟨vs, H1⟩, e1, hf⟩ := Option.bind_eq_some_iff.mp hf
  split at hf
  · rename_i hb; cases hf
    refine List_ (h V H vs _ env s ρ A pos _ _ e1 hA R F fun rs h1 t1 R1 v1 p1 => ?_)
    have r := v1.byvals hb.1
    exact wpAny_newObj_type (k _ _ _ (R1.keeps (Keeps.push _ _)) (newLst (n := 0) R1 r) (p1.trans (Keeps.push _ _).pres)) (by have := r.length; show rs.toArray.size ≤ sizeLine; simp; simp only at hb; (first | lia | omega))
  · cases hf
theorem sim_tup {es : List Expr} {c : Nat} {pos : Pos} {g : LF} (h : SimL X d sc es g) : SimE X d sc (.Tuple es c pos) (fTup g) := by
  intro V H v H' env s ρ A Q E hf hA R F k
  obtain ⟨⟨vs, H1⟩, e1, hf⟩ := Option.bind_eq_some_iff.mp hf
  split at hf
  · rename_i hb; cases hf
    refine Tuple_ (h V H vs _ env s ρ A pos _ _ e1 hA R F fun rs h1 t1 R1 v1 p1 => ?_)
    have r := v1.byvals hb.1
    exact wpAny_newObj_type (k _ _ _ (R1.keeps (Keeps.push _ _)) (newTup (n := 0) R1 r) (p1.trans (Keeps.push _ _).pres)) (by have := r.length; show rs.toArray.size ≤ sizeLine; simp; simp only at hb; (first | lia | omega))
  · cases hf
end
end Mine

end

/- Ev7 -/
section
open PySem PySem.W PyProof.Rows
set_option maxRecDepth 100000
namespace Mine

noncomputable def nthP (vs : List PVal) (i : Int) : Option PVal := if 0 ≤ i ∧ i < 2 ^ 63 then vs[i.toNat]? else if i = -1 then vs[vs.length - 1]? else none
noncomputable def idxP (v i : PVal) (H : PH) : Option PVal :=
  match v, i with
  | .lst vs, .int i => nthP vs i
  | .ref j, .int i => (H[j]?).bind fun vs => nthP vs i
  | .tup vs, .int i => if 0 ≤ i ∧ i < 2 ^ 63 then vs[i.toNat]? else none
  | .str x, .int i => if 0 ≤ i ∧ i < 2 ^ 63 then (x.cps[i.toNat]?).map fun c => .str ⟨#[c]⟩ else none
  | _, _ => none
noncomputable def slA (v a : PVal) : Option PVal :=
  match v, a with
  | .str x, .int i => if x.length ≤ sizeLine then some (.str (Txt.slice x (some i) none)) else none
  | .lst vs, .int i => if 0 ≤ i ∧ vs.length ≤ sizeLine then some (.lst (vs.drop i.toNat)) else none
  | .tup vs, .int i => if 1 ≤ i ∧ i.toNat ≤ vs.length ∧ vs.length ≤ sizeLine then some (.tup (vs.drop i.toNat)) else none
  | _, _ => none
noncomputable def slB (v b : PVal) : Option PVal :=
  match v, b with
  | .str x, .int i => if x.length ≤ sizeLine then some (.str (Txt.slice x none (some i))) else none
  | .lst vs, .int i => if 0 ≤ i ∧ vs.length ≤ sizeLine then some (.lst (vs.take i.toNat)) else none
  | _, _ => none
noncomputable def slAB (v a b : PVal) : Option PVal :=
  match v, a, b with
  | .lst vs, .int i, .int j => if 0 ≤ i ∧ 0 ≤ j ∧ vs.length ≤ sizeLine then some (.lst ((vs.drop i.toNat).take (j.toNat - i.toNat))) else none
  | _, _, _ => none
noncomputable def slRev (v : PVal) : Option PVal :=
  match v with
  | .lst vs => if vs.length ≤ sizeLine then some (.lst vs.reverse) else none
  | _ => none

noncomputable def fIdx (f g : EF) : EF := fun V H => (f V H).bind fun p => (g V p.2).bind fun q => (idxP p.1 q.1 q.2).map fun v => (v, q.2)
noncomputable def fSlA (f g : EF) : EF := fun V H => (f V H).bind fun p => (g V p.2).bind fun q => (slA p.1 q.1).map fun v => (v, q.2)
noncomputable def fSlB (f g : EF) : EF := fun V H => (f V H).bind fun p => (g V p.2).bind fun q => (slB p.1 q.1).map fun v => (v, q.2)
noncomputable def fSlAB (f g h : EF) : EF := fun V H => (f V H).bind fun p => (g V p.2).bind fun q => (h V q.2).bind fun r => (slAB p.1 q.1 r.1).map fun v => (v, r.2)
noncomputable def fRev (f : EF) : EF := fun V H => (f V H).bind fun p => (slRev p.1).map fun v => (v, p.2)

section
variable {X : Cx} {d : Nat} {sc : Scope}

theorem BRels.nth {h : Heap} {B : List Addr} {vs : List PVal} {xs : List Value} (r : BRels h B vs xs) {l : Addr} {i : Int} {t : Tok} {v : PVal} {s : Shared} {A : Around} {Q : Value → Shared → Prop} {E : Value → Shared → Prop}
    (hv : nthP vs i = some v) (p : s.heap.PlainList l xs.toArray) (k : ∀ x, BRel h B v x → Q x s) : wpAny X.M A (getItem (.ref l) (.int i t)) Q E s := by
  unfold nthP at hv
  split at hv
  · rename_i hb
    obtain ⟨x, e, b⟩ := r.get hv
    exact wpAny_getItem_list p.isList hb.1 hb.2 (by simpa using e) (k x b)
  · split at hv
    · rename_i hi; subst hi
      obtain ⟨x, e, b⟩ := r.get hv
      have hl := r.length
      have hlt : vs.length - 1 < xs.length := (List.getElem?_eq_some_iff.mp e).1
      refine wpAny_getItem_list_neg p.isList (by decide) (by simp; (first | lia | omega)) (by decide) ?_ (k x b)
      have : (-1 + (xs.toArray.size : Int)).toNat = vs.length - 1 := by simp; (first | lia | omega)
      rw [this]; simpa using e
    · cases hv

theorem seqIdx_nn {i : Int} {n : Nat} (h0 : 0 ≤ i) (h1 : i.toNat < n) : seqIndex? i n = some i.toNat := by
  unfold seqIndex?
  have e : (if i < 0 then i + (n : Int) else i) = i := if_neg (by (first | lia | omega))
  simp only [e]
  rw [if_pos (by simp; (first | lia | omega))]

theorem idx_sound {o i : Expr} {ρ : List Addr} {H : PH} {s : Shared} {A : Around} {Q E : Value → Shared → Prop} {a b v : PVal} {x y : Value} (hs : ∀ o' i', subscripted i false o' i' = operate [o', i'] (getItem o' i'))
    (e3 : idxP a b H = some v) (R2 : HRel X ρ H s.heap) (v1 : VRel X ρ s.heap a x) (v2 : VRel X ρ s.heap b y) (fin : ∀ z tk, VRel X ρ s.heap v z → Q z { s with toks := tk }) : wpAny X.M A (subscriptTail o i x y) Q E s := by
  unfold idxP at e3
  split at e3
  · obtain ⟨aa, xs, rfl, p, _, r⟩ := v1.lst_inv; obtain ⟨t, rfl⟩ := v2.int_inv
    exact tail_any p.isList.typeIs slot_list_getitem.lookup (r.nth (X := X) e3 p fun z b => fin z s.toks (.by b)) (hs _ _)
  · obtain ⟨aa, rfl, ea⟩ := v1.ref_inv; obtain ⟨t, rfl⟩ := v2.int_inv
    obtain ⟨vs, xs, e5, p, r⟩ := R2.at ea
    rw [e5] at e3
    exact tail_any p.isList.typeIs slot_list_getitem.lookup (r.nth (X := X) e3 p fun z b => fin z s.toks (.by b)) (hs _ _)
  · rename_i vs i
    obtain ⟨aa, xs, rfl, p, _, r⟩ := v1.tup_inv; obtain ⟨t, rfl⟩ := v2.int_inv
    split at e3
    · rename_i hb
      obtain ⟨z, e, b⟩ := r.get e3
      have hlt := (List.getElem?_eq_some_iff.mp e).1
      have hj : seqIndex? i xs.toArray.size = some i.toNat := seqIdx_nn hb.1 (by simpa using hlt)
      exact tail_any p.isTuple.typeIs slot_tuple_getitem.lookup (PyProof.Rows.getItem_tuple p.isTup (by (first | lia | omega)) hb.2 hj (by simpa using e) (fin z s.toks (.by b))) (hs _ _)
    · cases e3
  · rename_i x i
    obtain ⟨t, rfl⟩ := v1.str_inv; obtain ⟨u, rfl⟩ := v2.int_inv
    split at e3
    · rename_i hb
      obtain ⟨c, ec, rfl⟩ := Option.map_eq_some_iff.mp e3
      have hlt := (Array.getElem?_eq_some_iff.mp ec).1
      refine tail_any (typeIs_str _ _ _) F.slot_str_getitem.lookup
        (PyProof.Rows.getItem_str (c := c) (by rw [Bool.or_eq_false_iff]; exact ⟨decide_eq_false (by (first | lia | omega)), decide_eq_false (by (first | lia | omega))⟩) ?_ (fin _ _ (.str _ _))) (hs _ _)
      have hj : seqIndex? i x.length = some i.toNat := seqIdx_nn hb.1 hlt
      rw [hj]; exact ec
    · cases e3
  · cases e3
theorem sim_idx {o i : Expr} {pos : Pos} {f g : EF} (hs : ∀ o' i', subscripted i false o' i' = operate [o', i'] (getItem o' i')) (ho : SimE X d sc o f) (hi : SimE X d sc i g) : SimE X d sc (.Subscript o i pos) (fIdx f g) := by
  intro V H v H' env s ρ A Q E hf hA R F k
  obtain ⟨⟨a, H1⟩, e1, hf⟩ := Option.bind_eq_some_iff.mp hf
  obtain ⟨⟨b, H2⟩, e2, hf⟩ := Option.bind_eq_some_iff.mp hf
  obtain ⟨w, e3, e4⟩ := Option.map_eq_some_iff.mp hf
  cases e4
  refine Subscript_ (ho V H a H1 env s ρ A _ _ e1 hA R F fun x h1 t1 R1 v1 p1 => ?_)
  refine hi V H1 b H2 env _ ρ A _ _ e2 hA R1 (F.pres p1) fun y h2 t2 R2 v2 p2 => ?_
  exact idx_sound (s := { s with heap := h2, toks := t2 }) hs e3 R2 (v1.pres p2) v2 fun z tk vz => k z h2 tk R2 vz (p1.trans p2)

theorem slA_sound {o e : Expr} {p : Pos} {ρ : List Addr} {H : PH} {s : Shared} {A : Around} {Q E : Value → Shared → Prop} {a b v : PVal} {x y : Value}
    (e3 : slA a b = some v) (R2 : HRel X ρ H s.heap) (v1 : VRel X ρ s.heap a x) (v2 : VRel X ρ s.heap b y) (k : ∀ z h' tk, Keeps s.heap h' → VRel X ρ h' v z → Q z { s with heap := h', toks := tk }) :
    wpAny X.M A (subscriptTail o (.Slice (some e) none none p) x (.ref s.heap.objs.size)) Q E { s with heap := s.heap.push { cls := .type "slice", data := .fields #[y, .none, .none] } } := by
  have kp := Keeps.push s.heap { cls := .type "slice", data := .fields #[y, .none, .none] }
  have R3 := R2.keeps kp
  unfold slA at e3
  split at e3
  · obtain ⟨t, rfl⟩ := v1.str_inv; obtain ⟨u, rfl⟩ := v2.int_inv
    split at e3
    · rename_i hl; cases e3
      obtain ⟨T, id, hl1, hT, hg⟩ := SBH.sliceItem_sn (prog := X.prog) (w := X.w) (A := A) (E := E) (t := t) (ui := u) (s := s) (P := fun h => Keeps s.heap h) (fun h ob kh => kh.trans (Keeps.push _ _)) (Keeps.refl _)
        (fun h' t' tk kh => k _ h' tk kh (.str _ t')) hl
      exact tail_any hT hl1 hg rfl
    · cases e3
  · rename_i vs i
    obtain ⟨aa, xs, rfl, pl, na, r⟩ := v1.lst_inv; obtain ⟨u, rfl⟩ := v2.int_inv
    split at e3
    · rename_i hl; cases e3
      have pl' : (s.heap.push { cls := .type "slice", data := .fields #[.int i u, .none, .none] }).PlainList aa xs.toArray := let ⟨n, e⟩ := pl; ⟨n, kp _ _ e⟩
      refine tail_any (s := { s with heap := s.heap.push { cls := .type "slice", data := .fields #[.int i u, .none, .none] } }) pl'.isList.typeIs slot_list_getitem.lookup
        (wpAny_getItem_list_slice (lo := some i) (hi := none) (st := none) pl'.isList (Heap.IsSliceOf.new ..) (.int _ _) .none .none (by simp) ?_ (by have := r.length; simp; (first | lia | omega))) rfl
      have e : slicePick xs.toArray (some i) none none = (xs.drop i.toNat).toArray := by
        have := slicePick_from' xs.toArray i.toNat
        rw [Int.toNat_of_nonneg hl.1] at this
        simpa using this
      rw [e]
      exact k _ _ s.toks (kp.trans (Keeps.push _ _)) (newLst (n := 0) R3 ((r.pres (X := X) kp.pres).drop _))
    · cases e3
  · rename_i vs i
    obtain ⟨aa, xs, rfl, pl, na, r⟩ := v1.tup_inv; obtain ⟨u, rfl⟩ := v2.int_inv
    split at e3
    · rename_i hl; cases e3
      have pl' : PlainTup (s.heap.push { cls := .type "slice", data := .fields #[.int i u, .none, .none] }) aa xs.toArray := let ⟨n, e⟩ := pl; ⟨n, kp _ _ e⟩
      have ei : ((i.toNat : Nat) : Int) = i := Int.toNat_of_nonneg (by (first | lia | omega))
      refine tail_any (s := { s with heap := s.heap.push { cls := .type "slice", data := .fields #[.int i u, .none, .none] } }) pl'.isTuple.typeIs slot_tuple_getitem.lookup
        (getItem_tuple_from (a := i.toNat) (u := u) pl'.isTup (by rw [ei]; exact Heap.IsSliceOf.new ..) (by (first | lia | omega)) (by have := r.length; simp; (first | lia | omega)) ?_ (by have := r.length; simp; (first | lia | omega))) rfl
      have := newTup (n := 0) R3 ((r.pres (X := X) kp.pres).drop i.toNat)
      exact k _ _ s.toks (kp.trans (Keeps.push _ _)) (by simpa using this)
    · cases e3
  · cases e3
theorem sim_slA {o a : Expr} {p pos : Pos} {f g : EF} (ho : SimE X d sc o f) (ha : SimE X d sc a g) : SimE X d sc (.Subscript o (.Slice (some a) none none p) pos) (fSlA f g) := by
  intro V H v H' env s ρ A Q E hf hA R F k
  obtain ⟨⟨a1, H1⟩, e1, hf⟩ := Option.bind_eq_some_iff.mp hf
  obtain ⟨⟨b1, H2⟩, e2, hf⟩ := Option.bind_eq_some_iff.mp hf
  obtain ⟨w, e3, e4⟩ := Option.map_eq_some_iff.mp hf
  cases e4
  refine Subscript_ (ho V H a1 H1 env s ρ A _ _ e1 hA R F fun x h1 t1 R1 v1 p1 => wpAny_Slice ?_)
  refine (show wpAny X.M A (eval a env) _ _ _ from ha V H1 b1 H2 env _ ρ A _ _ e2 hA R1 (F.pres p1) fun y h2 t2 R2 v2 p2 => wpAny_pure (wpAny_pure ?_))
  exact slA_sound (s := { s with heap := h2, toks := t2 }) e3 R2 (v1.pres p2) v2 fun z h' tk kh vz => k z h' tk (R2.keeps kh) vz ((p1.trans p2).trans kh.pres)

theorem slB_sound {o e : Expr} {p : Pos} {ρ : List Addr} {H : PH} {s : Shared} {A : Around} {Q E : Value → Shared → Prop} {a b v : PVal} {x y : Value}
    (e3 : slB a b = some v) (R2 : HRel X ρ H s.heap) (v1 : VRel X ρ s.heap a x) (v2 : VRel X ρ s.heap b y) (k : ∀ z h' tk, Keeps s.heap h' → VRel X ρ h' v z → Q z { s with heap := h', toks := tk }) :
    wpAny X.M A (subscriptTail o (.Slice none (some e) none p) x (.ref s.heap.objs.size)) Q E { s with heap := s.heap.push { cls := .type "slice", data := .fields #[.none, y, .none] } } := by
  have kp := Keeps.push s.heap { cls := .type "slice", data := .fields #[.none, y, .none] }
  have R3 := R2.keeps kp
  unfold slB at e3
  split at e3
  · obtain ⟨t, rfl⟩ := v1.str_inv; obtain ⟨u, rfl⟩ := v2.int_inv
    split at e3
    · rename_i hl; cases e3
      obtain ⟨T, id, hl1, hT, hg⟩ := SBH.sliceItem_ns (prog := X.prog) (w := X.w) (A := A) (E := E) (t := t) (uj := u) (s := s) (P := fun h => Keeps s.heap h) (fun h ob kh => kh.trans (Keeps.push _ _)) (Keeps.refl _)
        (fun h' t' tk kh => k _ h' tk kh (.str _ t')) hl
      exact tail_any hT hl1 hg rfl
    · cases e3
  · rename_i vs i
    obtain ⟨aa, xs, rfl, pl, na, r⟩ := v1.lst_inv; obtain ⟨u, rfl⟩ := v2.int_inv
    split at e3
    · rename_i hl; cases e3
      have pl' : (s.heap.push { cls := .type "slice", data := .fields #[.none, .int i u, .none] }).PlainList aa xs.toArray := let ⟨n, e⟩ := pl; ⟨n, kp _ _ e⟩
      refine tail_any (s := { s with heap := s.heap.push { cls := .type "slice", data := .fields #[.none, .int i u, .none] } }) pl'.isList.typeIs slot_list_getitem.lookup
        (wpAny_getItem_list_slice (lo := none) (hi := some i) (st := none) pl'.isList (Heap.IsSliceOf.new ..) .none (.int _ _) .none (by simp) ?_ (by have := r.length; simp; (first | lia | omega))) rfl
      have e : slicePick xs.toArray none (some i) none = (xs.take i.toNat).toArray := by
        have := slicePick_upto' xs.toArray i.toNat
        rw [Int.toNat_of_nonneg hl.1] at this
        simpa using this
      rw [e]
      exact k _ _ s.toks (kp.trans (Keeps.push _ _)) (newLst (n := 0) R3 ((r.pres (X := X) kp.pres).take _))
    · cases e3
  · cases e3
theorem sim_slB {o a : Expr} {p pos : Pos} {f g : EF} (ho : SimE X d sc o f) (ha : SimE X d sc a g) : SimE X d sc (.Subscript o (.Slice none (some a) none p) pos) (fSlB f g) := by
  intro V H v H' env s ρ A Q E hf hA R F k
  obtain ⟨⟨a1, H1⟩, e1, hf⟩ := Option.bind_eq_some_iff.mp hf
  obtain ⟨⟨b1, H2⟩, e2, hf⟩ := Option.bind_eq_some_iff.mp hf
  obtain ⟨w, e3, e4⟩ := Option.map_eq_some_iff.mp hf
  cases e4
  refine Subscript_ (ho V H a1 H1 env s ρ A _ _ e1 hA R F fun x h1 t1 R1 v1 p1 => wpAny_Slice (wpAny_pure ?_))
  refine (show wpAny X.M A (eval a env) _ _ _ from ha V H1 b1 H2 env _ ρ A _ _ e2 hA R1 (F.pres p1) fun y h2 t2 R2 v2 p2 => wpAny_pure ?_)
  exact slB_sound (s := { s with heap := h2, toks := t2 }) e3 R2 (v1.pres p2) v2 fun z h' tk kh vz => k z h' tk (R2.keeps kh) vz ((p1.trans p2).trans kh.pres)

theorem pick_ab (xs : List Value) {i j : Int} (hi : 0 ≤ i) (hj : 0 ≤ j) : slicePick xs.toArray (some i) (some j) none = ((xs.drop i.toNat).take (j.toNat - i.toNat)).toArray := by
  rw [slicePick_plain]
  have ci : clipAt xs.toArray.size i = min i.toNat xs.length := by have := clipAt_nat xs.toArray.size i.toNat; rw [Int.toNat_of_nonneg hi] at this; simpa using this
  have cj : clipAt xs.toArray.size j = min j.toNat xs.length := by have := clipAt_nat xs.toArray.size j.toNat; rw [Int.toNat_of_nonneg hj] at this; simpa using this
  simp only [Option.elim, ci, cj]
  congr 1
  rcases Nat.le_total i.toNat xs.length with h | h
  · rw [Nat.min_eq_left h]
    rcases Nat.le_total j.toNat xs.length with h' | h'
    · rw [Nat.min_eq_left h']
    · rw [Nat.min_eq_right h', List.take_of_length_le (by simp), List.take_of_length_le (by simp; (first | lia | omega))]
  · rw [Nat.min_eq_right h, List.drop_of_length_le (by simp), List.drop_of_length_le (by simpa using h)]; simp

theorem slAB_sound {o e e' : Expr} {p : Pos} {ρ : List Addr} {H : PH} {s : Shared} {A : Around} {Q E : Value → Shared → Prop} {a b c v : PVal} {x y y' : Value}
    (e3 : slAB a b c = some v) (R2 : HRel X ρ H s.heap) (v1 : VRel X ρ s.heap a x) (v2 : VRel X ρ s.heap b y) (v3 : VRel X ρ s.heap c y') (k : ∀ z h' tk, Keeps s.heap h' → VRel X ρ h' v z → Q z { s with heap := h', toks := tk }) :
    wpAny X.M A (subscriptTail o (.Slice (some e) (some e') none p) x (.ref s.heap.objs.size)) Q E { s with heap := s.heap.push { cls := .type "slice", data := .fields #[y, y', .none] } } := by
  have kp := Keeps.push s.heap { cls := .type "slice", data := .fields #[y, y', .none] }
  have R3 := R2.keeps kp
  unfold slAB at e3
  split at e3
  · rename_i vs i j
    obtain ⟨aa, xs, rfl, pl, na, r⟩ := v1.lst_inv; obtain ⟨u, rfl⟩ := v2.int_inv; obtain ⟨u', rfl⟩ := v3.int_inv
    split at e3
    · rename_i hl; cases e3
      have pl' : (s.heap.push { cls := .type "slice", data := .fields #[.int i u, .int j u', .none] }).PlainList aa xs.toArray := let ⟨n, e⟩ := pl; ⟨n, kp _ _ e⟩
      refine tail_any (s := { s with heap := s.heap.push { cls := .type "slice", data := .fields #[.int i u, .int j u', .none] } }) pl'.isList.typeIs slot_list_getitem.lookup
        (wpAny_getItem_list_slice (lo := some i) (hi := some j) (st := none) pl'.isList (Heap.IsSliceOf.new ..) (.int _ _) (.int _ _) .none (by simp) ?_ (by have := r.length; simp; (first | lia | omega))) rfl
      rw [pick_ab xs hl.1 hl.2.1]
      exact k _ _ s.toks (kp.trans (Keeps.push _ _)) (newLst (n := 0) R3 (((r.pres (X := X) kp.pres).drop _).take _))
    · cases e3
  · cases e3
theorem sim_slAB {o a b : Expr} {p pos : Pos} {f g e : EF} (ho : SimE X d sc o f) (ha : SimE X d sc a g) (hb : SimE X d sc b e) : SimE X d sc (.Subscript o (.Slice (some a) (some b) none p) pos) (fSlAB f g e) := by
  intro V H v H' env s ρ A Q E hf hA R F k
  obtain ⟨⟨a1, H1⟩, e1, hf⟩ := Option.bind_eq_some_iff.mp hf
  obtain ⟨⟨b1, H2⟩, e2, hf⟩ := Option.bind_eq_some_iff.mp hf
  obtain ⟨⟨c1, H3⟩, e2', hf⟩ := Option.bind_eq_some_iff.mp hf
  obtain ⟨w, e3, e4⟩ := Option.map_eq_some_iff.mp hf
  cases e4
  refine Subscript_ (ho V H a1 H1 env s ρ A _ _ e1 hA R F fun x h1 t1 R1 v1 p1 => wpAny_Slice ?_)
  refine (show wpAny X.M A (eval a env) _ _ _ from ha V H1 b1 H2 env _ ρ A _ _ e2 hA R1 (F.pres p1) fun y h2 t2 R2 v2 p2 => ?_)
  refine (show wpAny X.M A (eval b env) _ _ _ from hb V H2 c1 H3 env _ ρ A _ _ e2' hA R2 ((F.pres p1).pres p2) fun z h3 t3 R3 v3 p3 => wpAny_pure ?_)
  exact slAB_sound (s := { s with heap := h3, toks := t3 }) e3 R3 ((v1.pres p2).pres p3) (v2.pres p3) v3 fun z h' tk kh vz => k z h' tk (R3.keeps kh) vz (((p1.trans p2).trans p3).trans kh.pres)

theorem slRev_sound {o e : Expr} {p : Pos} {ρ : List Addr} {H : PH} {s : Shared} {A : Around} {Q E : Value → Shared → Prop} {a v : PVal} {x : Value} {u : Tok}
    (e3 : slRev a = some v) (R2 : HRel X ρ H s.heap) (v1 : VRel X ρ s.heap a x) (k : ∀ z h' tk, Keeps s.heap h' → VRel X ρ h' v z → Q z { s with heap := h', toks := tk }) :
    wpAny X.M A (subscriptTail o (.Slice none none (some e) p) x (.ref s.heap.objs.size)) Q E { s with heap := s.heap.push { cls := .type "slice", data := .fields #[.none, .none, .int (-1) u] } } := by
  have kp := Keeps.push s.heap { cls := .type "slice", data := .fields #[.none, .none, .int (-1) u] }
  have R3 := R2.keeps kp
  unfold slRev at e3
  split at e3
  · obtain ⟨aa, xs, rfl, pl, na, r⟩ := v1.lst_inv
    split at e3
    · rename_i hl; cases e3
      have pl' : (s.heap.push { cls := .type "slice", data := .fields #[.none, .none, .int (-1) u] }).PlainList aa xs.toArray := let ⟨n, e⟩ := pl; ⟨n, kp _ _ e⟩
      refine tail_any (s := { s with heap := s.heap.push { cls := .type "slice", data := .fields #[.none, .none, .int (-1) u] } }) pl'.isList.typeIs slot_list_getitem.lookup
        (wpAny_getItem_list_slice (lo := none) (hi := none) (st := some (-1)) pl'.isList (Heap.IsSliceOf.new ..) .none .none (.int _ _) (by simp) ?_ (by have := r.length; simp; (first | lia | omega))) rfl
      rw [krv_pick]
      exact k _ _ s.toks (kp.trans (Keeps.push _ _)) (newLst (n := 0) R3 ((r.pres (X := X) kp.pres).reverse))
    · cases e3
  · cases e3
theorem sim_rev {o : Expr} {c : Nat} {q1 q2 p pos : Pos} {f : EF} (ho : SimE X d sc o f) : SimE X d sc (.Subscript o (.Slice none none (some (.UnaryOp .USub (.Constant (.int 1) c q1) q2)) p) pos) (fRev f) := by
  intro V H v H' env s ρ A Q E hf hA R F k
  obtain ⟨⟨a1, H1⟩, e1, hf⟩ := Option.bind_eq_some_iff.mp hf
  obtain ⟨w, e3, e4⟩ := Option.map_eq_some_iff.mp hf
  cases e4
  refine Subscript_ (ho V H a1 H1 env s ρ A _ _ e1 hA R F fun x h1 t1 R1 v1 p1 => wpAny_Slice (wpAny_pure (wpAny_pure ?_)))
  refine (show wpAny X.M A (eval (.UnaryOp .USub (.Constant (.int 1) c q1) q2) env) _ _ _ from sim_neg (X := X) (d := d) (sc := sc) V H1 (.int (-1)) H1 env _ ρ A _ _ rfl hA R1 (F.pres p1) fun y h2 t2 R2 v2 p2 => ?_)
  obtain ⟨u, rfl⟩ := v2.int_inv
  exact slRev_sound (s := { s with heap := h2, toks := t2 }) e3 R2 (v1.pres p2) fun z h' tk kh vz => k z h' tk (R2.keeps kh) vz ((p1.trans p2).trans kh.pres)
end
end Mine

end

/- Ev8 -/
section
open PySem PySem.W PyProof.Rows
set_option maxRecDepth 100000
namespace Mine

/-- what a call of the text's def does -/
noncomputable def CallS (X : Cx) (d : Nat) (f : Addr) (args : List PVal) (H : PH) (v : PVal) (H' : PH) : Prop :=
  (∃ o fd, X.base f = some o ∧ o.data = .func fd) ∧
  ∀ (s : Shared) (ρ : List Addr) (A : Around) (Q E : Value → Shared → Prop) (xs : List Value), Room d A → HRel X ρ H s.heap → VRels X ρ s.heap args xs → Cont X ρ H' v s Q → wpAny X.M A (call (.ref f) xs) Q E s
noncomputable def GSound (X : Cx) (d : Nat) (G : GF) : Prop := ∀ a vs H v H', G a vs H = some (v, H') → CallS X d a vs H v H'

noncomputable def BI.name : BI → Str
  | .split => "split"
  | .startswith => "startswith"
  | .endswith => "endswith"
  | .find => "find"
  | .join => "join"
  | .count => "count"
  | .lcount => "count"
  | .bitlen => "bit_length"
  | .append => "append"
  | .reverse => "reverse"
  | _ => ""
noncomputable def PVal.isStr : PVal → Bool
  | .str _ => true
  | _ => false
noncomputable def PVal.isLst : PVal → Bool
  | .lst _ => true
  | _ => false
noncomputable def PVal.isInt : PVal → Bool
  | .int _ => true
  | _ => false
noncomputable def methKind (b : BI) (v : PVal) : Bool :=
  match b with
  | .split | .startswith | .endswith | .find | .join | .count => v.isStr
  | .lcount => v.isLst
  | .bitlen => v.isInt
  | .append | .reverse => v.isRef
  | _ => false
theorem PVal.of_str {v : PVal} (h : v.isStr = true) : ∃ x, v = .str x := by cases v <;> first | exact ⟨_, rfl⟩ | cases h
theorem PVal.of_lst {v : PVal} (h : v.isLst = true) : ∃ x, v = .lst x := by cases v <;> first | exact ⟨_, rfl⟩ | cases h
theorem PVal.of_int {v : PVal} (h : v.isInt = true) : ∃ x, v = .int x := by cases v <;> first | exact ⟨_, rfl⟩ | cases h
theorem PVal.of_ref {v : PVal} (h : v.isRef = true) : ∃ x, v = .ref x := by cases v <;> first | exact ⟨_, rfl⟩ | cases h
noncomputable def fMe (b : BI) (f : EF) (g : LF) : EF := fun V H => (f V H).bind fun p => if methKind b p.1 = true then (g V p.2).bind fun q => biP b (p.1 :: q.1) q.2 else none

section
variable {X : Cx} {d : Nat} {sc : Scope}

theorem BI.val_cases (b : BI) : (∃ id, b.val = .builtin id) ∨ ∃ T, b.val = .type T := by
  cases b <;> first | exact .inl ⟨_, rfl⟩ | exact .inr ⟨_, rfl⟩
theorem callWith_bi {b : BI} {pos : Pos} {first : List Value} {args : List (Bool × Sem Value)} {M : Model} {A : Around} {s : Shared} {Q E : Value → Shared → Prop} (hplain : args.any (·.1) = false)
    (h : wpAny M A (evalArgs b.val true args []) (fun a s₁ => wpAny M A (call b.val (first ++ a.pos) a.kw) Q E s₁) E s) : wpAny M A (callWith pos b.val first args []) Q E s := by
  rcases b.val_cases with ⟨id, e⟩ | ⟨T, e⟩
  · rw [e] at h ⊢; exact Calls.callWith_builtin hplain h
  · rw [e] at h ⊢; exact PyProof.Rows.callWith_type hplain h

theorem sim_bi {fn e : Expr} {es : List Expr} {pos : Pos} {b : BI} {g : LF} (hc : ∀ env, eval (.Call fn (e :: es) [] pos) env = (do callWith pos (← eval fn env) [] (backTo pos (starEach (e :: es) env)) []))
    (he : ∀ env, starEach (e :: es) env = (false, eval e env) :: starEach es env) (hp : ∀ env, (backTo pos (starEach es env)).any (·.1) = false)
    (hf : SimE X d sc fn (fConst (.val b.val))) (ha : SimL X d sc (e :: es) g) : SimE X d sc (.Call fn (e :: es) [] pos) (fBi b g) := by
  intro V H v H' env s ρ A Q E hh hA R F k
  obtain ⟨⟨vs, H1⟩, e1, hh⟩ := Option.bind_eq_some_iff.mp hh
  rw [hc]
  refine wpAny_bind (hf V H _ H env s ρ A _ _ rfl hA R F fun x h1 t1 R1 v1 p1 => ?_)
  obtain rfl := v1.val_inv
  rw [he]
  refine callWith_bi (by show (false || (backTo pos (starEach es env)).any (·.1)) = false; rw [hp]; rfl) (Calls.evalArgs_plain ?_)
  have := ha V H vs H1 env { s with heap := h1, toks := t1 } ρ A pos (fun vs s₁ => wpAny X.M A (call b.val ([] ++ vs)) Q E s₁) E e1 hA R1 (F.pres p1) fun rs h2 t2 R2 v2 p2 =>
    bi_sound hh hA R2 v2 fun r h3 t3 R3 v3 p3 => k r h3 t3 R3 v3 ((p1.trans p2).trans p3)
  rw [he] at this
  exact this

theorem getM_sound {b : BI} {v : PVal} {x : Value} {pl : Sem Bool} {ρ : List Addr} {H : PH} {s : Shared} {A : Around} {Q : Value × List Value → Shared → Prop} {E : Value → Shared → Prop} (hb : methKind b v = true) (R : HRel X ρ H s.heap) (r : VRel X ρ s.heap v x)
    (k : Q (b.val, [x]) s) : wpAny X.M A (getMethod x b.name pl) Q E s := by
  cases b <;> first | (cases hb; done) | skip
  · obtain ⟨_, rfl⟩ := PVal.of_str hb
    obtain ⟨t, rfl⟩ := r.str_inv; exact GM.split k
  · obtain ⟨_, rfl⟩ := PVal.of_str hb
    obtain ⟨t, rfl⟩ := r.str_inv; exact GM.startswith k
  · obtain ⟨_, rfl⟩ := PVal.of_str hb
    obtain ⟨t, rfl⟩ := r.str_inv; exact GM.endswith k
  · obtain ⟨_, rfl⟩ := PVal.of_str hb
    obtain ⟨t, rfl⟩ := r.str_inv; exact GM.find k
  · obtain ⟨_, rfl⟩ := PVal.of_str hb
    obtain ⟨t, rfl⟩ := r.str_inv; exact GM.join k
  · obtain ⟨_, rfl⟩ := PVal.of_str hb
    obtain ⟨t, rfl⟩ := r.str_inv; exact GM.count k
  · obtain ⟨_, rfl⟩ := PVal.of_lst hb
    obtain ⟨a, xs, rfl, ⟨n, p⟩, _, _⟩ := r.lst_inv
    exact getMethod_builtin ⟨_, p, rfl⟩ PySem.F.plainAttrs_list PySem.F.slot_list_count PySem.F.type_list_count (fun a e => by cases e; exact ⟨_, p, rfl⟩) k
  · obtain ⟨_, rfl⟩ := PVal.of_int hb
    obtain ⟨t, rfl⟩ := r.int_inv; exact getMethod_int_bit_length k
  · obtain ⟨_, rfl⟩ := PVal.of_ref hb
    obtain ⟨a, rfl, e⟩ := r.ref_inv
    obtain ⟨vs, xs, _, ⟨n, p⟩, _⟩ := R.at e
    exact getMethod_builtin ⟨_, p, rfl⟩ PySem.F.plainAttrs_list PySem.F.slot_list_append PySem.F.type_list_append (fun a e => by cases e; exact ⟨_, p, rfl⟩) k
  · obtain ⟨_, rfl⟩ := PVal.of_ref hb
    obtain ⟨a, rfl, e⟩ := r.ref_inv
    obtain ⟨vs, xs, _, ⟨n, p⟩, _⟩ := R.at e
    exact getMethod_builtin ⟨_, p, rfl⟩ PySem.F.plainAttrs_list PySem.F.slot_list_reverse PySem.F.type_list_reverse (fun a e => by cases e; exact ⟨_, p, rfl⟩) k

theorem sim_meth {o e : Expr} {es : List Expr} {apos pos : Pos} {name : Str} {b : BI} {f : EF} {g : LF} (pl : Env → Sem Bool) (hn : name = b.name)
    (hc : ∀ env, eval (.Call (.Attribute o name apos) (e :: es) [] pos) env = (do
      let ov ← eval o env
      standAt apos.atName
      let (f, first) ← holding [ov] (getMethod ov name (pl env))
      callWith pos f first (backTo pos (starEach (e :: es) env)) []))
    (he : ∀ env, starEach (e :: es) env = (false, eval e env) :: starEach es env) (hp : ∀ env, (backTo pos (starEach es env)).any (·.1) = false)
    (ho : SimE X d sc o f) (ha : SimL X d sc (e :: es) g) : SimE X d sc (.Call (.Attribute o name apos) (e :: es) [] pos) (fMe b f g) := by
  intro V H v H' env s ρ A Q E hh hA R F k
  obtain ⟨⟨a, H0⟩, e0, hh⟩ := Option.bind_eq_some_iff.mp hh
  split at hh
  · rename_i hm
    obtain ⟨⟨vs, H1⟩, e1, hh⟩ := Option.bind_eq_some_iff.mp hh
    refine MethodCall_ (ho V H a H0 env s ρ A _ _ e0 hA R F fun x h1 t1 R1 v1 p1 => ?_) (hc env)
    subst hn
    refine getM_sound (s := { s with heap := h1, toks := t1 }) hm R1 v1 ?_
    rw [he]
    refine callWith_bi (by show (false || (backTo pos (starEach es env)).any (·.1)) = false; rw [hp]; rfl) (Calls.evalArgs_plain ?_)
    have := ha V H0 vs H1 env { s with heap := h1, toks := t1 } ρ A pos (fun vs s₁ => wpAny X.M A (call b.val ([x] ++ vs)) Q E s₁) E e1 hA R1 (F.pres p1) fun rs h2 t2 R2 v2 p2 =>
      bi_sound (s := { s with heap := h2, toks := t2 }) hh hA R2 (.cons (v1.pres p2) v2) fun r h3 t3 R3 v3 p3 => k r h3 t3 R3 v3 ((p1.trans p2).trans p3)
    rw [he] at this
    exact this
  · cases hh
theorem sim_meth0 {o : Expr} {apos pos : Pos} {name : Str} {b : BI} {f : EF} (pl : Env → Sem Bool) (hn : name = b.name)
    (hc : ∀ env, eval (.Call (.Attribute o name apos) [] [] pos) env = (do
      let ov ← eval o env
      standAt apos.atName
      let (f, first) ← holding [ov] (getMethod ov name (pl env))
      callWith pos f first (backTo pos (starEach [] env)) []))
    (ho : SimE X d sc o f) : SimE X d sc (.Call (.Attribute o name apos) [] [] pos) (fMe b f lNil) := by
  intro V H v H' env s ρ A Q E hh hA R F k
  obtain ⟨⟨a, H0⟩, e0, hh⟩ := Option.bind_eq_some_iff.mp hh
  split at hh
  · rename_i hm
    obtain ⟨⟨vs, H1⟩, e1, hh⟩ := Option.bind_eq_some_iff.mp hh
    cases e1
    refine MethodCall_ (ho V H a H0 env s ρ A _ _ e0 hA R F fun x h1 t1 R1 v1 p1 => ?_) (hc env)
    subst hn
    refine getM_sound (s := { s with heap := h1, toks := t1 }) hm R1 v1 ?_
    refine callWith_bi (args := []) rfl (PyProof.Rows.evalArgs_none ?_)
    exact bi_sound (s := { s with heap := h1, toks := t1 }) hh hA R1 (.cons v1 .nil) fun r h3 t3 R3 v3 p3 => k r h3 t3 R3 v3 (p1.trans p3)
  · cases hh

theorem sim_call {fn e : Expr} {es : List Expr} {pos : Pos} {ff : EF} {G : GF} {g : LF} (hc : ∀ env, eval (.Call fn (e :: es) [] pos) env = (do callWith pos (← eval fn env) [] (backTo pos (starEach (e :: es) env)) []))
    (he : ∀ env, starEach (e :: es) env = (false, eval e env) :: starEach es env)
    (hG : GSound X d G) (hf : SimE X d sc fn ff) (ha : SimL X d sc (e :: es) g) : SimE X d sc (.Call fn (e :: es) [] pos) (fCall ff G g) := by
  intro V H v H' env s ρ A Q E hh hA R F k
  obtain ⟨⟨fv, H0⟩, e0, hh⟩ := Option.bind_eq_some_iff.mp hh
  dsimp only at hh
  split at hh
  · rename_i fa
    obtain ⟨⟨vs, H1⟩, e1, hh⟩ := Option.bind_eq_some_iff.mp hh
    rw [hc]
    refine wpAny_bind (hf V H _ H0 env s ρ A _ _ e0 hA R F fun x h1 t1 R1 v1 p1 => ?_)
    obtain rfl := v1.val_inv
    obtain ⟨⟨o, fd, ho, hd⟩, hcall⟩ := hG fa vs H1 v H' hh
    have key : wpAny X.M A (spliced (backTo pos (starEach (e :: es) env))) (fun vs s₁ => (s₁.heap.get? fa = some o ∧ o.data = .func fd) ∧ wpAny X.M A (call (.ref fa) ([] ++ vs) []) Q E s₁) E { s with heap := h1, toks := t1 } :=
      ha V H0 vs H1 env { s with heap := h1, toks := t1 } ρ A pos _ E e1 hA R1 (F.pres p1) fun rs h2 t2 R2 v2 p2 =>
        ⟨⟨R2.keep _ _ ho, hd⟩, hcall { s with heap := h2, toks := t2 } ρ A Q E rs hA R2 v2 fun r h3 t3 R3 v3 p3 => k r h3 t3 R3 v3 ((p1.trans p2).trans p3)⟩
    rw [he] at key ⊢
    exact Calls.callWith_function (Calls.evalArgs_plain key)
  · cases hh
end
end Mine

end

/- Ev9 -/
section
open PySem PySem.W PyProof.Rows
set_option maxRecDepth 100000
namespace Mine

section
variable {X : Cx} {ρ : List Addr} {H : PH} {h h' : Heap}

theorem ban_grow {σ : List Addr} {a : Addr} (n : a ∉ X.ban ρ) (m : a ∉ σ) : a ∉ X.ban (ρ ++ σ) := by
  intro q
  rcases List.mem_append.mp q with q | q
  · rcases List.mem_append.mp q with q | q
    · exact n (List.mem_append_left _ q)
    · exact m q
  · exact n (List.mem_append_right _ q)
theorem ban_less {σ : List Addr} {a : Addr} (n : a ∉ X.ban (ρ ++ σ)) : a ∉ X.ban ρ := fun q => n (by
  rcases List.mem_append.mp q with q | q
  · exact List.mem_append_left _ (List.mem_append_left _ q)
  · exact List.mem_append_right _ q)
theorem BRel.grow {σ : List Addr} {v : PVal} {x : Value} (r : BRel h (X.ban ρ) v x) (f : ∀ a ∈ σ, h.get? a = Option.none) : BRel h (X.ban (ρ ++ σ)) v x :=
  r.move fun a o e _ n => ⟨e, ban_grow n fun q => by rw [f a q] at e; cases e⟩
theorem BRel.less {σ : List Addr} {v : PVal} {x : Value} (r : BRel h (X.ban (ρ ++ σ)) v x) : BRel h (X.ban ρ) v x := r.move fun a o e _ n => ⟨e, ban_less n⟩
theorem BRels.less {σ : List Addr} {v : List PVal} {x : List Value} (r : BRels h (X.ban (ρ ++ σ)) v x) : BRels h (X.ban ρ) v x := r.move fun a o e _ n => ⟨e, ban_less n⟩
theorem VRel.grow {σ : List Addr} {v : PVal} {x : Value} (r : VRel X ρ h v x) (f : ∀ a ∈ σ, h.get? a = Option.none) : VRel X (ρ ++ σ) h v x := by
  cases r with
  | «by» r => exact .by (r.grow f)
  | ref e => exact .ref (by rw [List.getElem?_append_left (List.getElem?_eq_some_iff.mp e).1]; exact e)
theorem FRel.grow {σ : List Addr} {sc : Scope} {env : Env} {V : PV} (F : FRel X ρ sc env V h) (f : ∀ a ∈ σ, h.get? a = Option.none) : FRel X (ρ ++ σ) sc env V h where
  scope := F.scope
  kind := F.kind
  glo := F.glo
  bui := F.bui
  nb := ban_grow F.nb fun q => by obtain ⟨m, ⟨o, es, ep, e, r⟩, hm⟩ := F.ns; rw [f _ q] at e; cases e
  nc := fun x c e => ban_grow (F.nc x c e) fun q => by obtain ⟨ov, o, e2, _⟩ := F.cex x c e; rw [f _ q] at e2; cases e2
  ml := F.ml
  mc := F.mc
  ns := let ⟨m, a, b⟩ := F.ns; ⟨m, a, fun x v e1 e2 => let ⟨r, c, d⟩ := b x v e1 e2; ⟨r, c, d.grow f⟩⟩
  cel := fun x v e1 e2 => let ⟨c, r, a, b, d⟩ := F.cel x v e1 e2; ⟨c, r, a, b, d.grow f⟩
  own := F.own
  cex := F.cex
  inj := F.inj

/-- a new mutable list -/
theorem HRel.grow (R : HRel X ρ H h) {vs : List PVal} {xs : List Value} (r : BRels h (X.ban ρ) vs xs) {n : Nat} :
    HRel X (ρ ++ [h.objs.size]) (H ++ [vs]) (h.push { cls := .type "list", data := .seq xs.toArray n }) := by
  have kp := Keeps.push h { cls := .type "list", data := .seq xs.toArray n }
  have R1 := R.keeps kp
  have nn : h.get? h.objs.size = Option.none := by
    cases e : h.get? h.objs.size with
    | none => rfl
    | some o => exact absurd (Heap.lt_size e) (Nat.lt_irrefl _)
  have gr : ∀ {ws : List PVal} {ys : List Value}, BRels h (X.ban ρ) ws ys → BRels (h.push { cls := .type "list", data := .seq xs.toArray n }) (X.ban (ρ ++ [h.objs.size])) ws ys := fun r => r.move fun a o e _ m => ⟨kp a o e, ban_grow m fun q => by rw [List.mem_singleton.mp q, nn] at e; cases e⟩
  refine ⟨R1.keep, ?_, ?_, ?_, by simp [R.len], ?_, R1.tobs, R1.ti, R.pre.trans (List.prefix_append _ _)⟩
  · rw [List.nodup_append]
    refine ⟨R.nodup, by simp, fun a ha b hb => ?_⟩
    rw [List.mem_singleton.mp hb]
    exact Nat.ne_of_lt (R.low a (List.mem_append_left _ ha))
  · intro a ha
    rcases List.mem_append.mp ha with ha | ha
    · exact R.apart a ha
    · rw [List.mem_singleton.mp ha]; exact fun q => R.new (List.mem_append_right _ q)
  · intro a ha
    by_cases hq : a ∈ X.ban ρ
    · exact R.fresh a hq
    · have : a = h.objs.size := by
        rcases List.mem_append.mp ha with ha | ha
        · rcases List.mem_append.mp ha with ha | ha
          · exact absurd (List.mem_append_left _ ha) hq
          · exact List.mem_singleton.mp ha
        · exact absurd (List.mem_append_right _ ha) hq
      rw [this]; exact R.newBase
  · intro i a ws ei ew
    by_cases hi : i < ρ.length
    · rw [List.getElem?_append_left hi] at ei
      rw [List.getElem?_append_left (R.len ▸ hi)] at ew
      obtain ⟨ys, ⟨m, e⟩, r1⟩ := R.objs i a ws ei ew
      exact ⟨ys, ⟨m, kp _ _ e⟩, gr r1⟩
    · have hl := (List.getElem?_eq_some_iff.mp ei).1
      have hi' : i = ρ.length := by rw [List.length_append, List.length_singleton] at hl; (first | lia | omega)
      subst hi'
      rw [List.getElem?_append_right (Nat.le_refl _)] at ei
      rw [List.getElem?_append_right (R.len ▸ Nat.le_refl _), R.len] at ew
      simp at ei ew
      subst ei; subst ew
      exact ⟨xs, ⟨n, Heap.get?_push_size _ rfl⟩, gr r⟩
/-- the last mutable lists forgotten -/
theorem HRel.drop {σ : List Addr} {K : PH} (R : HRel X (ρ ++ σ) K h) (hp : X.pre <+: ρ) : HRel X ρ (K.take ρ.length) h where
  keep := R.keep
  nodup := (List.nodup_append.mp R.nodup).1
  apart := fun a ha => R.apart a (List.mem_append_left _ ha)
  fresh := fun a ha => R.fresh a (by
    rcases List.mem_append.mp ha with q | q
    · exact List.mem_append_left _ (List.mem_append_left _ q)
    · exact List.mem_append_right _ q)
  len := by have := R.len; rw [List.length_append] at this; rw [List.length_take]; (first | lia | omega)
  objs := fun i a vs ei ev => by
    have hi := (List.getElem?_eq_some_iff.mp ei).1
    rw [List.getElem?_take_of_lt hi] at ev
    obtain ⟨xs, p, r⟩ := R.objs i a vs (by rw [List.getElem?_append_left hi]; exact ei) ev
    exact ⟨xs, p, r.less⟩
  tobs := R.tobs
  ti := R.ti
  pre := hp
theorem HRel.freeze {D : Addr} {K : PH} (R : HRel X (ρ ++ [D]) K h) {vs : List PVal} (e : K[ρ.length]? = some vs) : VRel X ρ h (.lst vs) (.ref D) := by
  obtain ⟨xs, p, r⟩ := R.objs ρ.length D vs (by simp) e
  refine .by (.lst p (fun q => ?_) r.less)
  rcases List.mem_append.mp q with q | q
  · exact (List.nodup_append.mp R.nodup).2.2 D q D (by simp) rfl
  · exact R.apart D (by simp) q
end

noncomputable def setV (V : PV) (x : Str) (v : PVal) : PV := fun y => if y = x then some v else V y
noncomputable def isFree (scope : Scope) (y : Str) : Bool := scope.names.lookup y == some .free
noncomputable def freeV (scope : Scope) (V : PV) : PV := fun y => if isFree scope y = true then V y else none
noncomputable def relab (scope sc : Scope) : Scope :=
  { scope with names := scope.names.map fun (n, k) => if (k == .free && sc.kind == .function && sc.names.lookup n == some .cell) then (n, .cell) else (n, k) }
theorem relab_eq (scope : Scope) {env : Env} {sc : Scope} (e : env.scope = sc) : relabel scope env = relab scope sc := by subst e; rfl

/-- what a comprehension's scope must be -/
structure CompScope (scope sc : Scope) (xs : List Str) : Prop where
  kind : scope.kind = .function
  nodup : (scope.names.map (·.1)).Nodup
  free : ∀ n k, (n, k) ∈ scope.names → k = .free → sc.names.lookup n = some .cell ∨ sc.names.lookup n = some .free
  vars : ∀ x ∈ xs, (x, NameKind.local) ∈ scope.names ∨ (x, NameKind.cell) ∈ scope.names

theorem lookup_of_mem {α : Type} : ∀ {l : List (Str × α)}, (l.map (·.1)).Nodup → ∀ {n : Str} {k : α}, (n, k) ∈ l → l.lookup n = some k
  | (m, j) :: r, hn, n, k, h => by
    rw [List.map_cons, List.nodup_cons] at hn
    rw [List.lookup_cons]
    rcases List.mem_cons.mp h with q | q
    · cases q; simp
    · have : (n == m) = false := by
        rw [beq_eq_false_iff_ne]; rintro rfl
        exact hn.1 (List.mem_map.mpr ⟨(n, k), q, rfl⟩)
      rw [this]; exact lookup_of_mem hn.2 q

theorem cellsFrom_acc : ∀ (names : List (Str × NameKind)) (n : Nat) (acc : List (Str × Addr)), cellsFrom n names acc = cellsFrom n names [] ++ acc
  | [], _, _ => rfl
  | (name, kind) :: r, n, acc => by
    unfold cellsFrom
    split
    · rw [cellsFrom_acc r (n + 1) ((name, n) :: acc), cellsFrom_acc r (n + 1) [(name, n)], List.append_assoc]; rfl
    · exact cellsFrom_acc r n acc
theorem cellsFrom_names : ∀ (names : List (Str × NameKind)) (n : Nat) {x : Str} {c : Addr}, (x, c) ∈ cellsFrom n names [] → (x, NameKind.cell) ∈ names
  | [], _, _, _, h => nomatch h
  | (name, kind) :: r, n, x, c, h => by
    unfold cellsFrom at h
    split at h
    · rename_i hk
      rw [cellsFrom_acc] at h
      rcases List.mem_append.mp h with h | h
      · exact .tail _ (cellsFrom_names r _ h)
      · obtain ⟨rfl, rfl⟩ := Prod.mk.inj (List.mem_singleton.mp h)
        rw [eq_of_beq hk]; exact .head _
    · exact .tail _ (cellsFrom_names r _ h)
theorem cellsFrom_has : ∀ (names : List (Str × NameKind)) (n : Nat) {x : Str}, (x, NameKind.cell) ∈ names → ∃ c, (x, c) ∈ cellsFrom n names []
  | (name, kind) :: r, n, x, h => by
    unfold cellsFrom
    rcases List.mem_cons.mp h with q | q
    · cases q
      rw [if_pos (by rfl), cellsFrom_acc]
      exact ⟨n, List.mem_append_right _ (by simp)⟩
    · split
      · rw [cellsFrom_acc]
        obtain ⟨c, hc⟩ := cellsFrom_has r (n + 1) q
        exact ⟨c, List.mem_append_left _ hc⟩
      · exact cellsFrom_has r n q

section
variable {X : Cx} {ρ : List Addr} {H : PH} {sc : Scope}

theorem closure_ok {env : Env} (scope : Scope) (hc : ∀ n k, (n, k) ∈ scope.names → k = NameKind.free → ∃ c, env.cells.lookup n = some c) :
    ∃ cl, closureFor scope env = pure cl ∧ (∀ n c, (n, c) ∈ cl → env.cells.lookup n = some c ∧ (n, NameKind.free) ∈ scope.names) ∧ ∀ n, (n, NameKind.free) ∈ scope.names → ∃ c, (n, c) ∈ cl := by
  unfold closureFor
  have key : ∀ (names : List (Str × NameKind)) (acc : List (Str × Addr)), (∀ n k, (n, k) ∈ names → k = NameKind.free → ∃ c, env.cells.lookup n = some c) →
      ∃ cl, (forIn names acc (fun x cs => (if (x.2 == NameKind.free) = true then (do let a ← cellOf env x.1; pure (ForInStep.yield ((x.1, a) :: cs))) else pure (ForInStep.yield cs) : Sem _))) = (pure cl : Sem _) ∧
        (∀ n c, (n, c) ∈ cl → (n, c) ∈ acc ∨ (env.cells.lookup n = some c ∧ (n, NameKind.free) ∈ names)) ∧ (∀ p ∈ acc, p ∈ cl) ∧ ∀ n, (n, NameKind.free) ∈ names → ∃ c, (n, c) ∈ cl := by
    intro names
    induction names with
    | nil => intro acc _; exact ⟨acc, by simp, fun n c h => .inl h, fun p h => h, fun n h => nomatch h⟩
    | cons x r ih =>
      intro acc hc
      obtain ⟨n, k⟩ := x
      rw [List.forIn_cons]
      by_cases hk : k = .free
      · subst hk
        obtain ⟨c, ec⟩ := hc n .free (.head _) rfl
        obtain ⟨cl, e1, e2, e3, e4⟩ := ih ((n, c) :: acc) fun n k h => hc n k (.tail _ h)
        refine ⟨cl, ?_, fun m d hm => ?_, fun p hp => e3 p (.tail _ hp), fun m hm => ?_⟩
        · have : cellOf env n = pure c := by unfold cellOf; rw [ec]
          simp only [beq_self_eq_true, if_true, this, pure_bind]
          exact e1
        · rcases e2 m d hm with q | q
          · rcases List.mem_cons.mp q with q | q
            · cases q; exact .inr ⟨ec, .head _⟩
            · exact .inl q
          · exact .inr ⟨q.1, .tail _ q.2⟩
        · rcases List.mem_cons.mp hm with q | q
          · cases q; exact ⟨c, e3 _ (.head _)⟩
          · exact e4 m q
      · obtain ⟨cl, e1, e2, e3, e4⟩ := ih acc fun n k h => hc n k (.tail _ h)
        refine ⟨cl, ?_, fun m d hm => (e2 m d hm).imp id fun q => ⟨q.1, .tail _ q.2⟩, e3, fun m hm => ?_⟩
        · have : (k == NameKind.free) = false := by simpa using hk
          simp only [this, Bool.false_eq_true, if_false, pure_bind]
          exact e1
        · rcases List.mem_cons.mp hm with q | q
          · cases q; exact absurd rfl hk
          · exact e4 m q
  obtain ⟨cl, e1, e2, _, e4⟩ := key scope.names [] hc
  refine ⟨cl, ?_, fun n c h => (e2 n c h).elim (fun q => nomatch q) id, e4⟩
  simpa using e1
end
end Mine

end

/- Ev10 -/
section
open PySem PySem.W PyProof.Rows
set_option maxRecDepth 100000
namespace Mine

section
variable {X : Cx} {ρ : List Addr} {H : PH} {sc : Scope} {h h' : Heap} {env : Env} {V : PV}

theorem VRel.but {I : Addr} {v : PVal} {x : Value} (r : VRel X ρ h v x) (hI : Mach X h I) (ke : ∀ b o, b ≠ I → h.get? b = some o → h'.get? b = some o) : VRel X ρ h' v x := by
  cases r with
  | «by» r => exact .by (r.but (fun o e => (hI.2 o e).noData) ke)
  | ref e => exact .ref e
theorem HRel.but {I : Addr} (R : HRel X ρ H h) (hI : Mach X h I) (ke : ∀ b o, b ≠ I → h.get? b = some o → h'.get? b = some o) : HRel X ρ H h' :=
  R.chg fun a o e n => ke a o (fun q => n (q ▸ hI)) e
theorem FRel.but {I : Addr} (F : FRel X ρ sc env V h) (hI : Mach X h I) (hl : env.locals ≠ I) (hc : ∀ x c, env.cells.lookup x = some c → c ≠ I) (ke : ∀ b o, b ≠ I → h.get? b = some o → h'.get? b = some o) : FRel X ρ sc env V h' where
  scope := F.scope
  kind := F.kind
  glo := F.glo
  bui := F.bui
  nb := F.nb
  nc := F.nc
  ml := by
    obtain ⟨m, ⟨o, es, ep, e, r⟩, hm⟩ := F.ns
    exact ⟨F.ml.1, fun o' e' => by rw [ke _ _ hl e] at e'; cases e'; exact F.ml.2 o e⟩
  mc := fun x c hl' hc' => by
    obtain ⟨ov, o, e2, e3⟩ := F.cex x c hc'
    exact ⟨(F.mc x c hl' hc').1, fun o' e' => by rw [ke _ _ (hc x c hc') e2] at e'; cases e'; exact (F.mc x c hl' hc').2 o e2⟩
  ns := by
    obtain ⟨m, ⟨o, es, ep, e, r⟩, hm⟩ := F.ns
    exact ⟨m, ⟨o, es, ep, ke _ _ hl e, r⟩, fun x v hv hl => let ⟨r, e1, e2⟩ := hm x v hv hl; ⟨r, e1, e2.but hI ke⟩⟩
  cel := fun x v hv hl => let ⟨c, r, e1, ⟨o, e2, e3⟩, e4⟩ := F.cel x v hv hl; ⟨c, r, e1, ⟨o, ke _ _ (hc x c e1) e2, e3⟩, e4.but hI ke⟩
  own := F.own
  cex := fun x c e1 => let ⟨ov, o, e2, e3⟩ := F.cex x c e1; ⟨ov, o, ke _ _ (hc x c e1) e2, e3⟩
  inj := F.inj

theorem FRel.ne (F : FRel X ρ sc env V h) {x : Str} {c : Addr} (hc : env.cells.lookup x = some c) : c ≠ env.locals := by
  rintro rfl
  obtain ⟨m, ⟨o, es, ep, e, d, _⟩, _⟩ := F.ns
  obtain ⟨ov, o', e', d'⟩ := F.cex x _ hc
  rw [e] at e'; cases e'; rw [d] at d'; cases d'

theorem store_sound {s : Shared} {A : Around} {Q : Unit → Shared → Prop} {E : Value → Shared → Prop} {x : Str} {v : PVal} {r : Value} (R : HRel X ρ H s.heap) (F : FRel X ρ sc env V s.heap) (hk : sc.names.lookup x = some .local ∨ sc.names.lookup x = some .cell)
    (rv : VRel X ρ s.heap v r)
    (k : ∀ h' tk' tgt, HRel X ρ H h' → FRel X ρ sc env (setV V x v) h' → (tgt = env.locals ∨ (sc.names.lookup x = some .cell ∧ env.cells.lookup x = some tgt)) → (∀ b o, b ≠ tgt → s.heap.get? b = some o → h'.get? b = some o) →
      Q () { s with heap := h', toks := tk' }) : wpAny X.M A (storeName env x r) Q E s := by
  have kf : env.scope.kind = .function := by rw [F.scope]; exact F.kind
  rcases hk with hl | hl
  · obtain ⟨m, hn, hm⟩ := F.ns
    refine wpAny_storeName_local (by show env.scope.names.lookup x = _; rw [F.scope]; exact hl) hn (fun h' hn' sb => ?_) (by rw [kf]; rfl)
    have ke : ∀ b o, b ≠ env.locals → s.heap.get? b = some o → h'.get? b = some o := fun b o hb e => (sb.2 b hb).trans e
    obtain ⟨o, es, ep, e, d, rr⟩ := id hn
    obtain ⟨o', es', ep', e', d', rr'⟩ := id hn'
    refine k h' _ env.locals (R.but F.ml ke) ?_ (.inl rfl) ke
    refine ⟨F.scope, F.kind, F.glo, F.bui, F.nb, F.nc, ⟨F.ml.1, fun o2 e2 => ?_⟩, fun y c hy hc => ?_, ⟨_, hn', fun y w hy hyl => ?_⟩, fun y w hy hyl => ?_, F.own, fun y c e1 => ?_, F.inj⟩
    · rw [e'] at e2; cases e2; exact .inl ⟨es', ep', d'⟩
    · obtain ⟨ov, o2, e2, e3⟩ := F.cex y c hc
      exact ⟨(F.mc y c hy hc).1, fun o3 e4 => by rw [ke _ _ (F.ne hc) e2] at e4; cases e4; exact (F.mc y c hy hc).2 o2 e2⟩
    · unfold setV at hy
      split at hy
      · rename_i hyx; cases hy; exact ⟨r, by rw [if_pos hyx], rv.but F.ml ke⟩
      · rename_i hyx; obtain ⟨r', e1, e2⟩ := hm y w hy hyl; exact ⟨r', by rw [if_neg hyx]; exact e1, e2.but F.ml ke⟩
    · unfold setV at hy
      split at hy
      · rename_i hyx; subst hyx; rw [hl] at hyl; rcases hyl with q | q <;> cases q
      · obtain ⟨c, r', e1, ⟨o2, e2, e3⟩, e4⟩ := F.cel y w hy hyl
        exact ⟨c, r', e1, ⟨o2, ke _ _ (F.ne e1) e2, e3⟩, e4.but F.ml ke⟩
    · obtain ⟨ov, o2, e2, e3⟩ := F.cex y c e1
      exact ⟨ov, o2, ke _ _ (F.ne e1) e2, e3⟩
  · obtain ⟨c, hc⟩ := F.own x (.inl hl)
    obtain ⟨ov, hv⟩ := F.cex x c hc
    refine wpAny_storeName_cell kf (by show env.scope.names.lookup x = _; rw [F.scope]; exact hl) hc hv fun h' hv' sb => ?_
    have ke : ∀ b o, b ≠ c → s.heap.get? b = some o → h'.get? b = some o := fun b o hb e => (sb.2 b hb).trans e
    have mc := F.mc x c hl hc
    refine k h' s.toks c (R.but mc ke) ?_ (.inr ⟨hl, hc⟩) ke
    obtain ⟨o, e, d⟩ := id hv
    obtain ⟨o', e', d'⟩ := id hv'
    obtain ⟨m, ⟨oL, es, ep, eL, rL⟩, hm⟩ := F.ns
    have cc : ∀ y d, env.cells.lookup y = some d → d ≠ c → ∀ o2, s.heap.get? d = some o2 → h'.get? d = some o2 := fun y d _ hd o2 e2 => ke d o2 hd e2
    refine ⟨F.scope, F.kind, F.glo, F.bui, F.nb, F.nc, ⟨F.ml.1, fun o2 e2 => ?_⟩, fun y d hy hd => ?_, ⟨m, ⟨oL, es, ep, ke _ _ (Ne.symm (F.ne hc)) eL, rL⟩, fun y w hy hyl => ?_⟩, fun y w hy hyl => ?_, F.own, fun y d e1 => ?_, F.inj⟩
    · rw [ke _ _ (Ne.symm (F.ne hc)) eL] at e2; cases e2; exact F.ml.2 oL eL
    · by_cases hdc : d = c
      · subst hdc; exact ⟨mc.1, fun o2 e2 => by rw [e'] at e2; cases e2; exact .inr (.inl ⟨_, d'⟩)⟩
      · obtain ⟨ov, o2, e2, e3⟩ := F.cex y d hd
        exact ⟨(F.mc y d hy hd).1, fun o3 e4 => by rw [ke _ _ hdc e2] at e4; cases e4; exact (F.mc y d hy hd).2 o2 e2⟩
    · unfold setV at hy
      split at hy
      · rename_i hyx; subst hyx; rw [hl] at hyl; cases hyl
      · obtain ⟨r', e1, e2⟩ := hm y w hy hyl; exact ⟨r', e1, e2.but mc ke⟩
    · unfold setV at hy
      split at hy
      · rename_i hyx; subst hyx; cases hy; exact ⟨c, r, hc, hv', rv.but mc ke⟩
      · rename_i hyx
        obtain ⟨d, r', e1, ⟨o2, e2, e3⟩, e4⟩ := F.cel y w hy hyl
        exact ⟨d, r', e1, ⟨o2, ke _ _ (fun q => hyx (F.inj y x c (q ▸ e1) hc)) e2, e3⟩, e4.but mc ke⟩
    · by_cases hdc : d = c
      · subst hdc; exact ⟨_, hv'⟩
      · obtain ⟨ov, o2, e2, e3⟩ := F.cex y d e1
        exact ⟨ov, o2, ke _ _ hdc e2, e3⟩
end
end Mine

end

/- Ev11 -/
section
open PySem PySem.W PyProof.Rows
set_option maxRecDepth 100000
namespace Mine

theorem pushCells_obj : ∀ (names : List (Str × NameKind)) (h : Heap) {x : Str} {c : Addr}, (x, c) ∈ cellsFrom h.objs.size names [] → (pushCells h names).get? c = some { cls := .type "cell", data := .cell none } ∧ h.objs.size ≤ c
  | [], _, _, _, q => nomatch q
  | (name, kind) :: r, h, x, c, q => by
    unfold pushCells
    unfold cellsFrom at q
    split at q
    · rename_i hk
      rw [if_pos hk]
      rw [cellsFrom_acc] at q
      rcases List.mem_append.mp q with q | q
      · have := pushCells_obj r (h.push { cls := .type "cell", data := .cell none }) (x := x) (c := c) (by rw [Heap.size_push]; exact q)
        exact ⟨this.1, by have := this.2; rw [Heap.size_push] at this; (first | lia | omega)⟩
      · obtain ⟨rfl, rfl⟩ := Prod.mk.inj (List.mem_singleton.mp q)
        exact ⟨pushCells_keeps r _ _ _ (Heap.get?_push_size _ rfl), Nat.le_refl _⟩
    · rename_i hk
      rw [if_neg hk]
      exact pushCells_obj r h q
theorem cellsFrom_inj : ∀ (names : List (Str × NameKind)) (n : Nat) {x y : Str} {c : Addr}, (x, c) ∈ cellsFrom n names [] → (y, c) ∈ cellsFrom n names [] → x = y ∧ n ≤ c
  | [], _, _, _, _, q, _ => nomatch q
  | (name, kind) :: r, n, x, y, c, p, q => by
    unfold cellsFrom at p q
    split at p
    · rename_i hk
      rw [if_pos hk] at q
      rw [cellsFrom_acc] at p q
      rcases List.mem_append.mp p with p | p <;> rcases List.mem_append.mp q with q | q
      · exact ⟨(cellsFrom_inj r _ p q).1, by have := (cellsFrom_inj r _ p q).2; (first | lia | omega)⟩
      · have := (cellsFrom_inj r _ p p).2
        obtain ⟨rfl, rfl⟩ := Prod.mk.inj (List.mem_singleton.mp q)
        (first | lia | omega)
      · have := (cellsFrom_inj r _ q q).2
        obtain ⟨rfl, rfl⟩ := Prod.mk.inj (List.mem_singleton.mp p)
        (first | lia | omega)
      · obtain ⟨rfl, rfl⟩ := Prod.mk.inj (List.mem_singleton.mp p)
        obtain ⟨rfl, _⟩ := Prod.mk.inj (List.mem_singleton.mp q)
        exact ⟨rfl, Nat.le_refl _⟩
    · rename_i hk
      rw [if_neg hk] at q
      exact cellsFrom_inj r n p q

theorem relab_lookup (scope sc : Scope) (x : Str) : (relab scope sc).names.lookup x = (scope.names.lookup x).map fun k => if (k == .free && sc.kind == .function && sc.names.lookup x == some .cell) = true then .cell else k := by
  unfold relab
  simp only
  generalize scope.names = l
  induction l with
  | nil => rfl
  | cons p r ih =>
    obtain ⟨n, k⟩ := p
    have e : (if (k == NameKind.free && sc.kind == .function && sc.names.lookup n == some .cell) = true then (n, NameKind.cell) else (n, k)) = (n, if (k == NameKind.free && sc.kind == .function && sc.names.lookup n == some .cell) = true then NameKind.cell else k) := by split <;> rfl
    rw [List.map_cons]
    dsimp only
    rw [e, List.lookup_cons, List.lookup_cons]
    by_cases hx : x = n
    · subst hx; simp
    · have hb : (x == n) = false := by simpa using hx
      rw [hb]
      exact ih

/-- the environment of a comprehension -/
noncomputable def compE (scope sc : Scope) (cl : List (Str × Addr)) (L : Addr) (env : Env) : Env :=
  { scope := relab scope sc, locals := L, globals := env.globals, cells := cellsFrom (L + 1) scope.names cl, qual := env.qual, func := none, code := env.code, frame := env.frame, builtins := env.builtins }

section
variable {X : Cx} {ρ : List Addr} {H : PH} {sc scope : Scope} {env : Env} {V : PV} {xs : List Str} {cl : List (Str × Addr)}

theorem comp_newEnv {s : Shared} {A : Around} {Q : Env → Shared → Prop} {E : Value → Shared → Prop}
    (k : Q { scope := scope, locals := s.heap.objs.size, globals := env.globals, cells := cellsFrom (s.heap.objs.size + 1) scope.names cl, qual := env.qual, func := none, code := env.code, frame := env.frame, builtins := env.builtins }
      { s with heap := pushCells (s.heap.push { cls := .type "dict", data := .dict #[] }) scope.names }) :
    wpAny X.M A (newFunctionEnv scope env.globals cl [] env.qual none .none (some env)) Q E s := by
  simp only [newFunctionEnv, Option.isSome_some, if_true]
  refine wpAny_bind (wpAny_alloc ?_)
  refine wpAny_bind (wpAny_layCells _ (fun name kind cells => by cases hkc : kind == NameKind.cell <;> simp [hkc]) _ _ _ _ ?_)
  rw [show ({ s with heap := s.heap.push { cls := .type "dict", data := .dict #[] } } : Shared).heap.objs.size = s.heap.objs.size + 1 from Heap.size_push ..]
  exact wpAny_bind (wpAny_pure (wpAny_pure k))

theorem comp_frame {h : Heap} (R : HRel X ρ H h) (F : FRel X ρ sc env V h) (CS : CompScope scope sc xs)
    (c1 : ∀ n c, (n, c) ∈ cl → env.cells.lookup n = some c ∧ (n, NameKind.free) ∈ scope.names) (c2 : ∀ n, (n, NameKind.free) ∈ scope.names → ∃ c, (n, c) ∈ cl) :
    FRel X ρ (relab scope sc) (compE scope sc cl h.objs.size env) (freeV scope V) (pushCells (h.push { cls := .type "dict", data := .dict #[] }) scope.names) ∧
      Keeps h (pushCells (h.push { cls := .type "dict", data := .dict #[] }) scope.names) ∧ (∀ x c, (compE scope sc cl h.objs.size env).cells.lookup x = some c → (h.get? c = none ∧ (x, NameKind.cell) ∈ scope.names) ∨ (env.cells.lookup x = some c ∧ (x, NameKind.free) ∈ scope.names)) := by
  have kp : Keeps h (pushCells (h.push { cls := .type "dict", data := .dict #[] }) scope.names) := fun a o e => pushCells_keeps _ _ a o (Heap.get?_push_of_some _ e)
  have hL : (pushCells (h.push { cls := .type "dict", data := .dict #[] }) scope.names).get? h.objs.size = some { cls := .type "dict", data := .dict #[] } := pushCells_keeps _ _ _ _ (Heap.get?_push_size _ rfl)
  have sz : (h.push { cls := .type "dict", data := .dict #[] }).objs.size = h.objs.size + 1 := Heap.size_push ..
  have fresh : ∀ a, h.objs.size ≤ a → h.get? a = none := fun a ha => by
    cases e : h.get? a with
    | none => rfl
    | some o => exact absurd (Heap.lt_size e) (Nat.not_lt.mpr ha)
  have freshB : ∀ a, h.objs.size ≤ a → X.base a = none := fun a ha => by
    cases e : X.base a with
    | none => rfl
    | some o => have := R.keep a o e; rw [fresh a ha] at this; cases this
  have newc : ∀ {x c}, (x, c) ∈ cellsFrom (h.objs.size + 1) scope.names [] → (pushCells (h.push { cls := .type "dict", data := .dict #[] }) scope.names).get? c = some { cls := .type "cell", data := .cell none } ∧ h.objs.size ≤ c := fun {x c} q => by
    have := pushCells_obj scope.names (h.push { cls := .type "dict", data := .dict #[] }) (x := x) (c := c) (by rw [sz]; exact q)
    exact ⟨this.1, by have := this.2; rw [sz] at this; (first | lia | omega)⟩
  have cells : ∀ {x c}, (compE scope sc cl h.objs.size env).cells.lookup x = some c → (x, c) ∈ cellsFrom (h.objs.size + 1) scope.names [] ∨ (x, c) ∈ cl := fun {x c} q => by
    have q : (cellsFrom (h.objs.size + 1) scope.names cl).lookup x = some c := q
    rw [cellsFrom_acc] at q
    exact List.mem_append.mp (mem_of_lookup q)
  have isCell : ∀ {x}, (x, NameKind.cell) ∈ scope.names → (x, NameKind.free) ∉ scope.names := fun {x} q q' => by
    have e1 := lookup_of_mem CS.nodup q
    have e2 := lookup_of_mem CS.nodup q'
    rw [e1] at e2; cases e2
  have lk : ∀ {x}, (x, NameKind.free) ∈ scope.names → ∃ c, (compE scope sc cl h.objs.size env).cells.lookup x = some c ∧ env.cells.lookup x = some c := fun {x} hx => by
    obtain ⟨c, hc⟩ := c2 x hx
    obtain ⟨e1, _⟩ := c1 x c hc
    refine ⟨c, ?_, e1⟩
    show (cellsFrom (h.objs.size + 1) scope.names cl).lookup x = some c
    cases e : (cellsFrom (h.objs.size + 1) scope.names cl).lookup x with
    | none =>
      exfalso
      rw [cellsFrom_acc] at e
      rw [List.lookup_eq_none_iff] at e
      have := e (x, c) (List.mem_append_right _ hc)
      simp at this
    | some c' =>
      rcases cells e with q | q
      · exact absurd hx (isCell (cellsFrom_names _ _ q))
      · rw [(c1 x c' q).1] at e1; cases e1; rfl
  have lkc : ∀ {x}, (x, NameKind.cell) ∈ scope.names → ∃ c, (compE scope sc cl h.objs.size env).cells.lookup x = some c ∧ (x, c) ∈ cellsFrom (h.objs.size + 1) scope.names [] := fun {x} hx => by
    obtain ⟨c, hc⟩ := cellsFrom_has scope.names (h.objs.size + 1) hx
    cases e : (compE scope sc cl h.objs.size env).cells.lookup x with
    | none =>
      exfalso
      have e : (cellsFrom (h.objs.size + 1) scope.names cl).lookup x = none := e
      rw [cellsFrom_acc, List.lookup_eq_none_iff] at e
      have := e (x, c) (List.mem_append_left _ hc)
      simp at this
    | some c' =>
      rcases cells e with q | q
      · exact ⟨c', rfl, q⟩
      · exact absurd (c1 x c' q).2 (isCell hx)
  refine ⟨⟨rfl, CS.kind, F.glo, F.bui, R.new, fun x c e => ?_, ⟨R.newBase, fun o e => ?_⟩, fun x c hx e => ?_, ⟨fun _ => none, ⟨_, #[], 0, hL, rfl, fun _ he => by simp at he, fun _ => rfl⟩, fun x v hv hx => ?_⟩, fun x v hv hx => ?_, fun x hx => ?_, fun x c e => ?_, fun x y c e1 e2 => ?_⟩, kp, fun x c e => ?_⟩
  · rcases cells e with q | q
    · exact fun m => absurd (R.low c m) (Nat.not_lt.mpr (newc q).2)
    · exact F.nc x c (c1 x c q).1
  · have e : (pushCells (h.push { cls := .type "dict", data := .dict #[] }) scope.names).get? h.objs.size = some o := e
    rw [hL] at e; cases e; exact .inl ⟨_, _, rfl⟩
  · rcases cells e with q | q
    · exact ⟨freshB c (newc q).2, fun o e => by rw [(newc q).1] at e; cases e; exact .inr (.inl ⟨_, rfl⟩)⟩
    · have q1 := c1 x c q
      rw [relab_lookup, lookup_of_mem CS.nodup q1.2] at hx
      simp only [Option.map_some, Option.some.injEq] at hx
      split at hx
      · rename_i hc
        simp only [Bool.and_eq_true, beq_iff_eq] at hc
        have m := F.mc x c hc.2 q1.1
        obtain ⟨ov, o, e2, _⟩ := F.cex x c q1.1
        exact ⟨m.1, fun o' e' => by rw [kp _ _ e2] at e'; cases e'; exact m.2 o e2⟩
      · cases hx
  · unfold freeV at hv
    split at hv
    · rename_i hf
      have hf : scope.names.lookup x = some .free := by simpa [isFree] using hf
      rw [relab_lookup, hf] at hx
      simp only [Option.map_some, Option.some.injEq] at hx
      split at hx <;> cases hx
    · cases hv
  · unfold freeV at hv
    split at hv
    · rename_i hf
      have hf : scope.names.lookup x = some .free := by simpa [isFree] using hf
      have hm := mem_of_lookup hf
      obtain ⟨c, e1, e2⟩ := lk hm
      obtain ⟨c', r, e3, ⟨o, e4, e5⟩, e6⟩ := F.cel x v hv (CS.free x _ hm rfl)
      rw [e2] at e3; cases e3
      exact ⟨c, r, e1, ⟨o, kp _ _ e4, e5⟩, e6.pres kp.pres⟩
    · cases hv
  · rw [relab_lookup] at hx
    cases e : scope.names.lookup x with
    | none => rw [e] at hx; rcases hx with q | q <;> cases q
    | some k =>
      rw [e] at hx
      have hm := mem_of_lookup e
      by_cases hk : k = .free
      · subst hk; obtain ⟨c, e1, _⟩ := lk hm; exact ⟨c, e1⟩
      · have : (k == NameKind.free) = false := by simpa using hk
        simp only [Option.map_some, Option.some.injEq, this, Bool.false_and, Bool.false_eq_true, if_false] at hx
        rcases hx with q | q
        · subst q; obtain ⟨c, e1, _⟩ := lkc hm; exact ⟨c, e1⟩
        · exact absurd q hk
  · rcases cells e with q | q
    · exact ⟨none, _, (newc q).1, rfl⟩
    · obtain ⟨ov, o, e2, e3⟩ := F.cex x c (c1 x c q).1
      exact ⟨ov, o, kp _ _ e2, e3⟩
  · rcases cells e1 with q1 | q1 <;> rcases cells e2 with q2 | q2
    · exact (cellsFrom_inj _ _ q1 q2).1
    · obtain ⟨ov, o, e3, _⟩ := F.cex y c (c1 y c q2).1
      rw [fresh c (newc q1).2] at e3; cases e3
    · obtain ⟨ov, o, e3, _⟩ := F.cex x c (c1 x c q1).1
      rw [fresh c (newc q2).2] at e3; cases e3
    · exact F.inj x y c (c1 x c q1).1 (c1 y c q2).1
  · rcases cells e with q | q
    · exact .inl ⟨fresh c (newc q).2, cellsFrom_names _ _ q⟩
    · exact .inr (c1 x c q)
end
end Mine

end

/- Ev12 -/
section
open PySem PySem.W PyProof.Rows
set_option maxRecDepth 100000
namespace Mine

noncomputable def appendAt (n : Nat) (v : PVal) (K : PH) : Option PH := (biP .append [.ref n, v] K).map (·.2)
noncomputable def compLoop (step : PVal → PH → Option PH) : List PVal → PH → Option PH
  | [], K => some K
  | v :: r, K => (step v K).bind (compLoop step r)
noncomputable def stepE (scope : Scope) (x : Str) (elt : EF) (V : PV) (n : Nat) : PVal → PH → Option PH := fun v K => (elt (setV (freeV scope V) x v) K).bind fun p => appendAt n p.1 p.2
noncomputable def stepIf (scope : Scope) (x : Str) (c : BF) (elt : EF) (V : PV) (n : Nat) : PVal → PH → Option PH := fun v K =>
  (c (setV (freeV scope V) x v) K).bind fun b => if b.1 = true then (elt (setV (freeV scope V) x v) b.2).bind fun p => appendAt n p.1 p.2 else some b.2
noncomputable def compRun (it : EF) (mk : PV → Nat → PVal → PH → Option PH) : EF := fun V H =>
  (it V H).bind fun p => (itemsP p.1).bind fun vs => (compLoop (mk V p.2.length) vs (p.2 ++ [[]])).bind fun K => (K[p.2.length]?).map fun acc => (.lst acc, K.take p.2.length)
noncomputable def fComp (scope : Scope) (x : Str) (it elt : EF) : EF := compRun it (stepE scope x elt)
noncomputable def fCompIf (scope : Scope) (x : Str) (it : EF) (c : BF) (elt : EF) : EF := compRun it (stepIf scope x c elt)

section
variable {X : Cx} {d : Nat} {sc : Scope}

theorem FRel.weak {ρ : List Addr} {env : Env} {V V' : PV} {h : Heap} (F : FRel X ρ sc env V h) (w : ∀ y v, V' y = some v → V y = some v) : FRel X ρ sc env V' h where
  scope := F.scope
  kind := F.kind
  glo := F.glo
  bui := F.bui
  nb := F.nb
  nc := F.nc
  ml := F.ml
  mc := F.mc
  ns := let ⟨m, a, b⟩ := F.ns; ⟨m, a, fun x v e => b x v (w x v e)⟩
  cel := fun x v e => F.cel x v (w x v e)
  own := F.own
  cex := F.cex
  inj := F.inj

/-- what a turn does behind the store of its name -/
noncomputable abbrev TurnT := Around → Env → Value → (Shared → Prop) → (Value → Shared → Prop) → Shared → Prop
noncomputable def LoopRule (X : Cx) (e : Expr) (x : Str) (px : Pos) (T : TurnT) : Prop :=
  ∀ (A : Around) (R : Result → Shared → Prop) (it acc : Value) (cenv : Env) (I : Nat → Shared → Prop),
    (∀ n s, I n s → wpAny X.M A (pyNext it) (fun r s₁ => match r with
      | none => R (.ok .next) s₁
      | some v => wpAny X.M A (assign (.Name x px) cenv v) (fun _ s₂ => T A cenv acc (fun s₃ => ∃ m, m < n ∧ I m s₃) (notedBy X.M A cenv fun e s' => R (.error e) s') s₂) (notedBy X.M A cenv fun e s' => R (.error e) s') s₁)
      (notedBy X.M A cenv fun e s' => R (.error e) s') s) → ∀ n s, I n s → codeAny X.M A (.compLoop e 0 it acc cenv) R s
noncomputable abbrev CompBody (X : Cx) (d : Nat) (sc scope : Scope) (x : Str) (mk : PV → Nat → PVal → PH → Option PH) (T : TurnT) : Prop :=
  ∀ (V : PV) (n : Nat) (v : PVal) (K K' : PH) (cenv : Env) (D : Addr) (ρ' : List Addr) (s' : Shared) (A : Around) (P : Shared → Prop) (E : Value → Shared → Prop),
    mk V n v K = some K' → Room d A → HRel X ρ' K s'.heap → FRel X ρ' (relab scope sc) cenv (setV (freeV scope V) x v) s'.heap → ρ'[n]? = some D → (∀ h' tk', HRel X ρ' K' h' → FRel X ρ' (relab scope sc) cenv (freeV scope V) h' →
      (∀ a o, s'.heap.get? a = some o → a ∉ X.ban ρ' → a ≠ cenv.locals → (∀ y, (relab scope sc).names.lookup y = some .cell → scope.names.lookup y = some .cell → cenv.cells.lookup y ≠ some a) → h'.get? a = some o) → P { s' with heap := h', toks := tk' }) →
    T A cenv (.ref D) P E s'
noncomputable def turnOne (X : Cx) (ifs : List Expr) (elt : Expr) : TurnT := fun A cenv acc P E s' =>
  wpAny X.M A (forIn ifs true fun c r => if r = true then do let ok ← isTrue c cenv (eval c cenv); pure (ForInStep.yield ok) else pure (ForInStep.yield r)) (fun ok s₃ =>
    if ok = true then wpAny X.M A (eval elt cenv) (fun y s₄ => wpAny X.M A (call (.builtin "list.append") [acc, y]) (fun _ s₅ => P s₅) E s₄) E s₃ else P s₃) E s'
theorem loop_one {elt iter : Expr} {x : Str} {px pos : Pos} {ifs : List Expr} {scope : Scope} : LoopRule X (.ListComp elt [⟨.Name x px, iter, ifs, 0⟩] scope pos) x px (turnOne X ifs elt) :=
  fun A R it acc cenv I turn n s h => codeAny_compLoop_tests I turn n h

theorem append_sound {ρ : List Addr} {K K' : PH} {n : Nat} {D : Addr} {v : PVal} {y : Value} {s : Shared} {A : Around} {P : Shared → Prop} {E : Value → Shared → Prop} (h : appendAt n v K = some K') (hA : Room d A) (R : HRel X ρ K s.heap) (hD : ρ[n]? = some D) (rv : VRel X ρ s.heap v y)
    (k : ∀ h' tk', HRel X ρ K' h' → Pres X ρ s.heap h' → P { s with heap := h', toks := tk' }) : wpAny X.M A (call (.builtin "list.append") [.ref D, y]) (fun _ s₅ => P s₅) E s := by
  obtain ⟨⟨w, K2⟩, e, e2⟩ := Option.map_eq_some_iff.mp h
  cases e2
  exact bi_sound (f := .append) e hA R (.cons (.ref hD) (.cons rv .nil)) fun r h' tk' R' _ p' => k h' tk' R' p'

theorem freeV_sub {scope : Scope} {x : Str} {V : PV} {u : PVal} (hxf : scope.names.lookup x ≠ some .free) : ∀ y w, freeV scope V y = some w → setV (freeV scope V) x u y = some w := fun y w hy => by
  unfold setV
  rw [if_neg]; · exact hy
  rintro rfl
  unfold freeV at hy
  split at hy
  · rename_i hq; exact hxf (by simpa [isFree] using hq)
  · cases hy
theorem body_plain {scope : Scope} {x : Str} {elt : Expr} {f : EF} (hxf : scope.names.lookup x ≠ some .free) (he : SimE X d (relab scope sc) elt f) : CompBody X d sc scope x (stepE scope x f) (turnOne X [] elt) := by
  intro V n v K K' cenv D ρ' s' A P E hm hA R F hD k
  obtain ⟨⟨w, K1⟩, e1, e2⟩ := Option.bind_eq_some_iff.mp hm
  refine wpAny_pure ?_
  rw [if_pos rfl]
  refine he _ K w K1 cenv s' ρ' A _ _ e1 hA R F fun y h1 t1 R1 v1 p1 => ?_
  exact append_sound (s := { s' with heap := h1, toks := t1 }) e2 hA R1 hD v1 fun h2 t2 R2 p2 => k h2 t2 R2 ((F.pres (p1.trans p2)).weak (freeV_sub hxf)) fun a o e n _ _ => (p1.trans p2) a o e n
theorem body_if {scope : Scope} {x : Str} {c elt : Expr} {b : BF} {f : EF} (hxf : scope.names.lookup x ≠ some .free) (hc : SimB X d (relab scope sc) c b) (he : SimE X d (relab scope sc) elt f) : CompBody X d sc scope x (stepIf scope x b f) (turnOne X [c] elt) := by
  intro V n v K K' cenv D ρ' s' A P E hm hA R F hD k
  obtain ⟨⟨ok, K0⟩, e0, hm⟩ := Option.bind_eq_some_iff.mp hm
  unfold turnOne
  rw [List.forIn_cons]
  simp only [if_true]
  refine wpAny_bind (wpAny_bind (hc _ K ok K0 cenv s' ρ' A _ _ e0 hA R F fun h0 t0 R0 p0 => wpAny_pure (wpAny_pure ?_)))
  cases ok with
  | false => cases hm; exact k h0 t0 R0 ((F.pres p0).weak (freeV_sub hxf)) fun a o e n _ _ => p0 a o e n
  | true =>
    rw [if_pos rfl]
    rw [if_pos rfl] at hm
    obtain ⟨⟨w, K1⟩, e1, e2⟩ := Option.bind_eq_some_iff.mp hm
    refine he _ K0 w K1 cenv _ ρ' A _ _ e1 hA R0 (F.pres p0) fun y h1 t1 R1 v1 p1 => ?_
    exact append_sound (s := { s' with heap := h1, toks := t1 }) e2 hA R1 hD v1 fun h2 t2 R2 p2 => k h2 t2 R2 ((F.pres ((p0.trans p1).trans p2)).weak (freeV_sub hxf)) fun a o e n _ _ => ((p0.trans p1).trans p2) a o e n

theorem compLoop_drop {step : PVal → PH → Option PH} {vs : List PVal} {i : Nat} {v : PVal} {K K' : PH} (hv : vs[i]? = some v) (h : compLoop step (vs.drop i) K = some K') : ∃ K1, step v K = some K1 ∧ compLoop step (vs.drop (i + 1)) K1 = some K' := by
  obtain ⟨hi, rfl⟩ := List.getElem?_eq_some_iff.mp hv
  rw [List.drop_eq_getElem_cons hi] at h
  exact Option.bind_eq_some_iff.mp h

theorem comp_core {elt iter : Expr} {x : Str} {px p0 pos : Pos} {ifs : List Expr} {rest : List Comprehension} {scope : Scope} {T : TurnT} {it : EF} {mk : PV → Nat → PVal → PH → Option PH} (hset : ∀ env v, foldedSetIterable iter env v = pure v) (hit : SimE X d sc iter it) (CS : CompScope scope sc [x])
    (lr : LoopRule X (.ListComp elt (⟨.Name x px, iter, ifs, 0⟩ :: rest) scope pos) x px T) (body : CompBody X d sc scope x mk T)
    {V : PV} {H : PH} {v : PVal} {H' : PH} {env : Env} {s : Shared} {ρ : List Addr} {A : Around} {Q E : Value → Shared → Prop} {use : Option (Value → Sem Unit)}
    (hf : compRun it mk V H = some (v, H')) (hA : Room d A) (R : HRel X ρ H s.heap) (F : FRel X ρ sc env V s.heap)
    (k : ∀ D C h' tk m f, HRel X ρ H' h' → VRel X ρ h' v (.ref D) → Pres X ρ s.heap h' → h'.Ns C m → s.heap.get? C = none → X.base C = none → compPost X.M A E use Q (.ref D) C (.ok f) { s with heap := h', toks := tk }) :
    wpAny X.M A (comprehension (.ListComp elt (⟨.Name x px, iter, ifs, 0⟩ :: rest) scope pos) scope env p0 (newList []) false (eval iter env) use) Q E s := by
  obtain ⟨⟨w, H1⟩, e1, hf⟩ := Option.bind_eq_some_iff.mp hf
  obtain ⟨vs, e2, hf⟩ := Option.bind_eq_some_iff.mp hf
  obtain ⟨Kf, e3, hf⟩ := Option.bind_eq_some_iff.mp hf
  obtain ⟨acc, e4, e5⟩ := Option.map_eq_some_iff.mp hf
  cases e5
  dsimp only at e2 e3 e4 k
  obtain ⟨cl, hcl, c1, c2⟩ := closure_ok (env := env) scope fun n k h hk => F.own n (CS.free n k h hk)
  refine wpAny_comprehension_free rfl (hset env) hcl CS.kind (fun y hy hl => by obtain ⟨n, kk⟩ := y; cases hl; exact lookup_of_mem CS.nodup hy) ?_
  refine hit V H w H1 env s ρ A _ _ e1 hA R F fun xv h1 t1 R1 v1 p1 => ?_
  refine iter_start (s := { s with heap := h1, toks := t1 }) e2 R1 v1 fun h2 t2 itr k2 sz2 => ?_
  dsimp only at itr k2 sz2 ⊢
  refine wpAny_newObj_type ?_
  have R2 := R1.keeps k2
  have F2 := (F.pres p1).pres (Keeps.pres (X := X) (ρ := ρ) k2)
  have Rg := HRel.grow (n := 0) R2 (vs := []) (xs := []) .nil
  have nD : ∀ a ∈ [h2.objs.size], h2.get? a = Option.none := fun a ha => by
    rw [List.mem_singleton.mp ha]
    cases e : h2.get? h2.objs.size with
    | none => rfl
    | some o => exact absurd (Heap.lt_size e) (Nat.lt_irrefl _)
  obtain ⟨St, it', st0⟩ := itr [h2.objs.size] nD
  have k3 := Keeps.push h2 { cls := .type "list", data := .seq ([] : List Value).toArray }
  have F3 := (F2.grow nD).pres (Keeps.pres (X := X) (ρ := ρ ++ [h2.objs.size]) k3)
  have st1 := it'.pres st0 (Keeps.pres k3)
  have h12 : Keeps h1 (h2.push { cls := .type "list", data := .seq ([] : List Value).toArray }) := Keeps.trans k2 k3
  have nI : h1.get? h1.objs.size = none := by
    cases e : h1.get? h1.objs.size with
    | none => rfl
    | some o => exact absurd (Heap.lt_size e) (Nat.lt_irrefl _)
  show wpAny _ _ (newFunctionEnv scope env.globals cl [] env.qual none .none (some env)) _ _ { s with heap := h2.push { cls := .type "list", data := .seq ([] : List Value).toArray }, toks := t2 }
  generalize hh3 : h2.push { cls := .type "list", data := .seq ([] : List Value).toArray } = h3 at Rg F3 st1 h12 ⊢
  have sz3 : h3.objs.size = h1.objs.size + 2 := by rw [← hh3, Heap.size_push, sz2]
  refine comp_newEnv (X := X) ?_
  dsimp only
  obtain ⟨F4, k4, hcells⟩ := comp_frame Rg F3 CS c1 c2
  have R4 := Rg.keeps k4
  have st2 := it'.pres st1 (Keeps.pres k4)
  have hce : (compE scope sc cl h3.objs.size env) = { scope := relabel scope env, locals := h3.objs.size, globals := env.globals, cells := cellsFrom (h3.objs.size + 1) scope.names cl, qual := env.qual, func := none, code := env.code, frame := env.frame, builtins := env.builtins } := by
    rw [relab_eq scope F.scope]; rfl
  rw [← hce]
  have k14 : Keeps h1 (pushCells (h3.push { cls := .type "dict", data := .dict #[] }) scope.names) := Keeps.trans h12 k4
  generalize hcen : compE scope sc cl h3.objs.size env = cenv at F4 hcells ⊢
  have hloc : cenv.locals = h3.objs.size := by rw [← hcen]; rfl
  generalize pushCells (h3.push { cls := .type "dict", data := .dict #[] }) scope.names = h4 at F4 k4 R4 st2 k14 ⊢
  have hx : (relab scope sc).names.lookup x = some .local ∨ (relab scope sc).names.lookup x = some .cell := by
    rcases CS.vars x (by simp) with q | q
    · left; rw [relab_lookup, lookup_of_mem CS.nodup q]; rfl
    · right; rw [relab_lookup, lookup_of_mem CS.nodup q]; rfl
  have hxf : (x, NameKind.free) ∉ scope.names := fun q => by
    have e := lookup_of_mem CS.nodup q
    rcases CS.vars x (by simp) with q' | q' <;> (rw [lookup_of_mem CS.nodup q'] at e; cases e)
  have hlt13 : h1.objs.size < h3.objs.size := by (first | lia | omega)
  have hIL : cenv.locals ≠ h1.objs.size := by rw [hloc]; exact Nat.ne_of_gt hlt13
  have hIe : ∃ o, h3.get? h1.objs.size = some o := (it'.mach 0 _ st1).2
  have hIc : ∀ y c, cenv.cells.lookup y = some c → c ≠ h1.objs.size := fun y c hy q => by
    rcases hcells y c hy with q' | q'
    · obtain ⟨o, ho⟩ := hIe; rw [q] at q'; rw [q'.1] at ho; cases ho
    · obtain ⟨ov, o, e, _⟩ := (F.pres p1).cex y c q'.1; rw [q, nI] at e; cases e
  have htgt : ∀ t, (t = cenv.locals ∨ ((relab scope sc).names.lookup x = some .cell ∧ cenv.cells.lookup x = some t)) → h1.get? t = none := fun t ht => by
    rcases ht with rfl | ⟨_, hc⟩
    · cases e : h1.get? cenv.locals with
      | none => rfl
      | some o => have := Heap.lt_size e; rw [hloc] at this; exact absurd this (Nat.not_lt.mpr (Nat.le_of_lt hlt13))
    · rcases hcells x t hc with q | q
      · cases e : h1.get? t with
        | none => rfl
        | some o => have := h12 _ _ e; rw [q.1] at this; cases this
      · exact absurd q.2 hxf
  have hn : (ρ ++ [h2.objs.size])[H1.length]? = some h2.objs.size := by rw [← R1.len]; simp
  have loop : ∀ s₃ : Shared, s₃ = { s with heap := h4, toks := t2 } → codeAny X.M A (.compLoop (.ListComp elt (⟨.Name x px, iter, ifs, 0⟩ :: rest) scope pos) 0 (.ref h1.objs.size) (.ref h2.objs.size) cenv) (compPost X.M A E use Q (.ref h2.objs.size) cenv.locals) s₃ := by
    rintro s₃ rfl
    refine lr A _ _ _ cenv
      (fun kk s' => ∃ h' tk i K, s' = { s with heap := h', toks := tk } ∧ i ≤ vs.length ∧ kk = vs.length + 1 - i ∧ St i h' ∧ HRel X (ρ ++ [h2.objs.size]) K h' ∧ FRel X (ρ ++ [h2.objs.size]) (relab scope sc) cenv (freeV scope V) h' ∧
        compLoop (mk V H1.length) (vs.drop i) K = some Kf ∧ (∀ a o, h1.get? a = some o → a ∉ X.ban ρ → h'.get? a = some o)) ?_ (vs.length + 1) _
      ⟨h4, t2, 0, H1 ++ [[]], rfl, Nat.zero_le _, rfl, st2, R4, F4, by simpa using e3, fun a o e _ => k14 a o e⟩
    rintro kk s' ⟨h', tk, i, K, rfl, hi, rfl, st, Rk, Fk, hcl, pk⟩
    by_cases hlt : i < vs.length
    · obtain ⟨u, hu⟩ : ∃ u, vs[i]? = some u := ⟨vs[i], by simp [hlt]⟩
      obtain ⟨K1, hs1, hs2⟩ := compLoop_drop hu hcl
      have mI := (it'.mach i _ st).1
      refine it'.item A hA.hd i u { s with heap := h', toks := tk } _ _ hu st fun r ha ta rb sta ka => ?_
      have Ra := Rk.but mI ka
      have Fa := Fk.but mI hIL hIc ka
      refine wpAny_assign_Name (store_sound (s := { s with heap := ha, toks := ta }) Ra Fa hx (.by (rb.but (fun o e => (mI.2 o e).noData) ka)) fun hb tb tgt Rb Fb ht kb => ?_)
      have htn := htgt tgt ht
      have hIt : h1.objs.size ≠ tgt := by
        rcases ht with rfl | ⟨_, hc⟩
        · exact Ne.symm hIL
        · exact Ne.symm (hIc x tgt hc)
      have mt : Mach X ha tgt := by
        rcases ht with rfl | ⟨hl, hc⟩
        · exact Fa.ml
        · exact Fa.mc x tgt hl hc
      have stb : St (i + 1) hb := it'.but sta (Ne.symm hIt) mt kb
      refine body V H1.length u K K1 cenv h2.objs.size (ρ ++ [h2.objs.size]) { s with heap := hb, toks := tb } A _ _ hs1 hA Rb Fb hn fun hc tc Rc Fc pc => ?_
      have stc : St (i + 1) hc := it'.frame _ _ _ (fun t => t = cenv.locals ∨ ∃ y, (relab scope sc).names.lookup y = some .cell ∧ cenv.cells.lookup y = some t) stb
        (fun q => by
          rcases q with q | ⟨y, _, hy⟩
          · exact hIL q.symm
          · exact hIc y _ hy rfl)
        (fun t q => by
          rcases q with rfl | ⟨y, hy1, hy2⟩
          · exact Fb.ml
          · exact Fb.mc y t hy1 hy2)
        fun b o nN nb e => pc b o e nb (fun q => nN (.inl q)) fun y hy1 _ hy3 => nN (.inr ⟨y, hy1, hy3⟩)
      refine ⟨vs.length + 1 - (i + 1), by (first | lia | omega), hc, tc, i + 1, K1, rfl, hlt, rfl, stc, Rc, Fc, hs2, fun a o e n => ?_⟩
      have ea := ka a o (fun q => by rw [q, nI] at e; cases e) (pk a o e n)
      have eb := kb a o (fun q => by rw [q, htn] at e; cases e) ea
      refine pc a o eb (ban_grow n fun q => by rw [List.mem_singleton.mp q] at e; have l := Heap.lt_size e; exact absurd l (Nat.not_lt.mpr (by rw [sz2]; exact Nat.le_succ _))) (fun q => by rw [q, htgt _ (.inl rfl)] at e; cases e) fun y hy1 hy2 hy3 => ?_
      rcases hcells y a hy3 with q | q
      · have := h12 _ _ e; rw [q.1] at this; cases this
      · have := lookup_of_mem CS.nodup q.2; rw [hy2] at this; cases this
    · have hin : i = vs.length := by (first | lia | omega)
      subst hin
      have mI := (it'.mach _ _ st).1
      have hK : K = Kf := by rw [List.drop_length] at hcl; cases hcl; rfl
      subst hK
      refine it'.done A hA.hd { s with heap := h', toks := tk } _ _ st fun ha ta ka => ?_
      have Ra := Rk.but mI ka
      have Fa := Fk.but mI hIL hIc ka
      obtain ⟨m, hm, _⟩ := Fa.ns
      refine k _ _ ha ta m _ ?_ (Ra.freeze (by rw [R1.len]; exact e4)) (fun a o e n => ?_) hm ?_ ?_
      · have := Ra.drop R1.pre; rwa [R1.len] at this
      · exact ka a o (fun q => by have := p1 a o e n; rw [q, nI] at this; cases this) (pk a o (p1 a o e n) n)
      · cases e : s.heap.get? cenv.locals with
        | none => rfl
        | some o =>
          have := p1 _ o e (ban_less F4.nb)
          rw [htgt _ (.inl rfl)] at this; cases this
      · exact Fa.ml.1
  rw [← hloc]
  exact codeAny_compStart_list (loop _ rfl) (it'.self A 0 { s with heap := h4, toks := t2 } _ _ st2 (loop _ rfl))
end
end Mine

end

/- Ev13 -/
section
open PySem PySem.W PyProof.Rows
set_option maxRecDepth 100000
namespace Mine

section
variable {X : Cx} {d : Nat} {sc : Scope}

theorem CompScope.notFree {scope sc : Scope} {xs : List Str} (CS : CompScope scope sc xs) {x : Str} (hx : x ∈ xs) : scope.names.lookup x ≠ some .free := fun e => by
  rcases CS.vars x hx with q | q <;> (rw [lookup_of_mem CS.nodup q] at e; cases e)

theorem comp_end {ρ : List Addr} {H' : PH} {v : PVal} {s : Shared} {A : Around} {Q E : Value → Shared → Prop} (k : Cont X ρ H' v s Q) {D C : Addr} {h' : Heap} {tk : Nat} {m : Str → Option Value} {f : Flow}
    (R' : HRel X ρ H' h') (v' : VRel X ρ h' v (.ref D)) (p' : Pres X ρ s.heap h') (hn : h'.Ns C m) (hC : s.heap.get? C = none) (hb : X.base C = none) : compPost X.M A E none Q (.ref D) C (.ok f) { s with heap := h', toks := tk } := by
  refine ⟨m, hn, fun h'' sb => ?_⟩
  have mC : Mach X h' C := ⟨hb, fun o e => by obtain ⟨o', es, ep, e', d', _⟩ := hn; rw [e'] at e; cases e; exact .inl ⟨es, ep, d'⟩⟩
  have ke : ∀ b o, b ≠ C → h'.get? b = some o → h''.get? b = some o := fun b o hb e => (sb.2 b hb).trans e
  exact k _ h'' tk (R'.but mC ke) (v'.but mC ke) fun a o e n => ke a o (fun q => by rw [q, hC] at e; cases e) (p' a o e n)

theorem sim_comp {elt iter : Expr} {x : Str} {px pos : Pos} {scope : Scope} {it f : EF} (hset : ∀ env v, foldedSetIterable iter env v = pure v) (CS : CompScope scope sc [x]) (hit : SimE X d sc iter it) (he : SimE X d (relab scope sc) elt f) :
    SimE X d sc (.ListComp elt [⟨.Name x px, iter, [], 0⟩] scope pos) (fComp scope x it f) := by
  intro V H v H' env s ρ A Q E hf hA R F k
  rw [eval_ListComp]
  exact comp_core hset hit CS loop_one (body_plain (CS.notFree (by simp)) he) hf hA R F fun D C h' tk m fl R' v' p' hn hC hb => comp_end k R' v' p' hn hC hb
theorem sim_compIf {elt iter c : Expr} {x : Str} {px pos : Pos} {scope : Scope} {it f : EF} {b : BF} (hset : ∀ env v, foldedSetIterable iter env v = pure v) (CS : CompScope scope sc [x]) (hit : SimE X d sc iter it) (hc : SimB X d (relab scope sc) c b) (he : SimE X d (relab scope sc) elt f) :
    SimE X d sc (.ListComp elt [⟨.Name x px, iter, [c], 0⟩] scope pos) (fCompIf scope x it b f) := by
  intro V H v H' env s ρ A Q E hf hA R F k
  rw [eval_ListComp]
  exact comp_core hset hit CS loop_one (body_if (CS.notFree (by simp)) hc he) hf hA R F fun D C h' tk m fl R' v' p' hn hC hb => comp_end k R' v' p' hn hC hb

end
end Mine

end

/- Ev14 -/
section
open PySem PySem.W PyProof.Rows
set_option maxRecDepth 100000
namespace Mine

inductive PFlow where
  | next
  | ret (v : PVal)

noncomputable abbrev SF := PV → PH → Option (PFlow × PV × PH)

inductive FlowRel (X : Cx) (ρ : List Addr) (h : Heap) : PFlow → Flow → Prop
  | next : FlowRel X ρ h .next .next
  | ret {v : PVal} {x : Value} : VRel X ρ h v x → FlowRel X ρ h (.ret v) (.ret x)

/-- what a statement may change: the mutable lists, the frame's namespace and its own cells -/
noncomputable def Moved (X : Cx) (ρ : List Addr) (sc : Scope) (env : Env) (h h' : Heap) : Prop :=
  ∀ a o, h.get? a = some o → a ∉ X.ban ρ → a ≠ env.locals → (∀ y, sc.names.lookup y = some .cell → env.cells.lookup y ≠ some a) → h'.get? a = some o

noncomputable abbrev SCont (X : Cx) (sc : Scope) (env : Env) (ρ : List Addr) (fl : PFlow) (V' : PV) (H' : PH) (s : Shared) (Q : Flow → Shared → Prop) : Prop :=
  ∀ σ f h' tk', (∀ a ∈ σ, s.heap.get? a = none) → HRel X (ρ ++ σ) H' h' → FRel X (ρ ++ σ) sc env V' h' → FlowRel X (ρ ++ σ) h' fl f → Moved X ρ sc env s.heap h' → Q f { s with heap := h', toks := tk' }

noncomputable def SimS (X : Cx) (d : Nat) (sc : Scope) (st : Stmt) (g : SF) : Prop :=
  ∀ (V : PV) (H : PH) (fl : PFlow) (V' : PV) (H' : PH) (env : Env) (s : Shared) (ρ : List Addr) (A : Around) (Q : Flow → Shared → Prop) (E : Value → Shared → Prop),
    g V H = some (fl, V', H') → Room d A → HRel X ρ H s.heap → FRel X ρ sc env V s.heap → SCont X sc env ρ fl V' H' s Q → wpAny X.M A (exec st env) Q E s
noncomputable def SimSs (X : Cx) (d : Nat) (sc : Scope) (sts : List Stmt) (g : SF) : Prop :=
  ∀ (V : PV) (H : PH) (fl : PFlow) (V' : PV) (H' : PH) (env : Env) (s : Shared) (ρ : List Addr) (A : Around) (Q : Flow → Shared → Prop) (E : Value → Shared → Prop),
    g V H = some (fl, V', H') → Room d A → HRel X ρ H s.heap → FRel X ρ sc env V s.heap → SCont X sc env ρ fl V' H' s Q → wpAny X.M A (execs sts env) Q E s

noncomputable def sNext : SF := fun V H => some (.next, V, H)
noncomputable def sFail : SF := fun _ _ => none
noncomputable def sSeq (g k : SF) : SF := fun V H => (g V H).bind fun r => match r with
  | (.next, V1, H1) => k V1 H1
  | (.ret v, V1, H1) => some (.ret v, V1, H1)
noncomputable def sAssign (x : Str) (f : EF) : SF := fun V H => (f V H).map fun p => (.next, setV V x p.1, p.2)
noncomputable def sExpr (f : EF) : SF := fun V H => (f V H).bind fun p => match p.1 with
  | .none => some (.next, V, p.2)
  | _ => none
noncomputable def sRet (f : EF) : SF := fun V H => (f V H).map fun p => (.ret p.1, V, p.2)
noncomputable def sRetNone : SF := fun V H => some (.ret .none, V, H)
noncomputable def sIf (b : BF) (g k : SF) : SF := fun V H => (b V H).bind fun p => if p.1 = true then g V p.2 else k V p.2
noncomputable def sAssert (b : BF) : SF := fun V H => (b V H).bind fun p => if p.1 = true then some (.next, V, p.2) else none
noncomputable def sAug (x : Str) (op : Operator) (f : EF) : SF := fun V H => (V x).bind fun a => (f V H).bind fun p => match op, a, p.1 with
  | .Add, .int i, .int j => some (.next, setV V x (.int (i + j)), p.2)
  | .Sub, .int i, .int j => some (.next, setV V x (.int (i - j)), p.2)
  | _, _, _ => none

section
variable {X : Cx} {d : Nat} {sc : Scope}

theorem Pres.moved {ρ : List Addr} {env : Env} {h h' : Heap} (p : Pres X ρ h h') : Moved X ρ sc env h h' := fun a o e n _ _ => p a o e n
theorem Moved.trans {ρ : List Addr} {σ : List Addr} {env : Env} {h h' h'' : Heap} (f : ∀ a ∈ σ, h.get? a = none) (m : Moved X ρ sc env h h') (m' : Moved X (ρ ++ σ) sc env h' h'') : Moved X ρ sc env h h'' :=
  fun a o e n1 n2 n3 => m' a o (m a o e n1 n2 n3) (ban_grow n1 fun q => by rw [f a q] at e; cases e) n2 n3
theorem Moved.step {ρ : List Addr} {env : Env} {h h' h'' : Heap} (p : Pres X ρ h h') (m' : Moved X ρ sc env h' h'') : Moved X ρ sc env h h'' :=
  fun a o e n1 n2 n3 => m' a o (p a o e n1) n1 n2 n3
/-- what is there stays there -/
theorem Moved.ex {ρ σ : List Addr} {env : Env} {h h' : Heap} {H' : PH} {V' : PV} (m : Moved X ρ sc env h h') (R : HRel X (ρ ++ σ) H' h') (F : FRel X (ρ ++ σ) sc env V' h') {a : Addr} (e : h'.get? a = none) : h.get? a = none := by
  cases q : h.get? a with
  | none => rfl
  | some o =>
    exfalso
    by_cases h1 : a ∈ X.ban ρ
    · have : a ∈ X.ban (ρ ++ σ) := by
        rcases List.mem_append.mp h1 with t | t
        · exact List.mem_append_left _ (List.mem_append_left _ t)
        · exact List.mem_append_right _ t
      rcases List.mem_append.mp this with t | t
      · obtain ⟨i, hi, ei⟩ := List.getElem_of_mem t
        obtain ⟨_, _, _, ⟨n, e2⟩, _⟩ := R.at (i := i) (a := a) (by rw [List.getElem?_eq_some_iff]; exact ⟨hi, ei⟩)
        rw [e] at e2; cases e2
      · obtain ⟨o', e', _⟩ := R.tobs a t
        rw [e] at e'; cases e'
    · by_cases h2 : a = env.locals
      · obtain ⟨m, ⟨o', _, _, e', _⟩, _⟩ := F.ns
        rw [← h2, e] at e'; cases e'
      · by_cases h3 : ∀ y, sc.names.lookup y = some .cell → env.cells.lookup y ≠ some a
        · rw [m a o q h1 h2 h3] at e; cases e
        · obtain ⟨y, hy⟩ := Classical.not_forall.mp h3
          obtain ⟨hy1, hy2⟩ := Classical.not_imp.mp hy
          obtain ⟨ov, o', e', _⟩ := F.cex y a (Classical.not_not.mp hy2)
          rw [e] at e'; cases e'

theorem SCont.of {ρ : List Addr} {env : Env} {fl : PFlow} {V' : PV} {H' : PH} {s : Shared} {Q : Flow → Shared → Prop} (k : SCont X sc env ρ fl V' H' s Q) {f : Flow} {h' : Heap} {tk : Nat}
    (R : HRel X ρ H' h') (F : FRel X ρ sc env V' h') (fr : FlowRel X ρ h' fl f) (m : Moved X ρ sc env s.heap h') : Q f { s with heap := h', toks := tk } := by
  have := k [] f h' tk (fun _ q => nomatch q)
  rw [List.append_nil] at this
  exact this R F fr m
theorem SCont.back {ρ : List Addr} {env : Env} {fl : PFlow} {V' : PV} {H' : PH} {s : Shared} {h1 : Heap} {t1 : Nat} {Q : Flow → Shared → Prop} (k : SCont X sc env ρ fl V' H' s Q) (p : Pres X ρ s.heap h1) {H1 : PH} (R1 : HRel X ρ H1 h1) :
    SCont X sc env ρ fl V' H' { s with heap := h1, toks := t1 } Q := fun σ f h' tk' fr R F fl m => by
  refine k σ f h' tk' (fun a ha => ?_) R F fl (Moved.step p m)
  have e := fr a ha
  cases q : s.heap.get? a with
  | none => rfl
  | some o =>
    by_cases hb : a ∈ X.ban ρ
    · exfalso
      rcases List.mem_append.mp hb with t | t
      · obtain ⟨i, hi, ei⟩ := List.getElem_of_mem t
        obtain ⟨_, _, _, ⟨n, e2⟩, _⟩ := R1.at (i := i) (a := a) (by rw [List.getElem?_eq_some_iff]; exact ⟨hi, ei⟩)
        rw [e] at e2; cases e2
      · obtain ⟨o', e', _⟩ := R1.tobs a t
        rw [e] at e'; cases e'
    · rw [p a o q hb] at e; cases e

theorem sims_nil : SimSs X d sc [] sNext := by
  intro V H fl V' H' env s ρ A Q E hf hA R F k; cases hf
  exact wpAny_execs_nil (k.of R F .next (Pres.refl X ρ _).moved)
theorem sims_fail {st : List Stmt} : SimSs X d sc st sFail := by
  intro V H fl V' H' env s ρ A Q E hf; cases hf
theorem sims_cons {st : Stmt} {rest : List Stmt} {g k : SF} (h1 : SimS X d sc st g) (h2 : SimSs X d sc rest k) : SimSs X d sc (st :: rest) (sSeq g k) := by
  intro V H fl V' H' env s ρ A Q E hf hA R F kk
  obtain ⟨⟨fl1, V1, H1⟩, e1, hf⟩ := Option.bind_eq_some_iff.mp hf
  refine wpAny_execs_cons (h1 V H fl1 V1 H1 env s ρ A _ _ e1 hA R F fun σ f h' tk' fr R1 F1 fr1 m1 => ?_)
  cases fr1 with
  | ret r => cases hf; exact kk σ _ h' tk' fr R1 F1 (.ret r) m1
  | next =>
    refine h2 V1 H1 fl V' H' env _ (ρ ++ σ) A _ _ hf hA R1 F1 fun σ' f h'' tk'' fr' R2 F2 fr2 m2 => ?_
    rw [List.append_assoc] at R2 F2 fr2
    refine kk (σ ++ σ') f h'' tk'' (fun a ha => ?_) R2 F2 fr2 (m1.trans fr m2)
    rcases List.mem_append.mp ha with q | q
    · exact fr a q
    · exact m1.ex R1 F1 (fr' a q)
theorem sims_one {st : Stmt} {g : SF} (h1 : SimS X d sc st g) : SimSs X d sc [st] g := by
  intro V H fl V' H' env s ρ A Q E hf hA R F kk
  refine wpAny_execs_cons (h1 V H fl V' H' env s ρ A _ _ hf hA R F fun σ f h' tk' fr R1 F1 fr1 m1 => ?_)
  cases fr1 with
  | ret r => exact kk σ _ h' tk' fr R1 F1 (.ret r) m1
  | next => exact wpAny_execs_nil (kk σ _ h' tk' fr R1 F1 .next m1)

theorem store_moved {ρ : List Addr} {env : Env} {h h' : Heap} {x : Str} {tgt : Addr} (ht : tgt = env.locals ∨ (sc.names.lookup x = some .cell ∧ env.cells.lookup x = some tgt)) (ke : ∀ b o, b ≠ tgt → h.get? b = some o → h'.get? b = some o) :
    Moved X ρ sc env h h' := fun a o e _ n2 n3 => ke a o (fun q => by
  rcases ht with rfl | ⟨t1, t2⟩
  · exact n2 q
  · exact n3 x t1 (q ▸ t2)) e

theorem sim_assign {x : Str} {px pos : Pos} {value : Expr} {f : EF} (hk : sc.names.lookup x = some .local ∨ sc.names.lookup x = some .cell) (hs : ∀ env : Env, env.scope = sc → swapsWith value (some (.Name x px)) pos.line env = pure false)
    (he : SimE X d sc value f) : SimS X d sc (.Assign [.Name x px] value pos) (sAssign x f) := by
  intro V H fl V' H' env s ρ A Q E hf hA R F k
  obtain ⟨⟨v, H1⟩, e1, e2⟩ := Option.map_eq_some_iff.mp hf
  cases e2
  refine wpAny_Assign_Name (he V H v H1 env s ρ A _ _ e1 hA R F fun r h1 t1 R1 v1 p1 => ?_) (hs env F.scope)
  refine store_sound (s := { s with heap := h1, toks := t1 }) R1 (F.pres p1) hk v1 fun h2 t2 tgt R2 F2 ht ke => ?_
  exact k.of R2 F2 .next (Moved.step p1 (store_moved ht ke))
theorem sim_expr {e : Expr} {pos : Pos} {f : EF} (hs : ∀ env : Env, env.scope = sc → swapsWith e none pos.line env = pure false) (he : SimE X d sc e f) : SimS X d sc (.Expr e pos) (sExpr f) := by
  intro V H fl V' H' env s ρ A Q E hf hA R F k
  obtain ⟨⟨v, H1⟩, e1, hf⟩ := Option.bind_eq_some_iff.mp hf
  dsimp only at hf
  split at hf
  · cases hf
    refine wpAny_Expr (he V H _ _ env s ρ A _ _ e1 hA R F fun r h1 t1 R1 v1 p1 => ?_) ?_ (hs env F.scope)
    · cases v1 with
      | «by» b => cases b; exact k.of R1 (F.pres p1) .next p1.moved
    · unfold interactive; rw [F.scope, F.kind]; rfl
  · cases hf
theorem sim_ret {e : Expr} {pos : Pos} {f : EF} (he : SimE X d sc e f) : SimS X d sc (.Return (some e) pos) (sRet f) := by
  intro V H fl V' H' env s ρ A Q E hf hA R F k
  obtain ⟨⟨v, H1⟩, e1, e2⟩ := Option.map_eq_some_iff.mp hf
  cases e2
  exact wpAny_Return_some (he V H v H1 env s ρ A _ _ e1 hA R F fun r h1 t1 R1 v1 p1 => k.of R1 (F.pres p1) (.ret v1) p1.moved)
theorem sim_retNone {pos : Pos} : SimS X d sc (.Return none pos) sRetNone := by
  intro V H fl V' H' env s ρ A Q E hf hA R F k; cases hf
  exact wpAny_Return_none (k.of (tk := s.toks) R F (.ret (.by .none)) (Pres.refl X ρ _).moved)
theorem sim_if_ {test : Expr} {body orelse : List Stmt} {pos : Pos} {b : BF} {g k : SF} (ht : SimB X d sc test b) (h1 : SimSs X d sc body g) (h2 : SimSs X d sc orelse k) : SimS X d sc (.If test body orelse pos) (sIf b g k) := by
  intro V H fl V' H' env s ρ A Q E hf hA R F kk
  obtain ⟨⟨c, H1⟩, e1, hf⟩ := Option.bind_eq_some_iff.mp hf
  refine wpAny_If (ht V H c H1 env s ρ A _ _ e1 hA R F fun h' tk' R1 p1 => ?_)
  cases c with
  | true => exact h1 V H1 fl V' H' env _ ρ A _ _ hf hA R1 (F.pres p1) (kk.back p1 R1)
  | false => exact h2 V H1 fl V' H' env _ ρ A _ _ hf hA R1 (F.pres p1) (kk.back p1 R1)
theorem sim_assert {test : Expr} {msg : Option Expr} {pos : Pos} {b : BF} (ht : SimB X d sc test b) : SimS X d sc (.Assert test msg pos) (sAssert b) := by
  intro V H fl V' H' env s ρ A Q E hf hA R F kk
  obtain ⟨⟨c, H1⟩, e1, hf⟩ := Option.bind_eq_some_iff.mp hf
  dsimp only at hf
  split at hf
  · rename_i hc
    cases hf; cases hc
    refine wpAny_Assert_holds (ht V H true _ env s ρ A _ _ e1 hA R F fun h' tk' R1 p1 => ?_)
    first
      | exact kk.of R1 (F.pres p1) .next p1.moved
      | exact ⟨rfl, kk.of R1 (F.pres p1) .next p1.moved⟩
  · cases hf
end
end Mine

end

/- Ev15 -/
section
open PySem PySem.W PyProof.Rows
set_option maxRecDepth 100000
namespace Mine

noncomputable abbrev NF := PV → PH → Option (List PVal × PH)
/-- a new mutable list -/
noncomputable def sNew (x : Str) (f : NF) : SF := fun V H => (f V H).map fun p => (.next, setV V x (.ref p.2.length), p.2 ++ [p.1])
noncomputable def nNil : NF := fun _ H => some ([], H)
noncomputable def nRep (f g : EF) : NF := fun V H => (f V H).bind fun p => (g V p.2).bind fun q => match p.1, q.1 with
  | .lst x, .int y => if -(2 ^ 63) ≤ y ∧ y < 2 ^ 63 ∧ x.length * y.toNat ≤ sizeLine then some (repL y.toNat x, q.2) else none
  | _, _ => none
noncomputable def nSplit (f : EF) (g : LF) : NF := fun V H => (f V H).bind fun p => match p.1 with
  | .str x => (g V p.2).bind fun q => match q.1 with
    | [.str y] => if y.length ≠ 0 ∧ x.length ≤ sizeLine ∧ (Txt.split x y).length ≤ sizeLine then some ((Txt.split x y).map .str, q.2) else none
    | _ => none
  | _ => none
noncomputable def sSet (o i f : EF) : SF := fun V H => (f V H).bind fun p => (o V p.2).bind fun q => (i V q.2).bind fun r => match q.1, r.1 with
  | .ref j, .int k => (r.2[j]?).bind fun vs => if 0 ≤ k ∧ k < 2 ^ 63 ∧ k < vs.length ∧ p.1.isRef = false then some (.next, V, r.2.set j (vs.set k.toNat p.1)) else none
  | _, _ => none
noncomputable def sDel0 (o : EF) : SF := fun V H => (o V H).bind fun q => match q.1 with
  | .ref j => (q.2[j]?).bind fun vs => if 0 < vs.length ∧ vs.length ≤ sizeLine then some (.next, V, q.2.set j (vs.eraseIdx 0)) else none
  | _ => none
noncomputable def sDelLast (o : EF) : SF := fun V H => (o V H).bind fun q => match q.1 with
  | .ref j => (q.2[j]?).bind fun vs => if 0 < vs.length ∧ vs.length ≤ sizeLine then some (.next, V, q.2.set j (vs.eraseIdx (vs.length - 1))) else none
  | _ => none
/-- two names of a pair -/
noncomputable def sPair (x y : Str) (f : EF) : SF := fun V H => (f V H).bind fun p => match p.1 with
  | .tup [a, b] => some (.next, setV (setV V x a) y b, p.2)
  | _ => none
noncomputable def sPairR (x y : Str) (f : EF) : SF := fun V H => (f V H).bind fun p => match p.1 with
  | .tup [a, b] => some (.next, setV (setV V y b) x a, p.2)
  | _ => none

section
variable {X : Cx} {d : Nat} {sc : Scope}

noncomputable abbrev NCont (X : Cx) (ρ : List Addr) (H' : PH) (vs : List PVal) (s : Shared) (Q : Value → Shared → Prop) : Prop :=
  ∀ a h' tk', s.heap.get? a = none → (∀ b ∈ X.ban ρ, b ≠ a) → HRel X (ρ ++ [a]) (H' ++ [vs]) h' → Pres X ρ s.heap h' → Q (.ref a) { s with heap := h', toks := tk' }
noncomputable def SimN (X : Cx) (d : Nat) (sc : Scope) (e : Expr) (f : NF) : Prop :=
  ∀ (V : PV) (H : PH) (vs : List PVal) (H' : PH) (env : Env) (s : Shared) (ρ : List Addr) (A : Around) (Q : Value → Shared → Prop) (E : Value → Shared → Prop),
    f V H = some (vs, H') → Room d A → HRel X ρ H s.heap → FRel X ρ sc env V s.heap → NCont X ρ H' vs s Q → wpAny X.M A (eval e env) Q E s

theorem size_none (h : Heap) : h.get? h.objs.size = none := by
  cases e : h.get? h.objs.size with
  | none => rfl
  | some o => exact absurd (Heap.lt_size e) (Nat.lt_irrefl _)
theorem none_back {ρ : List Addr} {H1 : PH} {h h1 : Heap} {a : Addr} (p : Pres X ρ h h1) (R1 : HRel X ρ H1 h1) (e : h1.get? a = none) : h.get? a = none := by
  cases q : h.get? a with
  | none => rfl
  | some o =>
    by_cases hb : a ∈ X.ban ρ
    · exfalso
      rcases List.mem_append.mp hb with t | t
      · obtain ⟨i, hi, ei⟩ := List.getElem_of_mem t
        obtain ⟨_, _, _, ⟨n, e2⟩, _⟩ := R1.at (i := i) (a := a) (by rw [List.getElem?_eq_some_iff]; exact ⟨hi, ei⟩)
        rw [e] at e2; cases e2
      · obtain ⟨o', e', _⟩ := R1.tobs a t
        rw [e] at e'; cases e'
    · rw [p a o q hb] at e; cases e
theorem NCont.push {ρ : List Addr} {H' : PH} {vs : List PVal} {s : Shared} {Q : Value → Shared → Prop} (k : NCont X ρ H' vs s Q) {h1 : Heap} {tk n : Nat} (R1 : HRel X ρ H' h1) (p1 : Pres X ρ s.heap h1) {xs : List Value} (r : BRels h1 (X.ban ρ) vs xs) :
    Q (.ref h1.objs.size) { s with heap := h1.push { cls := .type "list", data := .seq xs.toArray n }, toks := tk } :=
  k _ _ tk (none_back p1 R1 (size_none _)) (fun b hb q => Nat.lt_irrefl _ (q ▸ R1.low b hb)) (R1.grow r) (p1.trans (Keeps.push _ _).pres)

theorem simn_nil {pos : Pos} : SimN X d sc (.List [] pos) nNil := by
  intro V H vs H' env s ρ A Q E hf hA R F k; cases hf
  refine List_ ((siml_nil (X := X) (d := d) (sc := sc)) V H [] H env s ρ A pos _ _ rfl hA R F fun rs h1 t1 R1 v1 p1 => ?_)
  cases v1
  exact wpAny_newObj_type (k.push (n := 0) R1 p1 .nil)
theorem simn_rep {l r : Expr} {pos : Pos} {f g : EF} (hl : SimE X d sc l f) (hr : SimE X d sc r g) : SimN X d sc (.BinOp l .Mult r pos) (nRep f g) := by
  intro V H vs H' env s ρ A Q E hf hA R F k
  obtain ⟨⟨a, H1⟩, e1, hf⟩ := Option.bind_eq_some_iff.mp hf
  obtain ⟨⟨b, H2⟩, e2, hf⟩ := Option.bind_eq_some_iff.mp hf
  dsimp only at hf
  split at hf
  · split at hf
    · rename_i hb; cases hf
      refine wpAny_BinOp (hl V H _ H1 env s ρ A _ _ e1 hA R F fun x h1 t1 R1 v1 p1 => ?_)
      refine hr V H1 _ _ env _ ρ A _ _ e2 hA R1 (F.pres p1) fun y h2 t2 R2 v2 p2 => ?_
      obtain ⟨t, rfl⟩ := v2.int_inv
      obtain ⟨a, xs, rfl, pl, na, rr⟩ := (v1.pres p2).lst_inv
      have hlen := rr.length
      exact mulList pl hb.1 hb.2.1 (by rw [← hlen]; exact hb.2.2) (k.push (n := 0) R2 (p1.trans p2) (rr.rep _))
    · cases hf
  · cases hf
theorem simn_split {o e : Expr} {apos pos : Pos} {f : EF} {g : LF} (pl : Env → Sem Bool)
    (hc : ∀ env, eval (.Call (.Attribute o (BI.name .split) apos) [e] [] pos) env = (do
      let ov ← eval o env
      standAt apos.atName
      let (f, first) ← holding [ov] (getMethod ov (BI.name .split) (pl env))
      callWith pos f first (backTo pos (starEach [e] env)) []))
    (he : ∀ env, starEach [e] env = (false, eval e env) :: starEach [] env)
    (ho : SimE X d sc o f) (ha : SimL X d sc [e] g) : SimN X d sc (.Call (.Attribute o (BI.name .split) apos) [e] [] pos) (nSplit f g) := by
  intro V H v H' env s ρ A Q E hh hA R F k
  obtain ⟨⟨a, H0⟩, e0, hh⟩ := Option.bind_eq_some_iff.mp hh
  dsimp only at hh
  split at hh
  · obtain ⟨⟨vs, H1⟩, e1, hh⟩ := Option.bind_eq_some_iff.mp hh
    dsimp only at hh
    split at hh
    · split at hh
      · rename_i hb; cases hh
        refine MethodCall_ (ho V H _ H0 env s ρ A _ _ e0 hA R F fun x h1 t1 R1 v1 p1 => ?_) (hc env)
        refine getM_sound (b := .split) (s := { s with heap := h1, toks := t1 }) rfl R1 v1 ?_
        rw [he]
        refine callWith_bi (b := .split) (by show (false || (backTo pos (starEach [] env)).any (·.1)) = false; rfl) (Calls.evalArgs_plain ?_)
        have := ha V H0 _ _ env { s with heap := h1, toks := t1 } ρ A pos (fun vs s₁ => wpAny X.M A (call (BI.val .split) ([x] ++ vs)) Q E s₁) E e1 hA R1 (F.pres p1) fun rs h2 t2 R2 v2 p2 => by
          obtain ⟨_, rfl, y⟩ := v2.one
          obtain ⟨u, rfl⟩ := y.str_inv
          obtain ⟨t, rfl⟩ := (v1.pres p2).str_inv
          exact split_call hb.1 hb.2.1 hb.2.2 fun l tk e => k.push (n := 0) R2 (p1.trans p2) (BRels.strs e)
        rw [he] at this
        exact this
      · cases hh
    · cases hh
  · cases hh

theorem FRel.growNew {ρ : List Addr} {h h' : Heap} {a : Addr} {env : Env} {V : PV} (F : FRel X ρ sc env V h) (n : h.get? a = none) (p : Pres X ρ h h') : FRel X (ρ ++ [a]) sc env V h' := by
  have G := F.grow (σ := [a]) fun b hb => by rw [List.mem_singleton.mp hb]; exact n
  exact G.pres fun b o e m => p b o e (ban_less m)

theorem sim_new {x : Str} {px pos : Pos} {value : Expr} {f : NF} (hk : sc.names.lookup x = some .local ∨ sc.names.lookup x = some .cell) (hs : ∀ env : Env, env.scope = sc → swapsWith value (some (.Name x px)) pos.line env = pure false)
    (he : SimN X d sc value f) : SimS X d sc (.Assign [.Name x px] value pos) (sNew x f) := by
  intro V H fl V' H' env s ρ A Q E hf hA R F k
  obtain ⟨⟨vs, H1⟩, e1, e2⟩ := Option.map_eq_some_iff.mp hf
  cases e2
  refine wpAny_Assign_Name (he V H vs H1 env s ρ A _ _ e1 hA R F fun a h1 t1 na _ R1 p1 => ?_) (hs env F.scope)
  have hl : ρ.length = H1.length := by have := R1.len; simp only [List.length_append, List.length_singleton] at this; (first | lia | omega)
  refine store_sound (s := { s with heap := h1, toks := t1 }) (v := .ref H1.length) R1 (F.growNew na p1) hk (.ref (by rw [← hl]; simp)) fun h2 t2 tgt R2 F2 ht ke => ?_
  refine k [a] .next h2 t2 (fun b hb => by rw [List.mem_singleton.mp hb]; exact na) R2 F2 .next fun b o e n1 n2 n3 => ?_
  exact ke b o (fun q => by
    rcases ht with rfl | ⟨q1, q2⟩
    · exact n2 q
    · exact n3 x q1 (q ▸ q2)) (p1 b o e n1)

theorem isRef_by {ρ : List Addr} {h : Heap} {v : PVal} {x : Value} (r : VRel X ρ h v x) (n : v.isRef = false) : BRel h (X.ban ρ) v x := by
  cases r with
  | «by» r => exact r
  | ref e => cases n

theorem sim_set {o i value : Expr} {tpos pos : Pos} {fo fi fv : EF} (hs : ∀ env : Env, env.scope = sc → swapsWith value (some (.Subscript o i tpos)) pos.line env = pure false)
    (hv : SimE X d sc value fv) (ho : SimE X d sc o fo) (hi : SimE X d sc i fi) : SimS X d sc (.Assign [.Subscript o i tpos] value pos) (sSet fo fi fv) := by
  intro V H fl V' H' env s ρ A Q E hf hA R F k
  obtain ⟨⟨v, H1⟩, e1, hf⟩ := Option.bind_eq_some_iff.mp hf
  obtain ⟨⟨ov, H2⟩, e2, hf⟩ := Option.bind_eq_some_iff.mp hf
  obtain ⟨⟨iv, H3⟩, e3, hf⟩ := Option.bind_eq_some_iff.mp hf
  dsimp only at hf
  split at hf
  · rename_i j kk _
    obtain ⟨vs, e4, hf⟩ := Option.bind_eq_some_iff.mp hf
    split at hf
    · rename_i hb
      cases hf
      refine wpAny_Assign_Subscript (hv V H v H1 env s ρ A _ _ e1 hA R F fun x h1 t1 R1 v1 p1 => ?_) (hs env F.scope)
      refine ho V H1 _ H2 env _ ρ A _ _ e2 hA R1 (F.pres p1) fun y h2 t2 R2 v2 p2 => ?_
      refine hi V H2 _ H3 env _ ρ A _ _ e3 hA R2 ((F.pres p1).pres p2) fun z h3 t3 R3 v3 p3 => ?_
      obtain ⟨t, rfl⟩ := v3.int_inv
      obtain ⟨a, rfl, ea⟩ := v2.ref_inv
      obtain ⟨xs, ⟨n, pl⟩, rr⟩ := R3.objs j a vs ea e4
      have hlen := rr.length
      have rv := isRef_by ((v1.pres p2).pres p3) hb.2.2.2
      refine ki_setAt (s := { s with heap := h3, toks := t3 }) pl hb.1 hb.2.1 (by rw [List.size_toArray]; (first | lia | omega)) ?_
      have pl' : (h3.update a (Obj.mapSeq (·.setIfInBounds kk.toNat x))).PlainList a ((xs.set kk.toNat x).toArray) := by
        have := IsL.update (n := n) pl (·.setIfInBounds kk.toNat x)
        have e : xs.toArray.setIfInBounds kk.toNat x = (xs.set kk.toNat x).toArray := by simp
        unfold IsL at this
        rw [e] at this
        exact ⟨_, this⟩
      obtain ⟨R4, p4⟩ := R3.upd ea pl' (rr.set kk.toNat rv) (Heap.SameBut.update ..)
      have pp := ((p1.trans p2).trans p3).trans p4
      exact k.of R4 (F.pres pp) .next pp.moved
    · cases hf
  · cases hf

theorem del_core {ρ : List Addr} {H : PH} {j : Nat} {a : Addr} {vs : List PVal} {i : Int} {u : Tok} {k : Nat} {s : Shared} {A : Around} {Q : Unit → Shared → Prop} {E : Value → Shared → Prop} (R : HRel X ρ H s.heap) (ea : ρ[j]? = some a) (ev : H[j]? = some vs)
    (hfit : Builtin.List.listFitsIndex i = true) (hk : seqIndex? i vs.length = some k) (hsz : vs.length ≤ sizeLine)
    (kk : ∀ h', HRel X ρ (H.set j (vs.eraseIdx k)) h' → Pres X ρ s.heap h' → Q () { s with heap := h' }) : wpAny X.M A (delItem (.ref a) (.int i u)) Q E s := by
  obtain ⟨xs, pl, rr⟩ := R.objs j a vs ea ev
  have hlen := rr.length
  refine wpAny_delItem_plain pl hfit (by rw [List.size_toArray, ← hlen]; exact hk) (fun h' pl' sb => ?_) (by rw [List.size_toArray, ← hlen]; exact hsz)
  have e : (xs.toArray.eraseIdxIfInBounds k) = (xs.eraseIdx k).toArray := by simp
  rw [e] at pl'
  obtain ⟨R', p'⟩ := R.upd ea pl' (rr.erase k) sb
  exact kk h' R' p'

theorem sim_del {o i : Expr} {tpos pos : Pos} {fo : EF} {iv : Int} (g : SF) (ho : SimE X d sc o fo) (hi : SimE X d sc i (fConst (.int iv)))
    (hg : ∀ V H r, g V H = some r → ∃ j H1 vs k, fo V H = some (.ref j, H1) ∧ H1[j]? = some vs ∧ vs.length ≤ sizeLine ∧ Builtin.List.listFitsIndex iv = true ∧ seqIndex? iv vs.length = some k ∧ k < vs.length ∧ r = (.next, V, H1.set j (vs.eraseIdx k))) :
    SimS X d sc (.Delete [.Subscript o i tpos] pos) g := by
  intro V H fl V' H' env s ρ A Q E hf hA R F k
  obtain ⟨j, H1, vs, kx, e1, e2, e3, e4, e5, e6, e7⟩ := hg V H _ hf
  cases e7
  refine wpAny_Delete (wpAny_deleteEach_cons ?_)
  rw [arm_delete_Subscript]
  refine wpAny_bind (ho V H _ H1 env s ρ A _ _ e1 hA R F fun x h1 t1 R1 v1 p1 => ?_)
  refine wpAny_bind (wpAny_holding (hi V H1 _ H1 env _ ρ A _ _ rfl hA R1 (F.pres p1) fun y h2 t2 R2 v2 p2 => ?_))
  obtain ⟨t, rfl⟩ := v2.int_inv
  obtain ⟨a, rfl, ea⟩ := v1.ref_inv
  refine wpAny_bind (wpAny_standAt (wpAny_bind (wpAny_holding (del_core (s := { s with heap := h2, toks := t2 }) R2 ea e2 e4 e5 e3 fun h3 R3 p3 => ?_))))
  have pp := (p1.trans p2).trans p3
  refine wpAny_release (wpAny_deleteEach_nil (k.of R3 (F.pres pp) .next pp.moved))
theorem sim_del0 {o i : Expr} {tpos pos : Pos} {fo : EF} (ho : SimE X d sc o fo) (hi : SimE X d sc i (fConst (.int 0))) : SimS X d sc (.Delete [.Subscript o i tpos] pos) (sDel0 fo) := by
  refine sim_del (sDel0 fo) ho hi fun V H r hr => ?_
  obtain ⟨⟨ov, H1⟩, e1, hr⟩ := Option.bind_eq_some_iff.mp hr
  dsimp only at hr
  split at hr
  · obtain ⟨vs, e2, hr⟩ := Option.bind_eq_some_iff.mp hr
    split at hr
    · rename_i hb; cases hr
      exact ⟨_, H1, vs, 0, e1, e2, hb.2, by decide, seqIndex?_zero hb.1, hb.1, rfl⟩
    · cases hr
  · cases hr
theorem sim_delLast {o i : Expr} {tpos pos : Pos} {fo : EF} (ho : SimE X d sc o fo) (hi : SimE X d sc i (fConst (.int (-1)))) : SimS X d sc (.Delete [.Subscript o i tpos] pos) (sDelLast fo) := by
  refine sim_del (sDelLast fo) ho hi fun V H r hr => ?_
  obtain ⟨⟨ov, H1⟩, e1, hr⟩ := Option.bind_eq_some_iff.mp hr
  dsimp only at hr
  split at hr
  · obtain ⟨vs, e2, hr⟩ := Option.bind_eq_some_iff.mp hr
    split at hr
    · rename_i hb; cases hr
      exact ⟨_, H1, vs, vs.length - 1, e1, e2, hb.2, by decide, seqIndex?_neg_one hb.1, by (first | lia | omega), rfl⟩
    · cases hr
  · cases hr
end
end Mine

end

/- Ev16 -/
section
open PySem PySem.W PyProof.Rows
set_option maxRecDepth 100000
namespace Mine

section
variable {X : Cx} {d : Nat} {sc : Scope}

theorem sim_aug {x : Str} {px pos : Pos} {op : Operator} {value : Expr} {f : EF} (hk : sc.names.lookup x = some .local) (he : SimE X d sc value f) : SimS X d sc (.AugAssign (.Name x px) op value pos) (sAug x op f) := by
  intro V H fl V' H' env s ρ A Q E hf hA R F k
  obtain ⟨a, e0, hf⟩ := Option.bind_eq_some_iff.mp hf
  obtain ⟨⟨v, H1⟩, e1, hf⟩ := Option.bind_eq_some_iff.mp hf
  obtain ⟨m, hn, hm⟩ := F.ns
  obtain ⟨r0, q1, q2⟩ := hm x _ e0 hk
  refine wpAny_AugAssign_Name (wpAny_loadName_local (by rw [F.scope]; exact F.kind) (by show env.scope.names.lookup x = _; rw [F.scope]; exact hk) hn q1 ?_)
  refine he V H v H1 env s ρ A _ _ e1 hA R F fun r h1 t1 R1 v1 p1 => ?_
  dsimp only at hf
  split at hf
  · cases hf
    obtain ⟨t, rfl⟩ := q2.int_inv
    obtain ⟨u, rfl⟩ := v1.int_inv
    refine AutoIntOps.iadd_0 ?_
    refine store_sound (s := { s with heap := h1, toks := t1 + 1 }) R1 (F.pres p1) (.inl hk) (.by (.int _ _)) fun h2 t2 tgt R2 F2 ht ke => ?_
    exact k.of R2 F2 .next (Moved.step p1 (store_moved ht ke))
  · cases hf
    obtain ⟨t, rfl⟩ := q2.int_inv
    obtain ⟨u, rfl⟩ := v1.int_inv
    refine AutoIntOps.isub_0 ?_
    refine store_sound (s := { s with heap := h1, toks := t1 + 1 }) R1 (F.pres p1) (.inl hk) (.by (.int _ _)) fun h2 t2 tgt R2 F2 ht ke => ?_
    exact k.of R2 F2 .next (Moved.step p1 (store_moved ht ke))
  · cases hf

/-- two stores -/
theorem store2 {ρ : List Addr} {H : PH} {env : Env} {V : PV} {s : Shared} {A : Around} {Q : Unit → Shared → Prop} {E : Value → Shared → Prop} {x y : Str} {a b : PVal} {p q : Value} (R : HRel X ρ H s.heap) (F : FRel X ρ sc env V s.heap)
    (hx : sc.names.lookup x = some .local ∨ sc.names.lookup x = some .cell) (hy : sc.names.lookup y = some .local ∨ sc.names.lookup y = some .cell) (ra : VRel X ρ s.heap a p) (rb : VRel X ρ s.heap b q)
    (k : ∀ h' tk', HRel X ρ H h' → FRel X ρ sc env (setV (setV V x a) y b) h' → Moved X ρ sc env s.heap h' → Q () { s with heap := h', toks := tk' }) :
    wpAny X.M A (storeName env x p) (fun _ s1 => wpAny X.M A (storeName env y q) Q E s1) E s := by
  refine store_sound R F hx ra fun h1 t1 tgt R1 F1 ht ke => ?_
  have mt : Mach X s.heap tgt := by
    rcases ht with rfl | ⟨q1, q2⟩
    · exact F.ml
    · exact F.mc x tgt q1 q2
  refine store_sound (s := { s with heap := h1, toks := t1 }) R1 F1 hy (rb.but mt ke) fun h2 t2 tgt2 R2 F2 ht2 ke2 => ?_
  exact k h2 t2 R2 F2 fun c o e n1 n2 n3 => store_moved (X := X) (ρ := ρ) ht2 ke2 c o (store_moved (X := X) (ρ := ρ) ht ke c o e n1 n2 n3) n1 n2 n3

theorem tup2_inv {ρ : List Addr} {h : Heap} {a b : PVal} {x : Value} (r : VRel X ρ h (.tup [a, b]) x) : ∃ t p q, x = .ref t ∧ PlainTup h t #[p, q] ∧ BRel h (X.ban ρ) a p ∧ BRel h (X.ban ρ) b q := by
  obtain ⟨t, xs, rfl, pl, _, rr⟩ := r.tup_inv
  cases rr with
  | cons ra r1 => cases r1 with
    | cons rb r2 => cases r2; exact ⟨t, _, _, rfl, pl, ra, rb⟩

theorem extKeeps {h h' : Heap} (e : Heap.ExtBut h.objs.size h h') : Keeps h h' := fun a o q => e a o (Nat.ne_of_lt (Heap.lt_size q)) q

theorem sim_pair {x y : Str} {px py tpos pos : Pos} {c : Nat} {value : Expr} {f : EF} (hx : sc.names.lookup x = some .local ∨ sc.names.lookup x = some .cell) (hy : sc.names.lookup y = some .local ∨ sc.names.lookup y = some .cell)
    (hs : ∀ env : Env, env.scope = sc → swapsWithSole [.Tuple [.Name x px, .Name y py] c tpos] value pos.line env = pure false) (hw : ∀ env : Env, env.scope = sc → swappedStores [.Tuple [.Name x px, .Name y py] c tpos] value env = pure none)
    (he : SimE X d sc value f) : SimS X d sc (.Assign [.Tuple [.Name x px, .Name y py] c tpos] value pos) (sPair x y f) := by
  intro V H fl V' H' env s ρ A Q E hf hA R F k
  obtain ⟨⟨v, H1⟩, e1, hf⟩ := Option.bind_eq_some_iff.mp hf
  dsimp only at hf
  split at hf
  · cases hf
    refine Assign_Tuple (he V H _ _ env s ρ A _ _ e1 hA R F fun r h1 t1 R1 v1 p1 => ?_) (hs env F.scope) (hw env F.scope)
    obtain ⟨t, p, q, rfl, pl, ra, rb⟩ := tup2_inv v1
    refine wpAny_assign_Tuple (s := { s with heap := h1, toks := t1 }) hA.hd pl.isTuple rfl rfl fun h2 ex => ?_
    have k2 := extKeeps ex
    refine assignInOrder_cons ?_
    refine wpAny_assign_Name ?_
    refine wpAny_mono (store2 (s := { s with heap := h2, toks := t1 }) (Q := fun _ s' => Q .next s') (E := E) (R1.keeps k2) ((F.pres p1).pres k2.pres) hx hy ((VRel.by ra).pres k2.pres) ((VRel.by rb).pres k2.pres) fun h3 t3 R3 F3 m3 => ?_) (fun _ s1 h => ?_) fun _ _ e => e
    · exact k.of R3 F3 .next (Moved.step (p1.trans k2.pres) m3)
    · exact assignInOrder_cons (wpAny_assign_Name (wpAny_mono h (fun _ s2 h2 => assignInOrder_nil h2) fun _ _ e => e))
  · cases hf

theorem sim_pairR {x y : Str} {px py tpos pos : Pos} {c : Nat} {value : Expr} {f : EF} (hx : sc.names.lookup x = some .local ∨ sc.names.lookup x = some .cell) (hy : sc.names.lookup y = some .local ∨ sc.names.lookup y = some .cell)
    (hs : ∀ env : Env, env.scope = sc → swapsWithSole [.Tuple [.Name x px, .Name y py] c tpos] value pos.line env = pure false) (hw : ∀ env : Env, env.scope = sc → swappedStores [.Tuple [.Name x px, .Name y py] c tpos] value env = pure (some [x, y]))
    (he : SimE X d sc value f) : SimS X d sc (.Assign [.Tuple [.Name x px, .Name y py] c tpos] value pos) (sPairR x y f) := by
  intro V H fl V' H' env s ρ A Q E hf hA R F k
  obtain ⟨⟨v, H1⟩, e1, hf⟩ := Option.bind_eq_some_iff.mp hf
  dsimp only at hf
  split at hf
  · cases hf
    refine Assign_Tuple_swapped (names := [x, y]) (he V H _ _ env s ρ A _ _ e1 hA R F fun r h1 t1 R1 v1 p1 => ?_) (hs env F.scope) (hw env F.scope)
    obtain ⟨t, p, q, rfl, pl, ra, rb⟩ := tup2_inv v1
    refine unpackItems_tuple (s := { s with heap := h1, toks := t1 }) (items := #[p, q]) hA.hd pl.isTup fun h2 ex => ?_
    have k2 := extKeeps ex
    refine assignInOrder_cons ?_
    refine bindName_ ?_
    refine wpAny_mono (store2 (s := { s with heap := h2, toks := t1 }) (Q := fun _ s' => Q .next s') (E := E) (R1.keeps k2) ((F.pres p1).pres k2.pres) hy hx ((VRel.by rb).pres k2.pres) ((VRel.by ra).pres k2.pres) fun h3 t3 R3 F3 m3 => ?_) (fun _ s1 h => ?_) fun _ _ e => e
    · exact k.of R3 F3 .next (Moved.step (p1.trans k2.pres) m3)
    · exact assignInOrder_cons (bindName_ (wpAny_mono h (fun _ s2 h2 => assignInOrder_nil h2) fun _ _ e => e))
  · cases hf

/-- a list comprehension stored at once -/
theorem comp_use {ρ : List Addr} {H' : PH} {V : PV} {v : PVal} {env : Env} {s : Shared} {A : Around} {Q : Flow → Shared → Prop} {E : Value → Shared → Prop} {y : Str} {py : Pos} (hy : sc.names.lookup y = some .local ∨ sc.names.lookup y = some .cell) (F : FRel X ρ sc env V s.heap)
    (k : SCont X sc env ρ .next (setV V y v) H' s Q) {D C : Addr} {h' : Heap} {tk : Nat} {m : Str → Option Value} {f : Flow}
    (R' : HRel X ρ H' h') (v' : VRel X ρ h' v (.ref D)) (p' : Pres X ρ s.heap h') (hn : h'.Ns C m) (hC : s.heap.get? C = none) (hb : X.base C = none) :
    compPost X.M A E (some (assign (.Name y py) env)) (fun _ s' => Q .next s') (.ref D) C (.ok f) { s with heap := h', toks := tk } := by
  have F' := F.pres p'
  show wpAny X.M A (assign (.Name y py) env (.ref D)) _ E _
  refine wpAny_assign_Name (store_sound (s := { s with heap := h', toks := tk }) R' F' hy v' fun h2 t2 tgt R2 F2 ht ke => ?_)
  have hCt : C ≠ tgt := by
    rintro rfl
    rcases ht with q | ⟨_, q⟩
    · obtain ⟨_, ⟨o, _, _, e, _⟩, _⟩ := F.ns; rw [← q, hC] at e; cases e
    · obtain ⟨ov, o, e, _⟩ := F.cex y C q; rw [hC] at e; cases e
  have hn2 : h2.Ns C m := by obtain ⟨o, es, ep, e, r⟩ := hn; exact ⟨o, es, ep, ke _ _ hCt e, r⟩
  refine ⟨m, hn2, fun h3 sb => ?_⟩
  have mC : Mach X h2 C := ⟨hb, fun o e => by obtain ⟨o', es, ep, e', d', _⟩ := hn2; rw [e'] at e; cases e; exact .inl ⟨es, ep, d'⟩⟩
  have ke3 : ∀ b o, b ≠ C → h2.get? b = some o → h3.get? b = some o := fun b o hb e => (sb.2 b hb).trans e
  refine k.of (tk := t2) (R2.but mC ke3) (F2.but mC (fun q => ?_) (fun x c hx q => ?_) ke3) .next fun a o e n1 n2 n3 => ?_
  · obtain ⟨_, ⟨o, _, _, e, _⟩, _⟩ := F.ns; rw [q, hC] at e; cases e
  · obtain ⟨ov, o, e, _⟩ := F.cex x c hx; rw [q, hC] at e; cases e
  · exact ke3 a o (fun q => by rw [q, hC] at e; cases e) (store_moved (X := X) (ρ := ρ) ht ke a o (p' a o e n1) n1 n2 n3)

theorem sim_assignComp {elt iter : Expr} {x y : Str} {px py p0 pos spos : Pos} {ifs : List Expr} {rest : List Comprehension} {scope : Scope} {T : TurnT} {it : EF} {mk : PV → Nat → PVal → PH → Option PH} (hy : sc.names.lookup y = some .local ∨ sc.names.lookup y = some .cell)
    (hs : ∀ env : Env, env.scope = sc → swapsWith (.ListComp elt (⟨.Name x px, iter, ifs, 0⟩ :: rest) scope pos) (some (.Name y py)) spos.line env = pure true) (hp0 : firstIterPos (⟨.Name x px, iter, ifs, 0⟩ :: rest) pos = p0)
    (hset : ∀ env v, foldedSetIterable iter env v = pure v) (hit : SimE X d sc iter it) (CS : CompScope scope sc [x])
    (lr : LoopRule X (.ListComp elt (⟨.Name x px, iter, ifs, 0⟩ :: rest) scope pos) x px T) (body : CompBody X d sc scope x mk T) :
    SimS X d sc (.Assign [.Name y py] (.ListComp elt (⟨.Name x px, iter, ifs, 0⟩ :: rest) scope pos) spos) (sAssign y (compRun it mk)) := by
  intro V H fl V' H' env s ρ A Q E hf hA R F k
  obtain ⟨⟨v, H1⟩, e1, e2⟩ := Option.map_eq_some_iff.mp hf
  cases e2
  rw [exec_Assign_Name_used _ _ _ _ (hs env F.scope)]
  refine wpAny_bind (wpAny_standAt (wpAny_bind ?_))
  show wpAny _ A (do let _ ← comprehension (.ListComp elt (⟨.Name x px, iter, ifs, 0⟩ :: rest) scope pos) scope env (firstIterPos (⟨.Name x px, iter, ifs, 0⟩ :: rest) pos) (newList []) false (eval iter env) (some (assign (.Name y py) env))) _ _ s
  rw [hp0]
  refine wpAny_bind (wpAny_mono (comp_core (use := some (assign (.Name y py) env)) (Q := fun _ s' => Q .next s') hset hit CS lr body e1 hA R F fun D C h' tk m f R' v' p' hn hC hb => ?_) (fun _ s' hq => wpAny_pure (wpAny_pure hq)) fun _ _ e => e)
  exact comp_use hy F k R' v' p' hn hC hb
end
end Mine

end

/- Ev17 -/
section
open PySem PySem.W PyProof.Rows
set_option maxRecDepth 100000
namespace Mine

noncomputable abbrev Vals := Nat → PH → Option (Option PVal)
/-- the iterator protocol, with items that may be read from the mutable lists -/
structure IterG (X : Cx) (ρ : List Addr) (I : Addr) (vals : Vals) (St : Nat → Heap → Prop) : Prop where
  nb : I ∉ X.ban ρ
  mach : ∀ i h, St i h → Mach X h I ∧ ∃ o, h.get? I = some o
  frame : ∀ i h h' (N : Addr → Prop), St i h → ¬ N I → (∀ t, N t → Mach X h t) → (∀ b o, ¬ N b → b ∉ X.ban ρ → h.get? b = some o → h'.get? b = some o) → St i h'
  item : ∀ (A : Around), A.handled = none → ∀ (i : Nat) (H : PH) (v : PVal) (s : Shared) (Q : Option Value → Shared → Prop) (E : Value → Shared → Prop), vals i H = some (some v) → HRel X ρ H s.heap → St i s.heap →
    (∀ r h' tk, BRel s.heap (X.ban ρ) v r → St (i + 1) h' → (∀ b o, b ≠ I → s.heap.get? b = some o → h'.get? b = some o) → Q (some r) { s with heap := h', toks := tk }) → wpAny X.M A (pyNext (.ref I)) Q E s
  done : ∀ (A : Around), A.handled = none → ∀ (i : Nat) (H : PH) (s : Shared) (Q : Option Value → Shared → Prop) (E : Value → Shared → Prop), vals i H = some none → HRel X ρ H s.heap → St i s.heap →
    (∀ h' tk, (∀ b o, b ≠ I → s.heap.get? b = some o → h'.get? b = some o) → Q none { s with heap := h', toks := tk }) → wpAny X.M A (pyNext (.ref I)) Q E s

noncomputable def valsOf (vs : List PVal) : Vals := fun i _ => if i ≤ vs.length then some vs[i]? else none
theorem Iter.toG {X : Cx} {ρ : List Addr} {I : Addr} {vs : List PVal} {St : Nat → Heap → Prop} (it : Iter X ρ I vs St) : IterG X ρ I (valsOf vs) St where
  nb := it.nb
  mach := it.mach
  frame := it.frame
  item := fun A hA i H v s Q E hv R st k => by
    unfold valsOf at hv
    split at hv
    · exact it.item A hA i v s Q E (Option.some.inj hv) st k
    · cases hv
  done := fun A hA i H s Q E hv R st k => by
    unfold valsOf at hv
    split at hv
    · rename_i hle
      have : vs.length ≤ i := List.getElem?_eq_none_iff.mp (Option.some.inj hv)
      have : i = vs.length := by (first | lia | omega)
      subst this
      exact it.done A hA s Q E st k
    · cases hv

noncomputable abbrev IF := PV → PH → Option (Nat × Vals × PH)
noncomputable def forG (vals : Vals) (x : Str) (body : SF) : Nat → Nat → PV → PH → Option (PFlow × PV × PH)
  | 0, _, _, _ => none
  | f + 1, i, V, H => (vals i H).bind fun r => match r with
    | none => some (.next, V, H)
    | some v => (body (setV V x v) H).bind fun q => if q.2.2.length = H.length then (match q.1 with
      | .next => forG vals x body f (i + 1) q.2.1 q.2.2
      | .ret w => some (.ret w, q.2.1, q.2.2)) else none
noncomputable def sFor (x : Str) (it : IF) (body : SF) : SF := fun V H => (it V H).bind fun p => forG p.2.1 x body p.1 0 V p.2.2
noncomputable def whileG (b : BF) (body : SF) : Nat → PV → PH → Option (PFlow × PV × PH)
  | 0, _, _ => none
  | f + 1, V, H => (b V H).bind fun p => if p.1 = true then (body V p.2).bind fun q => if q.2.2.length = H.length then (match q.1 with
      | .next => whileG b body f q.2.1 q.2.2
      | .ret w => some (.ret w, q.2.1, q.2.2)) else none
    else some (.next, V, p.2)
noncomputable def sWhile (n : Nat) (b : BF) (body : SF) : SF := fun V H => whileG b body n V H
noncomputable def iVal (f : EF) : IF := fun V H => (f V H).bind fun p => (itemsP p.1).map fun vs => (vs.length + 1, valsOf vs, p.2)

section
variable {X : Cx} {d : Nat} {sc : Scope}

noncomputable def SimI (X : Cx) (d : Nat) (sc : Scope) (e : Expr) (f : IF) : Prop :=
  ∀ (V : PV) (H : PH) (n : Nat) (vals : Vals) (H' : PH) (env : Env) (s : Shared) (ρ : List Addr) (A : Around) (Q : Value → Shared → Prop) (E : Value → Shared → Prop),
    f V H = some (n, vals, H') → Room d A → HRel X ρ H s.heap → FRel X ρ sc env V s.heap →
    (∀ I St h' tk', IterG X ρ I vals St → St 0 h' → s.heap.get? I = none → HRel X ρ H' h' → Pres X ρ s.heap h' → Q (.ref I) { s with heap := h', toks := tk' }) → wpAny X.M A (eval e env) (fun x s1 => wpAny X.M A (pyIter x) Q E s1) E s

theorem simi_val {e : Expr} {f : EF} (he : SimE X d sc e f) : SimI X d sc e (iVal f) := by
  intro V H n vals H' env s ρ A Q E hf hA R F k
  obtain ⟨⟨v, H1⟩, e1, hf⟩ := Option.bind_eq_some_iff.mp hf
  obtain ⟨vs, e2, e3⟩ := Option.map_eq_some_iff.mp hf
  cases e3
  refine he V H v _ env s ρ A _ _ e1 hA R F fun r h1 t1 R1 v1 p1 => ?_
  refine iter_start (s := { s with heap := h1, toks := t1 }) e2 R1 v1 fun h2 t2 itr k2 sz2 => ?_
  obtain ⟨St, it, st⟩ := itr [] fun _ q => nomatch q
  rw [List.append_nil] at it
  exact k _ St h2 t2 it.toG st (none_back p1 R1 (size_none _)) (R1.keeps k2) (p1.trans k2.pres)

theorem same_len {ρ σ : List Addr} {H H' : PH} {h h' : Heap} (R : HRel X ρ H h) (R' : HRel X (ρ ++ σ) H' h') (e : H'.length = H.length) : σ = [] := by
  have a := R.len
  have b := R'.len
  rw [List.length_append] at b
  exact List.length_eq_zero_iff.mp (by (first | lia | omega))

theorem Moved.trans0 {ρ : List Addr} {env : Env} {h h' h'' : Heap} (m : Moved X ρ sc env h h') (m' : Moved X ρ sc env h' h'') : Moved X ρ sc env h h'' :=
  fun a o e n1 n2 n3 => m' a o (m a o e n1 n2 n3) n1 n2 n3

theorem sim_for {x : Str} {px pos : Pos} {iter : Expr} {body : List Stmt} {it : IF} {g : SF} (hx : sc.names.lookup x = some .local ∨ sc.names.lookup x = some .cell) (hset : ∀ env v, foldedSetIterable iter env v = pure v)
    (hit : SimI X d sc iter it) (hb : SimSs X d sc body g) : SimS X d sc (.For (.Name x px) iter body [] pos) (sFor x it g) := by
  intro V H fl V' H' env s ρ A Q E hf hA R F k
  obtain ⟨⟨n, vals, H0⟩, e0, hf⟩ := Option.bind_eq_some_iff.mp hf
  dsimp only at hf
  refine wpAny_For (hit V H n vals H0 env s ρ A _ _ e0 hA R F fun I St h1 t1 itg st nI R1 p1 => ?_) (hset env)
  have IL : env.locals ≠ I := fun q => by obtain ⟨_, ⟨o, _, _, e, _⟩, _⟩ := F.ns; rw [q, nI] at e; cases e
  have IC : ∀ y c, env.cells.lookup y = some c → c ≠ I := fun y c hc q => by obtain ⟨ov, o, e, _⟩ := F.cex y c hc; rw [q, nI] at e; cases e
  refine codeAny_forLoop (fun m s' => ∃ h' tk i V1 H1, s' = { s with heap := h', toks := tk } ∧ St i h' ∧ HRel X ρ H1 h' ∧ FRel X ρ sc env V1 h' ∧ forG vals x g m i V1 H1 = some (fl, V', H') ∧ Moved X ρ sc env s.heap h') ?_ n
    ⟨h1, t1, 0, V, H0, rfl, st, R1, F.pres p1, hf, p1.moved⟩
  rintro m s' ⟨h', tk, i, V1, H1, rfl, st', R', F', hg, mv⟩
  cases m with
  | zero => cases hg
  | succ m =>
    obtain ⟨r, er, hg⟩ := Option.bind_eq_some_iff.mp hg
    have mI := (itg.mach i _ st').1
    cases r with
    | none =>
      cases hg
      refine itg.done A hA.hd i _ { s with heap := h', toks := tk } _ _ er R' st' fun h2 t2 ke => ?_
      refine wpAny_execs_nil ?_
      refine k.of (R'.but mI ke) (F'.but mI IL IC ke) .next fun a o e n1 n2 n3 => ke a o (fun q => by rw [q, nI] at e; cases e) (mv a o e n1 n2 n3)
    | some v =>
      refine itg.item A hA.hd i H1 v { s with heap := h', toks := tk } _ _ er R' st' fun r h2 t2 rb st2 ke => ?_
      have R2 := R'.but mI ke
      have F2 := F'.but mI IL IC ke
      have mv2 : Moved X ρ sc env s.heap h2 := fun a o e n1 n2 n3 => ke a o (fun q => by rw [q, nI] at e; cases e) (mv a o e n1 n2 n3)
      dsimp only at hg
      obtain ⟨⟨fl1, V2, H2⟩, eb, hg⟩ := Option.bind_eq_some_iff.mp hg
      dsimp only at hg
      split at hg
      · rename_i hlen
        refine wpAny_assign_Name (store_sound (s := { s with heap := h2, toks := t2 }) R2 F2 hx (.by (rb.but (fun o e => (mI.2 o e).noData) ke)) fun h3 t3 tgt R3 F3 ht ke3 => ?_)
        have mt : Mach X h2 tgt := by
          rcases ht with rfl | ⟨q1, q2⟩
          · exact F2.ml
          · exact F2.mc x tgt q1 q2
        have tI : tgt ≠ I := by
          rcases ht with rfl | ⟨q1, q2⟩
          · exact IL
          · exact IC x tgt q2
        have st3 : St (i + 1) h3 := itg.frame _ _ _ (fun b => b = tgt) st2 (fun q => tI q.symm) (fun _ q => q ▸ mt) fun b o n _ e => ke3 b o n e
        have mv3 := mv2.trans0 (store_moved (X := X) (ρ := ρ) ht ke3)
        refine hb _ H1 fl1 V2 H2 env { s with heap := h3, toks := t3 } ρ A _ _ eb hA R3 F3 fun σ f h4 t4 fr R4 F4 fr4 mv4 => ?_
        obtain rfl := same_len R3 R4 hlen
        rw [List.append_nil] at R4 F4 fr4
        cases fr4 with
        | ret rv => cases hg; exact k.of R4 F4 (.ret rv) (mv3.trans0 mv4)
        | next =>
          refine ⟨m, Nat.lt_succ_self _, h4, t4, i + 1, V2, H2, rfl, ?_, R4, F4, hg, mv3.trans0 mv4⟩
          refine itg.frame _ _ _ (fun t => t = env.locals ∨ ∃ y, sc.names.lookup y = some .cell ∧ env.cells.lookup y = some t) st3 (fun q => ?_) (fun t q => ?_) fun b o nN nb e => mv4 b o e nb (fun q => nN (.inl q)) fun y h1 h2 => nN (.inr ⟨y, h1, h2⟩)
          · rcases q with q | ⟨y, _, q⟩
            · exact IL q.symm
            · exact IC y _ q rfl
          · rcases q with rfl | ⟨y, q1, q2⟩
            · exact F3.ml
            · exact F3.mc y t q1 q2
      · cases hg

theorem sim_while {test : Expr} {body : List Stmt} {pos : Pos} {n : Nat} {b : BF} {g : SF} (ht : SimB X d sc test b) (hb : SimSs X d sc body g) : SimS X d sc (.While test body [] pos) (sWhile n b g) := by
  intro V H fl V' H' env s ρ A Q E hf hA R F k
  refine wpAny_While ?_
  refine codeAny_whileLoop (fun m s' => ∃ h' tk V1 H1, s' = { s with heap := h', toks := tk } ∧ HRel X ρ H1 h' ∧ FRel X ρ sc env V1 h' ∧ whileG b g m V1 H1 = some (fl, V', H') ∧ Moved X ρ sc env s.heap h') ?_ n
    ⟨s.heap, s.toks, V, H, rfl, R, F, hf, (Pres.refl X ρ _).moved⟩
  rintro m s' ⟨h', tk, V1, H1, rfl, R', F', hg, mv⟩
  cases m with
  | zero => cases hg
  | succ m =>
    obtain ⟨⟨c, H2⟩, ec, hg⟩ := Option.bind_eq_some_iff.mp hg
    refine ht V1 H1 c H2 env { s with heap := h', toks := tk } ρ A _ _ ec hA R' F' fun h2 t2 R2 p2 => ?_
    dsimp only at hg
    cases c with
    | false =>
      cases hg
      exact wpAny_execs_nil (k.of R2 (F'.pres p2) .next (mv.trans0 p2.moved))
    | true =>
      rw [if_pos rfl] at hg ⊢
      obtain ⟨⟨fl1, V2, H3⟩, eb, hg⟩ := Option.bind_eq_some_iff.mp hg
      dsimp only at hg
      split at hg
      · rename_i hlen
        refine hb V1 H2 fl1 V2 H3 env { s with heap := h2, toks := t2 } ρ A _ _ eb hA R2 (F'.pres p2) fun σ f h4 t4 fr R4 F4 fr4 mv4 => ?_
        obtain rfl := same_len R' R4 hlen
        rw [List.append_nil] at R4 F4 fr4
        cases fr4 with
        | ret rv => cases hg; exact k.of R4 F4 (.ret rv) (mv.trans0 (p2.moved.trans0 mv4))
        | next => exact ⟨m, Nat.lt_succ_self _, h4, t4, V2, H3, rfl, R4, F4, hg, mv.trans0 (p2.moved.trans0 mv4)⟩
      · cases hg
end
end Mine

end

/- Ev18 -/
section
open PySem PySem.W PyProof.Rows
set_option maxRecDepth 100000
namespace Mine

noncomputable def iRef (f : EF) : IF := fun V H => (f V H).bind fun p => match p.1 with
  | .ref j => (p.2[j]?).map fun vs => (vs.length + 1, fun i K => (K[j]?).map fun ws => ws[i]?, p.2)
  | _ => none
noncomputable def iRev (f : EF) : IF := fun V H => (f V H).bind fun p => match p.1 with
  | .lst vs => some (vs.length + 1, valsOf vs.reverse, p.2)
  | _ => none

section
variable {X : Cx} {d : Nat} {sc : Scope}

theorem iter_ref {ρ : List Addr} {I a : Addr} {j : Nat} (ea : ρ[j]? = some a) (nb : I ∉ X.ban ρ) (base : X.base I = none) : IterG X ρ I (fun i K => (K[j]?).map fun ws => ws[i]?) (fun i h => h.IsListIter I a i) where
  nb := nb
  mach := fun i h st => by
    obtain ⟨o, e, c, _⟩ := st
    exact ⟨⟨base, fun o' e' => by rw [e] at e'; cases e'; exact .inr (.inr ⟨by rw [c]; simp [isData], by rw [c]; simp, by rw [c]; simp⟩)⟩, o, e⟩
  frame := fun i h h' N st nI mN ke => st.at fun o e => ke I o nI nb e
  item := fun A hA i H v s Q E hv R st k => by
    obtain ⟨ws, ew, hv⟩ := Option.map_eq_some_iff.mp hv
    obtain ⟨xs, pl, r⟩ := R.objs j a ws ea ew
    obtain ⟨x, ex, rx⟩ := r.get hv
    exact wpAny_pyNext_list_item st pl.isList (by simpa using ex) fun h' st' sb => k x h' s.toks rx st' fun b o hb e => (sb.2 b hb).trans e
  done := fun A hA i H s Q E hv R st k => by
    obtain ⟨ws, ew, hv⟩ := Option.map_eq_some_iff.mp hv
    obtain ⟨xs, pl, r⟩ := R.objs j a ws ea ew
    have hlen := r.length
    refine wpAny_pyNext_list_end hA st pl.isList ?_ fun h' sb => k h' s.toks fun b o hb e => sb b o hb e
    have := List.getElem?_eq_none_iff.mp hv
    simp only [List.getElem?_toArray]
    exact List.getElem?_eq_none_iff.mpr (by (first | lia | omega))

theorem simi_ref {e : Expr} {f : EF} (he : SimE X d sc e f) : SimI X d sc e (iRef f) := by
  intro V H n vals H' env s ρ A Q E hf hA R F k
  obtain ⟨⟨v, H1⟩, e1, hf⟩ := Option.bind_eq_some_iff.mp hf
  dsimp only at hf
  split at hf
  · obtain ⟨vs, e2, e3⟩ := Option.map_eq_some_iff.mp hf
    cases e3
    refine he V H _ _ env s ρ A _ _ e1 hA R F fun r h1 t1 R1 v1 p1 => ?_
    obtain ⟨a, rfl, ea⟩ := v1.ref_inv
    obtain ⟨xs, pl, rr⟩ := R1.objs _ a vs ea e2
    have kp := Keeps.push h1 { cls := .type "list_iterator", data := .fields #[.ref a, .int 0 0] }
    refine wpAny_pyIter_list (s := { s with heap := h1, toks := t1 }) pl.isList ?_
    exact k _ _ _ t1 (iter_ref ea R1.new R1.newBase) ⟨_, Heap.get?_push_size _ rfl, rfl, rfl⟩ (none_back p1 R1 (size_none _)) (R1.keeps kp) (p1.trans kp.pres)
  · cases hf

theorem iter_rev {ρ : List Addr} {h : Heap} {a I : Addr} {vs : List PVal} {xs : List Value} (p : h.PlainList a xs.toArray) (na : a ∉ X.ban ρ) (r : BRels h (X.ban ρ) vs xs) (nb : I ∉ X.ban ρ) (base : X.base I = none) (hne : a ≠ I) (hI : h.IsRevIter I a ((xs.length : Int) - 1)) :
    ∃ St, Iter X ρ I vs.reverse St ∧ St 0 h := by
  have hl := r.length
  have it := Iter.of_walks (X := X) (ρ := ρ) (I := I) (vs := vs.reverse) (St := fun i h => i ≤ xs.toArray.size ∧ h.IsRevIter I a ((xs.toArray.size : Int) - 1 - (i : Int)) ∧ h.IsList a xs.toArray) (fun h => BRels h (X.ban ρ) vs xs)
    (P := fun i v => xs.toArray[xs.toArray.size - 1 - i]? = some v)
    (fp := [I, a]) (fun A hA => by rw [show vs.reverse.length = xs.toArray.size from by simp [hl]]; exact Walks.listRev (prog := X.prog) (w := X.w) hA I a hne xs.toArray)
    nb base (fun i h st => by obtain ⟨o, e, c, _⟩ := st.2.1; exact ⟨o, e, by rw [c]; simp [isData], by rw [c]; simp, by rw [c]; simp⟩) (fun b hb => by simp at hb; rcases hb with rfl | rfl; exact nb; exact na)
    (fun i h st b hb => by simp at hb; rcases hb with rfl | rfl; exact .inl rfl; obtain ⟨o, e, c, n, d⟩ := st.2.2; exact .inr ⟨o, e, by simp [isData, c], .inl ⟨_, n, d⟩⟩)
    (fun i v r' h hv hr st => by
      have hi : i < vs.reverse.length := (List.getElem?_eq_some_iff.mp hv).1
      rw [List.length_reverse] at hi
      rw [List.getElem?_reverse hi] at hv
      refine st.getR hv ?_
      rw [hl]
      simpa using hr) (fun N h h' hI st ke => st.butN hI ke) (fun A i s Q E st k => wpAny_pyIter_revIter st.2.1 k)
  refine ⟨_, it, ⟨Nat.zero_le _, by simpa using hI, p.isList⟩, r⟩

theorem simi_rev {fn e : Expr} {pos : Pos} {f : EF} (hc : ∀ env, eval (.Call fn [e] [] pos) env = (do callWith pos (← eval fn env) [] (backTo pos (starEach [e] env)) []))
    (he : ∀ env, starEach [e] env = (false, eval e env) :: starEach [] env)
    (hf : SimE X d sc fn (fConst (.val (.type "reversed")))) (ha : SimE X d sc e f) (hL : SimL X d sc [e] (lCons f lNil)) : SimI X d sc (.Call fn [e] [] pos) (iRev f) := by
  intro V H n vals H' env s ρ A Q E hh hA R F k
  obtain ⟨⟨v, H1⟩, e1, hh⟩ := Option.bind_eq_some_iff.mp hh
  dsimp only at hh
  split at hh
  · rename_i vs
    cases hh
    rw [hc]
    refine wpAny_bind (hf V H _ H env s ρ A _ _ rfl hA R F fun x h1 t1 R1 v1 p1 => ?_)
    obtain rfl := v1.val_inv
    rw [he]
    refine PyProof.Rows.callWith_type (by show (false || (backTo pos (starEach [] env)).any (·.1)) = false; rfl) (Calls.evalArgs_plain ?_)
    have := hL V H [.lst vs] _ env { s with heap := h1, toks := t1 } ρ A pos (fun vs s₁ => wpAny X.M A (call (.type "reversed") ([] ++ vs)) (fun x s1 => wpAny X.M A (pyIter x) Q E s1) E s₁) E (by simp [lCons, lNil, e1]; rfl) hA R1 (F.pres p1) fun rs h2 t2 R2 v2 p2 => by
      obtain ⟨_, rfl, y⟩ := v2.one
      obtain ⟨a, xs, rfl, pl, na, rr⟩ := y.lst_inv
      refine call_reversed_list (s := { s with heap := h2, toks := t2 }) pl.isList ?_
      have kp := Keeps.push h2 (revObj a ((xs.toArray.size : Int) - 1))
      have hI : (h2.push (revObj a ((xs.toArray.size : Int) - 1))).IsRevIter h2.objs.size a ((xs.toArray.size : Int) - 1) := ⟨_, Heap.get?_push_size _ rfl, rfl, rfl⟩
      refine wpAny_pyIter_revIter hI ?_
      have hne : a ≠ h2.objs.size := by obtain ⟨n, p⟩ := pl; exact Nat.ne_of_lt (Heap.lt_size p)
      obtain ⟨St, it, st⟩ := iter_rev (X := X) (ρ := ρ) (pl.at fun o e => kp _ _ e) na (rr.pres (X := X) kp.pres) R2.new R2.newBase hne (by simpa using hI)
      have pp := p1.trans p2
      exact k _ St _ t2 it.toG st (none_back pp R2 (size_none _)) (R2.keeps kp) (pp.trans kp.pres)
    rw [he] at this
    exact this
  · cases hh
end
end Mine

end

/- Ev19 -/
section
open PySem PySem.W PyProof.Rows
set_option maxRecDepth 100000
namespace Mine

noncomputable def bindV : List (Str × PVal) → PV → PV
  | [], V => V
  | (x, v) :: r, V => bindV r (setV V x v)
noncomputable def retV (n : Nat) (K : PH) (v : PVal) : Option PVal := match v with
  | .ref j => if j < n then some (.ref j) else (K[j]?).map .lst
  | v => some v
noncomputable def runF (V0 : PV) (pb : List (Str × PVal)) (g : SF) (H : PH) : Option (PVal × PH) := (g (bindV pb V0) H).bind fun r => match r.1 with
  | .next => some (.none, r.2.2.take H.length)
  | .ret v => (retV H.length r.2.2 v).map fun w => (w, r.2.2.take H.length)

inductive NRels (X : Cx) (ρ : List Addr) (h : Heap) : List (Str × PVal) → List (Str × Value) → Prop
  | nil : NRels X ρ h [] []
  | cons {x : Str} {v : PVal} {r : Value} {vs : List (Str × PVal)} {rs : List (Str × Value)} : VRel X ρ h v r → NRels X ρ h vs rs → NRels X ρ h ((x, v) :: vs) ((x, r) :: rs)

/-- what a def's closure tells -/
structure CloOk (X : Cx) (ρ : List Addr) (h : Heap) (scope : Scope) (cl : List (Str × Addr)) (V0 : PV) : Prop where
  kind : scope.kind = .function
  nodup : (scope.names.map (·.1)).Nodup
  free : ∀ n c, (n, c) ∈ cl → (n, NameKind.free) ∈ scope.names ∧ c ∉ X.ban ρ ∧ ∃ ov, h.IsCell c ov
  has : ∀ n, (n, NameKind.free) ∈ scope.names → ∃ c, (n, c) ∈ cl
  inj : ∀ x y c, (x, c) ∈ cl → (y, c) ∈ cl → x = y
  val : ∀ x v, V0 x = some v → (x, NameKind.free) ∈ scope.names ∧ ∀ c, (x, c) ∈ cl → ∃ r, h.IsCell c (some r) ∧ VRel X ρ h v r

noncomputable def funE (scope : Scope) (cl : List (Str × Addr)) (L : Addr) (qual : Str) (func : Option Addr) (code : Value) : Env :=
  { scope := scope, locals := L, globals := mainGlobals, cells := cellsFrom (L + 1) scope.names cl, qual := qual, func := func, code := code, frame := some L, builtins := builtinsNs }

section
variable {X : Cx} {d : Nat} {ρ : List Addr} {H : PH}

theorem NRels.keeps {h h' : Heap} (k : Keeps h h') : ∀ {vs : List (Str × PVal)} {rs : List (Str × Value)}, NRels X ρ h vs rs → NRels X ρ h' vs rs
  | _, _, .nil => .nil
  | _, _, .cons a r => .cons (a.pres k.pres) (NRels.keeps k r)
theorem NRels.but {h h' : Heap} {I : Addr} (hI : Mach X h I) (ke : ∀ b o, b ≠ I → h.get? b = some o → h'.get? b = some o) : ∀ {vs : List (Str × PVal)} {rs : List (Str × Value)}, NRels X ρ h vs rs → NRels X ρ h' vs rs
  | _, _, .nil => .nil
  | _, _, .cons a r => .cons (a.but hI ke) (NRels.but hI ke r)

theorem fun_frame {h : Heap} {scope : Scope} {cl : List (Str × Addr)} {V0 : PV} {qual : Str} {func : Option Addr} {code : Value} (R : HRel X ρ H h) (C : CloOk X ρ h scope cl V0) :
    FRel X ρ scope (funE scope cl h.objs.size qual func code) V0 (pushCells (h.push { cls := .type "frame", data := .dict #[] }) scope.names) ∧
      Keeps h (pushCells (h.push { cls := .type "frame", data := .dict #[] }) scope.names) ∧ (∀ x c, scope.names.lookup x = some .cell → (funE scope cl h.objs.size qual func code).cells.lookup x = some c → h.get? c = none) := by
  have kp : Keeps h (pushCells (h.push { cls := .type "frame", data := .dict #[] }) scope.names) := fun a o e => pushCells_keeps _ _ a o (Heap.get?_push_of_some _ e)
  have hL : (pushCells (h.push { cls := .type "frame", data := .dict #[] }) scope.names).get? h.objs.size = some { cls := .type "frame", data := .dict #[] } := pushCells_keeps _ _ _ _ (Heap.get?_push_size _ rfl)
  have sz : (h.push { cls := .type "frame", data := .dict #[] }).objs.size = h.objs.size + 1 := Heap.size_push ..
  have fresh : ∀ a, h.objs.size ≤ a → h.get? a = none := fun a ha => by
    cases e : h.get? a with
    | none => rfl
    | some o => exact absurd (Heap.lt_size e) (Nat.not_lt.mpr ha)
  have freshB : ∀ a, h.objs.size ≤ a → X.base a = none := fun a ha => by
    cases e : X.base a with
    | none => rfl
    | some o => have := R.keep a o e; rw [fresh a ha] at this; cases this
  have newc : ∀ {x c}, (x, c) ∈ cellsFrom (h.objs.size + 1) scope.names [] → (pushCells (h.push { cls := .type "frame", data := .dict #[] }) scope.names).get? c = some { cls := .type "cell", data := .cell none } ∧ h.objs.size ≤ c := fun {x c} q => by
    have := pushCells_obj scope.names (h.push { cls := .type "frame", data := .dict #[] }) (x := x) (c := c) (by rw [sz]; exact q)
    exact ⟨this.1, by have := this.2; rw [sz] at this; (first | lia | omega)⟩
  have cells : ∀ {x c}, (funE scope cl h.objs.size qual func code).cells.lookup x = some c → (x, c) ∈ cellsFrom (h.objs.size + 1) scope.names [] ∨ (x, c) ∈ cl := fun {x c} q => by
    have q : (cellsFrom (h.objs.size + 1) scope.names cl).lookup x = some c := q
    rw [cellsFrom_acc] at q
    exact List.mem_append.mp (mem_of_lookup q)
  have isCell : ∀ {x}, (x, NameKind.cell) ∈ scope.names → (x, NameKind.free) ∉ scope.names := fun {x} q q' => by
    have e1 := lookup_of_mem C.nodup q
    have e2 := lookup_of_mem C.nodup q'
    rw [e1] at e2; cases e2
  have some_of : ∀ {x c}, ((x, c) ∈ cellsFrom (h.objs.size + 1) scope.names [] ∨ (x, c) ∈ cl) → ∃ c', (funE scope cl h.objs.size qual func code).cells.lookup x = some c' := fun {x c} q => by
    cases e : (funE scope cl h.objs.size qual func code).cells.lookup x with
    | some c' => exact ⟨c', rfl⟩
    | none =>
      exfalso
      have e : (cellsFrom (h.objs.size + 1) scope.names cl).lookup x = none := e
      rw [cellsFrom_acc, List.lookup_eq_none_iff] at e
      have := e (x, c) (List.mem_append.mpr q)
      simp at this
  refine ⟨⟨rfl, C.kind, rfl, rfl, R.new, fun x c e => ?_, ⟨R.newBase, fun o e => ?_⟩, fun x c hx e => ?_, ⟨fun _ => none, ⟨_, #[], 0, hL, rfl, fun _ he => by simp at he, fun _ => rfl⟩, fun x v hv hx => ?_⟩, fun x v hv hx => ?_, fun x hx => ?_, fun x c e => ?_, fun x y c e1 e2 => ?_⟩, kp, fun x c hx e => ?_⟩
  · rcases cells e with q | q
    · exact fun m => absurd (R.low c m) (Nat.not_lt.mpr (newc q).2)
    · exact (C.free x c q).2.1
  · have e : (pushCells (h.push { cls := .type "frame", data := .dict #[] }) scope.names).get? h.objs.size = some o := e
    rw [hL] at e; cases e; exact .inl ⟨_, _, rfl⟩
  · rcases cells e with q | q
    · exact ⟨freshB c (newc q).2, fun o e => by rw [(newc q).1] at e; cases e; exact .inr (.inl ⟨_, rfl⟩)⟩
    · exact absurd (C.free x c q).1 (isCell (mem_of_lookup hx))
  · have := lookup_of_mem C.nodup (C.val x v hv).1
    rw [hx] at this; cases this
  · obtain ⟨hf, hc⟩ := C.val x v hv
    obtain ⟨c, hcl⟩ := C.has x hf
    obtain ⟨c', e⟩ := some_of (.inr hcl)
    rcases cells e with q | q
    · exact absurd hf (isCell (cellsFrom_names _ _ q))
    · obtain ⟨r, ⟨o, e4, e5⟩, e6⟩ := hc c' q
      exact ⟨c', r, e, ⟨o, kp _ _ e4, e5⟩, e6.pres kp.pres⟩
  · rcases hx with q | q
    · obtain ⟨c, hc⟩ := cellsFrom_has scope.names (h.objs.size + 1) (mem_of_lookup q)
      exact some_of (.inl hc)
    · obtain ⟨c, hc⟩ := C.has x (mem_of_lookup q)
      exact some_of (.inr hc)
  · rcases cells e with q | q
    · exact ⟨none, _, (newc q).1, rfl⟩
    · obtain ⟨ov, o, e2, e3⟩ := (C.free x c q).2.2
      exact ⟨ov, o, kp _ _ e2, e3⟩
  · rcases cells e1 with q1 | q1 <;> rcases cells e2 with q2 | q2
    · exact (cellsFrom_inj _ _ q1 q2).1
    · obtain ⟨ov, o, e3, _⟩ := (C.free y c q2).2.2
      rw [fresh c (newc q1).2] at e3; cases e3
    · obtain ⟨ov, o, e3, _⟩ := (C.free x c q1).2.2
      rw [fresh c (newc q2).2] at e3; cases e3
    · exact C.inj x y c q1 q2
  · rcases cells e with q | q
    · exact fresh c (newc q).2
    · exact absurd (C.free x c q).1 (isCell (mem_of_lookup hx))

theorem bind_params {sc : Scope} {env : Env} {A : Around} {E : Value → Shared → Prop} (f : Str × Value → PUnit → Sem (ForInStep PUnit)) (hf : ∀ n v u, f (n, v) u = (do storeName env n v; pure (.yield ⟨⟩))) (h0 : Heap)
    (nl : h0.get? env.locals = none) (ncl : ∀ x c, sc.names.lookup x = some .cell → env.cells.lookup x = some c → h0.get? c = none) :
    ∀ (pb : List (Str × PVal)) (binds : List (Str × Value)) (V : PV) (s : Shared) (Q : PUnit → Shared → Prop), (∀ p ∈ pb, sc.names.lookup p.1 = some .local ∨ sc.names.lookup p.1 = some .cell) → NRels X ρ s.heap pb binds → HRel X ρ H s.heap → FRel X ρ sc env V s.heap → Keeps h0 s.heap →
      (∀ h' tk', HRel X ρ H h' → FRel X ρ sc env (bindV pb V) h' → Keeps h0 h' → Q ⟨⟩ { s with heap := h', toks := tk' }) → wpAny X.M A (forIn binds ⟨⟩ f) Q E s
  | [], _, V, s, Q, _, .nil, R, F, kp, k => by rw [List.forIn_nil]; exact wpAny_pure (k s.heap s.toks R F kp)
  | (x, v) :: pb, _, V, s, Q, hk, .cons (rs := rs) a r, R, F, kp, k => by
    rw [List.forIn_cons, hf]
    refine wpAny_bind (wpAny_bind (store_sound R F (hk _ (.head _)) a fun h' tk' tgt R' F' ht ke => wpAny_pure ?_))
    have mt : Mach X s.heap tgt := by
      rcases ht with rfl | ⟨q1, q2⟩
      · exact F.ml
      · exact F.mc x tgt q1 q2
    refine bind_params f hf h0 nl ncl pb rs _ { s with heap := h', toks := tk' } Q (fun p hp => hk p (.tail _ hp)) (r.but mt ke) R' F' (fun b o e => ke b o (fun q => ?_) (kp b o e)) fun h2 t2 R2 F2 k2 => k h2 t2 R2 F2 k2
    rcases ht with rfl | ⟨q1, q2⟩
    · rw [q, nl] at e; cases e
    · rw [q, ncl x tgt q1 q2] at e; cases e

noncomputable def BindOk (X : Cx) (fd : FuncData) (args : List PVal) (pb : List (Str × PVal)) : Prop :=
  ∀ (s : Shared) (ρ : List Addr) (H : PH) (A : Around) (Q : List (Str × Value) → Shared → Prop) (E : Value → Shared → Prop) (xs : List Value), HRel X ρ H s.heap → VRels X ρ s.heap args xs →
    (∀ binds h' tk', Keeps s.heap h' → NRels X ρ h' pb binds → Q binds { s with heap := h', toks := tk' }) → wpAny X.M A (bindArgs fd ⟨xs, []⟩) Q E s

theorem HRel.freeze' {σ : List Addr} {D : Addr} {K : PH} {h : Heap} {j : Nat} (R : HRel X (ρ ++ σ) K h) {vs : List PVal} (hj : ρ.length ≤ j) (eD : (ρ ++ σ)[j]? = some D) (e : K[j]? = some vs) : VRel X ρ h (.lst vs) (.ref D) := by
  obtain ⟨xs, p, r⟩ := R.objs j D vs eD e
  refine .by (.lst p (fun q => ?_) r.less)
  rw [List.getElem?_append_right hj] at eD
  have hD : D ∈ σ := List.mem_of_getElem? eD
  rcases List.mem_append.mp q with q | q
  · exact (List.nodup_append.mp R.nodup).2.2 D q D hD rfl
  · exact R.apart D (List.mem_append_right _ hD) q
theorem retV_sound {σ : List Addr} {K : PH} {h : Heap} {v w : PVal} {x : Value} (R : HRel X (ρ ++ σ) K h) (hv : retV ρ.length K v = some w) (r : VRel X (ρ ++ σ) h v x) : VRel X ρ h w x := by
  cases r with
  | ref e =>
    unfold retV at hv
    split at hv
    · rename_i j hj; cases hj
      split at hv
      · rename_i hlt; cases hv; rw [List.getElem?_append_left hlt] at e; exact .ref e
      · rename_i hlt
        obtain ⟨vs, e2, e3⟩ := Option.map_eq_some_iff.mp hv
        cases e3
        exact R.freeze' (Nat.le_of_not_lt hlt) e e2
    · rename_i hn; exact absurd rfl (hn _)
  | «by» b =>
    unfold retV at hv
    split at hv
    · cases b
    · cases hv; exact .by b.less

end
end Mine

end

/- Ev20 -/
section
open PySem PySem.W PyProof.Rows
set_option maxRecDepth 100000
namespace Mine

section
variable {X : Cx}

theorem VRels.zip {ρ : List Addr} {h : Heap} : ∀ {names : List Str} {vs : List PVal} {xs : List Value}, VRels X ρ h vs xs → NRels X ρ h (names.zip vs) (names.zip xs)
  | [], _, _, _ => by simp; exact .nil
  | _ :: _, _, _, .nil => .nil
  | _ :: _, _, _, .cons a r => .cons a (VRels.zip r)
theorem BindOk.of {fd : FuncData} {args : List PVal} (names : List Str) (hl : args.length = names.length) (h : ∀ xs : List Value, xs.length = names.length → bindArgs fd ⟨xs, []⟩ = pure (names.zip xs)) : BindOk X fd args (names.zip args) := by
  intro s ρ H A Q E xs R ra k
  rw [h xs (by rw [← ra.length, hl])]
  exact wpAny_pure (k _ s.heap s.toks (Keeps.refl _) ra.zip)
theorem BindOk.star {fd : FuncData} {a : PVal} {rest : List PVal} {x y : Str} (hb : allBy rest = true) (hn : rest.length ≤ sizeLine) (h : ∀ (p : Value) (xs : List Value), bindArgs fd ⟨p :: xs, []⟩ = (do let t ← newTuple xs; pure [(x, p), (y, t)])) :
    BindOk X fd (a :: rest) [(x, a), (y, .tup rest)] := by
  intro s ρ H A Q E xs R ra k
  cases ra with
  | cons ra rr =>
    rw [h]
    have r := rr.byvals hb
    have hlen := r.length
    have kp := Keeps.push s.heap
    refine wpAny_bind (wpAny_newObj_type ?_ (by rename_i xs; show xs.toArray.size ≤ sizeLine; rw [List.size_toArray, ← hlen]; exact hn))
    exact wpAny_pure (k _ _ s.toks (kp _) (.cons (ra.pres (kp _).pres) (.cons (newTup (n := 0) R r) .nil)))
end
end Mine

end

/- Ev21 -/
section
open PySem PySem.W PyProof.Rows
set_option maxRecDepth 100000
namespace Mine

section
variable {M : Model} {A : Around} {E : Value → Shared → Prop} {s : Shared} {name qual : Str} {params : Arguments} {body : List Stmt} {scope : Scope} {env : Env} {c P : Addr} {ps : Array Value} {pos : Pos} {firstLine : Nat} {mg : Str → Option Value}
  {clos : List (Str × Addr)} {Q : Value → Shared → Prop}
/-- a new closure: its code object is new, and so is the entry in the table -/
theorem mk_new (hcl : closureFor scope env = pure clos) (hne : clos ≠ []) (hge0 : env.globals = mainGlobals) (hg : s.heap.Ns mainGlobals mg) (hcode : env.code = .ref c) (C : CodeHd s.heap c P) (hP : s.heap.get? P = some (tabObj ps)) (ht : TriplesOk ps.toList)
    (hnf : codeAmong pos ps.toList = none) (hgP : mainGlobals ≠ P) (hb : s.heap.BuiltinsAt mg P)
    (h : ∀ c' ctv doc h' tk, Heap.ExtBut P s.heap h' → s.heap.objs.size ≤ c' → c' < h'.objs.size → h'.CodeRec (.ref c') qual → (∃ oc vs, h'.get? c' = some oc ∧ oc.cls = .type "code" ∧ oc.data = .fields vs) → h'.get? P = some (tabObj (ps ++ #[rawInt pos.line, rawInt pos.col, .ref c'])) →
      Q (.ref h'.objs.size) { s with heap := h'.push (fnMade name qual params body scope clos doc ((mg "__name__").getD .none) c' ctv), toks := tk }) :
    wpAny M A (makeFunction name qual params (.stmts body) scope env [] [] [] pos firstLine) Q E s := by
  rw [makeFunction_eq]
  simp only [List.zip_nil_right, List.filterMap_nil, List.isEmpty_nil, if_true, pure_bind]
  obtain ⟨bm, ob, hbm, hne0, _, hneP, hbo, hcls, hdict, hdata⟩ := hb
  unfold makeTail
  rw [hcl, hge0]
  refine wpAny_bind (wpAny_pure ?_)
  cases clos with
  | nil => exact absurd rfl hne
  | cons q r =>
    simp only [List.isEmpty_cons, Bool.false_eq_true, if_false]
    refine wpAny_bind (wpAny_newTextTuple ?_)
    refine wpAny_bind (wpAny_functionCodeX hcode ((C.keeps fun b o e => Heap.get?_push_of_some _ e).code (Heap.get?_push_of_some _ hP) ht) ((C.keeps fun b o e => Heap.get?_push_of_some _ e).tab (Heap.get?_push_of_some _ hP)) hnf fun c' h' tk hx hge hlt _ hrec htb hnew => ?_)
    have hg' := (hg.push _).extBut hx hgP
    have hx' : Heap.ExtBut P s.heap h' := fun b o hb' e => hx b o hb' (Heap.get?_push_of_some _ e)
    have hge' : s.heap.objs.size ≤ c' := Nat.le_trans (by rw [Heap.size_push]; (first | lia | omega)) hge
    have hco : ∃ oc vs, h'.get? c' = some oc ∧ oc.cls = .type "code" ∧ oc.data = .fields vs := by
      obtain ⟨P', _, _, ⟨⟨oc, vs, a, b, d, _⟩, _⟩⟩ := hnew
      exact ⟨oc, vs, a, b, d⟩
    refine wpAny_bind (wpAny_builtinsFor hg' hbm hne0 (hx' _ _ hneP hbo) hcls hdict hdata ?_)
    refine wpAny_bind (wpAny_nsGet hg' ?_)
    cases hdoc : docOf body with
    | none => exact wpAny_bind (wpAny_pure (wpAny_newObj_type (h c' _ .none h' tk hx' hge' hlt hrec hco htb.2) (by size_fits)))
    | some t => exact wpAny_bind (wpAny_mkText (wpAny_newObj_type (h c' _ _ h' _ hx' hge' hlt hrec hco htb.2) (by size_fits)))
end
end Mine

end

/- Ev22 -/
section
open PySem PySem.W PyProof.Rows
set_option maxRecDepth 100000
namespace Mine

/-- the table of a code object: empty, or with the one nested code -/
noncomputable def TabI (h : Heap) (P : Addr) (qual : Str) (pos : Pos) : Prop :=
  h.get? P = some (tabObj #[]) ∨ ∃ c' oc vs t, h.get? P = some (tabObj #[rawInt pos.line, rawInt pos.col, .ref c']) ∧ h.get? c' = some oc ∧ oc.cls = .type "code" ∧ oc.data = .fields vs ∧ vs[1]? = some (.str qual t)
theorem TabI.at {h : Heap} {P : Addr} {qual : Str} {pos : Pos} (x : TabI h P qual pos) : ∃ ps, h.get? P = some (tabObj ps) := by
  rcases x with e | ⟨c', oc, vs, t, e, _⟩ <;> exact ⟨_, e⟩
theorem TabI.kept {h h' : Heap} {P : Addr} {qual : Str} {pos : Pos} (x : TabI h P qual pos) (k : ∀ a o, h.get? a = some o → isKeyO o → h'.get? a = some o) : TabI h' P qual pos := by
  rcases x with e | ⟨c', oc, vs, t, e, e1, e2, e3, e4⟩
  · exact .inl (k _ _ e ⟨.inr rfl, _, rfl⟩)
  · exact .inr ⟨c', oc, vs, t, k _ _ e ⟨.inr rfl, _, rfl⟩, k _ _ e1 ⟨.inl e2, vs, e3⟩, e2, e3, e4⟩

noncomputable def Cx.keep (X : Cx) (h : Heap) : Prop := ∀ b o, X.base b = some o → h.get? b = some o

structure NestOk (X : Cx) (c P : Addr) (qual : Str) (pos : Pos) : Prop where
  hP : P ∈ X.T
  code : ∀ h, X.keep h → CodeHd h c P
  blt : ∀ h, X.keep h → h.BuiltinsAt X.mg P
  gP : mainGlobals ≠ P
  tab : ∀ h, X.TI h → TabI h P qual pos
  upd : ∀ h h', X.TI h → (∀ b o, b ≠ P → h.get? b = some o → h'.get? b = some o) → TabI h' P qual pos → X.TI h'
  tcl : ∀ h, X.TI h → ∀ a ∈ X.T, ∃ ps, h.get? a = some (tabObj ps)

section
variable {X : Cx} {ρ : List Addr} {H : PH}

theorem HRel.table {h h' : Heap} {c P : Addr} {qual : Str} {pos : Pos} (N : NestOk X c P qual pos) (R : HRel X ρ H h) (hx : ∀ b o, b ≠ P → h.get? b = some o → h'.get? b = some o) (ht : TabI h' P qual pos) : HRel X ρ H h' ∧ Pres X ρ h h' := by
  have hPb : P ∈ X.ban ρ := List.mem_append_right _ N.hP
  have pr : Pres X ρ h h' := fun a o e n => hx a o (fun q => n (q ▸ hPb)) e
  refine ⟨⟨fun b o e => hx b o (fun q => ?_) (R.keep b o e), R.nodup, R.apart, R.fresh, R.len, fun i a vs e1 e2 => ?_, fun a ha => ?_, N.upd h h' R.ti hx ht, R.pre⟩, pr⟩
  · rw [q, R.fresh P hPb] at e; cases e
  · obtain ⟨xs, ⟨n, e⟩, r⟩ := R.objs i a vs e1 e2
    exact ⟨xs, ⟨n, hx _ _ (fun q => R.apart a (List.mem_of_getElem? e1) (q ▸ N.hP)) e⟩, r.pres pr⟩
  · by_cases q : a = P
    · subst q
      obtain ⟨ps, e⟩ := ht.at
      exact ⟨_, e, .inr rfl, _, rfl⟩
    · obtain ⟨o, e, c⟩ := R.tobs a ha
      exact ⟨o, hx a o q e, c⟩

theorem mk_any {M : Model} {A : Around} {E : Value → Shared → Prop} {s : Shared} {name qual : Str} {params : Arguments} {body : List Stmt} {scope : Scope} {env : Env} {c P : Addr} {pos : Pos} {firstLine : Nat} {clos : List (Str × Addr)} {Q : Value → Shared → Prop}
    (N : NestOk X c P qual pos) (R : HRel X ρ H s.heap) (hcl : closureFor scope env = pure clos) (hne : clos ≠ []) (hge0 : env.globals = mainGlobals) (hcode : env.code = .ref c)
    (k : ∀ c' oc vs t ctv doc pm h' tk, HRel X ρ H h' → Pres X ρ s.heap h' → h'.get? c' = some oc → oc.cls = .type "code" → oc.data = .fields vs → vs[1]? = some (.str qual t) →
      Q (.ref h'.objs.size) { s with heap := h'.push (fnMade name qual params body scope clos doc pm c' ctv), toks := tk }) :
    wpAny M A (makeFunction name qual params (.stmts body) scope env [] [] [] pos firstLine) Q E s := by
  have hg := X.glob _ R.keep
  rcases N.tab _ R.ti with e | ⟨c', oc, vs, t, e, e1, e2, e3, e4⟩
  · refine mk_new hcl hne hge0 hg hcode (N.code _ R.keep) e trivial rfl N.gP (N.blt _ R.keep) fun c' ctv doc h' tk hx hge hlt hrec hoc htab => ?_
    obtain ⟨c2, oc, vs, t, q, e1, e3, e4⟩ := hrec
    cases q
    obtain ⟨oc', vs', e1', e2', e3'⟩ := hoc
    rw [e1] at e1'; cases e1'
    have htab : h'.get? P = some (tabObj #[rawInt pos.line, rawInt pos.col, .ref c']) := by rw [htab]; rfl
    obtain ⟨R', p'⟩ := R.table N (fun b o hb e => hx b o hb e) (.inr ⟨c', oc, vs, t, htab, e1, e2', e3, e4⟩)
    exact k c' oc vs t ctv doc _ h' tk R' p' e1 e2' e3 e4
  · refine makeFunction_hit (cv := .ref c') hcl hge0 hg hcode (N.code _ R.keep) e (by simp [TriplesOk, rawInt]) (by simp [codeAmong, rawInt]) (N.blt _ R.keep) fun ctv doc h' tk kp _ => ?_
    exact k c' oc vs t ctv doc _ h' tk (R.keeps kp) (Keeps.pres kp) (kp _ _ e1) e2 e3 e4
end

/-- the context with more that stands -/
noncomputable def Cx.ext (X : Cx) (ex : List (Addr × Obj)) (pre' : List Addr) : Cx where
  prog := X.prog
  w := X.w
  base := fun a => match X.base a with
    | some o => some o
    | none => ex.lookup a
  T := X.T
  TI := X.TI
  pre := pre'
  mg := X.mg
  mb := X.mb
  tik := X.tik
  glob := fun h k => X.glob h fun b o e => k b o (by simp only [e])
  blt := fun h k => X.blt h fun b o e => k b o (by simp only [e])
  lim := fun h k => X.lim h fun b o e => k b o (by simp only [e])

section
variable {X : Cx} {ρ : List Addr} {H : PH} {ex : List (Addr × Obj)} {pre' : List Addr} {h h' : Heap}

theorem HRel.toExt (R : HRel X ρ H h) (hk : ∀ p ∈ ex, h.get? p.1 = some p.2) (hn : ∀ p ∈ ex, p.1 ∉ X.ban ρ) (hp : pre' <+: ρ) : HRel (X.ext ex pre') ρ H h where
  keep := fun b o e => by
    have e : (match X.base b with | some o => some o | none => ex.lookup b) = some o := e
    cases q : X.base b with
    | some o' => rw [q] at e; cases e; exact R.keep b o q
    | none => rw [q] at e; exact hk _ (mem_of_lookupK e)
  nodup := R.nodup
  apart := R.apart
  fresh := fun a ha => by
    show (match X.base a with | some o => some o | none => ex.lookup a) = none
    rw [R.fresh a ha]
    cases q : ex.lookup a with
    | none => rfl
    | some o => exact absurd ha (hn _ (mem_of_lookupK q))
  len := R.len
  objs := R.objs
  tobs := R.tobs
  ti := R.ti
  pre := hp
theorem HRel.ofExt (R : HRel (X.ext ex pre') ρ H h) (hp : X.pre <+: ρ) : HRel X ρ H h where
  keep := fun b o e => R.keep b o (by show (match X.base b with | some o => some o | none => ex.lookup b) = some o; rw [e])
  nodup := R.nodup
  apart := R.apart
  fresh := fun a ha => by
    have e : (match X.base a with | some o => some o | none => ex.lookup a) = none := R.fresh a ha
    cases q : X.base a with
    | none => rfl
    | some o => rw [q] at e; cases e
  len := R.len
  objs := R.objs
  tobs := R.tobs
  ti := R.ti
  pre := hp
theorem VRel.toExt {v : PVal} {x : Value} (r : VRel X ρ h v x) : VRel (X.ext ex pre') ρ h v x := by
  cases r with
  | «by» r => exact .by r
  | ref e => exact .ref e
theorem VRel.ofExt {v : PVal} {x : Value} (r : VRel (X.ext ex pre') ρ h v x) : VRel X ρ h v x := by
  cases r with
  | «by» r => exact .by r
  | ref e => exact .ref e
theorem VRels.toExt : ∀ {v : List PVal} {x : List Value}, VRels X ρ h v x → VRels (X.ext ex pre') ρ h v x
  | _, _, .nil => .nil
  | _, _, .cons a r => .cons a.toExt (VRels.toExt r)

/-- a closure's cells stand -/
theorem clo_of {scope : Scope} {cl : List (Str × Addr)} {V0 : PV} (hk : scope.kind = .function) (hn : (scope.names.map (·.1)).Nodup) (c1 : ∀ n c, (n, c) ∈ cl → (n, NameKind.free) ∈ scope.names) (c2 : ∀ n, (n, NameKind.free) ∈ scope.names → ∃ c, (n, c) ∈ cl)
    (inj : ∀ x y c, (x, c) ∈ cl → (y, c) ∈ cl → x = y) (cells : ∀ n c, (n, c) ∈ cl → ∃ o ov, X.base c = some o ∧ o.data = .cell ov)
    (val : ∀ x v, V0 x = some v → (x, NameKind.free) ∈ scope.names ∧ ∀ c, (x, c) ∈ cl → ∃ o r, X.base c = some o ∧ o.data = .cell (some r) ∧ ∀ ρ h H, HRel X ρ H h → VRel X ρ h v r) :
    ∀ ρ h H, HRel X ρ H h → CloOk X ρ h scope cl V0 := fun ρ h H R => by
  refine ⟨hk, hn, fun n c hm => ?_, c2, inj, fun x v hv => ⟨(val x v hv).1, fun c hc => ?_⟩⟩
  · obtain ⟨o, ov, e, d⟩ := cells n c hm
    refine ⟨c1 n c hm, fun q => ?_, ov, o, R.keep _ _ e, d⟩
    rw [R.fresh c q] at e; cases e
  · obtain ⟨o, r, e, d, k⟩ := (val x v hv).2 c hc
    exact ⟨r, ⟨o, R.keep _ _ e, d⟩, k ρ h H R⟩
end

/-- statements in a frame whose code object and name are known -/
noncomputable def SimSsC (X : Cx) (d : Nat) (sc : Scope) (code : Value) (qual : Str) (sts : List Stmt) (g : SF) : Prop :=
  ∀ (V : PV) (H : PH) (fl : PFlow) (V' : PV) (H' : PH) (env : Env) (s : Shared) (ρ : List Addr) (A : Around) (Q : Flow → Shared → Prop) (E : Value → Shared → Prop), env.code = code → env.qual = qual →
    g V H = some (fl, V', H') → Room d A → HRel X ρ H s.heap → FRel X ρ sc env V s.heap → SCont X sc env ρ fl V' H' s Q → wpAny X.M A (execs sts env) Q E s
theorem SimSs.toC {X : Cx} {d : Nat} {sc : Scope} {code : Value} {qual : Str} {sts : List Stmt} {g : SF} (h : SimSs X d sc sts g) : SimSsC X d sc code qual sts g :=
  fun V H fl V' H' env s ρ A Q E _ _ hf hA R F k => h V H fl V' H' env s ρ A Q E hf hA R F k
theorem simsC_cons {X : Cx} {d : Nat} {sc : Scope} {code : Value} {qual : Str} {st : Stmt} {rest : List Stmt} {g k : SF} (h1 : SimS X d sc st g) (h2 : SimSsC X d sc code qual rest k) : SimSsC X d sc code qual (st :: rest) (sSeq g k) := by
  intro V H fl V' H' env s ρ A Q E hc hq hf hA R F kk
  obtain ⟨⟨fl1, V1, H1⟩, e1, hf⟩ := Option.bind_eq_some_iff.mp hf
  refine wpAny_execs_cons (h1 V H fl1 V1 H1 env s ρ A _ _ e1 hA R F fun σ f h' tk' fr R1 F1 fr1 m1 => ?_)
  cases fr1 with
  | ret r => cases hf; exact kk σ _ h' tk' fr R1 F1 (.ret r) m1
  | next =>
    refine h2 V1 H1 fl V' H' env _ (ρ ++ σ) A _ _ hc hq hf hA R1 F1 fun σ' f h'' tk'' fr' R2 F2 fr2 m2 => ?_
    rw [List.append_assoc] at R2 F2 fr2
    refine kk (σ ++ σ') f h'' tk'' (fun a ha => ?_) R2 F2 fr2 (m1.trans fr m2)
    rcases List.mem_append.mp ha with q | q
    · exact fr a q
    · exact m1.ex R1 F1 (fr' a q)

theorem call_soundC {X : Cx} {d : Nat} {f : Addr} {o : Obj} {fd : FuncData} {body : List Stmt} {args : List PVal} {pb : List (Str × PVal)} {V0 : PV} {g : SF} {v : PVal} {H H' : PH}
    (hb : X.base f = some o) (hd : o.data = .func fd) (hbody : fd.body = .stmts body) (hco : fd.scope.isCoroutine = false) (hgen : fd.scope.isGenerator = false) (hgl : fd.globals = mainGlobals) (hbu : fd.builtins = builtinsNs)
    (hcd : ∀ h : Heap, (∀ b o, X.base b = some o → h.get? b = some o) → h.CodeRec fd.code fd.qualname)
    (hbind : BindOk X fd args pb) (hpk : ∀ p ∈ pb, fd.scope.names.lookup p.1 = some .local ∨ fd.scope.names.lookup p.1 = some .cell)
    (hclo : ∀ ρ h H, HRel X ρ H h → CloOk X ρ h fd.scope fd.closure V0)
    (hs : SimSsC X d fd.scope fd.code (fd.qualname ++ ".<locals>.") body g) (hr : runF V0 pb g H = some (v, H')) : CallS X (d + 1) f args H v H' := by
  refine ⟨⟨o, fd, hb, hd⟩, fun s ρ A Q E xs hA R ra k => ?_⟩
  refine wpAny_call (codeAny_call_function (by have := hA.dep; (first | lia | omega)) (R.keep _ _ hb) hd hco hgen hbody (hcd _ R.keep) ?_)
  refine hbind s ρ H _ _ _ xs R ra fun binds h1 t1 k1 nr => ?_
  have R1 := R.keeps k1
  simp only [newFunctionEnv, Option.isSome_none, Bool.false_eq_true, if_false]
  refine wpAny_bind (wpAny_alloc ?_)
  refine wpAny_bind (wpAny_layCells _ (fun name kind cells => by cases hkc : kind == NameKind.cell <;> simp [hkc]) _ _ _ _ ?_)
  dsimp only
  rw [show (h1.push { cls := .type "frame", data := .dict #[] }).objs.size = h1.objs.size + 1 from Heap.size_push .., hgl, hbu]
  obtain ⟨F2, k2, nc⟩ := fun_frame (qual := fd.qualname ++ ".<locals>.") (func := some f) (code := fd.code) R1 (hclo ρ h1 H R1)
  have R2 := R1.keeps k2
  refine wpAny_bind (bind_params (X := X) (ρ := ρ) (H := H) (sc := fd.scope) (env := funE fd.scope fd.closure h1.objs.size (fd.qualname ++ ".<locals>.") (some f) fd.code) _ (fun _ _ _ => rfl) h1 (size_none _) nc pb binds V0 _ _ hpk (nr.keeps k2) R2 F2 k2 fun h3 t3 R3 F3 k3 => ?_)
  refine wpAny_pure ⟨X.lim _ R3.keep, codeAny_func ?_⟩
  have nl : h1.get? h1.objs.size = none := size_none _
  obtain ⟨⟨fl, V', K⟩, eg, hr⟩ := Option.bind_eq_some_iff.mp hr
  refine hs (bindV pb V0) H fl V' K _ { s with heap := h3, toks := t3 } ρ _ _ _ rfl rfl eg (hA.deeper _) R3 F3 fun σ fw h4 t4 fr R4 F4 fr4 mv => ?_
  have P4 : Pres X ρ s.heap h4 := fun a o e n => by
    have e1 := k1 a o e
    refine mv a o (k3 a o e1) n (fun q => ?_) fun y hy1 hy2 => ?_
    · have q : a = h1.objs.size := q
      rw [q, nl] at e1; cases e1
    · rw [nc y a hy1 hy2] at e1; cases e1
  have hl := R.len
  have R5 := R4.drop R.pre
  rw [hl] at R5
  cases fr4 with
  | next => cases hr; exact k .none h4 t4 R5 (.by .none) P4
  | ret rv =>
    obtain ⟨w, e1, e2⟩ := Option.map_eq_some_iff.mp hr
    cases e2
    rw [← hl] at e1
    exact k _ h4 t4 R5 (retV_sound R4 e1 rv) P4
theorem call_sound {X : Cx} {d : Nat} {f : Addr} {o : Obj} {fd : FuncData} {body : List Stmt} {args : List PVal} {pb : List (Str × PVal)} {V0 : PV} {g : SF} {v : PVal} {H H' : PH}
    (hb : X.base f = some o) (hd : o.data = .func fd) (hbody : fd.body = .stmts body) (hco : fd.scope.isCoroutine = false) (hgen : fd.scope.isGenerator = false) (hgl : fd.globals = mainGlobals) (hbu : fd.builtins = builtinsNs)
    (hcd : ∀ h : Heap, (∀ b o, X.base b = some o → h.get? b = some o) → h.CodeRec fd.code fd.qualname)
    (hbind : BindOk X fd args pb) (hpk : ∀ p ∈ pb, fd.scope.names.lookup p.1 = some .local ∨ fd.scope.names.lookup p.1 = some .cell)
    (hclo : ∀ ρ h H, HRel X ρ H h → CloOk X ρ h fd.scope fd.closure V0)
    (hs : SimSs X d fd.scope body g) (hr : runF V0 pb g H = some (v, H')) : CallS X (d + 1) f args H v H' :=
  call_soundC hb hd hbody hco hgen hgl hbu hcd hbind hpk hclo hs.toC hr
end Mine

end

/- Ev23 -/
section
open PySem PySem.W PyProof.Rows
set_option maxRecDepth 100000
namespace Mine

noncomputable abbrev PF := List PVal → PH → Option (PVal × PH)
/-- the def at fa does what F says -/
noncomputable def FS (X : Cx) (d : Nat) (fa : Addr) (F : PF) : Prop := ∀ vs H v H', F vs H = some (v, H') → CallS X d fa vs H v H'
noncomputable def fCallF (F : PF) (g : LF) : EF := fun V H => (g V H).bind fun q => F q.1 q.2

theorem CallS.up {X : Cx} {d d' : Nat} {fa : Addr} {vs : List PVal} {H : PH} {v : PVal} {H' : PH} (h : CallS X d fa vs H v H') (hd : d ≤ d') : CallS X d' fa vs H v H' :=
  ⟨h.1, fun s ρ A Q E xs hA => h.2 s ρ A Q E xs (hA.less hd)⟩
theorem FS.up {X : Cx} {d d' : Nat} {fa : Addr} {F : PF} (h : FS X d fa F) (hd : d ≤ d') : FS X d' fa F := fun vs H v H' e => (h vs H v H' e).up hd

theorem sim_callF {X : Cx} {d : Nat} {sc : Scope} {fn e : Expr} {es : List Expr} {pos : Pos} {fa : Addr} {F : PF} {g : LF} (hc : ∀ env, eval (.Call fn (e :: es) [] pos) env = (do callWith pos (← eval fn env) [] (backTo pos (starEach (e :: es) env)) []))
    (he : ∀ env, starEach (e :: es) env = (false, eval e env) :: starEach es env)
    (hG : FS X d fa F) (hf : SimE X d sc fn (fConst (.val (.ref fa)))) (ha : SimL X d sc (e :: es) g) : SimE X d sc (.Call fn (e :: es) [] pos) (fCallF F g) := by
  have h := sim_call (G := fun a vs H => if a = fa then F vs H else none) hc he (fun a vs H v H' e => by
    dsimp only at e
    split at e
    · rename_i q; subst q; exact hG vs H v H' e
    · cases e) hf ha
  have e : fCall (fConst (.val (.ref fa))) (fun a vs H => if a = fa then F vs H else none) g = fCallF F g := by
    funext V H
    unfold fCall fCallF fConst
    simp
  rw [e] at h
  exact h

noncomputable def compOk (scope sc : Scope) (xs : List Str) : Bool :=
  (scope.kind == .function) && decide ((scope.names.map (·.1)).Nodup) && scope.names.all (fun p => !(p.2 == .free) || (sc.names.lookup p.1 == some .cell || sc.names.lookup p.1 == some .free)) &&
    xs.all fun x => scope.names.contains (x, .local) || scope.names.contains (x, .cell)
theorem CompScope.of {scope sc : Scope} {xs : List Str} (h : compOk scope sc xs = true) : CompScope scope sc xs := by
  unfold compOk at h
  simp only [Bool.and_eq_true, List.all_eq_true, decide_eq_true_eq] at h
  obtain ⟨⟨⟨h1, h2⟩, h3⟩, h4⟩ := h
  refine ⟨by simpa using h1, h2, fun n k hm hk => ?_, fun x hx => ?_⟩
  · have := h3 (n, k) hm
    subst hk
    simpa using this
  · have := h4 x hx
    simpa using this

noncomputable def BltOk (X : Cx) : Prop := ∀ x : Str, x ∈ (["len", "sum", "divmod", "range", "list", "reversed"] : List Str) → X.mg x = none ∧ X.mb x = bootBuiltins x

noncomputable def bodyOf : Stmt → List Stmt
  | .FunctionDef _ _ body _ _ _ _ _ _ _ => body
  | _ => []
noncomputable def scopeOf : Stmt → Scope
  | .FunctionDef _ _ _ _ _ _ scope _ _ _ => scope
  | _ => default
noncomputable def paramsOf : Stmt → Arguments
  | .FunctionDef _ params _ _ _ _ _ _ _ _ => params
  | _ => default
noncomputable def posOf : Stmt → Pos
  | .FunctionDef _ _ _ _ _ _ _ _ _ pos => pos
  | _ => default
noncomputable def bodyIn (b : List Stmt) (i : Nat) : List Stmt := bodyOf (b.getD i default)
noncomputable def scopeIn (b : List Stmt) (i : Nat) : Scope := scopeOf (b.getD i default)
noncomputable def paramsIn (b : List Stmt) (i : Nat) : Arguments := paramsOf (b.getD i default)
noncomputable def posIn (b : List Stmt) (i : Nat) : Pos := posOf (b.getD i default)
noncomputable def bodyAt (p : Program) (i : Nat) : List Stmt := bodyIn p.main.body i
noncomputable def scopeAt (p : Program) (i : Nat) : Scope := scopeIn p.main.body i
noncomputable def paramsAt (p : Program) (i : Nat) : Arguments := paramsIn p.main.body i

/-- a closure that calls itself -/
noncomputable def recF (V0 : PV) (names : List Str) (gb : GF → SF) (fi : Addr) : Nat → GF
  | 0 => fun _ _ _ => none
  | k + 1 => fun a vs H => if a = fi ∧ vs.length = names.length then runF V0 (names.zip vs) (gb (recF V0 names gb fi k)) H else none

theorem rec_sound {X : Cx} {fi : Addr} {o : Obj} {fd : FuncData} {body : List Stmt} {names : List Str} {V0 : PV} {gb : GF → SF}
    (hb : X.base fi = some o) (hd : o.data = .func fd) (hbody : fd.body = .stmts body) (hco : fd.scope.isCoroutine = false) (hgen : fd.scope.isGenerator = false) (hgl : fd.globals = mainGlobals) (hbu : fd.builtins = builtinsNs)
    (hcd : ∀ h : Heap, (∀ b o, X.base b = some o → h.get? b = some o) → h.CodeRec fd.code fd.qualname)
    (hbind : ∀ args : List PVal, args.length = names.length → BindOk X fd args (names.zip args)) (hpk : ∀ x ∈ names, fd.scope.names.lookup x = some .local ∨ fd.scope.names.lookup x = some .cell)
    (hclo : ∀ ρ h H, HRel X ρ H h → CloOk X ρ h fd.scope fd.closure V0)
    (hs : ∀ d G, GSound X d G → SimSs X d fd.scope body (gb G)) : ∀ k, GSound X k (recF V0 names gb fi k)
  | 0 => fun a vs H v H' e => by cases e
  | k + 1 => fun a vs H v H' e => by
    unfold recF at e
    split at e
    · rename_i hq
      obtain ⟨rfl, hl⟩ := hq
      refine call_sound hb hd hbody hco hgen hgl hbu hcd (hbind vs hl) (fun p hp => hpk p.1 (List.of_mem_zip hp).1) hclo (hs k _ (rec_sound hb hd hbody hco hgen hgl hbu hcd hbind hpk hclo hs k)) e
    · cases e
end Mine

end

/- Tx1 -/
section
open PySem PySem.W PyProof.Rows
set_option maxRecDepth 100000
namespace Mine

/-- texts as lists of signs -/
noncomputable def mkS (l : List Nat) : Str := ⟨l.toArray⟩
theorem mkS_cps (l : List Nat) : (mkS l).cps.toList = l := by simp [mkS]
theorem mkS_of (s : Str) : mkS s.cps.toList = s := by simp [mkS]
theorem mkS_length (l : List Nat) : (mkS l).length = l.length := by simp [mkS, Str.length]
theorem mkS_append (a b : List Nat) : mkS a ++ mkS b = mkS (a ++ b) := by
  show (⟨a.toArray ++ b.toArray⟩ : Str) = _
  simp [mkS]
theorem mkS_inj {a b : List Nat} : mkS a = mkS b ↔ a = b := by
  constructor
  · intro h; have := congrArg (fun s => s.cps.toList) h; simpa [mkS_cps] using this
  · rintro rfl; rfl
theorem mkS_beq (a b : List Nat) : (mkS a == mkS b) = (a == b) := by
  rw [Bool.eq_iff_iff]; simp [mkS_inj]
theorem mkS_bne (a b : List Nat) : (mkS a != mkS b) = (a != b) := by
  rw [bne, bne, mkS_beq]

theorem subAt_list (x y : List Nat) (i : Nat) : Builtin.Str.subAt (mkS x) (mkS y) i = y.isPrefixOf (x.drop i) := by
  unfold Builtin.Str.subAt
  rw [mkS_length, Bool.eq_iff_iff, List.isPrefixOf_iff_prefix, beq_iff_eq]
  show (x.toArray.extract i (i + y.length)) = y.toArray ↔ _
  rw [← Array.toList_inj]
  simp only [Array.toList_extract, List.extract_eq_take_drop]
  rw [show i + y.length - i = y.length from by (first | lia | omega)]
  constructor
  · intro h; rw [List.prefix_iff_eq_take]; exact h.symm
  · intro h; exact (List.prefix_iff_eq_take.mp h).symm

noncomputable def occN (x y : List Nat) (hi lim : Nat) : Nat → Nat → Nat → Nat → List Nat
  | 0, _, _, _ => []
  | n + 1, p, cnt, free => if ((cnt < lim ∧ free ≤ p) ∧ p + y.length ≤ hi) ∧ y.isPrefixOf (x.drop p) = true then p :: occN x y hi lim n (p + 1) (cnt + 1) (p + y.length) else occN x y hi lim n (p + 1) cnt free

theorem occ_go (x y : List Nat) (hi lim : Nat) : ∀ (n p : Nat) (found : Array Nat) (free : Nat),
    (forIn (List.range' p n) (found, free) (StrLaws.occBody (mkS x) (mkS y) hi lim)).run.fst.toList = found.toList ++ occN x y hi lim n p found.size free
  | 0, p, found, free => by simp [occN]
  | n + 1, p, found, free => by
    rw [List.range'_succ, List.forIn_cons]
    unfold StrLaws.occBody
    rw [subAt_list, mkS_length]
    unfold occN
    split
    · have := occ_go x y hi lim n (p + 1) (found.push p) (p + y.length)
      refine Eq.trans this ?_
      simp
    · exact occ_go x y hi lim n (p + 1) found free
theorem occ_list (x y : List Nat) (lo hi lim : Nat) : Builtin.Str.occurrences (mkS x) (mkS y) lo hi lim = occN x y hi lim (hi + 1 - lo) lo 0 lo := by
  rw [StrLaws.occ_eq, occ_go]; simp

/-- the places of y, from the left, apart -/
noncomputable def scan (y : List Nat) : Nat → Nat → List Nat → List Nat
  | _, _, [] => []
  | p, k + 1, _ :: r => scan y (p + 1) k r
  | p, 0, c :: r => if y.isPrefixOf (c :: r) = true then p :: scan y (p + 1) (y.length - 1) r else scan y (p + 1) 0 r

theorem occN_scan (x y : List Nat) (hy : y ≠ []) (lim : Nat) : ∀ (n p cnt free : Nat), n = x.length + 1 - p → p ≤ x.length + 1 → cnt + n ≤ lim → occN x y x.length lim n p cnt free = scan y p (free - p) (x.drop p)
  | 0, p, cnt, free, hn, hp, hc => by
    have : x.length ≤ p := by (first | lia | omega)
    rw [List.drop_of_length_le this]
    unfold occN scan; rfl
  | n + 1, p, cnt, free, hn, hp, hc => by
    have hpl : p ≤ x.length := by (first | lia | omega)
    unfold occN
    by_cases hpx : p < x.length
    · have ed : x.drop p = x[p] :: x.drop (p + 1) := List.drop_eq_getElem_cons hpx
      by_cases hf : free ≤ p
      · have e0 : free - p = 0 := by (first | lia | omega)
        rw [e0, ed]
        unfold scan
        by_cases hpre : y.isPrefixOf (x[p] :: x.drop (p + 1)) = true
        · have hle : p + y.length ≤ x.length := by
            have := (List.isPrefixOf_iff_prefix.mp hpre).length_le
            simp at this; (first | lia | omega)
          rw [if_pos ⟨⟨⟨by (first | lia | omega), hf⟩, hle⟩, hpre⟩, if_pos hpre, occN_scan x y hy lim n (p + 1) (cnt + 1) (p + y.length) (by (first | lia | omega)) (by (first | lia | omega)) (by (first | lia | omega))]
          congr 2; (first | lia | omega)
        · rw [if_neg (fun h => hpre h.2), if_neg hpre, occN_scan x y hy lim n (p + 1) cnt free (by (first | lia | omega)) (by (first | lia | omega)) (by (first | lia | omega))]
          congr 1; (first | lia | omega)
      · obtain ⟨k, hk⟩ : ∃ k, free - p = k + 1 := ⟨free - p - 1, by (first | lia | omega)⟩
        rw [if_neg (fun h => hf h.1.1.2), occN_scan x y hy lim n (p + 1) cnt free (by (first | lia | omega)) (by (first | lia | omega)) (by (first | lia | omega)), hk, ed]
        conv => rhs; unfold scan
        congr 1; (first | lia | omega)
    · have hpe : x.length ≤ p := by (first | lia | omega)
      rw [List.drop_of_length_le hpe]
      have hnp : y.isPrefixOf ([] : List Nat) = false := by cases y with | nil => exact absurd rfl hy | cons _ _ => rfl
      rw [if_neg (fun h => by rw [hnp] at h; exact absurd h.2 Bool.false_ne_true), occN_scan x y hy lim n (p + 1) cnt free (by (first | lia | omega)) (by (first | lia | omega)) (by (first | lia | omega)), List.drop_of_length_le (by (first | lia | omega))]
      unfold scan; rfl

theorem occ_scan (x y : List Nat) (hy : y ≠ []) : Builtin.Str.occurrences (mkS x) (mkS y) 0 (mkS x).length ((mkS x).length + 1) = scan y 0 0 x := by
  rw [occ_list, mkS_length, occN_scan x y hy _ _ 0 0 0 (by (first | lia | omega)) (by (first | lia | omega)) (by (first | lia | omega))]; simp

/-- the pieces between -/
noncomputable def splitGo (y : List Nat) : Nat → List Nat → List Nat → List (List Nat)
  | _, cur, [] => [cur.reverse]
  | k + 1, cur, _ :: r => splitGo y k cur r
  | 0, cur, c :: r => if y.isPrefixOf (c :: r) = true then cur.reverse :: splitGo y (y.length - 1) [] r else splitGo y 0 (c :: cur) r
noncomputable def splitL (y x : List Nat) : List (List Nat) := splitGo y 0 [] x
noncomputable def parts (x : List Nat) (w : Nat) : Nat → List Nat → List (List Nat)
  | s, [] => [x.drop s]
  | s, c :: r => (x.drop s).take (c - s) :: parts x w (c + w) r

theorem parts_eq (x : List Nat) (w : Nat) : ∀ (cuts : List Nat) (s : Nat), ((s :: cuts.map (· + w)).zip (cuts ++ [x.length])).map (fun p => Builtin.Str.strSub (mkS x) p.1 p.2) = (parts x w s cuts).map mkS
  | [], s => by
    simp [parts, Builtin.Str.strSub, mkS]
    exact List.take_of_length_le (by simp)
  | c :: r, s => by
    have ih := parts_eq x w r (c + w)
    simp only [List.map_cons, List.cons_append, List.zip_cons_cons, parts]
    rw [← ih]
    simp [Builtin.Str.strSub, mkS]
theorem splitGo_parts (x y : List Nat) (hy : y ≠ []) : ∀ (t : List Nat) (p k s : Nat) (cur : List Nat), t = x.drop p → p ≤ x.length → cur.reverse = (x.drop s).take (p - s) → (k = 0 → s ≤ p) → (0 < k → s = p + k) → s ≤ x.length → splitGo y k cur t = parts x y.length s (scan y p k t)
  | [], p, k, s, cur, ht, hp, hc, h0, h1, hs => by
    have hpe : p = x.length := by have := congrArg List.length ht; simp at this; (first | lia | omega)
    have hk : k = 0 := by
      by_cases hk : k = 0
      · exact hk
      · have := h1 (by (first | lia | omega)); (first | lia | omega)
    unfold splitGo scan parts
    rw [hc, List.take_of_length_le (by simp; (first | lia | omega))]
  | c :: r, p, k, s, cur, ht, hp, hc, h0, h1, hs => by
    have hpl : p < x.length := by
      have := congrArg List.length ht; simp at this; (first | lia | omega)
    have hr : r = x.drop (p + 1) := by
      have : x.drop p = x[p] :: x.drop (p + 1) := List.drop_eq_getElem_cons hpl
      rw [this] at ht; exact (List.cons.inj ht).2
    have hcx : c = x[p] := by
      have : x.drop p = x[p] :: x.drop (p + 1) := List.drop_eq_getElem_cons hpl
      rw [this] at ht; exact (List.cons.inj ht).1
    cases k with
    | succ k =>
      unfold splitGo scan
      have hsp := h1 (by (first | lia | omega))
      refine splitGo_parts x y hy r (p + 1) k s cur hr hpl ?_ (by (first | lia | omega)) (by (first | lia | omega)) hs
      rw [hc, show p - s = 0 from by (first | lia | omega), show p + 1 - s = 0 from by (first | lia | omega)]
    | zero =>
      have hsp := h0 rfl
      unfold splitGo scan
      by_cases hpre : y.isPrefixOf (c :: r) = true
      · have hyl : 0 < y.length := List.length_pos_iff.mpr hy
        have hle : p + y.length ≤ x.length := by
          have := (List.isPrefixOf_iff_prefix.mp hpre).length_le
          rw [ht] at this; simp at this; (first | lia | omega)
        rw [if_pos hpre, if_pos hpre]
        unfold parts
        rw [hc]
        congr 1
        refine splitGo_parts x y hy r (p + 1) (y.length - 1) (p + y.length) [] hr hpl ?_ (by (first | lia | omega)) (by (first | lia | omega)) hle
        rw [show p + 1 - (p + y.length) = 0 from by (first | lia | omega)]; rfl
      · rw [if_neg hpre, if_neg hpre]
        refine splitGo_parts x y hy r (p + 1) 0 s (c :: cur) hr hpl ?_ (fun _ => by (first | lia | omega)) (by (first | lia | omega)) hs
        rw [List.reverse_cons, hc, show p + 1 - s = (p - s) + 1 from by (first | lia | omega), List.take_succ_eq_append_getElem (by simp; (first | lia | omega)), hcx]
        simp [show s + (p - s) = p from by (first | lia | omega)]

theorem scan_short (y : List Nat) : ∀ (x : List Nat) (p : Nat), (∀ i, y.isPrefixOf (x.drop i) = true → False) → scan y p 0 x = []
  | [], _, _ => by unfold scan; rfl
  | c :: r, p, h => by
    unfold scan
    rw [if_neg (fun q => h 0 (by simpa using q))]
    exact scan_short y r (p + 1) fun i q => h (i + 1) (by simpa using q)
theorem splitL_parts (x y : List Nat) (hy : y ≠ []) : splitL y x = parts x y.length 0 (scan y 0 0 x) :=
  splitGo_parts x y hy x 0 0 0 [] (by simp) (by (first | lia | omega)) (by simp) (by simp) (by (first | lia | omega)) (by (first | lia | omega))

theorem strKind_low (y : List Nat) (h : y.all (· < 256) = true) : Builtin.Str.strKind (mkS y) = 1 := by
  unfold Builtin.Str.strKind
  rw [if_pos (by simpa [mkS] using h)]
theorem strKind_pos (x : Str) : 1 ≤ Builtin.Str.strKind x := by
  unfold Builtin.Str.strKind
  split
  · (first | lia | omega)
  · split <;> (first | lia | omega)
theorem split_list (x y : List Nat) (hy : y ≠ []) (hl : y.all (· < 256) = true) : Txt.split (mkS x) (mkS y) = (splitL y x).map mkS := by
  unfold Txt.split
  rw [occ_scan x y hy, splitL_parts x y hy, strKind_low y hl, mkS_length, mkS_length]
  have hk := strKind_pos (mkS x)
  have hd : decide (Builtin.Str.strKind (mkS x) < 1) = false := decide_eq_false (by (first | lia | omega))
  rw [hd, Bool.or_false]
  split
  · rename_i h
    have h := of_decide_eq_true h
    rw [scan_short y x 0 fun i q => by have := (List.isPrefixOf_iff_prefix.mp q).length_le; simp at this; (first | lia | omega)]
    simp [parts]
  · split
    · rename_i h
      have : scan y 0 0 x = [] := by simpa using h
      rw [this]; simp [parts]
    · unfold Builtin.Str.partsBetween
      simp only [mkS_length]
      exact parts_eq x y.length (scan y 0 0 x) 0

theorem parts_length (x : List Nat) (w : Nat) : ∀ (cuts : List Nat) (s : Nat), (parts x w s cuts).length = cuts.length + 1
  | [], _ => rfl
  | _ :: r, _ => by simp [parts, parts_length x w r]
theorem occ_one_any (x y : List Nat) (hi : Nat) : ∀ (n p cnt free lim : Nat), cnt = 0 → lim ≥ 1 → ((occN x y hi 1 n p cnt free).isEmpty = (occN x y hi lim n p cnt free).isEmpty)
  | 0, _, _, _, _, _, _ => rfl
  | n + 1, p, cnt, free, lim, hc, hl => by
    subst hc
    unfold occN
    by_cases h : ((0 < 1 ∧ free ≤ p) ∧ p + y.length ≤ hi) ∧ y.isPrefixOf (x.drop p) = true
    · rw [if_pos h, if_pos ⟨⟨⟨by (first | lia | omega), h.1.1.2⟩, h.1.2⟩, h.2⟩]; rfl
    · rw [if_neg h, if_neg (fun q => h ⟨⟨⟨by (first | lia | omega), q.1.1.2⟩, q.1.2⟩, q.2⟩)]
      exact occ_one_any x y hi n (p + 1) 0 free lim rfl hl
theorem contains_list (x y : List Nat) (hy : y ≠ []) : Txt.contains (mkS x) (mkS y) = decide (2 ≤ (splitL y x).length) := by
  unfold Txt.contains
  rw [occ_list, occ_one_any x y _ _ 0 0 0 ((mkS x).length + 1) rfl (by (first | lia | omega)), ← occ_list, occ_scan x y hy, splitL_parts x y hy, parts_length]
  cases scan y 0 0 x <;> simp
noncomputable def joinL (b : List Nat) : List (List Nat) → List Nat
  | [] => []
  | [x] => x
  | x :: r => x ++ b ++ joinL b r
theorem glue_go (b : List Nat) : ∀ (r : List (List Nat)) (acc : List Nat), (r.map mkS).foldl (fun acc p => acc ++ (mkS b).cps ++ p.cps) acc.toArray = (acc ++ (r.map fun p => b ++ p).flatten).toArray
  | [], acc => by simp
  | x :: r, acc => by
    rw [List.map_cons, List.foldl_cons]
    have := glue_go b r (acc ++ b ++ x)
    have e : acc.toArray ++ (mkS b).cps ++ (mkS x).cps = (acc ++ b ++ x).toArray := by simp [mkS]
    rw [e, this]; simp
theorem joinL_flat (b : List Nat) : ∀ (r : List (List Nat)) (x : List Nat), joinL b (x :: r) = x ++ (r.map fun p => b ++ p).flatten
  | [], x => by simp [joinL]
  | y :: r, x => by
    have := joinL_flat b r y
    rw [joinL, this]
    · simp
    · intro h; cases h
theorem join_list (b : List Nat) (ps : List (List Nat)) : Txt.join (mkS b) (ps.map mkS) = mkS (joinL b ps) := by
  unfold Txt.join Builtin.Str.glued
  cases ps with
  | nil => simp [joinL, mkS, Str.empty]
  | cons x r =>
    rw [joinL_flat]
    have e : (List.map mkS (x :: r)).drop 1 = r.map mkS := rfl
    rw [e]
    have := glue_go b r x
    show (⟨_⟩ : Str) = mkS _
    unfold mkS
    rw [← this]; rfl

noncomputable def findL (w : List Nat) : Nat → List Nat → Option Nat
  | p, [] => if w.isPrefixOf [] = true then some p else none
  | p, c :: r => if w.isPrefixOf (c :: r) = true then some p else findL w (p + 1) r
theorem findN (x w : List Nat) : ∀ (n p free : Nat), n = x.length + 1 - p → p ≤ x.length → free ≤ p → (occN x w x.length 1 n p 0 free).head? = findL w p (x.drop p)
  | 0, p, free, hn, hp, hf => by (first | lia | omega)
  | n + 1, p, free, hn, hp, hf => by
    unfold occN
    by_cases hpre : w.isPrefixOf (x.drop p) = true
    · have hle : p + w.length ≤ x.length := by
        have := (List.isPrefixOf_iff_prefix.mp hpre).length_le
        simp at this; (first | lia | omega)
      rw [if_pos ⟨⟨⟨by (first | lia | omega), hf⟩, hle⟩, hpre⟩]
      cases e : x.drop p with
      | nil => rw [e] at hpre; simp [findL, hpre]
      | cons c r => rw [e] at hpre; simp [findL, hpre]
    · rw [if_neg (fun h => hpre h.2)]
      by_cases hpx : p < x.length
      · rw [findN x w n (p + 1) free (by (first | lia | omega)) (by (first | lia | omega)) (by (first | lia | omega))]
        have ed : x.drop p = x[p] :: x.drop (p + 1) := List.drop_eq_getElem_cons hpx
        rw [ed] at hpre ⊢
        conv => rhs; unfold findL
        rw [if_neg hpre]
      · have : n = 0 := by (first | lia | omega)
        subst this
        have e : x.drop p = [] := List.drop_of_length_le (by (first | lia | omega))
        rw [e] at hpre ⊢
        unfold occN findL
        rw [if_neg hpre]; rfl
theorem find_list (x w : List Nat) (a : Nat) (ha : a ≤ x.length) : findP (mkS x) (mkS w) a x.length = match findL w a (x.drop a) with | some p => (p : Int) | none => -1 := by
  unfold findP
  have e1 : fromIndex (mkS x).length (a : Int) = a := by unfold fromIndex; rw [if_neg (by (first | lia | omega))]; (first | lia | omega)
  have e2 : min (fromIndex (mkS x).length (x.length : Int)) (mkS x).length = x.length := by unfold fromIndex; rw [if_neg (by (first | lia | omega)), mkS_length]; (first | lia | omega)
  rw [e1, e2, occ_list]
  have := findN x w (x.length + 1 - a) a a rfl ha (Nat.le_refl _)
  cases h : occN x w x.length 1 (x.length + 1 - a) a 0 a with
  | nil => rw [h] at this; rw [← this]; rfl
  | cons p r => rw [h] at this; rw [← this]; rfl
theorem find_empty (x : List Nat) (e : Nat) (he : e ≤ x.length) : findP (mkS x) (mkS []) 0 e = 0 := by
  unfold findP
  have e1 : fromIndex (mkS x).length (0 : Int) = 0 := by unfold fromIndex; rw [if_neg (by (first | lia | omega))]; (first | lia | omega)
  have e2 : min (fromIndex (mkS x).length (e : Int)) (mkS x).length = e := by unfold fromIndex; rw [if_neg (by (first | lia | omega)), mkS_length]; (first | lia | omega)
  rw [e1, e2, occ_list]
  simp [occN]

theorem starts_list (x y : List Nat) : Txt.startswith (mkS x) (mkS y) = y.isPrefixOf x := by
  unfold Txt.startswith
  rw [subAt_list, mkS_length, mkS_length, List.drop_zero]
  cases h : y.isPrefixOf x with
  | false => simp
  | true =>
    have := (List.isPrefixOf_iff_prefix.mp h).length_le
    simp [this]
theorem ends_list (x y : List Nat) : Txt.endswith (mkS x) (mkS y) = y.isSuffixOf x := by
  unfold Txt.endswith
  rw [subAt_list, mkS_length, mkS_length, Bool.eq_iff_iff, Bool.and_eq_true, List.isPrefixOf_iff_prefix, List.isSuffixOf_iff_suffix, decide_eq_true_eq]
  constructor
  · rintro ⟨h1, h2⟩
    have : y = x.drop (x.length - y.length) := h2.eq_of_length (by simp; (first | lia | omega))
    rw [this]; exact List.drop_suffix _ _
  · intro h
    have hl := h.length_le
    refine ⟨by (first | lia | omega), ?_⟩
    rw [List.suffix_iff_eq_drop] at h
    rw [← h]; exact List.prefix_refl _
end Mine

end

/- Rn -/
section
open PySem PySem.W PyProof.Rows
set_option maxRecDepth 100000
namespace Mine

section
variable {V V1 : PV} {H H1 H2 H3 : PH} {a b c v w : PVal} {f g e : EF} {vs ws : List PVal} {r : PVal × PH} {op : Operator} {co : CmpOp} {x y : Str} {B C : Bool} {lf : LF} {bf bg : BF} {sf sk : SF} {q : PFlow × PV × PH}
theorem e_const : fConst v V H = some (v, H) := rfl
theorem e_neg {i : Int} : fNeg i V H = some (.int (-i), H) := rfl
theorem e_var (h : V x = some v) : fVar x V H = some (v, H) := by simp [fVar, h]
theorem e_bin (h1 : f V H = some (a, H1)) (h2 : g V H1 = some (b, H2)) (h3 : binP op a b = some v) : fBin op f g V H = some (v, H2) := by simp [fBin, h1, h2, h3]
theorem e_cmp (h1 : f V H = some (a, H1)) (h2 : g V H1 = some (b, H2)) (h3 : cmpP co a b = some B) : fCmp co f g V H = some (.bool B, H2) := by simp [fCmp, h1, h2, h3]
theorem e_not (h1 : f V H = some (a, H1)) (h2 : truthP a H1 = some B) : fNot f V H = some (.bool (!B), H1) := by simp [fNot, h1, h2]
theorem e_and (h1 : f V H = some (a, H1)) (h2 : truthP a H1 = some B) (h3 : (if B = true then g V H1 else some (a, H1)) = some r) : fAnd f g V H = some r := by simp [fAnd, h1, h2, h3]
theorem e_idx (h1 : f V H = some (a, H1)) (h2 : g V H1 = some (b, H2)) (h3 : idxP a b H2 = some v) : fIdx f g V H = some (v, H2) := by simp [fIdx, h1, h2, h3]
theorem e_slA (h1 : f V H = some (a, H1)) (h2 : g V H1 = some (b, H2)) (h3 : slA a b = some v) : fSlA f g V H = some (v, H2) := by simp [fSlA, h1, h2, h3]
theorem e_slB (h1 : f V H = some (a, H1)) (h2 : g V H1 = some (b, H2)) (h3 : slB a b = some v) : fSlB f g V H = some (v, H2) := by simp [fSlB, h1, h2, h3]
theorem e_slAB (h1 : f V H = some (a, H1)) (h2 : g V H1 = some (b, H2)) (h4 : e V H2 = some (c, H3)) (h3 : slAB a b c = some v) : fSlAB f g e V H = some (v, H3) := by simp [fSlAB, h1, h2, h4, h3]
theorem e_rev (h1 : f V H = some (a, H1)) (h3 : slRev a = some v) : fRev f V H = some (v, H1) := by simp [fRev, h1, h3]
theorem e_list (h1 : lf V H = some (vs, H1)) (h2 : allBy vs = true) (h3 : vs.length ≤ sizeLine) : fList lf V H = some (.lst vs, H1) := by simp [fList, h1, h2, h3]
theorem e_tup (h1 : lf V H = some (vs, H1)) (h2 : allBy vs = true) (h3 : vs.length ≤ sizeLine) : fTup lf V H = some (.tup vs, H1) := by simp [fTup, h1, h2, h3]
theorem e_bi {bi : BI} (h1 : lf V H = some (vs, H1)) (h2 : biP bi vs H1 = some r) : fBi bi lf V H = some r := by simp [fBi, h1, h2]
theorem e_me {bi : BI} (h1 : f V H = some (a, H1)) (hm : methKind bi a = true) (h2 : lf V H1 = some (vs, H2)) (h3 : biP bi (a :: vs) H2 = some r) : fMe bi f lf V H = some r := by simp [fMe, h1, h2, h3, hm]
theorem e_callF {F : PF} (h1 : lf V H = some (vs, H1)) (h2 : F vs H1 = some r) : fCallF F lf V H = some r := by simp [fCallF, h1, h2]
theorem e_call {G : GF} {ad : Addr} (h1 : f V H = some (.val (.ref ad), H1)) (h2 : lf V H1 = some (vs, H2)) (h3 : G ad vs H2 = some r) : fCall f G lf V H = some r := by simp [fCall, h1, h2, h3]
theorem l_nil : lNil V H = some ([], H) := rfl
theorem l_cons (h1 : f V H = some (a, H1)) (h2 : lf V H1 = some (vs, H2)) : lCons f lf V H = some (a :: vs, H2) := by simp [lCons, h1, h2]
theorem l_star (h1 : f V H = some (.lst vs, H1)) (hl : vs.length ≤ sizeLine) (h2 : lf V H1 = some (ws, H2)) : lStar f lf V H = some (vs ++ ws, H2) := by simp [lStar, starP, h1, h2, hl]
theorem b_cmp (h1 : f V H = some (a, H1)) (h2 : g V H1 = some (b, H2)) (h3 : cmpP co a b = some B) : bCmp co f g V H = some (B, H2) := by simp [bCmp, h1, h2, h3]
theorem b_val (h1 : f V H = some (a, H1)) (h2 : truthP a H1 = some B) : bVal f V H = some (B, H1) := by simp [bVal, h1, h2]
theorem b_not (h1 : bf V H = some (B, H1)) : bNot bf V H = some (!B, H1) := by simp [bNot, h1]
theorem b_or (h1 : bf V H = some (B, H1)) {rb : Bool × PH} (h2 : (if B = true then some (true, H1) else bg V H1) = some rb) : bOr bf bg V H = some rb := by simp only [bOr, h1, Option.bind_some]; exact h2
theorem s_next : sNext V H = some (.next, V, H) := rfl
theorem s_seq (h1 : sf V H = some (.next, V1, H1)) (h2 : sk V1 H1 = some q) : sSeq sf sk V H = some q := by simp [sSeq, h1, h2]
theorem s_seqr (h1 : sf V H = some (.ret v, V1, H1)) : sSeq sf sk V H = some (.ret v, V1, H1) := by simp [sSeq, h1]
theorem s_assign (h1 : f V H = some (v, H1)) : sAssign x f V H = some (.next, setV V x v, H1) := by simp [sAssign, h1]
theorem s_expr (h1 : f V H = some (.none, H1)) : sExpr f V H = some (.next, V, H1) := by simp [sExpr, h1]
theorem s_ret (h1 : f V H = some (v, H1)) : sRet f V H = some (.ret v, V, H1) := by simp [sRet, h1]
theorem s_retNone : sRetNone V H = some (.ret .none, V, H) := rfl
theorem s_if (h1 : bf V H = some (B, H1)) (h2 : (if B = true then sf V H1 else sk V H1) = some q) : sIf bf sf sk V H = some q := by simp only [sIf, h1, Option.bind_some]; exact h2
theorem s_assert (h1 : bf V H = some (B, H1)) (h2 : B = true) : sAssert bf V H = some (.next, V, H1) := by simp [sAssert, h1, h2]
theorem s_augA {i j : Int} (h0 : V x = some (.int i)) (h1 : f V H = some (.int j, H1)) : sAug x .Add f V H = some (.next, setV V x (.int (i + j)), H1) := by simp [sAug, h0, h1]
theorem s_augS {i j : Int} (h0 : V x = some (.int i)) (h1 : f V H = some (.int j, H1)) : sAug x .Sub f V H = some (.next, setV V x (.int (i - j)), H1) := by simp [sAug, h0, h1]
theorem s_pair (h1 : f V H = some (.tup [a, b], H1)) : sPair x y f V H = some (.next, setV (setV V x a) y b, H1) := by simp [sPair, h1]
theorem s_pairR (h1 : f V H = some (.tup [a, b], H1)) : sPairR x y f V H = some (.next, setV (setV V y b) x a, H1) := by simp [sPairR, h1]
theorem s_new {nf : NF} (h1 : nf V H = some (vs, H1)) : sNew x nf V H = some (.next, setV V x (.ref H1.length), H1 ++ [vs]) := by simp [sNew, h1]
theorem n_nil : nNil V H = some ([], H) := rfl
theorem s_set {i : EF} {o : EF} {j : Nat} {k : Int} (h1 : f V H = some (v, H1)) (h2 : o V H1 = some (.ref j, H2)) (h3 : i V H2 = some (.int k, H3)) (h4 : H3[j]? = some vs) (h5 : 0 ≤ k) (h6 : k < 2 ^ 63) (h7 : k < vs.length) (h8 : v.isRef = false) :
    sSet o i f V H = some (.next, V, H3.set j (vs.set k.toNat v)) := by
  simp only [sSet, h1, h2, h3, h4, Option.bind_some]
  rw [if_pos ⟨h5, h6, h7, h8⟩]

/-- numbers -/
theorem p_add {i j : Int} : binP .Add (.int i) (.int j) = some (.int (i + j)) := rfl
theorem p_sub {i j : Int} : binP .Sub (.int i) (.int j) = some (.int (i - j)) := rfl
theorem p_mul {i j : Int} (h : Builtin.Int.intBits i + Builtin.Int.intBits j ≤ 134217728) : binP .Mult (.int i) (.int j) = some (.int (i * j)) := if_pos h
theorem p_div {i j : Int} (h : j ≠ 0 ∧ Builtin.Int.intBits j ≤ 9000) : binP .FloorDiv (.int i) (.int j) = some (.int (i.fdiv j)) := congrArg (Option.map PVal.int) (if_pos h)
theorem p_mod {i j : Int} (h : j ≠ 0) : binP .Mod (.int i) (.int j) = some (.int (i.fmod j)) := congrArg (Option.map PVal.int) (if_neg h)
theorem p_shl {i j : Int} (h : 0 ≤ j ∧ (Builtin.Int.intBits i : Int) + j ≤ 2 ^ 27) : binP .LShift (.int i) (.int j) = some (.int (i * 2 ^ j.toNat)) := congrArg (Option.map PVal.int) (if_pos h)
theorem p_shr {i j : Int} (h : 0 ≤ j) : binP .RShift (.int i) (.int j) = some (.int (i.fdiv (2 ^ j.toNat))) := congrArg (Option.map PVal.int) (if_pos h)
theorem p_xor {i j : Int} : binP .BitXor (.int i) (.int j) = some (.int (Builtin.bitXor i j)) := rfl
theorem p_pow {i j : Int} (h : 0 ≤ j ∧ (Builtin.Int.intBits i : Int) * j ≤ 2 ^ 27) : binP .Pow (.int i) (.int j) = some (.int (i ^ j.toNat)) := congrArg (Option.map PVal.int) (if_pos h)
theorem p_adds {i j : List Nat} (h : i.length + j.length ≤ sizeLine) : binP .Add (.str (mkS i)) (.str (mkS j)) = some (.str (mkS (i ++ j))) := by
  have : binP .Add (.str (mkS i)) (.str (mkS j)) = some (.str (mkS i ++ mkS j)) := if_pos (by rw [mkS_length, mkS_length]; exact h)
  rw [this, mkS_append]
theorem p_addl {i j : List PVal} (h : i.length + j.length ≤ sizeLine) : binP .Add (.lst i) (.lst j) = some (.lst (i ++ j)) := if_pos h
theorem p_mull {i : List PVal} {j : Int} (h : -(2 ^ 63) ≤ j ∧ j < 2 ^ 63 ∧ i.length * j.toNat ≤ sizeLine) : binP .Mult (.lst i) (.int j) = some (.lst (repL j.toNat i)) := if_pos h
end

/-- a text -/
noncomputable def T (l : List Nat) : PVal := .str (mkS l)

theorem mul_list (x : List Nat) (n : Nat) : Txt.mul (mkS x) (n : Int) = mkS (repL n x) := by
  unfold Txt.mul
  split
  · have : n = 0 := by (first | lia | omega)
    subst this; simp [repL, mkS, Str.empty]
  · split
    · rename_i h1 h2
      simp only [Bool.or_eq_true, beq_iff_eq, mkS_length] at h2
      rcases h2 with h2 | h2
      · have : n = 1 := by (first | lia | omega)
        subst this; simp [repL]
      · have : x = [] := List.length_eq_zero_iff.mp h2
        subst this; simp [repL]
    · have g : ∀ (k : Nat) (acc : List Nat), List.foldl (fun x1 x2 => x1 ++ x2) acc.toArray (List.replicate k x.toArray) = (acc ++ repL k x).toArray := by
        intro k
        induction k with
        | zero => intro acc; simp [repL]
        | succ k ih => intro acc; rw [List.replicate_succ, List.foldl_cons]; have := ih (acc ++ x); simp only [List.append_toArray]; rw [this]; simp [repL, List.replicate_succ]
      have := g n []
      simpa [mkS] using this
theorem p_muls {i : List Nat} {n : Nat} (h : n ≤ 1000000) (h2 : i.length * n ≤ 1000000) : binP .Mult (.str (mkS i)) (.int n) = some (.str (mkS (repL n i))) := by
  have : binP .Mult (.str (mkS i)) (.int n) = some (.str (Txt.mul (mkS i) n)) := if_pos (by rw [mkS_length, Int.toNat_natCast]; (first | lia | omega))
  rw [this, mul_list]

theorem fm_range (x : List Nat) (i : Nat) : ∀ m, i + m ≤ x.length → List.filterMap (fun k => x[k]?) ((List.range m).map fun k => i + k) = (x.drop i).take m
  | 0, _ => by simp
  | m + 1, h => by
    rw [List.range_succ, List.map_append, List.filterMap_append, fm_range x i m (by (first | lia | omega)), List.take_succ_eq_append_getElem (by simp; (first | lia | omega))]
    simp [show i + m < x.length from by (first | lia | omega)]
theorem sliceIdx (x : List Nat) (l u : Option Int) (i m : Nat) (h : Builtin.Str.strSliceIndices l u 1 x.length = (List.range m).map fun k => i + k) (hm : i + m ≤ x.length) : Txt.slice (mkS x) l u = mkS ((x.drop i).take m) := by
  unfold Txt.slice
  rw [mkS_length, h]
  split
  · rename_i hq
    have : m = x.length := by simpa using hq
    have hi : i = 0 := by (first | lia | omega)
    subst hi; subst this; simp
  · have := fm_range x i m hm
    unfold mkS
    simp only [List.getElem?_toArray]
    rw [this]
theorem imin (a b : Nat) : max 0 (min (a : Int) (b : Int)) = ((min a b : Nat) : Int) := by (first | lia | omega)
theorem itn {a b : Nat} (h : a ≤ b) : (if (a : Int) < (b : Int) then ((b : Int) - (a : Int) + 1 - 1) / 1 else 0).toNat = b - a := by
  rw [Int.ediv_one, Int.add_sub_cancel]
  split
  · (first | lia | omega)
  · (first | lia | omega)
theorem itk (m k : Nat) : ((m : Int) + 1 * (k : Int)).toNat = m + k := by rw [Int.one_mul]; (first | lia | omega)
theorem slice_from (x : List Nat) (i : Nat) : Txt.slice (mkS x) (some (i : Int)) none = mkS (x.drop i) := by
  have h := sliceIdx x (some (i : Int)) none (min i x.length) (x.length - min i x.length) ?_ (Nat.le_of_eq (Nat.add_sub_cancel' (Nat.min_le_right _ _)))
  · rw [h]
    congr 1
    rcases Nat.le_total i x.length with hi | hi
    · rw [Nat.min_eq_left hi, List.take_of_length_le (Nat.le_of_eq List.length_drop)]
    · rw [Nat.min_eq_right hi, List.drop_of_length_le (Nat.le_refl _), List.drop_of_length_le hi, List.take_nil]
  · unfold Builtin.Str.strSliceIndices sliceRange
    simp only [if_neg (Int.not_lt.mpr (Int.natCast_nonneg i)), show (1 : Int) > 0 from by decide, if_true, imin]
    rw [itn (Nat.min_le_right _ _)]
    exact List.map_congr_left fun k _ => itk _ k
theorem slice_upto (x : List Nat) (j : Nat) : Txt.slice (mkS x) none (some (j : Int)) = mkS (x.take j) := by
  have h := sliceIdx x none (some (j : Int)) 0 (min j x.length) ?_ (by rw [Nat.zero_add]; exact Nat.min_le_right _ _)
  · rw [h, List.drop_zero]
    congr 1
    rcases Nat.le_total j x.length with hi | hi
    · rw [Nat.min_eq_left hi]
    · rw [Nat.min_eq_right hi, List.take_of_length_le (Nat.le_refl _), List.take_of_length_le hi]
  · unfold Builtin.Str.strSliceIndices sliceRange
    simp only [if_neg (Int.not_lt.mpr (Int.natCast_nonneg j)), show (1 : Int) > 0 from by decide, if_true, imin]
    have := itn (Nat.zero_le (min j x.length))
    rw [Nat.sub_zero] at this
    refine (congrArg (fun n => (List.range n).map _) this).trans ?_
    exact List.map_congr_left fun k _ => itk 0 k
end Mine

end

/- Nm -/
section
open PySem PySem.W PyProof.Rows
set_option maxRecDepth 100000
namespace Mine

theorem bits_le {x : Int} {k : Nat} (h : x.natAbs < 2 ^ k) : Builtin.Int.intBits x ≤ k := intBits_le_iff.mpr h
theorem bits_leN {x k : Nat} (h : x < 2 ^ k) : Builtin.Int.intBits (x : Int) ≤ k := bits_le (by simpa using h)
theorem lt_bits (x : Nat) : x < 2 ^ Builtin.Int.intBits (x : Int) := by
  have := (intBits_le_iff (x := (x : Int)) (m := Builtin.Int.intBits (x : Int))).mp (Nat.le_refl _)
  simpa using this
theorem bits_pos {x : Nat} (h : 0 < x) : 0 < Builtin.Int.intBits (x : Int) := by
  rcases Nat.eq_zero_or_pos (Builtin.Int.intBits (x : Int)) with e | e
  · have := lt_bits x; rw [e] at this; simp at this; (first | lia | omega)
  · exact e

theorem xor_low (x s : Nat) : Builtin.bitXor (x : Int) (((x / 2 ^ s * 2 ^ s : Nat)) : Int) = ((x % 2 ^ s : Nat) : Int) := by
  rw [bitXor_and]
  have e : Builtin.bitAnd (x : Int) ((x / 2 ^ s * 2 ^ s : Nat) : Int) = ((x &&& (x / 2 ^ s * 2 ^ s) : Nat) : Int) := by
    unfold Builtin.bitAnd
    rw [decide_eq_true (show (0 : Int) ≤ (x : Int) by (first | lia | omega)), decide_eq_true (show (0 : Int) ≤ ((x / 2 ^ s * 2 ^ s : Nat) : Int) by (first | lia | omega))]
    show (((x : Int).toNat &&& ((x / 2 ^ s * 2 ^ s : Nat) : Int).toNat : Nat) : Int) = _
    rw [Int.toNat_natCast, Int.toNat_natCast]
  have h : x &&& (x / 2 ^ s * 2 ^ s) = x / 2 ^ s * 2 ^ s := by
    apply Nat.eq_of_testBit_eq
    intro i
    rw [Nat.testBit_and, Nat.mul_comm, Nat.testBit_two_pow_mul, Nat.testBit_div_two_pow]
    by_cases hi : s ≤ i
    · simp [hi]
    · simp [hi]
  rw [e, h]
  have := Nat.div_add_mod x (2 ^ s)
  rw [Nat.mul_comm] at this
  (first | lia | omega)

noncomputable def digN (n : Nat) : Nat → Nat → List Nat
  | _, 0 => []
  | x, m + 1 => x % 2 ^ n :: digN n (x / 2 ^ n) m
theorem digN_length (n : Nat) : ∀ m x, (digN n x m).length = m
  | 0, _ => rfl
  | m + 1, x => by simp [digN, digN_length n m]
theorem digN_add (n m2 : Nat) : ∀ (m1 x : Nat), digN n x (m1 + m2) = digN n (x % 2 ^ (n * m1)) m1 ++ digN n (x / 2 ^ (n * m1)) m2
  | 0, x => by simp [digN]
  | m1 + 1, x => by
    rw [show m1 + 1 + m2 = (m1 + m2) + 1 from by (first | lia | omega)]
    rw [digN, digN_add n m2 m1 (x / 2 ^ n), digN]
    have e : n * (m1 + 1) = n + n * m1 := by rw [Nat.mul_succ]; (first | lia | omega)
    rw [e, Nat.pow_add, Nat.mod_mul_right_div_self, ← Nat.div_div_eq_div_mul, Nat.mod_mul_right_mod]
    rfl
theorem digN_lt (n : Nat) : ∀ m x, ∀ d ∈ digN n x m, d < 2 ^ n
  | 0, _, d, h => by simp [digN] at h
  | m + 1, x, d, h => by
    unfold digN at h
    rcases List.mem_cons.mp h with rfl | h
    · exact Nat.mod_lt _ (Nat.two_pow_pos n)
    · exact digN_lt n m _ d h
noncomputable def valN (n : Nat) : List Nat → Nat
  | [] => 0
  | d :: r => d + 2 ^ n * valN n r
theorem valN_digN (n : Nat) : ∀ m x, valN n (digN n x m) = x % 2 ^ (n * m)
  | 0, x => by simp [digN, valN, Nat.mod_one]
  | m + 1, x => by
    unfold digN valN
    rw [valN_digN n m, show n * (m + 1) = n + n * m from by rw [Nat.mul_succ]; (first | lia | omega), Nat.pow_add, Nat.mod_mul]
theorem valN_append (n : Nat) : ∀ a b, valN n (a ++ b) = valN n a + 2 ^ (n * a.length) * valN n b
  | [], b => by simp [valN]
  | d :: a, b => by
    rw [List.cons_append, valN, valN_append n a b, valN, List.length_cons, Nat.mul_succ, Nat.add_comm (n * a.length), Nat.pow_add, Nat.mul_add, ← Nat.mul_assoc]; (first | lia | omega)
theorem valN_lt (n : Nat) : ∀ a : List Nat, (∀ d ∈ a, d < 2 ^ n) → valN n a < 2 ^ (n * a.length)
  | [], _ => by simp [valN]
  | d :: a, h => by
    have h1 := h d (.head _)
    have h2 := valN_lt n a fun x hx => h x (.tail _ hx)
    rw [valN, List.length_cons, Nat.mul_succ, Nat.add_comm (n * a.length), Nat.pow_add]
    have : 2 ^ n * (valN n a + 1) ≤ 2 ^ n * 2 ^ (n * a.length) := Nat.mul_le_mul_left _ h2
    rw [Nat.mul_add] at this
    (first | lia | omega)
noncomputable def ndig (a n : Nat) : Nat := (Builtin.Int.intBits (a : Int) + n - 1) / n
theorem ndig_ok (a n : Nat) (hn : 0 < n) : a < 2 ^ (n * ndig a n) := by
  refine Nat.lt_of_lt_of_le (lt_bits a) (Nat.pow_le_pow_right (by (first | lia | omega)) ?_)
  unfold ndig
  generalize Builtin.Int.intBits (a : Int) = b
  have := Nat.div_add_mod (b + n - 1) n
  have := Nat.mod_lt (b + n - 1) hn
  (first | lia | omega)
noncomputable def nums (l : List Nat) : List PVal := l.map fun (d : Nat) => PVal.int (d : Int)
theorem intsP_nums : ∀ l : List Nat, intsP (nums l) = some (l.map fun (d : Nat) => (d : Int))
  | [] => rfl
  | d :: l => by
    show (intsP (nums l)).map _ = _
    rw [intsP_nums l]; rfl
theorem nums_length (l : List Nat) : (nums l).length = l.length := by simp [nums]

theorem fdivN (a b : Nat) : (a : Int).fdiv (b : Int) = ((a / b : Nat) : Int) := by
  rw [Int.fdiv_eq_ediv_of_nonneg _ (by (first | lia | omega))]; rfl
theorem fmodN (a b : Nat) : (a : Int).fmod (b : Int) = ((a % b : Nat) : Int) := by
  rw [Int.fmod_eq_emod_of_nonneg _ (by (first | lia | omega))]; rfl
theorem powN (a b : Nat) : ((a : Nat) : Int) ^ b = ((a ^ b : Nat) : Int) := by simp

/-- numbers that are no less than nothing -/
theorem q_mul {i j : Nat} (h : Builtin.Int.intBits i + Builtin.Int.intBits j ≤ 134217728) : binP .Mult (.int (i : Int)) (.int (j : Int)) = some (.int ((i * j : Nat) : Int)) := by rw [p_mul h]; simp
theorem q_add {i j : Nat} : binP .Add (.int (i : Int)) (.int (j : Int)) = some (.int ((i + j : Nat) : Int)) := by rw [p_add]; simp
theorem q_shl {i j : Nat} (h : Builtin.Int.intBits i + j ≤ 134217728) : binP .LShift (.int (i : Int)) (.int (j : Int)) = some (.int ((i * 2 ^ j : Nat) : Int)) := by
  rw [p_shl ⟨by (first | lia | omega), by (first | lia | omega)⟩]; simp
theorem q_shr {i j : Nat} : binP .RShift (.int (i : Int)) (.int (j : Int)) = some (.int ((i / 2 ^ j : Nat) : Int)) := by
  rw [p_shr (by (first | lia | omega)), Int.toNat_natCast, ← fdivN]; simp
theorem q_div {i j : Nat} (h : 0 < j) (hb : j < 2 ^ 9000) : binP .FloorDiv (.int (i : Int)) (.int (j : Int)) = some (.int ((i / j : Nat) : Int)) := by
  rw [p_div ⟨by (first | lia | omega), bits_leN hb⟩, fdivN]
end Mine

end

/- Sp -/
section
open PySem PySem.W PyProof.Rows
set_option maxRecDepth 100000
namespace Mine

noncomputable def dots : List Nat := [46, 46, 46]
noncomputable def findR (w : List Nat) : List Nat → Option (List Nat)
  | [] => if w.isPrefixOf [] = true then some [] else none
  | c :: r => if w.isPrefixOf (c :: r) = true then some ((c :: r).drop w.length) else findR w r
noncomputable def emL : List (List Nat) → List Nat → Bool
  | [], _ => true
  | w :: r, t => match findR w t with
    | none => false
    | some t' => emL r t'
noncomputable def emP (want got : List Nat) : Option Bool := match splitL dots want with
  | [] :: w :: r => if r = [] ∧ w ≠ [] then some (w.isSuffixOf got) else if (w :: r).getLast? = some [] then some (emL (w :: r) got) else none
  | _ => none
noncomputable def F_em : PF := fun vs H => match vs with
  | [a, b] => (strI a).bind fun want => (strI b).bind fun got => if want.length ≤ 1000000 ∧ got.length ≤ 1000000 then (emP want.cps.toList got.cps.toList).map fun b => (.bool b, H) else none
  | _ => none
noncomputable def F_d21 : PF := fun vs H => match vs with
  | [x, y, z] => (intI x).bind fun a => (intI y).bind fun b => (intI z).bind fun n => if (Builtin.Int.intBits a : Int) - n ≤ 4000 ∧ b ≠ 0 ∧ Builtin.Int.intBits b ≤ 9000 then some (.tup [.int (a.fdiv b), .int (a.fmod b)], H) else none
  | _ => none
noncomputable def digs (a n : Nat) : List Nat := digN n a (ndig a n)
noncomputable def F_i2d : PF := fun vs H => match vs with
  | [x, y] => (intI x).bind fun a => (intI y).bind fun n => if 0 ≤ a ∧ 0 < n ∧ n ≤ 5000 ∧ Builtin.Int.intBits a ≤ 5000 then some (.lst (nums (digs a.toNat n.toNat)), H) else none
  | _ => none
noncomputable def lstI : PVal → Option (List PVal)
  | .lst vs => some vs
  | _ => none
theorem lstI_some {a : PVal} {x : List PVal} (h : lstI a = some x) : a = .lst x := by
  cases a <;> cases h; rfl
noncomputable def natsP : List PVal → Option (List Nat)
  | [] => some []
  | v :: r => (intI v).bind fun i => if 0 ≤ i then (natsP r).map (i.toNat :: ·) else none
noncomputable def d2iP (vs : List PVal) (n : Int) : Option Nat := if 0 < n ∧ n ≤ 5000 ∧ vs.length ≤ 5000 then (natsP vs).bind fun ds => if ds.all (· < 2 ^ n.toNat) = true then some (valN n.toNat ds) else none else none
noncomputable def F_d2i : PF := fun vs H => match vs with
  | [x, y] => (intI y).bind fun n => match x with
    | .lst vs => (d2iP vs n).map fun (r : Nat) => (.int (r : Int), H)
    | .ref j => (H[j]?).bind fun vs => (d2iP vs n).map fun (r : Nat) => (.int (r : Int), H)
    | _ => none
  | _ => none
noncomputable def F_dmp : PF := fun vs H => match vs with
  | [x, y] => (intI x).bind fun a => (intI y).bind fun b => if 0 ≤ a ∧ 0 < b ∧ Builtin.Int.intBits a ≤ 4000 ∧ Builtin.Int.intBits b ≤ 2000 then some (.tup [.int ((a.toNat / b.toNat : Nat) : Int), .int ((a.toNat % b.toNat : Nat) : Int)], H) else none
  | _ => none
/-- replace: what each pair makes; no text longer than M -/
noncomputable def repP (M : Nat) : List (List Nat) → List Nat → Option (List Nat)
  | [], t => some t
  | a :: b :: r, t => if a ≠ [] ∧ a.all (· < 256) = true ∧ t.length ≤ M ∧ b.length ≤ M then repP M r (joinL b (splitL a t)) else none
  | [_], _ => none
noncomputable def F_rep : PF := fun vs H => match vs with
  | x :: ps => (strI x).bind fun t => (strsP ps).bind fun ss => if ss.length ≤ 70 then (repP 2000 (ss.map fun s => s.cps.toList) t.cps.toList).map fun u => (.str (mkS u), H) else none
  | _ => none
end Mine

end

/- Gd1 -/
section
open PySem PySem.W PyProof.Rows
set_option maxRecDepth 100000
namespace Mine
noncomputable def g_em : SF :=
  (sSeq (sIf (bCmp .NotIn (fConst (.str "...")) (fVar "want")) (sRet (fCmp .Eq (fVar "want") (fVar "got"))) sNext)
  (sSeq (sNew "ws" (nSplit (fVar "want") (lCons (fConst (.str "...")) lNil)))
  (sSeq (sAssert (bCmp .GtE (fBi .len (lCons (fVar "ws") lNil)) (fConst (.int 2))))
  (sSeq (sPairR "startpos" "endpos" (fTup (lCons (fConst (.int 0)) (lCons (fBi .len (lCons (fVar "got") lNil)) lNil))))
  (sSeq (sAssign "w" (fIdx (fVar "ws") (fConst (.int 0))))
  (sSeq (sIf (bVal (fVar "w")) (sIf (bVal (fMe .startswith (fVar "got") (lCons (fVar "w") lNil))) (sSeq (sAssign "startpos" (fBi .len (lCons (fVar "w") lNil)))
  (sDel0 (fVar "ws"))) (sRet (fConst (.bool false)))) sNext)
  (sSeq (sAssign "w" (fIdx (fVar "ws") (fNeg 1)))
  (sSeq (sIf (bVal (fVar "w")) (sIf (bVal (fMe .endswith (fVar "got") (lCons (fVar "w") lNil))) (sSeq (sAug "endpos" .Sub (fBi .len (lCons (fVar "w") lNil)))
  (sDelLast (fVar "ws"))) (sRet (fConst (.bool false)))) sNext)
  (sSeq (sIf (bCmp .Gt (fVar "startpos") (fVar "endpos")) (sRet (fConst (.bool false))) sNext)
  (sSeq (sFor "w" (iRef (fVar "ws")) (sSeq (sAssign "startpos" (fMe .find (fVar "got") (lCons (fVar "w") (lCons (fVar "startpos") (lCons (fVar "endpos") lNil)))))
  (sSeq (sIf (bCmp .Lt (fVar "startpos") (fConst (.int 0))) (sRet (fConst (.bool false))) sNext)
  (sAug "startpos" .Add (fBi .len (lCons (fVar "w") lNil))))))
  (sRet (fConst (.bool true)))))))))))))
noncomputable def g_d21 : SF :=
  (sSeq (sIf (bCmp .LtE (fBin .Sub (fMe .bitlen (fVar "a") lNil) (fVar "n")) (fConst (.int 4000))) (sRet (fBi .divmod (lCons (fVar "a") (lCons (fVar "b") lNil)))) sNext)
  sFail)
noncomputable def g_i2d : SF := (sNew "a_digits" (nRep (fList (lCons (fConst (.int 0)) lNil)) (fBin .FloorDiv (fBin .Sub (fBin .Add (fMe .bitlen (fVar "a") lNil) (fVar "n")) (fConst (.int 1))) (fVar "n"))))
noncomputable def g_i2d_in (G : GF) : SF :=
  (sSeq (sIf (bCmp .Eq (fBin .Add (fVar "L") (fConst (.int 1))) (fVar "R")) (sSeq (sSet (fVar "a_digits") (fVar "L") (fVar "x"))
  sRetNone) sNext)
  (sSeq (sAssign "mid" (fBin .RShift (fBin .Add (fVar "L") (fVar "R")) (fConst (.int 1))))
  (sSeq (sAssign "shift" (fBin .Mult (fBin .Sub (fVar "mid") (fVar "L")) (fVar "n")))
  (sSeq (sAssign "upper" (fBin .RShift (fVar "x") (fVar "shift")))
  (sSeq (sAssign "lower" (fBin .BitXor (fVar "x") (fBin .LShift (fVar "upper") (fVar "shift"))))
  (sSeq (sExpr (fCall (fVar "inner") G (lCons (fVar "lower") (lCons (fVar "L") (lCons (fVar "mid") lNil)))))
  (sExpr (fCall (fVar "inner") G (lCons (fVar "upper") (lCons (fVar "mid") (lCons (fVar "R") lNil)))))))))))
noncomputable def g_d2i_in (G : GF) : SF :=
  (sSeq (sIf (bCmp .Eq (fBin .Add (fVar "L") (fConst (.int 1))) (fVar "R")) (sRet (fIdx (fVar "digits") (fVar "L"))) sNext)
  (sSeq (sAssign "mid" (fBin .RShift (fBin .Add (fVar "L") (fVar "R")) (fConst (.int 1))))
  (sSeq (sAssign "shift" (fBin .Mult (fBin .Sub (fVar "mid") (fVar "L")) (fVar "n")))
  (sRet (fBin .Add (fBin .LShift (fCall (fVar "inner") G (lCons (fVar "mid") (lCons (fVar "R") lNil))) (fVar "shift")) (fCall (fVar "inner") G (lCons (fVar "L") (lCons (fVar "mid") lNil))))))))
noncomputable def g_dmp : SF :=
  (sSeq (sAssign "n" (fMe .bitlen (fVar "b") lNil))
  (sSeq (sAssign "a_digits" (fCallF F_i2d (lCons (fVar "a") (lCons (fVar "n") lNil))))
  (sSeq (sAssign "r" (fConst (.int 0)))
  (sSeq (sNew "q_digits" nNil)
  (sSeq (sFor "a_digit" (iRev (fVar "a_digits")) (sSeq (sPair "q_digit" "r" (fCallF F_d21 (lCons (fBin .Add (fBin .LShift (fVar "r") (fVar "n")) (fVar "a_digit")) (lCons (fVar "b") (lCons (fVar "n") lNil)))))
  (sExpr (fMe .append (fVar "q_digits") (lCons (fVar "q_digit") lNil)))))
  (sSeq (sExpr (fMe .reverse (fVar "q_digits") lNil))
  (sSeq (sAssign "q" (fCallF F_d2i (lCons (fVar "q_digits") (lCons (fVar "n") lNil))))
  (sRet (fTup (lCons (fVar "q") (lCons (fVar "r") lNil)))))))))))
noncomputable def g_rep : SF :=
  (sSeq (sWhile 40 (bVal (fVar "pairs")) (sSeq (sAssign "text" (fMe .join (fIdx (fVar "pairs") (fConst (.int 1))) (lCons (fMe .split (fVar "text") (lCons (fIdx (fVar "pairs") (fConst (.int 0))) lNil)) lNil)))
  (sAssign "pairs" (fSlA (fVar "pairs") (fConst (.int 2))))))
  (sRet (fVar "text")))
end Mine

end

/- I2 -/
section
open PySem PySem.W PyProof.Rows
set_option maxRecDepth 100000
namespace Mine

noncomputable def V0i (n : Int) (fi : Addr) (v : PVal) (nm : Str) : PV := fun y => if y = "n" then some (.int n) else if y = "inner" then some (.val (.ref fi)) else if y = nm then some v else none

theorem set_take {α : Type} (vs : List α) (L : Nat) (x : α) (h : L < vs.length) : vs.set L x = vs.take L ++ [x] ++ vs.drop (L + 1) := by
  rw [List.set_eq_take_append_cons_drop, if_pos h]; simp

theorem i2d_rec (n j : Nat) (fi : Addr) : ∀ (k L m x : Nat) (vs : List PVal) (H : PH), 0 < m → m ≤ 2 ^ k → x < 2 ^ (n * m) → L + m ≤ vs.length → vs.length ≤ 100000 → H[j]? = some vs → n ≤ 100000 → n * m ≤ 100000 →
    recF (V0i n fi (.ref j) "a_digits") ["x", "L", "R"] g_i2d_in fi (k + 1) fi [.int (x : Int), .int (L : Int), .int ((L + m : Nat) : Int)] H = some (.none, H.set j (vs.take L ++ nums (digN n x m) ++ vs.drop (L + m))) := by
  intro k
  induction k with
  | zero =>
    intro L m x vs H hm hk hx hL hv hH hn hb
    have hm1 : m = 1 := by (first | lia | omega)
    subst hm1
    rw [Nat.mul_one] at hx
    unfold recF
    rw [if_pos ⟨rfl, rfl⟩]
    unfold runF
    have key : g_i2d_in (recF (V0i n fi (.ref j) "a_digits") ["x", "L", "R"] g_i2d_in fi 0) (bindV ((["x", "L", "R"] : List Str).zip [PVal.int (x : Int), .int (L : Int), .int ((L + 1 : Nat) : Int)]) (V0i n fi (.ref j) "a_digits")) H = some (.ret .none, bindV ((["x", "L", "R"] : List Str).zip [PVal.int (x : Int), .int (L : Int), .int ((L + 1 : Nat) : Int)]) (V0i n fi (.ref j) "a_digits"), H.set j (vs.set L (.int x))) := by
      unfold g_i2d_in
      refine s_seqr (s_if (b_cmp (e_bin (e_var rfl) e_const p_add) (e_var rfl) rfl) ((if_pos (by simp)).trans ?_))
      refine s_seq (V1 := _) (H1 := H.set j (vs.set L (.int x))) ?_ s_retNone
      have := s_set (V := bindV ((["x", "L", "R"] : List Str).zip [PVal.int (x : Int), .int (L : Int), .int ((L + 1 : Nat) : Int)]) (V0i n fi (.ref j) "a_digits")) (H := H) (H1 := H) (H2 := H) (H3 := H) (i := fVar "L") (o := fVar "a_digits") (f := fVar "x") (j := j) (k := (L : Int)) (v := .int x) (vs := vs) (e_var rfl) (e_var rfl) (e_var rfl) hH (by (first | lia | omega)) (by (first | lia | omega)) (by (first | lia | omega)) rfl
      simpa using this
    rw [key]
    simp only [Option.bind_some, retV, Option.map_some]
    have hlen : (H.set j (vs.set L (.int x))).take H.length = H.set j (vs.set L (.int x)) := List.take_of_length_le (by simp)
    rw [hlen, set_take vs L _ (by (first | lia | omega))]
    have hd : digN n x 1 = [x] := by simp [digN, Nat.mod_eq_of_lt hx]
    rw [hd]; rfl
  | succ k ih =>
    intro L m x vs H hm hk hx hL hv hH hn hb
    by_cases hm1 : m = 1
    · subst hm1
      rw [Nat.mul_one] at hx
      unfold recF
      rw [if_pos ⟨rfl, rfl⟩]
      unfold runF
      have key : g_i2d_in (recF (V0i n fi (.ref j) "a_digits") ["x", "L", "R"] g_i2d_in fi (k + 1)) (bindV ((["x", "L", "R"] : List Str).zip [PVal.int (x : Int), .int (L : Int), .int ((L + 1 : Nat) : Int)]) (V0i n fi (.ref j) "a_digits")) H = some (.ret .none, bindV ((["x", "L", "R"] : List Str).zip [PVal.int (x : Int), .int (L : Int), .int ((L + 1 : Nat) : Int)]) (V0i n fi (.ref j) "a_digits"), H.set j (vs.set L (.int x))) := by
        unfold g_i2d_in
        refine s_seqr (s_if (b_cmp (e_bin (e_var rfl) e_const p_add) (e_var rfl) rfl) ((if_pos (by simp)).trans ?_))
        refine s_seq (V1 := _) (H1 := H.set j (vs.set L (.int x))) ?_ s_retNone
        have := s_set (V := bindV ((["x", "L", "R"] : List Str).zip [PVal.int (x : Int), .int (L : Int), .int ((L + 1 : Nat) : Int)]) (V0i n fi (.ref j) "a_digits")) (H := H) (H1 := H) (H2 := H) (H3 := H) (i := fVar "L") (o := fVar "a_digits") (f := fVar "x") (j := j) (k := (L : Int)) (v := .int x) (vs := vs) (e_var rfl) (e_var rfl) (e_var rfl) hH (by (first | lia | omega)) (by (first | lia | omega)) (by (first | lia | omega)) rfl
        simpa using this
      rw [key]
      simp only [Option.bind_some, retV, Option.map_some]
      have hlen : (H.set j (vs.set L (.int x))).take H.length = H.set j (vs.set L (.int x)) := List.take_of_length_le (by simp)
      rw [hlen, set_take vs L _ (by (first | lia | omega))]
      have hd : digN n x 1 = [x] := by simp [digN, Nat.mod_eq_of_lt hx]
      rw [hd]; rfl
    · have e2 : (2 : Nat) ^ (k + 1) = 2 * 2 ^ k := by rw [Nat.pow_succ]; (first | lia | omega)
      -- the halves
      obtain ⟨m1, m2, hm12, h1, h2, h3, h4, hmid⟩ : ∃ m1 m2, m = m1 + m2 ∧ 0 < m1 ∧ 0 < m2 ∧ m1 ≤ 2 ^ k ∧ m2 ≤ 2 ^ k ∧ (L + (L + m)) / 2 = L + m1 := ⟨m / 2, m - m / 2, by (first | lia | omega), by (first | lia | omega), by (first | lia | omega), by (first | lia | omega), by (first | lia | omega), by (first | lia | omega)⟩
      subst hm12
      have hb1 : n * m1 ≤ 100000 := Nat.le_trans (Nat.mul_le_mul_left n (by (first | lia | omega))) hb
      have hb2 : n * m2 ≤ 100000 := Nat.le_trans (Nat.mul_le_mul_left n (by (first | lia | omega))) hb
      have hxu : x / 2 ^ (n * m1) < 2 ^ (n * m2) := by
        rw [Nat.div_lt_iff_lt_mul (Nat.two_pow_pos _), ← Nat.pow_add, ← Nat.mul_add, Nat.add_comm m2]; exact hx
      have i1 := ih L m1 (x % 2 ^ (n * m1)) vs H h1 h3 (Nat.mod_lt _ (Nat.two_pow_pos _)) (by (first | lia | omega)) hv hH hn hb1
      have hlen1 : (vs.take L ++ nums (digN n (x % 2 ^ (n * m1)) m1) ++ vs.drop (L + m1)).length = vs.length := by
        simp [nums_length, digN_length]; (first | lia | omega)
      have i2 := ih (L + m1) m2 (x / 2 ^ (n * m1)) (vs.take L ++ nums (digN n (x % 2 ^ (n * m1)) m1) ++ vs.drop (L + m1)) (H.set j (vs.take L ++ nums (digN n (x % 2 ^ (n * m1)) m1) ++ vs.drop (L + m1))) h2 h4 hxu (by rw [hlen1]; (first | lia | omega)) (by rw [hlen1]; exact hv)
        (List.getElem?_set_self (List.getElem?_eq_some_iff.mp hH).1) hn hb2
      rw [List.set_set] at i2
      unfold recF
      rw [if_pos ⟨rfl, rfl⟩]
      unfold runF
      have hxb : Builtin.Int.intBits (x : Int) ≤ 100000 := bits_leN (Nat.lt_of_lt_of_le hx (Nat.pow_le_pow_right (by (first | lia | omega)) hb))
      have eL : ((L : Int) + ((L + (m1 + m2) : Nat) : Int)) = ((L + (L + (m1 + m2)) : Nat) : Int) := by (first | lia | omega)
      have eshift : n * m1 = m1 * n := Nat.mul_comm _ _
      generalize hGG : recF (V0i n fi (.ref j) "a_digits") ["x", "L", "R"] g_i2d_in fi (k + 1) = GG at i1 i2 ⊢
      have key : ∃ V', g_i2d_in GG (bindV ((["x", "L", "R"] : List Str).zip [PVal.int (x : Int), .int (L : Int), .int ((L + (m1 + m2) : Nat) : Int)]) (V0i n fi (.ref j) "a_digits")) H = some (.next, V',
          H.set j ((vs.take L ++ nums (digN n (x % 2 ^ (n * m1)) m1) ++ vs.drop (L + m1)).take (L + m1) ++ nums (digN n (x / 2 ^ (n * m1)) m2) ++ (vs.take L ++ nums (digN n (x % 2 ^ (n * m1)) m1) ++ vs.drop (L + m1)).drop (L + m1 + m2))) := by
        unfold g_i2d_in
        apply Exists.intro
        refine s_seq (s_if (b_cmp (e_bin (e_var rfl) e_const p_add) (e_var rfl) rfl) ((if_neg (by simp; (first | lia | omega))).trans s_next)) ?_
        apply s_seq
        · apply s_assign
          apply e_bin
          · apply e_bin
            iterate 2 exact e_var rfl
            exact p_add
          · exact e_const
          · rw [eL]
            have := q_shr (i := L + (L + (m1 + m2))) (j := 1)
            rw [show (2 : Nat) ^ 1 = 2 from rfl, hmid] at this
            exact this
        apply s_seq
        · apply s_assign
          apply e_bin
          · apply e_bin
            iterate 2 exact e_var rfl
            exact p_sub
          · exact e_var rfl
          · have e : (((L + m1 : Nat) : Int) - (L : Int)) = (m1 : Int) := by (first | lia | omega)
            rw [e]
            apply q_mul
            have := bits_leN (x := m1) (k := 17) (by (first | lia | omega))
            have := bits_leN (x := n) (k := 17) (by (first | lia | omega))
            (first | lia | omega)
        apply s_seq
        · apply s_assign
          apply e_bin
          iterate 2 exact e_var rfl
          have := q_shr (i := x) (j := m1 * n)
          rw [← eshift] at this ⊢
          exact this
        apply s_seq
        · apply s_assign
          apply e_bin
          · exact e_var rfl
          · apply e_bin
            iterate 2 exact e_var rfl
            apply q_shl
            have : Builtin.Int.intBits ((x / 2 ^ (n * m1) : Nat) : Int) ≤ 100000 := bits_leN (Nat.lt_of_lt_of_le hxu (Nat.pow_le_pow_right (by (first | lia | omega)) hb2))
            (first | lia | omega)
          · have := xor_low x (n * m1)
            rw [p_xor, ← eshift, this]
        apply s_seq
        · apply s_expr
          apply e_call
          · exact e_var rfl
          · apply l_cons
            · exact e_var rfl
            apply l_cons
            · exact e_var rfl
            apply l_cons
            · exact e_var rfl
            exact l_nil
          · exact i1
        · apply s_expr
          apply e_call
          · exact e_var rfl
          · apply l_cons
            · exact e_var rfl
            apply l_cons
            · exact e_var rfl
            apply l_cons
            · exact e_var rfl
            exact l_nil
          · rw [← Nat.add_assoc]; exact i2
      obtain ⟨V', key⟩ := key
      rw [key]
      simp only [Option.bind_some]
      rw [List.take_of_length_le (by simp)]
      congr 3
      have hl1 : (vs.take L ++ nums (digN n (x % 2 ^ (n * m1)) m1)).length = L + m1 := by simp [nums_length, digN_length]; (first | lia | omega)
      rw [List.take_left' hl1, show L + m1 + m2 = (L + m1) + m2 from rfl, ← List.drop_drop, List.drop_left' hl1, List.drop_drop, digN_add, show L + (m1 + m2) = L + m1 + m2 from by (first | lia | omega)]
      simp [nums]

theorem runF_ret {V0 V' : PV} {pb : List (Str × PVal)} {g : SF} {H K : PH} {v w : PVal} (h : g (bindV pb V0) H = some (.ret v, V', K)) (hv : retV H.length K v = some w) : runF V0 pb g H = some (w, K.take H.length) := by simp [runF, h, hv]

theorem runE {V0 : PV} {pb : List (Str × PVal)} {g : SF} {H K H' : PH} {v w : PVal} (h : ∃ V', g (bindV pb V0) H = some (.ret v, V', K)) (hv : retV H.length K v = some w) (hK : K.take H.length = H') : runF V0 pb g H = some (w, H') := by
  obtain ⟨V', h⟩ := h; rw [runF_ret h hv, hK]
theorem nums_get (ds : List Nat) (L : Nat) (h : L < ds.length) : (nums ds)[L]? = some (.int ((ds[L] : Nat) : Int)) := by simp [nums, h]

theorem d2i_rec (n : Nat) (ds : List Nat) (fi : Addr) (hd : ∀ d ∈ ds, d < 2 ^ n) (hl : ds.length ≤ 5000) (hn : n ≤ 5000) : ∀ (k L m : Nat) (H : PH), 0 < m → m ≤ 2 ^ k → L + m ≤ ds.length →
    recF (V0i n fi (.lst (nums ds)) "digits") ["L", "R"] g_d2i_in fi (k + 1) fi [.int (L : Int), .int ((L + m : Nat) : Int)] H = some (.int ((valN n ((ds.drop L).take m) : Nat) : Int), H) := by
  have leaf : ∀ (G : GF) (L : Nat) (H : PH), L + 1 ≤ ds.length → runF (V0i n fi (.lst (nums ds)) "digits") ((["L", "R"] : List Str).zip [PVal.int (L : Int), .int ((L + 1 : Nat) : Int)]) (g_d2i_in G) H = some (.int ((valN n ((ds.drop L).take 1) : Nat) : Int), H) := by
    intro G L H hL
    have e1 : valN n ((ds.drop L).take 1) = ds[L] := by
      rw [List.drop_eq_getElem_cons (show L < ds.length by (first | lia | omega)), List.take_succ_cons, List.take_zero, valN, valN, Nat.mul_zero, Nat.add_zero]
    rw [e1]
    have := runF_ret (V0 := V0i n fi (.lst (nums ds)) "digits") (pb := (["L", "R"] : List Str).zip [PVal.int (L : Int), .int ((L + 1 : Nat) : Int)]) (g := g_d2i_in G) (H := H) (K := H) (v := .int ((ds[L] : Nat) : Int)) (w := .int ((ds[L] : Nat) : Int)) (V' := bindV ((["L", "R"] : List Str).zip [PVal.int (L : Int), .int ((L + 1 : Nat) : Int)]) (V0i n fi (.lst (nums ds)) "digits")) ?_ rfl
    · rw [List.take_of_length_le (Nat.le_refl _)] at this; exact this
    · unfold g_d2i_in
      apply s_seqr
      apply s_if
      · apply b_cmp
        · apply e_bin
          · exact e_var rfl
          · exact e_const
          · exact p_add
        · exact e_var rfl
        · rfl
      · rw [if_pos (by simp)]
        apply s_ret
        apply e_idx
        · exact e_var rfl
        · exact e_var rfl
        · show nthP (nums ds) (L : Int) = _
          unfold nthP
          rw [if_pos (by (first | lia | omega)), Int.toNat_natCast, nums_get ds L (by (first | lia | omega))]
  intro k
  induction k with
  | zero =>
    intro L m H hm hk hL
    have hm1 : m = 1 := by (first | lia | omega)
    subst hm1
    unfold recF
    rw [if_pos ⟨rfl, rfl⟩]
    exact leaf _ L H hL
  | succ k ih =>
    intro L m H hm hk hL
    by_cases hm1 : m = 1
    · subst hm1
      unfold recF
      rw [if_pos ⟨rfl, rfl⟩]
      exact leaf _ L H hL
    · have e2 : (2 : Nat) ^ (k + 1) = 2 * 2 ^ k := by rw [Nat.pow_succ]; (first | lia | omega)
      obtain ⟨m1, m2, hm12, h1, h2, h3, h4, hmid⟩ : ∃ m1 m2, m = m1 + m2 ∧ 0 < m1 ∧ 0 < m2 ∧ m1 ≤ 2 ^ k ∧ m2 ≤ 2 ^ k ∧ (L + (L + m)) / 2 = L + m1 := ⟨m / 2, m - m / 2, by (first | lia | omega), by (first | lia | omega), by (first | lia | omega), by (first | lia | omega), by (first | lia | omega), by (first | lia | omega)⟩
      subst hm12
      have i1 := ih L m1 H h1 h3 (by (first | lia | omega))
      have i2 := ih (L + m1) m2 H h2 h4 (by (first | lia | omega))
      unfold recF
      rw [if_pos ⟨rfl, rfl⟩]
      generalize recF (V0i n fi (.lst (nums ds)) "digits") ["L", "R"] g_d2i_in fi (k + 1) = GG at i1 i2 ⊢
      have eL : ((L : Int) + ((L + (m1 + m2) : Nat) : Int)) = ((L + (L + (m1 + m2)) : Nat) : Int) := by (first | lia | omega)
      have hb : m1 * n ≤ 5000 * 5000 := Nat.mul_le_mul (by (first | lia | omega)) hn
      have hv2 : valN n ((ds.drop (L + m1)).take m2) < 2 ^ (n * m2) := by
        have := valN_lt n ((ds.drop (L + m1)).take m2) fun d hq => hd d (List.mem_of_mem_drop (List.mem_of_mem_take hq))
        rwa [List.length_take, List.length_drop, Nat.min_eq_left (by (first | lia | omega))] at this
      have hb2 : n * m2 ≤ 5000 * 5000 := Nat.mul_le_mul hn (by (first | lia | omega))
      have ev : valN n ((ds.drop L).take (m1 + m2)) = valN n ((ds.drop (L + m1)).take m2) * 2 ^ (m1 * n) + valN n ((ds.drop L).take m1) := by
        rw [List.take_add, valN_append, List.length_take, List.length_drop, Nat.min_eq_left (by (first | lia | omega)), List.drop_drop, Nat.mul_comm n m1, Nat.mul_comm (2 ^ (m1 * n))]; (first | lia | omega)
      rw [ev]
      refine runE (K := H) (v := .int ((valN n ((ds.drop (L + m1)).take m2) * 2 ^ (m1 * n) + valN n ((ds.drop L).take m1) : Nat) : Int)) ?_ rfl (List.take_of_length_le (Nat.le_refl _))
      · apply Exists.intro
        show g_d2i_in GG (bindV ((["L", "R"] : List Str).zip [PVal.int (L : Int), .int ((L + (m1 + m2) : Nat) : Int)]) (V0i n fi (.lst (nums ds)) "digits")) H = _
        unfold g_d2i_in
        refine s_seq (s_if (b_cmp (e_bin (e_var rfl) e_const p_add) (e_var rfl) rfl) ((if_neg (by simp; (first | lia | omega))).trans s_next)) ?_
        apply s_seq
        · apply s_assign
          apply e_bin
          · apply e_bin
            iterate 2 exact e_var rfl
            exact p_add
          · exact e_const
          · rw [eL]
            have := q_shr (i := L + (L + (m1 + m2))) (j := 1)
            rw [show (2 : Nat) ^ 1 = 2 from rfl, hmid] at this
            exact this
        apply s_seq
        · apply s_assign
          apply e_bin
          · apply e_bin
            iterate 2 exact e_var rfl
            exact p_sub
          · exact e_var rfl
          · have e : (((L + m1 : Nat) : Int) - (L : Int)) = (m1 : Int) := by (first | lia | omega)
            rw [e]
            apply q_mul
            have := bits_leN (x := m1) (k := 17) (by (first | lia | omega))
            have := bits_leN (x := n) (k := 17) (by (first | lia | omega))
            (first | lia | omega)
        · apply s_ret
          apply e_bin
          · apply e_bin
            · apply e_call
              · exact e_var rfl
              · apply l_cons
                · exact e_var rfl
                apply l_cons
                · exact e_var rfl
                exact l_nil
              · rw [← Nat.add_assoc]; exact i2
            · exact e_var rfl
            · apply q_shl
              have : Builtin.Int.intBits ((valN n ((ds.drop (L + m1)).take m2) : Nat) : Int) ≤ n * m2 := bits_leN hv2
              (first | lia | omega)
          · apply e_call
            · exact e_var rfl
            · apply l_cons
              · exact e_var rfl
              apply l_cons
              · exact e_var rfl
              exact l_nil
            · exact i1
          · exact q_add
end Mine

end

/- Cl -/
section
open PySem PySem.W PyProof.Rows
set_option maxRecDepth 100000
namespace Mine

section
variable {X : Cx} {ρ : List Addr} {H : PH} {ex : List (Addr × Obj)} {pre' : List Addr} {h h' : Heap}

theorem lookup_has : ∀ {l : List (Addr × Obj)} {a : Addr} {o : Obj}, (a, o) ∈ l → ∃ o', l.lookup a = some o' := by
  intro l
  induction l with
  | nil => intro a o h; cases h
  | cons p r ih =>
    intro a o h
    obtain ⟨b, x⟩ := p
    rw [List.lookup_cons]
    by_cases hb : (a == b) = true
    · rw [hb]; exact ⟨x, rfl⟩
    · have hb : (a == b) = false := by simpa using hb
      rw [hb]
      rcases List.mem_cons.mp h with q | q
      · cases q; simp at hb
      · exact ih q
theorem ext_mem (R : HRel X ρ H h) (hk : ∀ p ∈ ex, h.get? p.1 = some p.2) {a : Addr} {o : Obj} (hm : (a, o) ∈ ex) : (X.ext ex pre').base a = some o := by
  show (match X.base a with | some o => some o | none => ex.lookup a) = some o
  cases q : X.base a with
  | some o' =>
    have e1 := R.keep a o' q
    have e2 := hk _ hm
    rw [e1] at e2; exact e2
  | none =>
    obtain ⟨o', e⟩ := lookup_has hm
    have e2 := hk _ (mem_of_lookupK e)
    have e3 := hk _ hm
    rw [show ((a, o').1) = a from rfl] at e2
    rw [e3] at e2
    rw [e]; exact e2.symm
theorem not_ban {c P : Addr} {qual : Str} {pos : Pos} (N : NestOk X c P qual pos) (R : HRel X ρ H h) {a : Addr} {o : Obj} (e : h.get? a = some o) (h1 : o.cls ≠ .type "list") (h2 : o.cls ≠ .none) : a ∉ X.ban ρ := fun q => by
  rcases List.mem_append.mp q with q | q
  · obtain ⟨i, hi, ei⟩ := List.getElem_of_mem q
    obtain ⟨_, _, _, ⟨n, e2⟩, _⟩ := R.at (i := i) (a := a) (by rw [List.getElem?_eq_some_iff]; exact ⟨hi, ei⟩)
    rw [e] at e2; cases e2; exact h1 rfl
  · obtain ⟨ps, e2⟩ := N.tcl h R.ti a q
    rw [e] at e2; cases e2; exact h2 rfl
end

section
variable {X : Cx} {ρ : List Addr} {H : PH} {sc insc : Scope} {env : Env} {V : PV} {c P : Addr} {qual : Str} {pos : Pos} {params : Arguments} {inbody : List Stmt}

/-- what a nested def leaves -/
structure Made (X : Cx) (ρ : List Addr) (h : Heap) (env : Env) (qual : Str) (params : Arguments) (inbody : List Stmt) (insc : Scope) (fi : Addr) (fo : Obj) (c' : Addr) (oc : Obj) (cl : List (Str × Addr)) : Prop where
  fat : h.get? fi = some fo
  fo_ : ∃ doc pm ctv, fo = fnMade "inner" (qual ++ "inner") params inbody insc cl doc pm c' ctv
  cat : h.get? c' = some oc
  crec : ∃ vs t, oc.data = .fields vs ∧ vs[1]? = some (.str (qual ++ "inner") t)
  c1 : ∀ n c, (n, c) ∈ cl → env.cells.lookup n = some c ∧ (n, NameKind.free) ∈ insc.names
  c2 : ∀ n, (n, NameKind.free) ∈ insc.names → ∃ c, (n, c) ∈ cl
  fb : fi ∉ X.ban ρ
  cb : c' ∉ X.ban ρ

theorem nest_def {s : Shared} {A : Around} {Q : Flow → Shared → Prop} {E : Value → Shared → Prop} (N : NestOk X c P (qual ++ "inner") pos) (hcode : env.code = .ref c) (hqual : env.qual = qual) (hd0 : params.defaults = []) (hk0 : params.kw_defaults = []) (ha : annTrees params none env = [])
    (hin : sc.names.lookup (("inner" : Str)) = some .cell) (hfree : ∀ n, (n, NameKind.free) ∈ insc.names → sc.names.lookup n = some .cell) (hne : (("inner" : Str), NameKind.free) ∈ insc.names)
    (R : HRel X ρ H s.heap) (F : FRel X ρ sc env V s.heap)
    (k : ∀ fi fo c' oc cl h' tk', Made X ρ h' env qual params inbody insc fi fo c' oc cl → HRel X ρ H h' → FRel X ρ sc env (setV V "inner" (.val (.ref fi))) h' → Moved X ρ sc env s.heap h' → Q .next { s with heap := h', toks := tk' }) :
    wpAny X.M A (exec (.FunctionDef "inner" params inbody [] none [] insc none "inner" pos) env) Q E s := by
  refine nestDef_K hd0 hk0 ha ?_
  have hq : qualnameIn env "inner" "inner" = qual ++ "inner" := by
    unfold qualnameIn
    have : env.kindOf "inner" = some .cell := by show env.scope.names.lookup (("inner" : Str)) = _; rw [F.scope]; exact hin
    rw [this, hqual]; rfl
  rw [hq]
  obtain ⟨cl, hcl, c1, c2⟩ := closure_ok (env := env) insc fun n k h hk => F.own n (.inl (hfree n (hk ▸ h)))
  refine mk_any N R hcl (fun q => ?_) F.glo hcode fun c' oc vs t ctv doc pm h1 tk R1 p1 e1 e2 e3 e4 => ?_
  · obtain ⟨c, hc⟩ := c2 "inner" hne
    rw [q] at hc; cases hc
  have kp := Keeps.push h1 (fnMade "inner" (qual ++ "inner") params inbody insc cl doc pm c' ctv)
  have R2 := R1.keeps kp
  have F2 := (F.pres p1).pres (Keeps.pres (X := X) (ρ := ρ) kp)
  refine store_sound (s := { s with heap := h1.push (fnMade "inner" (qual ++ "inner") params inbody insc cl doc pm c' ctv), toks := tk }) R2 F2 (.inr hin) (VRel.val (.ref h1.objs.size)) fun h3 t3 tgt R3 F3 ht ke => ?_
  have tin : ∃ o, h1.get? tgt = some o := by
    rcases ht with rfl | ⟨_, hc⟩
    · obtain ⟨_, ⟨o, _, _, e, _⟩, _⟩ := (F.pres p1).ns; exact ⟨o, e⟩
    · obtain ⟨_, o, e, _⟩ := (F.pres p1).cex "inner" tgt hc; exact ⟨o, e⟩
  have mt : Mach X h1 tgt := by
    rcases ht with rfl | ⟨q1, q2⟩
    · exact (F.pres p1).ml
    · exact (F.pres p1).mc "inner" tgt q1 q2
  have hfi : h1.objs.size ≠ tgt := fun q => by obtain ⟨o, e⟩ := tin; exact absurd (Heap.lt_size e) (by rw [← q]; exact Nat.lt_irrefl _)
  have hc' : c' ≠ tgt := fun q => (mt.2 oc (q ▸ e1)).noKey ⟨.inl e2, vs, e3⟩
  have g1 : h3.get? h1.objs.size = some (fnMade "inner" (qual ++ "inner") params inbody insc cl doc pm c' ctv) := ke _ _ hfi (Heap.get?_push_size _ rfl)
  have g2 : h3.get? c' = some oc := ke _ _ hc' (kp _ _ e1)
  refine k h1.objs.size _ c' oc cl h3 t3 ⟨g1, ⟨doc, pm, ctv, rfl⟩, g2, ⟨vs, t, e3, e4⟩, c1, c2, not_ban N R3 g1 (by simp) (by simp), not_ban N R3 g2 (by rw [e2]; simp) (by rw [e2]; simp)⟩ R3 F3 ?_
  exact Moved.step (p1.trans kp.pres) (store_moved ht ke)

/-- the nested def's calls, in the context with its cells -/
theorem made_rec {h : Heap} {fi : Addr} {fo : Obj} {c' : Addr} {oc : Obj} {cl : List (Str × Addr)} {nm : Str} {v : PVal} {n : Int} {names : List Str} {gb : GF → SF} {more : List (Addr × Obj)}
    (M : Made X ρ h env qual params inbody insc fi fo c' oc cl) (R : HRel X ρ H h) (F : FRel X ρ sc env (setV V "inner" (.val (.ref fi))) h) (hVn : V "n" = some (.int n)) (hVm : V nm = some v) (hnn : (nm : Str) ≠ "inner") (hnn2 : (nm : Str) ≠ "n")
    (hfree : ∀ n, (n, NameKind.free) ∈ insc.names → sc.names.lookup n = some .cell) (hfr : ∀ x : Str, (x, NameKind.free) ∈ insc.names ↔ x = "n" ∨ x = "inner" ∨ x = nm)
    (hkind : insc.kind = .function) (hnd : (insc.names.map (·.1)).Nodup) (hco : insc.isCoroutine = false) (hgen : insc.isGenerator = false)
    (hba : ∀ (cl : List (Str × Addr)) (doc pm ctv : Value) (c' : Addr) (q : Str) (xs : List Value), xs.length = names.length → bindArgs (fnX "inner" q params inbody insc cl .none .none doc pm none (.ref c') ctv) ⟨xs, []⟩ = pure (names.zip xs))
    (hpk : ∀ x ∈ names, insc.names.lookup x = some .local ∨ insc.names.lookup x = some .cell)
    (hm1 : ∀ p ∈ more, h.get? p.1 = some p.2) (hm2 : ∀ p ∈ more, p.1 ∉ X.ban ρ)
    (hv : ∀ (Y : Cx) r cm om, env.cells.lookup nm = some cm → h.get? cm = some om → om.data = .cell (some r) → Y.T = X.T → Y.pre = ρ → (∀ p ∈ more, Y.base p.1 = some p.2) → VRel X ρ h v r → ∀ ρ' h' H', HRel Y ρ' H' h' → VRel Y ρ' h' v r)
    (hs : ∀ (Y : Cx) d G, GSound Y d G → SimSs Y d insc inbody (gb G)) :
    ∃ ex, (∀ p ∈ ex, h.get? p.1 = some p.2) ∧ (∀ p ∈ ex, p.1 ∉ X.ban ρ) ∧ ∀ k, GSound (X.ext ex ρ) k (recF (V0i n fi v nm) names gb fi k) := by
  obtain ⟨cn, rn, ln, ⟨on, en, dn⟩, vn⟩ := F.cel "n" (.int n) hVn (.inl (hfree "n" ((hfr "n").mpr (.inl rfl))))
  obtain ⟨ci, ri, li, ⟨oi, ei, di⟩, vi⟩ := F.cel "inner" (.val (.ref fi)) rfl (.inl (hfree "inner" ((hfr "inner").mpr (.inr (.inl rfl)))))
  obtain ⟨cm, rm, lm, ⟨om, em, dm⟩, vm⟩ := F.cel nm v (by unfold setV; rw [if_neg hnn]; exact hVm) (.inl (hfree nm ((hfr nm).mpr (.inr (.inr rfl)))))
  have exk : ∀ p ∈ (fi, fo) :: (c', oc) :: (cn, on) :: (ci, oi) :: (cm, om) :: more, h.get? p.1 = some p.2 := fun p hp => by
    rcases List.mem_cons.mp hp with rfl | hp
    · exact M.fat
    rcases List.mem_cons.mp hp with rfl | hp
    · exact M.cat
    rcases List.mem_cons.mp hp with rfl | hp
    · exact en
    rcases List.mem_cons.mp hp with rfl | hp
    · exact ei
    rcases List.mem_cons.mp hp with rfl | hp
    · exact em
    · exact hm1 p hp
  have exn : ∀ p ∈ (fi, fo) :: (c', oc) :: (cn, on) :: (ci, oi) :: (cm, om) :: more, p.1 ∉ X.ban ρ := fun p hp => by
    rcases List.mem_cons.mp hp with rfl | hp
    · exact M.fb
    rcases List.mem_cons.mp hp with rfl | hp
    · exact M.cb
    rcases List.mem_cons.mp hp with rfl | hp
    · exact F.nc _ _ ln
    rcases List.mem_cons.mp hp with rfl | hp
    · exact F.nc _ _ li
    rcases List.mem_cons.mp hp with rfl | hp
    · exact F.nc _ _ lm
    · exact hm2 p hp
  generalize hex : (fi, fo) :: (c', oc) :: (cn, on) :: (ci, oi) :: (cm, om) :: more = ex at exk exn
  refine ⟨ex, exk, exn, fun k => ?_⟩
  have b0 : ∀ {a o}, (a, o) ∈ ex → (X.ext ex ρ).base a = some o := fun hm => ext_mem R exk hm
  obtain ⟨doc, pm, ctv, hfo⟩ := M.fo_
  obtain ⟨vs, t, e3, e4⟩ := M.crec
  have cells : ∀ x c, (x, c) ∈ cl → (x = "n" ∧ c = cn) ∨ (x = "inner" ∧ c = ci) ∨ (x = nm ∧ c = cm) := fun x c hm => by
    obtain ⟨l1, l2⟩ := M.c1 x c hm
    rcases (hfr x).mp l2 with rfl | rfl | rfl
    · rw [ln] at l1; cases l1; exact .inl ⟨rfl, rfl⟩
    · rw [li] at l1; cases l1; exact .inr (.inl ⟨rfl, rfl⟩)
    · rw [lm] at l1; cases l1; exact .inr (.inr ⟨rfl, rfl⟩)
  have mem3 : (fi, fo) ∈ ex ∧ (c', oc) ∈ ex ∧ (cn, on) ∈ ex ∧ (ci, oi) ∈ ex ∧ (cm, om) ∈ ex := by rw [← hex]; simp
  have memm : ∀ p ∈ more, p ∈ ex := fun p hp => by rw [← hex]; simp [hp]
  refine rec_sound (X := X.ext ex ρ) (fi := fi) (o := fo) (fd := fnX "inner" (qual ++ "inner") params inbody insc cl .none .none doc pm none (.ref c') ctv) (body := inbody) (b0 mem3.1) (by rw [hfo]) rfl hco hgen rfl rfl
    (fun h' hk => ⟨c', oc, vs, t, rfl, hk _ _ (b0 mem3.2.1), e3, e4⟩) (fun args hl => BindOk.of names hl fun xs hx => hba cl doc pm ctv c' _ xs hx) hpk ?_ (fun d G => hs _ d G) k
  refine clo_of hkind hnd (fun n c hm => (M.c1 n c hm).2) M.c2 (fun x y c h1 h2 => F.inj x y c (M.c1 x c h1).1 (M.c1 y c h2).1) (fun x c hm => ?_) (fun x w hw => ?_)
  · rcases cells x c hm with ⟨_, rfl⟩ | ⟨_, rfl⟩ | ⟨_, rfl⟩
    · exact ⟨on, _, b0 mem3.2.2.1, dn⟩
    · exact ⟨oi, _, b0 mem3.2.2.2.1, di⟩
    · exact ⟨om, _, b0 mem3.2.2.2.2, dm⟩
  · unfold V0i at hw
    split at hw
    · rename_i hx; subst hx; cases hw
      refine ⟨(hfr _).mpr (.inl rfl), fun c hm => ?_⟩
      rcases cells _ c hm with ⟨_, rfl⟩ | ⟨q, _⟩ | ⟨q, _⟩
      · obtain ⟨t, rfl⟩ := vn.int_inv
        exact ⟨on, _, b0 mem3.2.2.1, dn, fun ρ' h' H' _ => .int _ _⟩
      · exact absurd q (by decide)
      · exact absurd q.symm hnn2
    · split at hw
      · rename_i hx; subst hx; cases hw
        refine ⟨(hfr _).mpr (.inr (.inl rfl)), fun c hm => ?_⟩
        rcases cells _ c hm with ⟨q, _⟩ | ⟨_, rfl⟩ | ⟨q, _⟩
        · exact absurd q (by decide)
        · obtain rfl := vi.val_inv
          exact ⟨oi, _, b0 mem3.2.2.2.1, di, fun ρ' h' H' _ => .val _⟩
        · exact absurd q.symm hnn
      · split at hw
        · rename_i hx; subst hx; cases hw
          refine ⟨(hfr _).mpr (.inr (.inr rfl)), fun c hm => ?_⟩
          rcases cells _ c hm with ⟨q, _⟩ | ⟨q, _⟩ | ⟨_, rfl⟩
          · exact absurd q hnn2
          · exact absurd q hnn
          · exact ⟨om, _, b0 mem3.2.2.2.2, dm, hv (X.ext ex ρ) rm _ om lm em dm rfl rfl (fun p hp => b0 (memm p hp)) vm⟩
        · cases hw

/-- the first call of the nested def -/
theorem call_made {d : Nat} {h : Heap} {fi : Addr} {fo : Obj} {c' : Addr} {oc : Obj} {cl : List (Str × Addr)} {ex : List (Addr × Obj)} {G : GF} {vs : List PVal} {v : PVal} {H1 H2 : PH} {fn e : Expr} {es : List Expr} {cpos : Pos} {g : LF} {ff : EF} {W : PV} {s : Shared} {A : Around} {Q E : Value → Shared → Prop}
    (hc : eval (.Call fn (e :: es) [] cpos) env = (do callWith cpos (← eval fn env) [] (backTo cpos (starEach (e :: es) env)) [])) (he : starEach (e :: es) env = (false, eval e env) :: starEach es env)
    (M : Made X ρ h env qual params inbody insc fi fo c' oc cl) (exk : ∀ p ∈ ex, h.get? p.1 = some p.2) (exn : ∀ p ∈ ex, p.1 ∉ X.ban ρ) (hG : GSound (X.ext ex ρ) d G)
    (hr : G fi vs H1 = some (v, H2)) (hg : g W H = some (vs, H1)) (hff : ff W H = some (.val (.ref fi), H)) (hf : SimE X d sc fn ff) (ha : SimL X d sc (e :: es) g)
    (hA : Room d A) (R : HRel X ρ H s.heap) (F : FRel X ρ sc env W s.heap) (ps : Pres X ρ h s.heap)
    (k : ∀ r h' tk', HRel X ρ H2 h' → VRel X ρ h' v r → Pres X ρ s.heap h' → Q r { s with heap := h', toks := tk' }) : wpAny X.M A (eval (.Call fn (e :: es) [] cpos) env) Q E s := by
  rw [hc]
  refine wpAny_bind (hf W H _ H env s ρ A _ _ hff hA R F fun x h1 t1 R1 v1 p1 => ?_)
  obtain rfl := v1.val_inv
  obtain ⟨doc, pm, ctv, hfo⟩ := M.fo_
  have key : wpAny X.M A (spliced (backTo cpos (starEach (e :: es) env))) (fun vs s₁ => (s₁.heap.get? fi = some fo ∧ fo.data = .func (fnX "inner" (qual ++ "inner") params inbody insc cl .none .none doc pm none (.ref c') ctv)) ∧ wpAny X.M A (call (.ref fi) ([] ++ vs) []) Q E s₁) E { s with heap := h1, toks := t1 } :=
    ha W H vs H1 env { s with heap := h1, toks := t1 } ρ A cpos _ E hg hA R1 (F.pres p1) fun rs h2 t2 R2 v2 p2 => by
      have pp := (ps.trans p1).trans p2
      refine ⟨⟨pp _ _ M.fat M.fb, by rw [hfo]⟩, ?_⟩
      have R3 : HRel (X.ext ex ρ) ρ H1 h2 := R2.toExt (fun p hp => pp _ _ (exk p hp) (exn p hp)) exn (List.prefix_refl _)
      exact (hG fi vs H1 v H2 hr).2 { s with heap := h2, toks := t2 } ρ A Q E rs hA R3 v2.toExt fun r h4 t4 R4 v4 p4 => k r h4 t4 (R4.ofExt R.pre) v4.ofExt ((p1.trans p2).trans p4)
  rw [he] at key ⊢
  exact Calls.callWith_function (Calls.evalArgs_plain key)
end
end Mine

end

/- Cl2 -/
section
open PySem PySem.W PySem.Calls PyProof.Rows
set_option maxRecDepth 100000
namespace Mine

noncomputable def noV : PV := fun _ => none
theorem clo_nil {X : Cx} {scope : Scope} (hk : scope.kind = .function) (hn : (scope.names.map (·.1)).Nodup) (hf : scope.names.all (fun p => !(p.2 == .free)) = true) : ∀ ρ h H, HRel X ρ H h → CloOk X ρ h scope [] noV := fun ρ h H R => by
  have nf : ∀ n, (n, NameKind.free) ∉ scope.names := fun n q => by have := List.all_eq_true.mp hf _ q; simp at this
  exact ⟨hk, hn, fun n c h => absurd h List.not_mem_nil, fun n h => absurd h (nf n), fun x y c h => absurd h List.not_mem_nil, fun x v h => by cases h⟩

/-- a def of the top stands at f -/
structure DefAt (X : Cx) (f : Addr) (name : Str) (params : Arguments) (body : List Stmt) (scope : Scope) : Prop where
  ex : ∃ o pm cd doc, X.base f = some o ∧ o.data = .func (docDef name params body scope pm cd doc) ∧ ∀ h : Heap, (∀ b o, X.base b = some o → h.get? b = some o) → h.CodeRec cd name
/-- .. one that makes a closure -/
structure MakAt (X : Cx) (f : Addr) (name : Str) (params : Arguments) (body : List Stmt) (scope : Scope) (c : Addr) : Prop where
  ex : ∃ o pm doc, X.base f = some o ∧ o.data = .func (docDef name params body scope pm (.ref c) doc) ∧ ∀ h : Heap, (∀ b o, X.base b = some o → h.get? b = some o) → h.CodeRec (.ref c) name

noncomputable def plainScope (sc : Scope) : Bool := (sc.kind == .function) && decide ((sc.names.map (·.1)).Nodup) && sc.names.all (fun p => !(p.2 == .free)) && !sc.isCoroutine && !sc.isGenerator
noncomputable def bindsTo (sc : Scope) (names : List Str) : Bool := names.all fun x => sc.names.lookup x == some .local || sc.names.lookup x == some .cell
theorem bindsTo_ok {sc : Scope} {names : List Str} (h : bindsTo sc names = true) : ∀ x ∈ names, sc.names.lookup x = some .local ∨ sc.names.lookup x = some .cell := fun x hx => by
  have := List.all_eq_true.mp h x hx
  simpa using this
structure PlainSc (sc : Scope) : Prop where
  kind : sc.kind = .function
  nodup : (sc.names.map (·.1)).Nodup
  nofree : sc.names.all (fun p => !(p.2 == .free)) = true
  co : sc.isCoroutine = false
  gen : sc.isGenerator = false
theorem PlainSc.of {sc : Scope} (h : plainScope sc = true) : PlainSc sc := by
  unfold plainScope at h
  simp only [Bool.and_eq_true, decide_eq_true_eq] at h
  obtain ⟨⟨⟨⟨h1, h2⟩, h3⟩, h4⟩, h5⟩ := h
  exact ⟨by simpa using h1, h2, h3, by simpa using h4, by simpa using h5⟩

theorem fs_plain {X : Cx} {d : Nat} {f : Addr} {name : Str} {params : Arguments} {body : List Stmt} {scope : Scope} {names : List Str} {g : SF} {F : PF} (D : DefAt X f name params body scope) (hsc : plainScope scope = true) (hpk : bindsTo scope names = true)
    (hba : ∀ pm cd doc (xs : List Value), xs.length = names.length → bindArgs (docDef name params body scope pm cd doc) ⟨xs, []⟩ = pure (names.zip xs))
    (hs : SimSs X d scope body g) (hrun : ∀ vs H v H', F vs H = some (v, H') → vs.length = names.length ∧ runF noV (names.zip vs) g H = some (v, H')) : FS X (d + 1) f F := fun vs H v H' e => by
  obtain ⟨o, pm, cd, doc, hb, hd, hcd⟩ := D.ex
  obtain ⟨hl, hr⟩ := hrun vs H v H' e
  have P := PlainSc.of hsc
  exact call_sound (fd := docDef name params body scope pm cd doc) hb hd rfl P.co P.gen rfl rfl hcd (BindOk.of names hl fun xs hx => hba pm cd doc xs hx) (fun p hp => bindsTo_ok hpk p.1 (List.of_mem_zip hp).1) (clo_nil P.kind P.nodup P.nofree) hs hr

/-- text, *pairs -/
theorem fs_star {X : Cx} {d : Nat} {f : Addr} {name : Str} {params : Arguments} {body : List Stmt} {scope : Scope} {x y : Str} {g : SF} {F : PF} (D : DefAt X f name params body scope) (hsc : plainScope scope = true) (hpk : bindsTo scope [x, y] = true)
    (hba : ∀ pm cd doc (p : Value) (xs : List Value), bindArgs (docDef name params body scope pm cd doc) ⟨p :: xs, []⟩ = (do let t ← newTuple xs; pure [(x, p), (y, t)]))
    (hs : SimSs X d scope body g) (hrun : ∀ vs H v H', F vs H = some (v, H') → ∃ a rest, vs = a :: rest ∧ allBy rest = true ∧ rest.length ≤ sizeLine ∧ runF noV [(x, a), (y, .tup rest)] g H = some (v, H')) : FS X (d + 1) f F := fun vs H v H' e => by
  obtain ⟨o, pm, cd, doc, hb, hd, hcd⟩ := D.ex
  obtain ⟨a, rest, rfl, h1, h2, hr⟩ := hrun vs H v H' e
  have P := PlainSc.of hsc
  refine call_sound (fd := docDef name params body scope pm cd doc) hb hd rfl P.co P.gen rfl rfl hcd (BindOk.star h1 h2 fun p xs => hba pm cd doc p xs) (fun p hp => bindsTo_ok hpk p.1 ?_) (clo_nil P.kind P.nodup P.nofree) hs hr
  rcases List.mem_cons.mp hp with rfl | hp
  · simp
  · obtain rfl := List.mem_singleton.mp hp; simp

/-- the rest of _int2digits behind its first row -/
noncomputable def restI : SF := fun V H => match V "a", V "n", V "a_digits" with
  | some (.int a), some (.int n), some (.ref j) => (H[j]?).bind fun vs =>
    if (V "inner").isNone = true ∧ 0 ≤ a ∧ 0 < n ∧ n ≤ 5000 ∧ Builtin.Int.intBits a ≤ 5000 ∧ vs.length = ndig a.toNat n.toNat then some (.ret (.ref j), V, H.set j (nums (digs a.toNat n.toNat))) else none
  | _, _, _ => none

theorem ndig_pos {a n : Nat} (ha : 0 < a) (hn : 0 < n) : 0 < ndig a n := by
  unfold ndig
  have := bits_pos ha
  exact Nat.div_pos (by (first | lia | omega)) hn
theorem ndig_le {a n k : Nat} (hn : 0 < n) (h : Builtin.Int.intBits (a : Int) ≤ k) : ndig a n ≤ k ∧ n * ndig a n ≤ k + n := by
  unfold ndig
  generalize Builtin.Int.intBits (a : Int) = b at h
  have h1 := Nat.div_mul_le_self (b + n - 1) n
  rw [Nat.mul_comm] at h1
  refine ⟨?_, by (first | lia | omega)⟩
  rcases Nat.eq_zero_or_pos b with h0 | h0
  · subst h0; rw [Nat.div_eq_of_lt (by (first | lia | omega))]; (first | lia | omega)
  · have : (b + n - 1) / n < b + 1 := by
      rw [Nat.div_lt_iff_lt_mul hn]
      have : b + n ≤ b * n + 1 * 1 + n - 1 := by
        have := Nat.le_mul_of_pos_right b hn
        (first | lia | omega)
      have e : (b + 1) * n = b * n + n := by rw [Nat.add_mul, Nat.one_mul]
      (first | lia | omega)
    (first | lia | omega)

section
variable {X : Cx} {sc insc : Scope} {c P : Addr} {qual : Str} {pos : Pos} {params : Arguments} {inbody : List Stmt}

/-- the nested def, as the row has it -/
structure Inner (sc insc : Scope) (params : Arguments) (inbody : List Stmt) (names : List Str) (nm : Str) (gb : GF → SF) : Prop where
  d0 : params.defaults = []
  k0 : params.kw_defaults = []
  ann : ∀ env, annTrees params none env = []
  incell : sc.names.lookup (("inner" : Str)) = some .cell
  free : ∀ n, (n, NameKind.free) ∈ insc.names → sc.names.lookup n = some .cell
  fr : ∀ x : Str, (x, NameKind.free) ∈ insc.names ↔ x = "n" ∨ x = "inner" ∨ x = nm
  kind : insc.kind = .function
  nd : (insc.names.map (·.1)).Nodup
  co : insc.isCoroutine = false
  gen : insc.isGenerator = false
  ba : ∀ (cl : List (Str × Addr)) (doc pm ctv : Value) (c' : Addr) (q : Str) (xs : List Value), xs.length = names.length → bindArgs (fnX "inner" q params inbody insc cl .none .none doc pm none (.ref c') ctv) ⟨xs, []⟩ = pure (names.zip xs)
  pk : ∀ x ∈ names, insc.names.lookup x = some .local ∨ insc.names.lookup x = some .cell
  sims : ∀ (Y : Cx) d G, GSound Y d G → SimSs Y d insc inbody (gb G)

theorem set_self (H : PH) (j : Nat) (vs : List PVal) (h : H[j]? = some vs) : H.set j vs = H := by
  apply List.ext_getElem?
  intro i
  rw [List.getElem?_set]
  split
  · rename_i q; subst q; rw [if_pos (List.getElem?_eq_some_iff.mp h).1, h]
  · rfl

theorem rest_i2d {test fn e ret : Expr} {es : List Expr} {cpos epos ipos rpos : Pos} (N : NestOk X c P (qual ++ "inner") pos) (I : Inner sc insc params inbody ["x", "L", "R"] "a_digits" g_i2d_in)
    (hT : SimB X 14 sc test (bVal (fVar "a"))) (hc : ∀ env, eval (.Call fn (e :: es) [] cpos) env = (do callWith cpos (← eval fn env) [] (backTo cpos (starEach (e :: es) env)) [])) (he : ∀ env, starEach (e :: es) env = (false, eval e env) :: starEach es env)
    (hf : SimE X 14 sc fn (fVar "inner")) (ha : SimL X 14 sc (e :: es) (lCons (fVar "a") (lCons (fConst (.int 0)) (lCons (fBi .len (lCons (fVar "a_digits") lNil)) lNil))))
    (hsw : ∀ env : Env, env.scope = sc → swapsWith (.Call fn (e :: es) [] cpos) none epos.line env = pure false) (hret : SimE X 14 sc ret (fVar "a_digits")) (hk : sc.kind = .function) :
    SimSsC X 14 sc (.ref c) qual [.FunctionDef "inner" params inbody [] none [] insc none "inner" pos, .If test [.Expr (.Call fn (e :: es) [] cpos) epos] [] ipos, .Return (some ret) rpos] restI := by
  intro V H fl V' H' env s ρ A Q E hcode hqual hh hA R F k
  unfold restI at hh
  split at hh
  · rename_i a n j hVa hVn hVd
    obtain ⟨vs, hvs, hh⟩ := Option.bind_eq_some_iff.mp hh
    split at hh
    · rename_i hcnd
      obtain ⟨hin, ha0, hn0, hn1, hab, hlen⟩ := hcnd
      cases hh
      obtain ⟨a, rfl⟩ := Int.eq_ofNat_of_zero_le ha0
      obtain ⟨n, rfl⟩ := Int.eq_ofNat_of_zero_le (Int.le_of_lt hn0)
      simp only [Int.toNat_natCast] at hlen k ⊢
      have hn0 : 0 < n := by (first | lia | omega)
      have hvl : vs.length ≤ 5000 := by rw [hlen]; exact (ndig_le hn0 hab).1
      have hwk : ∀ (w : PVal) y v, V y = some v → (setV V "inner" w) y = some v := fun w y v hy => by
        unfold setV
        split
        · rename_i q; subst q; rw [hy] at hin; cases hin
        · exact hy
      refine wpAny_execs_cons (nest_def N hcode hqual I.d0 I.k0 (I.ann env) I.incell I.free ((I.fr _).mpr (.inr (.inl rfl))) R F fun fi fo c' oc cl h1 t1 M R1 F1 mv1 => ?_)
      have eVa : setV V "inner" (.val (.ref fi)) "a" = some (.int (a : Int)) := hwk _ _ _ hVa
      have eVd : setV V "inner" (.val (.ref fi)) "a_digits" = some (.ref j) := hwk _ _ _ hVd
      have fin : ∀ (H2 : PH) h3 t3, H2 = H.set j (nums (digs a n)) → HRel X ρ H2 h3 → Pres X ρ h1 h3 →
          wpAny X.M A (execs [.Return (some ret) rpos] env) Q E { s with heap := h3, toks := t3 } := fun H2 h3 t3 e2 R3 p3 => by
        subst e2
        have F3 := F1.pres p3
        refine wpAny_execs_cons (wpAny_Return_some (hret (setV V "inner" (.val (.ref fi))) (H.set j (nums (digs a n))) (.ref j) (H.set j (nums (digs a n))) env { s with heap := h3, toks := t3 } ρ A _ _ (by simp [fVar, eVd]) hA R3 F3 fun r h4 t4 R4 v4 p4 => ?_))
        refine k.of R4 ((F3.pres p4).weak (hwk _)) (.ret v4) (mv1.trans0 (p3.trans p4).moved)
      refine wpAny_execs_cons (wpAny_If (hT (setV V "inner" (.val (.ref fi))) H ((a : Int) != 0) H env { s with heap := h1, toks := t1 } ρ A _ _ (by simp [bVal, fVar, eVa, truthP]) hA R1 F1 fun h2 t2 R2 p2 => ?_))
      by_cases hz : a = 0
      · subst hz
        refine wpAny_execs_nil ?_
        refine fin H h2 t2 ?_ R2 p2
        have e0 : ndig 0 n = 0 := by unfold ndig; rw [show Builtin.Int.intBits ((0 : Nat) : Int) = 0 from rfl, Nat.zero_add]; exact Nat.div_eq_of_lt (by (first | lia | omega))
        have e1 : vs = nums (digs 0 n) := by
          unfold digs; rw [e0] at hlen ⊢
          exact List.length_eq_zero_iff.mp hlen
        rw [← e1, set_self H j vs hvs]
      · have hb : ((a : Int) != 0) = true := by simp [hz]
        rw [hb]
        have hm := ndig_pos (by (first | lia | omega) : 0 < a) hn0
        obtain ⟨ex, exk, exn, hG⟩ := made_rec (names := ["x", "L", "R"]) (gb := g_i2d_in) (more := []) (v := .ref j) (n := (n : Int)) (nm := "a_digits") M R1 F1 hVn hVd (by decide) (by decide) I.free I.fr I.kind I.nd I.co I.gen I.ba I.pk (fun _ h => absurd h List.not_mem_nil) (fun _ h => absurd h List.not_mem_nil)
          (fun Y r _ _ _ _ _ _ hpre _ rv ρ' h' H' R' => by
            obtain ⟨aa, rfl, e⟩ := rv.ref_inv
            have hp := R'.pre
            rw [hpre] at hp
            obtain ⟨t, rfl⟩ := hp
            exact .ref (by rw [List.getElem?_append_left (List.getElem?_eq_some_iff.mp e).1]; exact e)) I.sims
        have hdig := i2d_rec n j fi 13 0 (ndig a n) a vs H hm (by have := (ndig_le hn0 hab).1; (first | lia | omega)) (ndig_ok a n hn0) (by (first | lia | omega)) (by (first | lia | omega)) hvs (by (first | lia | omega)) (by have := (ndig_le hn0 hab).2; (first | lia | omega))
        have ed : vs.take 0 ++ nums (digN n a (ndig a n)) ++ vs.drop (0 + ndig a n) = nums (digs a n) := by
          rw [List.take_zero, List.nil_append, Nat.zero_add, ← hlen, List.drop_length, List.append_nil]; unfold digs; rw [hlen]
        rw [ed] at hdig
        refine wpAny_execs_cons (wpAny_Expr (call_made (d := 14) (W := setV V "inner" (.val (.ref fi))) (H := H) (H1 := H) (ff := fVar "inner") (hc env) (he env) M exk exn (hG 14) hdig ?_ rfl hf ha hA R2 (F1.pres p2) p2 fun r h3 t3 R3 v3 p3 => ?_) ?_ (hsw env F.scope))
        · simp only [lCons, lNil, fVar, fConst, fBi, eVa, eVd, biP, bi_len, hvs, Option.bind_some, Option.map_some]
          rw [if_pos (by rw [show sizeLine = 16777216 from rfl]; (first | lia | omega))]
          simp [hlen]
        · cases v3 with
          | «by» b => cases b; exact wpAny_execs_nil (fin _ h3 t3 rfl R3 (p2.trans p3))
        · unfold interactive; rw [F.scope, hk]; rfl
    · cases hh
  · cases hh
end
end Mine

end

/- Cl3 -/
section
open PySem PySem.W PySem.Calls PyProof.Rows
set_option maxRecDepth 100000
namespace Mine

theorem repL_one (n : Nat) (v : PVal) : (repL n [v]).length = n := by
  unfold repL
  induction n with
  | zero => rfl
  | succ n ih => rw [List.replicate_succ, List.flatten_cons, List.length_append, ih]; simp; (first | lia | omega)

theorem pow9000 (n : Nat) (hn : n ≤ 5000) : n < 2 ^ 9000 := Nat.lt_of_lt_of_le Nat.lt_two_pow_self (Nat.pow_le_pow_right (by decide) (Nat.le_trans hn (by decide)))
noncomputable def Vi (a n : Nat) : PV := bindV ((["a", "n"] : List Str).zip [PVal.int (a : Int), .int (n : Int)]) noV
theorem run_i2d_k (a n : Nat) (H : PH) (hn : 0 < n) (hn1 : n ≤ 5000) : fBin .FloorDiv (fBin .Sub (fBin .Add (fMe .bitlen (fVar "a") lNil) (fVar "n")) (fConst (.int 1))) (fVar "n") (Vi a n) H = some (.int (ndig a n : Nat), H) := by
  refine e_bin (e_bin (e_bin (e_me (e_var rfl) rfl l_nil rfl) (e_var rfl) q_add) e_const p_sub) (e_var rfl) ?_
  have e : ((Builtin.Int.intBits (a : Int) + n : Nat) : Int) - 1 = ((Builtin.Int.intBits (a : Int) + n - 1 : Nat) : Int) := by (first | lia | omega)
  rw [e]
  exact q_div hn (pow9000 n hn1)
theorem n_rep {V : PV} {H H1 H2 : PH} {f g : EF} {x : List PVal} {k : Nat} (h1 : f V H = some (.lst x, H1)) (h2 : g V H1 = some (.int (k : Int), H2)) (hk : k ≤ 1000000) (hx : x.length * k ≤ 1000000) : nRep f g V H = some (repL k x, H2) := by
  unfold nRep
  rw [h1, Option.bind_some, h2, Option.bind_some]
  have h : -(2 ^ 63) ≤ (k : Int) ∧ (k : Int) < 2 ^ 63 ∧ x.length * (k : Int).toNat ≤ sizeLine := ⟨by (first | lia | omega), by (first | lia | omega), by rw [Int.toNat_natCast]; exact Nat.le_trans hx (by simp [sizeLine])⟩
  exact (if_pos h).trans (by rw [Int.toNat_natCast])
theorem run_i2d_1 (a n : Nat) (H : PH) (hn : 0 < n) (hn1 : n ≤ 5000) (ha : Builtin.Int.intBits (a : Int) ≤ 5000) :
    g_i2d (Vi a n) H = some (.next, setV (Vi a n) "a_digits" (.ref H.length), H ++ [repL (ndig a n) [PVal.int 0]]) := by
  have hm := ndig_le hn ha
  unfold g_i2d
  exact s_new (n_rep (e_list (l_cons e_const l_nil) rfl (by simp [sizeLine])) (run_i2d_k a n H hn hn1) (by (first | lia | omega)) (by rw [List.length_singleton]; (first | lia | omega)))
theorem run_i2d_2 (a n : Nat) (H : PH) (hn : 0 < n) (hn1 : n ≤ 5000) (ha : Builtin.Int.intBits (a : Int) ≤ 5000) :
    restI (setV (Vi a n) "a_digits" (.ref H.length)) (H ++ [repL (ndig a n) [PVal.int 0]]) = some (.ret (.ref H.length), setV (Vi a n) "a_digits" (.ref H.length), (H ++ [repL (ndig a n) [PVal.int 0]]).set H.length (nums (digs a n))) := by
  show ((H ++ [repL (ndig a n) [PVal.int 0]])[H.length]?).bind _ = _
  rw [List.getElem?_append_right (Nat.le_refl _), Nat.sub_self]
  simp only [List.getElem?_cons_zero, Option.bind_some, Int.toNat_natCast]
  rw [if_pos ⟨rfl, by (first | lia | omega), by (first | lia | omega), by (first | lia | omega), ha, repL_one _ _⟩]
theorem run_i2d (a n : Nat) (H : PH) (hn : 0 < n) (hn1 : n ≤ 5000) (ha : Builtin.Int.intBits (a : Int) ≤ 5000) :
    runF noV ((["a", "n"] : List Str).zip [PVal.int (a : Int), .int (n : Int)]) (sSeq g_i2d restI) H = some (.lst (nums (digs a n)), H) := by
  have e3 := s_seq (run_i2d_1 a n H hn hn1 ha) (run_i2d_2 a n H hn hn1 ha)
  have e4 := runF_ret (V0 := noV) (pb := (["a", "n"] : List Str).zip [PVal.int (a : Int), .int (n : Int)]) (w := .lst (nums (digs a n))) e3 (by
    unfold retV
    simp only [Nat.lt_irrefl, if_false]
    rw [List.getElem?_set_self (by simp)]; rfl)
  rw [e4]
  congr 2
  rw [List.set_append_right _ _ (Nat.le_refl _), List.take_left' rfl]

section
variable {X : Cx} {sc insc : Scope} {c P f : Addr} {pos : Pos} {params fparams : Arguments} {inbody : List Stmt}

theorem fs_i2d {st0 : Stmt} {test fn e ret : Expr} {es : List Expr} {cpos epos ipos rpos : Pos} (N : NestOk X c P (("_int2digits" ++ ".<locals>.") ++ "inner") pos) (I : Inner sc insc params inbody ["x", "L", "R"] "a_digits" g_i2d_in)
    (hsc : plainScope sc = true) (hpk : bindsTo sc ["a", "n"] = true)
    (D : MakAt X f "_int2digits" fparams [st0, .FunctionDef "inner" params inbody [] none [] insc none "inner" pos, .If test [.Expr (.Call fn (e :: es) [] cpos) epos] [] ipos, .Return (some ret) rpos] sc c)
    (hba : ∀ body pm cd doc (xs : List Value), xs.length = 2 → bindArgs (docDef "_int2digits" fparams body sc pm cd doc) ⟨xs, []⟩ = pure ((["a", "n"] : List Str).zip xs))
    (h0 : SimS X 14 sc st0 g_i2d)
    (hT : SimB X 14 sc test (bVal (fVar "a"))) (hc : ∀ env, eval (.Call fn (e :: es) [] cpos) env = (do callWith cpos (← eval fn env) [] (backTo cpos (starEach (e :: es) env)) [])) (he : ∀ env, starEach (e :: es) env = (false, eval e env) :: starEach es env)
    (hf : SimE X 14 sc fn (fVar "inner")) (ha : SimL X 14 sc (e :: es) (lCons (fVar "a") (lCons (fConst (.int 0)) (lCons (fBi .len (lCons (fVar "a_digits") lNil)) lNil))))
    (hsw : ∀ env : Env, env.scope = sc → swapsWith (.Call fn (e :: es) [] cpos) none epos.line env = pure false) (hret : SimE X 14 sc ret (fVar "a_digits")) : FS X 15 f F_i2d := fun vs H v H' hv => by
  obtain ⟨o, pm, doc, hb, hd, hcd⟩ := D.ex
  unfold F_i2d at hv
  split at hv
  · obtain ⟨a, q0, zq0⟩ := Option.bind_eq_some_iff.mp hv
    clear hv
    have hv := zq0
    clear zq0
    obtain rfl := intI_some q0
    obtain ⟨n, q1, zq1⟩ := Option.bind_eq_some_iff.mp hv
    clear hv
    have hv := zq1
    clear zq1
    obtain rfl := intI_some q1
    split at hv
    · rename_i hcnd
      cases hv
      obtain ⟨a, rfl⟩ := Int.eq_ofNat_of_zero_le hcnd.1
      obtain ⟨n, rfl⟩ := Int.eq_ofNat_of_zero_le (Int.le_of_lt hcnd.2.1)
      have Ps := PlainSc.of hsc
      refine call_soundC (d := 14) (pb := (["a", "n"] : List Str).zip [PVal.int (a : Int), .int (n : Int)]) (fd := docDef "_int2digits" fparams _ sc pm (.ref c) doc) hb hd rfl Ps.co Ps.gen rfl rfl hcd (BindOk.of ["a", "n"] rfl fun xs hx => hba _ pm _ doc xs hx) (fun p hp => bindsTo_ok hpk p.1 (List.of_mem_zip hp).1) (clo_nil Ps.kind Ps.nodup Ps.nofree)
        (simsC_cons h0 (rest_i2d N I hT hc he hf ha hsw hret Ps.kind)) ?_
      have := run_i2d a n H (by have := hcnd.2.1; (first | lia | omega)) (by have := hcnd.2.2.1; (first | lia | omega)) hcnd.2.2.2
      simpa using this
    · cases hv
  · cases hv

/-- the body of _digits2int -/
noncomputable def restD : SF := fun V H => match V "digits", V "n" with
  | some (.lst vs), some (.int n) => if (V "inner").isNone = true ∧ vs.length ≤ 5000 then (d2iP vs n).map fun (r : Nat) => (.ret (.int (r : Int)), V, H) else none
  | _, _ => none

theorem natsP_nums {vs : List PVal} : ∀ {ds : List Nat}, natsP vs = some ds → vs = nums ds := by
  induction vs with
  | nil => intro ds h; cases h; rfl
  | cons v r ih =>
    intro ds h
    obtain ⟨i, e0, h2⟩ := Option.bind_eq_some_iff.mp h
    obtain rfl := intI_some e0
    split at h2
    · rename_i hi
      obtain ⟨ds, e, rfl⟩ := Option.map_eq_some_iff.mp h2
      rw [ih e]
      show _ = PVal.int _ :: _
      rw [Int.toNat_of_nonneg hi]; rfl
    · cases h2
theorem BRels.nums {h h' : Heap} {B B' : List Addr} {ds : List Nat} : ∀ {xs : List Value}, BRels h B (nums ds) xs → BRels h' B' (Mine.nums ds) xs := by
  induction ds with
  | nil => intro xs r; cases r; exact .nil
  | cons d ds ih => intro xs r; cases r with | cons a r => cases a with | int _ t => exact .cons (.int _ t) (ih r)

theorem rest_d2i {qual : Str} {test fn e els : Expr} {es : List Expr} {cpos ipos rpos : Pos} (N : NestOk X c P (qual ++ "inner") pos) (I : Inner sc insc params inbody ["L", "R"] "digits" g_d2i_in)
    (hT : SimB X 14 sc test (bVal (fVar "digits"))) (hc : ∀ env, eval (.Call fn (e :: es) [] cpos) env = (do callWith cpos (← eval fn env) [] (backTo cpos (starEach (e :: es) env)) [])) (he : ∀ env, starEach (e :: es) env = (false, eval e env) :: starEach es env)
    (hf : SimE X 14 sc fn (fVar "inner")) (ha : SimL X 14 sc (e :: es) (lCons (fConst (.int 0)) (lCons (fBi .len (lCons (fVar "digits") lNil)) lNil)))
    (hels : SimE X 14 sc els (fConst (.int 0))) :
    SimSsC X 14 sc (.ref c) qual [.FunctionDef "inner" params inbody [] none [] insc none "inner" pos, .Return (some (.IfExp test (.Call fn (e :: es) [] cpos) els ipos)) rpos] restD := by
  intro V H fl V' H' env s ρ A Q E hcode hqual hh hA R F k
  unfold restD at hh
  split at hh
  · rename_i vs n hVd hVn
    split at hh
    · rename_i hcnd
      obtain ⟨hin, hvl⟩ := hcnd
      obtain ⟨r, hr, hh⟩ := Option.map_eq_some_iff.mp hh
      cases hh
      unfold d2iP at hr
      split at hr
      · rename_i hn
        obtain ⟨ds, hds, hr⟩ := Option.bind_eq_some_iff.mp hr
        split at hr
        · rename_i hlt
          cases hr
          obtain ⟨n, rfl⟩ := Int.eq_ofNat_of_zero_le (Int.le_of_lt hn.1)
          simp only [Int.toNat_natCast] at hlt k ⊢
          have hlt : ∀ d ∈ ds, d < 2 ^ n := fun d hd => by have := List.all_eq_true.mp hlt d hd; simpa using this
          obtain rfl := natsP_nums hds
          rw [nums_length] at hvl hn
          have hwk : ∀ (w : PVal) y v, V y = some v → (setV V "inner" w) y = some v := fun w y v hy => by
            unfold setV
            split
            · rename_i q; subst q; rw [hy] at hin; cases hin
            · exact hy
          refine wpAny_execs_cons (nest_def N hcode hqual I.d0 I.k0 (I.ann env) I.incell I.free ((I.fr _).mpr (.inr (.inl rfl))) R F fun fi fo c' oc cl h1 t1 M R1 F1 mv1 => ?_)
          have eVd : setV V "inner" (.val (.ref fi)) "digits" = some (.lst (nums ds)) := hwk _ _ _ hVd
          refine wpAny_execs_cons (wpAny_Return_some (wpAny_IfExp (hT (setV V "inner" (.val (.ref fi))) H (!(nums ds).isEmpty) H env { s with heap := h1, toks := t1 } ρ A _ _ (by
              simp only [bVal, fVar, eVd, Option.map_some, Option.bind_some, truthP]
              try rw [if_pos (by rw [show sizeLine = 16777216 from rfl, nums_length]; (first | lia | omega))]
              try rfl) hA R1 F1 fun h2 t2 R2 p2 => ?_)))
          have fin : ∀ r h3 t3 (x : Nat), x = valN n ds → HRel X ρ H h3 → VRel X ρ h3 (.int (x : Int)) r → Pres X ρ h1 h3 → Q (.ret r) { s with heap := h3, toks := t3 } := fun r h3 t3 x ex R3 v3 p3 => by
            subst ex
            exact k.of R3 ((F1.pres p3).weak (hwk _)) (.ret v3) (mv1.trans0 p3.moved)
          by_cases hz : ds = []
          · subst hz
            refine hels (setV V "inner" (.val (.ref fi))) H _ H env { s with heap := h2, toks := t2 } ρ A _ _ rfl hA R2 (F1.pres p2) fun r h3 t3 R3 v3 p3 => fin r h3 t3 0 rfl R3 v3 (p2.trans p3)
          · have hb : (!(nums ds).isEmpty) = true := by cases ds with | nil => exact absurd rfl hz | cons _ _ => rfl
            rw [hb]
            have hm : 0 < ds.length := List.length_pos_iff.mpr hz
            obtain ⟨cm, rm, lm, ⟨om, em, dm⟩, vm⟩ := F1.cel "digits" (.lst (nums ds)) eVd (.inl (I.free "digits" ((I.fr "digits").mpr (.inr (.inr rfl)))))
            obtain ⟨D, xs, rfl, ⟨nD, pD⟩, nb, rels⟩ := vm.lst_inv
            obtain ⟨ex, exk, exn, hG⟩ := made_rec (names := ["L", "R"]) (gb := g_d2i_in) (more := [(D, { cls := .type "list", data := .seq xs.toArray nD })]) (v := .lst (nums ds)) (n := (n : Int)) (nm := "digits") M R1 F1 hVn hVd (by decide) (by decide) I.free I.fr I.kind I.nd I.co I.gen I.ba I.pk
              (fun p hp => by obtain rfl := List.mem_singleton.mp hp; exact pD) (fun p hp => by obtain rfl := List.mem_singleton.mp hp; exact nb)
              (fun Y r c2 o2 l2 e2 d2 hT _ hbase _ ρ' h' H' R' => by
                rw [lm] at l2; cases l2
                rw [em] at e2; cases e2
                rw [dm] at d2; cases d2
                have hb := hbase _ (List.mem_singleton.mpr rfl)
                exact .by (.lst ⟨nD, R'.keep _ _ hb⟩ (fun q => by rw [R'.fresh D q] at hb; cases hb) rels.nums)) I.sims
            have hdig := d2i_rec n ds fi hlt (by (first | lia | omega)) (by have := hn.2.1; (first | lia | omega)) 13 0 ds.length H hm (by (first | lia | omega)) (by (first | lia | omega))
            refine call_made (d := 14) (W := setV V "inner" (.val (.ref fi))) (H := H) (H1 := H) (ff := fVar "inner") (hc env) (he env) M exk exn (hG 14) hdig ?_ rfl hf ha hA R2 (F1.pres p2) p2 fun r h3 t3 R3 v3 p3 => fin r h3 t3 _ ?_ R3 v3 (p2.trans p3)
            · simp only [lCons, lNil, fVar, fConst, fBi, eVd, biP, bi_len, Option.bind_some, Option.map_some]
              rw [if_pos (by rw [show sizeLine = 16777216 from rfl, nums_length]; (first | lia | omega))]
              simp [nums_length]
            · simp
        · cases hr
      · cases hr
    · cases hh
  · cases hh
end
end Mine

end

/- Cl4 -/
section
open PySem PySem.W PySem.Calls PyProof.Rows
set_option maxRecDepth 100000
namespace Mine

section
variable {X : Cx} {ex : List (Addr × Obj)} {pre' : List Addr}

theorem ext_keep {h : Heap} (k : ∀ b o, (X.ext ex pre').base b = some o → h.get? b = some o) : ∀ b o, X.base b = some o → h.get? b = some o := fun b o e =>
  k b o (by show (match X.base b with | some o => some o | none => ex.lookup b) = some o; rw [e])
theorem ext_of {b : Addr} {o : Obj} (e : X.base b = some o) : (X.ext ex pre').base b = some o := by
  show (match X.base b with | some o => some o | none => ex.lookup b) = some o; rw [e]
theorem NestOk.ext {c P : Addr} {qual : Str} {pos : Pos} (N : NestOk X c P qual pos) : NestOk (X.ext ex pre') c P qual pos where
  hP := N.hP
  code := fun h k => N.code h (ext_keep k)
  blt := fun h k => N.blt h (ext_keep k)
  gP := N.gP
  tab := N.tab
  upd := N.upd
  tcl := N.tcl
theorem MakAt.ext {f : Addr} {name : Str} {params : Arguments} {body : List Stmt} {scope : Scope} {c : Addr} (D : MakAt X f name params body scope c) : MakAt (X.ext ex pre') f name params body scope c :=
  ⟨let ⟨o, pm, doc, h1, h2, h3⟩ := D.ex; ⟨o, pm, doc, ext_of h1, h2, fun h k => h3 h (ext_keep k)⟩⟩
end

/-- what _digits2int's rows say, in any context with these globals -/
structure D2iRows (X : Cx) (sc : Scope) (test fn e els : Expr) (es : List Expr) (cpos : Pos) : Prop where
  hT : ∀ Y : Cx, Y.mg = X.mg → Y.mb = X.mb → SimB Y 14 sc test (bVal (fVar "digits"))
  hc : ∀ env, eval (.Call fn (e :: es) [] cpos) env = (do callWith cpos (← eval fn env) [] (backTo cpos (starEach (e :: es) env)) [])
  he : ∀ env, starEach (e :: es) env = (false, eval e env) :: starEach es env
  hf : ∀ Y : Cx, SimE Y 14 sc fn (fVar "inner")
  ha : ∀ Y : Cx, Y.mg = X.mg → Y.mb = X.mb → SimL Y 14 sc (e :: es) (lCons (fConst (.int 0)) (lCons (fBi .len (lCons (fVar "digits") lNil)) lNil))
  hels : ∀ Y : Cx, SimE Y 14 sc els (fConst (.int 0))

section
variable {X : Cx} {sc insc : Scope} {c P f : Addr} {pos : Pos} {params fparams : Arguments} {inbody : List Stmt} {test fn e els : Expr} {es : List Expr} {cpos ipos rpos : Pos}

theorem d2i_lst (N : NestOk X c P (("_digits2int" ++ ".<locals>.") ++ "inner") pos) (I : Inner sc insc params inbody ["L", "R"] "digits" g_d2i_in)
    (hsc : plainScope sc = true) (hpk : bindsTo sc ["digits", "n"] = true)
    (D : MakAt X f "_digits2int" fparams [.FunctionDef "inner" params inbody [] none [] insc none "inner" pos, .Return (some (.IfExp test (.Call fn (e :: es) [] cpos) els ipos)) rpos] sc c)
    (hba : ∀ body pm cd doc (xs : List Value), xs.length = 2 → bindArgs (docDef "_digits2int" fparams body sc pm cd doc) ⟨xs, []⟩ = pure ((["digits", "n"] : List Str).zip xs))
    (W : D2iRows X sc test fn e els es cpos) {vs : List PVal} {n : Int} {r : Nat} {H : PH} (hr : d2iP vs n = some r) : CallS X 15 f [.lst vs, .int n] H (.int (r : Int)) H := by
  obtain ⟨o, pm, doc, hb, hd, hcd⟩ := D.ex
  have Ps := PlainSc.of hsc
  refine call_soundC (d := 14) (g := restD) (pb := (["digits", "n"] : List Str).zip [PVal.lst vs, .int n]) (fd := docDef "_digits2int" fparams _ sc pm (.ref c) doc) hb hd rfl Ps.co Ps.gen rfl rfl hcd (BindOk.of ["digits", "n"] rfl fun xs hx => hba _ pm _ doc xs hx) (fun p hp => bindsTo_ok hpk p.1 (List.of_mem_zip hp).1) (clo_nil Ps.kind Ps.nodup Ps.nofree)
    (rest_d2i N I (W.hT X rfl rfl) W.hc W.he (W.hf X) (W.ha X rfl rfl) (W.hels X)) ?_
  have hv : vs.length ≤ 5000 := by
    unfold d2iP at hr
    split at hr
    · rename_i h; exact h.2.2
    · cases hr
  have : restD (bindV ((["digits", "n"] : List Str).zip [PVal.lst vs, .int n]) noV) H = some (.ret (.int (r : Int)), bindV ((["digits", "n"] : List Str).zip [PVal.lst vs, .int n]) noV, H) := by
    show (if _ then (d2iP vs n).map _ else none) = _
    rw [if_pos ⟨rfl, hv⟩, hr]; rfl
  have := runF_ret (w := .int (r : Int)) this rfl
  rw [this, List.take_of_length_le (Nat.le_refl _)]

theorem fs_d2i (hpre : X.pre = []) (N : NestOk X c P (("_digits2int" ++ ".<locals>.") ++ "inner") pos) (I : Inner sc insc params inbody ["L", "R"] "digits" g_d2i_in)
    (hsc : plainScope sc = true) (hpk : bindsTo sc ["digits", "n"] = true)
    (D : MakAt X f "_digits2int" fparams [.FunctionDef "inner" params inbody [] none [] insc none "inner" pos, .Return (some (.IfExp test (.Call fn (e :: es) [] cpos) els ipos)) rpos] sc c)
    (hba : ∀ body pm cd doc (xs : List Value), xs.length = 2 → bindArgs (docDef "_digits2int" fparams body sc pm cd doc) ⟨xs, []⟩ = pure ((["digits", "n"] : List Str).zip xs))
    (W : D2iRows X sc test fn e els es cpos) : FS X 15 f F_d2i := fun ws H v H' hv => by
  unfold F_d2i at hv
  split at hv
  · obtain ⟨n, q0, zq0⟩ := Option.bind_eq_some_iff.mp hv
    clear hv
    have hv := zq0
    clear zq0
    obtain rfl := intI_some q0
    split at hv
    · obtain ⟨r, hr, e⟩ := Option.map_eq_some_iff.mp hv
      cases e
      exact d2i_lst N I hsc hpk D hba W hr
    · rename_i j
      obtain ⟨vs, hvs, hv⟩ := Option.bind_eq_some_iff.mp hv
      obtain ⟨r, hr, e⟩ := Option.map_eq_some_iff.mp hv
      cases e
      obtain ⟨o, pm, doc, hb, hd, _⟩ := D.ex
      refine ⟨⟨o, _, hb, hd⟩, fun s ρ A Q E xs hA R ra k => ?_⟩
      obtain ⟨x, y, rfl, rx, ry⟩ := ra.two
      obtain ⟨a, rfl, ea⟩ := rx.ref_inv
      obtain ⟨t, rfl⟩ := ry.int_inv
      obtain ⟨vs', ys, e1, ⟨nD, pD⟩, rels⟩ := R.at ea
      rw [hvs] at e1; cases e1
      have aT : a ∉ X.T := R.apart a (List.mem_of_getElem? ea)
      have R0 : HRel X [] [] s.heap := by
        have := HRel.drop (ρ := []) (σ := ρ) (by rw [List.nil_append]; exact R) (by rw [hpre]; exact List.prefix_refl _)
        simpa using this
      have ek : ∀ p ∈ [(a, ({ cls := .type "list", data := .seq ys.toArray nD } : Obj))], s.heap.get? p.1 = some p.2 := fun p hp => by obtain rfl := List.mem_singleton.mp hp; exact pD
      have en : ∀ p ∈ [(a, ({ cls := .type "list", data := .seq ys.toArray nD } : Obj))], p.1 ∉ X.ban [] := fun p hp => by obtain rfl := List.mem_singleton.mp hp; simpa using aT
      have R1 := R0.toExt (pre' := []) ek en (List.prefix_refl _)
      have rels' : BRels s.heap ((X.ext [(a, { cls := .type "list", data := .seq ys.toArray nD })] []).ban []) vs ys := by
        unfold d2iP at hr
        split at hr
        · obtain ⟨ds, hds, _⟩ := Option.bind_eq_some_iff.mp hr
          obtain rfl := natsP_nums hds
          exact rels.nums
        · cases hr
      have call := (d2i_lst (X := X.ext [(a, { cls := .type "list", data := .seq ys.toArray nD })] []) N.ext I hsc hpk D.ext hba ⟨fun Y h1 h2 => W.hT Y h1 h2, W.hc, W.he, W.hf, fun Y h1 h2 => W.ha Y h1 h2, W.hels⟩ (H := []) hr).2
      refine call s [] A Q E _ hA R1 (.cons (.by (.lst ⟨nD, pD⟩ (en _ (List.mem_singleton.mpr rfl)) rels')) (.cons (.int _ _) .nil)) fun z h' tk R2 vz p2 => ?_
      have kept : ∀ b o, s.heap.get? b = some o → b ∉ X.T → h'.get? b = some o := fun b o e nb => p2 b o e (show b ∉ [] ++ X.T by simpa using nb)
      have R3 := R2.ofExt (by rw [hpre]; exact List.prefix_refl _)
      obtain ⟨tz, rfl⟩ := vz.int_inv
      refine k _ h' tk ⟨R3.keep, R.nodup, R.apart, R.fresh, R.len, fun i b us e1 e2 => ?_, R3.tobs, R3.ti, R.pre⟩ (.int _ _) fun b o e nb => kept b o e fun q => nb (List.mem_append_right _ q)
      obtain ⟨zs, ⟨m, e3⟩, r3⟩ := R.objs i b us e1 e2
      exact ⟨zs, ⟨m, kept _ _ e3 (R.apart b (List.mem_of_getElem? e1))⟩, r3.pres (X := X) (ρ := ρ) fun b o e nb => kept b o e fun q => nb (List.mem_append_right _ q)⟩
    · cases hv
  · cases hv
end
end Mine

end

/- Em -/
section
open PySem PySem.W PySem.Calls PyProof.Rows
set_option maxRecDepth 100000
namespace Mine

theorem dots_eq : ("..." : Str) = mkS dots := by rfl
theorem nil_eq : ("" : Str) = mkS [] := by rfl
theorem sl : sizeLine = 16777216 := rfl

theorem findL_R (w : List Nat) : ∀ (t : List Nat) (p : Nat), match findL w p t with
    | none => findR w t = none
    | some q => p ≤ q ∧ q - p + w.length ≤ t.length ∧ findR w t = some (t.drop (q - p + w.length))
  | [], p => by
    unfold findL findR
    by_cases h : w.isPrefixOf [] = true
    · rw [if_pos h, if_pos h]
      have := (List.isPrefixOf_iff_prefix.mp h).length_le
      simp at this; subst this
      simp
    · rw [if_neg h, if_neg h]
  | c :: t, p => by
    unfold findL findR
    by_cases h : w.isPrefixOf (c :: t) = true
    · rw [if_pos h, if_pos h]
      have := (List.isPrefixOf_iff_prefix.mp h).length_le
      exact ⟨Nat.le_refl _, by simpa using this, by simp⟩
    · rw [if_neg h, if_neg h]
      have ih := findL_R w t (p + 1)
      cases e : findL w (p + 1) t with
      | none => rw [e] at ih; exact ih
      | some q =>
        rw [e] at ih
        obtain ⟨h1, h2, h3⟩ := ih
        refine ⟨by (first | lia | omega), by simp; (first | lia | omega), ?_⟩
        rw [h3, show q - p + w.length = (q - (p + 1) + w.length) + 1 from by (first | lia | omega), List.drop_succ_cons]

section
variable {V : PV} {H H1 H2 : PH} {f g : EF}
theorem b_len {l : List Nat} (h : l.length ≤ 2000000) : biP .len [T l] H = some (.int (l.length : Int), H) := by
  show (if (mkS l).length ≤ sizeLine then some (PVal.int ((mkS l).length : Int), H) else none) = _
  rw [mkS_length, if_pos (by rw [sl]; (first | lia | omega))]
theorem b_lenR {j : Nat} {vs : List PVal} (e : H[j]? = some vs) (h : vs.length ≤ 2000000) : biP .len [.ref j] H = some (.int (vs.length : Int), H) := by
  show ((H[j]?).bind _) = _
  rw [e, Option.bind_some, if_pos (by rw [sl]; (first | lia | omega))]
theorem b_lenL {vs : List PVal} (h : vs.length ≤ 2000000) : biP .len [.lst vs] H = some (.int (vs.length : Int), H) := if_pos (by rw [sl]; (first | lia | omega))
theorem t_str {l : List Nat} (h : l.length ≤ 2000000) : truthP (T l) H = some (decide (l ≠ [])) := by
  show (if (mkS l).length ≤ sizeLine then some ((mkS l).length != 0) else none) = _
  rw [mkS_length, if_pos (by rw [sl]; (first | lia | omega))]
  cases l <;> simp
theorem b_starts {x y : List Nat} : biP .startswith [T x, T y] H = some (.bool (y.isPrefixOf x), H) := by
  show some (PVal.bool (Txt.startswith (mkS x) (mkS y)), H) = _
  rw [starts_list]
theorem b_ends {x y : List Nat} : biP .endswith [T x, T y] H = some (.bool (y.isSuffixOf x), H) := by
  show some (PVal.bool (Txt.endswith (mkS x) (mkS y)), H) = _
  rw [ends_list]
theorem b_find {x w : List Nat} {a : Nat} (ha : a ≤ x.length) : biP .find [T x, T w, .int (a : Int), .int (x.length : Int)] H = some (.int (match findL w a (x.drop a) with | some p => (p : Int) | none => -1), H) := by
  show some (PVal.int (findP (mkS x) (mkS w) a x.length), H) = _
  rw [find_list x w a ha]
  try (cases findL w a (List.drop a x) <;> rfl)
theorem splitGo_length (y : List Nat) : ∀ (x : List Nat) (k : Nat) (cur : List Nat), (splitGo y k cur x).length ≤ x.length + 1
  | [], k, cur => by unfold splitGo; simp
  | c :: r, 0, cur => by
    unfold splitGo
    split
    · have := splitGo_length y r (y.length - 1) []; simp; (first | lia | omega)
    · have := splitGo_length y r 0 (c :: cur); simp; (first | lia | omega)
  | c :: r, k + 1, cur => by
    unfold splitGo
    have := splitGo_length y r k cur; simp; (first | lia | omega)
theorem splitL_length (y x : List Nat) : (splitL y x).length ≤ x.length + 1 := splitGo_length y x 0 []
theorem b_split {x y : List Nat} (hy : y ≠ []) (hl : y.all (· < 256) = true) (hx : x.length ≤ 1000000) : biP .split [T x, T y] H = some (.lst ((splitL y x).map T), H) := by
  have h : (mkS y).length ≠ 0 ∧ (mkS x).length ≤ sizeLine ∧ (Txt.split (mkS x) (mkS y)).length ≤ sizeLine := by
    rw [split_list x y hy hl, List.length_map, mkS_length, mkS_length, sl]
    have := splitL_length y x
    exact ⟨by cases y with | nil => exact absurd rfl hy | cons _ _ => simp, by (first | lia | omega), by (first | lia | omega)⟩
  refine (if_pos h).trans ?_
  rw [split_list x y hy hl, List.map_map]; rfl
theorem n_split {o : EF} {lf : LF} {x y : List Nat} (h1 : o V H = some (T x, H1)) (h2 : lf V H1 = some ([T y], H2)) (hy : y ≠ []) (hl : y.all (· < 256) = true) (hx : x.length ≤ 1000000) : nSplit o lf V H = some ((splitL y x).map T, H2) := by
  have h : (mkS y).length ≠ 0 ∧ (mkS x).length ≤ sizeLine ∧ (Txt.split (mkS x) (mkS y)).length ≤ sizeLine := by
    rw [split_list x y hy hl, List.length_map, mkS_length, mkS_length, sl]
    have := splitL_length y x
    exact ⟨by cases y with | nil => exact absurd rfl hy | cons _ _ => simp, by (first | lia | omega), by (first | lia | omega)⟩
  unfold nSplit
  rw [h1, Option.bind_some]
  show (lf V H1).bind _ = _
  rw [h2, Option.bind_some]
  refine (if_pos h).trans ?_
  rw [split_list x y hy hl, List.map_map]; rfl
end

/-- the loop of _ellipsis_match -/
noncomputable def emBody : SF := (sSeq (sAssign "startpos" (fMe .find (fVar "got") (lCons (fVar "w") (lCons (fVar "startpos") (lCons (fVar "endpos") lNil)))))
  (sSeq (sIf (bCmp .Lt (fVar "startpos") (fConst (.int 0))) (sRet (fConst (.bool false))) sNext)
  (sAug "startpos" .Add (fBi .len (lCons (fVar "w") lNil)))))
noncomputable def refVals (j : Nat) : Vals := fun i K => (K[j]?).map fun ws => ws[i]?

theorem em_body {V : PV} {K : PH} {got w : List Nat} {p : Nat} (h1 : V "got" = some (T got)) (h2 : V "startpos" = some (.int (p : Int))) (h3 : V "endpos" = some (.int (got.length : Int))) (hp : p ≤ got.length) (hl : w.length ≤ 1000000) :
    match findR w (got.drop p) with
    | none => ∃ V', emBody (setV V "w" (T w)) K = some (.ret (.bool false), V', K)
    | some t => ∃ (V' : PV) (p' : Nat), emBody (setV V "w" (T w)) K = some (.next, V', K) ∧ V' "got" = some (T got) ∧ V' "startpos" = some (.int (p' : Int)) ∧ V' "endpos" = some (.int (got.length : Int)) ∧ p' ≤ got.length ∧ t = got.drop p' := by
  have hR := findL_R w (got.drop p) p
  cases e : findL w p (got.drop p) with
  | none =>
    rw [e] at hR
    rw [hR]
    apply Exists.intro
    unfold emBody
    refine s_seq (s_assign (e_me (e_var h1) rfl (l_cons (e_var rfl) (l_cons (e_var h2) (l_cons (e_var h3) l_nil))) (b_find hp))) ?_
    rw [e]
    exact s_seqr (s_if (b_cmp (e_var rfl) e_const rfl) ((if_pos rfl).trans (s_ret e_const)))
  | some q =>
    rw [e] at hR
    obtain ⟨r1, r2, r3⟩ := hR
    rw [r3]
    refine ⟨setV (setV (setV V "w" (T w)) "startpos" (.int (q : Int))) "startpos" (.int ((q : Int) + (w.length : Int))), q + w.length, ?_, h1, rfl, h3, ?_, ?_⟩
    · unfold emBody
      refine s_seq (s_assign (e_me (e_var h1) rfl (l_cons (e_var rfl) (l_cons (e_var h2) (l_cons (e_var h3) l_nil))) (b_find hp))) ?_
      rw [e]
      refine s_seq (s_if (b_cmp (e_var rfl) e_const rfl) ((if_neg (by simp)).trans s_next)) ?_
      exact s_augA rfl (e_bi (l_cons (e_var rfl) l_nil) (b_len (by (first | lia | omega))))
    · simp at r2; (first | lia | omega)
    · rw [List.drop_drop]; congr 1; (first | lia | omega)

theorem em_loop (got : List Nat) (j : Nat) (ws : List (List Nat)) (hw : ∀ w ∈ ws, w.length ≤ 1000000) : ∀ (rest : List (List Nat)) (i f : Nat) (V : PV) (K : PH) (p : Nat), rest = ws.drop i → f = rest.length + 1 → K[j]? = some (ws.map T) →
    V "got" = some (T got) → V "startpos" = some (.int (p : Int)) → V "endpos" = some (.int (got.length : Int)) → p ≤ got.length →
    ∃ V', forG (refVals j) "w" emBody f i V K = some (if emL rest (got.drop p) = true then .next else .ret (.bool false), V', K)
  | [], i, f, V, K, p, hr, hf, hK, h1, h2, h3, hp => by
    subst hf
    refine ⟨V, ?_⟩
    unfold forG refVals
    have : ws.length ≤ i := by have := congrArg List.length hr; simp at this; (first | lia | omega)
    rw [hK, Option.map_some, Option.bind_some, List.getElem?_eq_none (by simpa using this)]
    rfl
  | w :: rest, i, f, V, K, p, hr, hf, hK, h1, h2, h3, hp => by
    subst hf
    have hi : i < ws.length := by have := congrArg List.length hr; simp at this; (first | lia | omega)
    have ed := List.drop_eq_getElem_cons hi
    rw [ed] at hr
    obtain ⟨e1, e2⟩ := List.cons.inj hr
    have hwm : w ∈ ws := by rw [e1]; exact List.getElem_mem hi
    have hb := em_body (V := V) (K := K) (w := w) h1 h2 h3 hp (hw w hwm)
    have eg : (ws.map T)[i]? = some (T w) := by rw [List.getElem?_map, List.getElem?_eq_getElem hi, ← e1]; rfl
    show ∃ V', forG (refVals j) "w" emBody (rest.length + 1 + 1) i V K = _
    unfold forG
    unfold refVals
    rw [hK, Option.map_some, Option.bind_some, eg]
    dsimp only
    cases e : findR w (got.drop p) with
    | none =>
      rw [e] at hb
      obtain ⟨V', hb⟩ := hb
      refine ⟨V', ?_⟩
      rw [hb, Option.bind_some, if_pos rfl]
      have : emL (w :: rest) (got.drop p) = false := by unfold emL; rw [e]
      rw [this]; rfl
    | some t =>
      rw [e] at hb
      obtain ⟨V', p', hb, g1, g2, g3, g4, g5⟩ := hb
      obtain ⟨V2, ih⟩ := em_loop got j ws hw rest (i + 1) (rest.length + 1) V' K p' e2 rfl hK g1 g2 g3 g4
      refine ⟨V2, ?_⟩
      rw [hb, Option.bind_some, if_pos rfl]
      have : emL (w :: rest) (got.drop p) = emL rest t := by conv => lhs; unfold emL; rw [e]
      rw [this, g5]
      exact ih
end Mine

end

/- Em2 -/
section
open PySem PySem.W PySem.Calls PyProof.Rows
set_option maxRecDepth 100000
namespace Mine

theorem parts_mem_le (y : List Nat) : ∀ (x : List Nat) (k : Nat) (cur : List Nat), ∀ w ∈ splitGo y k cur x, w.length ≤ cur.length + x.length
  | [], k, cur, w, h => by unfold splitGo at h; simp at h; subst h; simp
  | c :: r, 0, cur, w, h => by
    unfold splitGo at h
    split at h
    · rcases List.mem_cons.mp h with rfl | h
      · simp <;> (first | lia | omega)
      · have := parts_mem_le y r (y.length - 1) [] w h; simp at this; simp <;> (first | lia | omega)
    · have := parts_mem_le y r 0 (c :: cur) w h; simp at this; simp <;> (first | lia | omega)
  | c :: r, k + 1, cur, w, h => by
    unfold splitGo at h
    have := parts_mem_le y r k cur w h; simp; (first | lia | omega)
theorem idx_ref {K : PH} {j : Nat} {vs : List PVal} {i : Nat} {v : PVal} (e : K[j]? = some vs) (hi : i < 2 ^ 63) (hv : vs[i]? = some v) : idxP (.ref j) (.int (i : Int)) K = some v := by
  show (K[j]?).bind _ = _
  rw [e, Option.bind_some]
  unfold nthP
  rw [if_pos ⟨by (first | lia | omega), by (first | lia | omega)⟩, Int.toNat_natCast, hv]
theorem idx_refL {K : PH} {j : Nat} {vs : List PVal} {v : PVal} (e : K[j]? = some vs) (hv : vs[vs.length - 1]? = some v) : idxP (.ref j) (.int (-1)) K = some v := by
  show (K[j]?).bind _ = _
  rw [e, Option.bind_some]
  unfold nthP
  rw [if_neg (by (first | lia | omega)), if_pos rfl, hv]
theorem s_for_ref {x : Str} {f : EF} {body : SF} {V : PV} {H H1 : PH} {j : Nat} {vs : List PVal} {q : PFlow × PV × PH} (h1 : f V H = some (.ref j, H1)) (h2 : H1[j]? = some vs) (h3 : forG (refVals j) x body (vs.length + 1) 0 V H1 = some q) : sFor x (iRef f) body V H = some q := by
  unfold sFor iRef
  rw [h1, Option.bind_some]
  show (((H1[j]?).map _).bind _) = _
  rw [h2, Option.map_some, Option.bind_some]
  exact h3
theorem s_delLast {o : EF} {V : PV} {H H1 : PH} {j : Nat} {vs : List PVal} (h1 : o V H = some (.ref j, H1)) (h2 : H1[j]? = some vs) (h3 : 0 < vs.length) (h4 : vs.length ≤ 2000000) : sDelLast o V H = some (.next, V, H1.set j (vs.eraseIdx (vs.length - 1))) := by
  unfold sDelLast
  rw [h1, Option.bind_some]
  show ((H1[j]?).bind _) = _
  rw [h2, Option.bind_some, if_pos ⟨h3, by rw [sl]; (first | lia | omega)⟩]

theorem em_one {V : PV} {K : PH} {j : Nat} {got : List Nat} {e : Nat} (hK : K[j]? = some [T []]) (h1 : V "got" = some (T got)) (h2 : V "startpos" = some (.int 0)) (h3 : V "endpos" = some (.int (e : Int))) (he : e ≤ got.length) :
    forG (refVals j) "w" emBody 2 0 V K = some (.next, setV (setV (setV V "w" (T [])) "startpos" (.int 0)) "startpos" (.int (0 + ((0 : Nat) : Int))), K) := by
  have hb : emBody (setV V "w" (T [])) K = some (.next, setV (setV (setV V "w" (T [])) "startpos" (.int 0)) "startpos" (.int (0 + ((0 : Nat) : Int))), K) := by
    unfold emBody
    refine s_seq (s_assign (e_me (e_var h1) rfl (l_cons (e_var rfl) (l_cons (e_var h2) (l_cons (e_var h3) l_nil))) (r := (.int 0, K)) ?_)) ?_
    · show some (PVal.int (findP (mkS got) (mkS []) 0 e), K) = _
      rw [find_empty got e he]
    · refine s_seq (s_if (b_cmp (e_var rfl) e_const rfl) ((if_neg (by simp)).trans s_next)) ?_
      exact s_augA rfl (e_bi (l_cons (e_var rfl) l_nil) (b_len (l := []) (by simp)))
  unfold forG
  unfold refVals
  rw [hK, Option.map_some, Option.bind_some]
  simp only [List.getElem?_cons_zero]
  rw [hb, Option.bind_some, if_pos rfl]
  dsimp only
  unfold forG
  rw [hK, Option.map_some, Option.bind_some]
  rfl

noncomputable def Ve (want got : List Nat) : PV := bindV ((["want", "got"] : List Str).zip [T want, T got]) noV

/-- the loop is the tail of g_em -/
theorem em_tail {V : PV} {K : PH} {got : List Nat} {j : Nat} {ws : List (List Nat)} (hw : ∀ w ∈ ws, w.length ≤ 1000000) (hg : got.length ≤ 1000000) (hK : K[j]? = some (ws.map T)) (h0 : V "ws" = some (.ref j)) (h1 : V "got" = some (T got)) (h2 : V "startpos" = some (.int 0)) (h3 : V "endpos" = some (.int (got.length : Int))) :
    ∃ V', sSeq (sIf (bCmp .Gt (fVar "startpos") (fVar "endpos")) (sRet (fConst (.bool false))) sNext) (sSeq (sFor "w" (iRef (fVar "ws")) emBody) (sRet (fConst (.bool true)))) V K = some (.ret (.bool (emL ws got)), V', K) := by
  obtain ⟨V', hl⟩ := em_loop got j ws hw ws 0 (ws.length + 1) V K 0 (by simp) rfl hK h1 (by simpa using h2) h3 (by (first | lia | omega))
  refine ⟨V', ?_⟩
  refine s_seq (s_if (b_cmp (e_var h2) (e_var h3) rfl) ((if_neg (by simp)).trans s_next)) ?_
  have hf := s_for_ref (x := "w") (f := fVar "ws") (body := emBody) (V := V) (H := K) (e_var h0) hK (by rw [List.length_map]; exact hl)
  rw [List.drop_zero] at hf
  cases e : emL ws got with
  | true =>
    rw [e] at hf
    exact s_seq hf (s_ret e_const)
  | false =>
    rw [e] at hf
    exact s_seqr hf

theorem run_em (want got : List Nat) (hw : want.length ≤ 1000000) (hg : got.length ≤ 1000000) {b : Bool} (h : emP want got = some b) (H : PH) :
    runF noV ((["want", "got"] : List Str).zip [T want, T got]) g_em H = some (.bool b, H) := by
  have hlen := splitL_length dots want
  have hmem : ∀ w ∈ splitL dots want, w.length ≤ 1000000 := fun w hm => by have := parts_mem_le dots want 0 [] w hm; simp at this; (first | lia | omega)
  have hcon : Txt.contains (mkS want) (mkS dots) = decide (2 ≤ (splitL dots want).length) := contains_list want dots (by decide)
  unfold emP at h
  generalize hws : splitL dots want = ws at h hlen hmem hcon
  split at h
  · rename_i w r
    have h2 : (2 ≤ ([] :: w :: r).length) := by simp
    rw [decide_eq_true h2] at hcon
    have hN : cmpP .NotIn (.str "...") (T want) = some false := by
      show some (!(Txt.contains (mkS want) "...")) = _
      rw [dots_eq, hcon]; rfl
    have eK : ∀ vs : List PVal, (H ++ [vs])[H.length]? = some vs := fun vs => by simp
    obtain ⟨lw, hlw⟩ : ∃ l, ([] :: w :: r)[([] :: w :: r).length - 1]? = some l := by
      rw [← List.getLast?_eq_getElem?]; exact ⟨_, List.getLast?_cons⟩
    have hlwm : lw.length ≤ 1000000 := hmem lw (List.mem_of_getElem? hlw)
    have hlast : (w :: r).getLast? = some lw := by rw [← hlw, ← List.getLast?_eq_getElem?, List.getLast?_cons_cons]
    have idx1 : idxP (.ref H.length) (.int (-1)) (H ++ [([] :: w :: r).map T]) = some (T lw) := idx_refL (eK _) (by rw [List.length_map, List.getElem?_map, hlw]; rfl)
    have go : ∀ (g : SF) (K : PH), K.take H.length = H → (∃ V', g (setV (setV (setV (setV (Ve want got) "ws" (.ref H.length)) "endpos" (.int (got.length : Int))) "startpos" (.int 0)) "w" (T [])) (H ++ [([] :: w :: r).map T]) = some (.ret (.bool b), V', K)) →
        runF noV ((["want", "got"] : List Str).zip [T want, T got]) (sSeq (sIf (bCmp .NotIn (fConst (.str "...")) (fVar "want")) (sRet (fCmp .Eq (fVar "want") (fVar "got"))) sNext)
          (sSeq (sNew "ws" (nSplit (fVar "want") (lCons (fConst (.str "...")) lNil)))
          (sSeq (sAssert (bCmp .GtE (fBi .len (lCons (fVar "ws") lNil)) (fConst (.int 2))))
          (sSeq (sPairR "startpos" "endpos" (fTup (lCons (fConst (.int 0)) (lCons (fBi .len (lCons (fVar "got") lNil)) lNil))))
          (sSeq (sAssign "w" (fIdx (fVar "ws") (fConst (.int 0)))) g))))) H = some (.bool b, H) := by
      intro g K hK hg'
      refine runE (K := K) (v := .bool b) ?_ rfl hK
      obtain ⟨V', hg'⟩ := hg'
      refine ⟨V', ?_⟩
      refine s_seq (s_if (b_cmp e_const (e_var rfl) hN) ((if_neg (by simp)).trans s_next)) ?_
      refine s_seq (s_new (n_split (x := want) (y := dots) (e_var rfl) (l_cons e_const l_nil) (by decide) (by decide) hw)) ?_
      rw [hws]
      refine s_seq (s_assert (b_cmp (e_bi (l_cons (e_var rfl) l_nil) (b_lenR (eK _) (by simp at hlen ⊢; (first | lia | omega)))) e_const rfl) (by simp; (first | lia | omega))) ?_
      refine s_seq (s_pairR (e_tup (l_cons e_const (l_cons (e_bi (l_cons (e_var rfl) l_nil) (b_len (by (first | lia | omega)))) l_nil)) rfl (by rw [sl]; simp))) ?_
      refine s_seq (s_assign (e_idx (e_var rfl) e_const (idx_ref (i := 0) (eK _) (by decide) rfl))) ?_
      exact hg'
    split at h
    · rename_i hc
      obtain ⟨rfl, hwne⟩ := hc
      cases h
      have : lw = w := by simpa using hlast.symm
      subst this
      by_cases he : lw.isSuffixOf got = true
      · have hle : lw.length ≤ got.length := (List.isSuffixOf_iff_suffix.mp he).length_le
        rw [he] at go ⊢
        refine go _ ((H ++ [([] :: [lw]).map T]).set H.length [T []]) (by simp) ?_
        apply Exists.intro
        refine s_seq (s_if (b_val (e_var rfl) (t_str (by simp))) ((if_neg (by simp)).trans s_next)) ?_
        refine s_seq (s_assign (e_idx (e_var rfl) e_neg idx1)) ?_
        refine s_seq (s_if (b_val (e_var rfl) (t_str (by (first | lia | omega)))) ((if_pos (by simp [hwne])).trans (s_if (b_val (e_me (e_var rfl) rfl (l_cons (e_var rfl) l_nil) b_ends) rfl) ((if_pos (by simp [he])).trans
          (s_seq (s_augS rfl (e_bi (l_cons (e_var rfl) l_nil) (b_len (by (first | lia | omega))))) (s_delLast (e_var rfl) (eK _) (by simp) (by simp))))))) ?_
        refine s_seq (s_if (b_cmp (e_var rfl) (e_var rfl) rfl) ((if_neg (by simp; (first | lia | omega))).trans s_next)) ?_
        have ec : ((got.length : Int) - (lw.length : Int)) = ((got.length - lw.length : Nat) : Int) := by (first | lia | omega)
        refine s_seq (s_for_ref (e_var rfl) (vs := [T []]) (by simp) (em_one (got := got) (e := got.length - lw.length) (by simp) rfl rfl (by rw [← ec]; rfl) (by (first | lia | omega)))) (s_ret e_const)
      · have he : lw.isSuffixOf got = false := Bool.eq_false_iff.mpr he
        rw [he] at go ⊢
        refine go _ (H ++ [([] :: [lw]).map T]) (by simp) ?_
        apply Exists.intro
        refine s_seq (s_if (b_val (e_var rfl) (t_str (by simp))) ((if_neg (by simp)).trans s_next)) ?_
        refine s_seq (s_assign (e_idx (e_var rfl) e_neg idx1)) ?_
        refine s_seqr (s_if (b_val (e_var rfl) (t_str (by (first | lia | omega)))) ((if_pos (by simp [hwne])).trans (s_if (b_val (e_me (e_var rfl) rfl (l_cons (e_var rfl) l_nil) b_ends) rfl) ((if_neg (by simp [he])).trans (s_ret e_const)))))
    · split at h
      · rename_i hc
        cases h
        have hln : lw = [] := by rw [hlast] at hc; exact Option.some.inj hc
        subst hln
        have hem : emL ([] :: w :: r) got = emL (w :: r) got := by
          conv => lhs; unfold emL
          cases got <;> simp [findR]
        rw [← hem] at go ⊢
        refine go _ (H ++ [([] :: w :: r).map T]) (by simp) ?_
        obtain ⟨V', ht⟩ := em_tail (V := setV (setV (setV (setV (setV (Ve want got) "ws" (.ref H.length)) "endpos" (.int (got.length : Int))) "startpos" (.int 0)) "w" (T [])) "w" (T [])) (K := H ++ [([] :: w :: r).map T]) (got := got) (j := H.length) (ws := [] :: w :: r) hmem hg (eK _) rfl rfl rfl rfl
        refine ⟨V', ?_⟩
        refine s_seq (s_if (b_val (e_var rfl) (t_str (by simp))) ((if_neg (by simp)).trans s_next)) ?_
        refine s_seq (s_assign (e_idx (e_var rfl) e_neg idx1)) ?_
        refine s_seq (s_if (b_val (e_var rfl) (t_str (by simp))) ((if_neg (by simp)).trans s_next)) ?_
        exact ht
      · cases h
  · cases h
end Mine

end

/- Rep -/
section
open PySem PySem.W PySem.Calls PyProof.Rows
set_option maxRecDepth 100000
namespace Mine

theorem run_d21 (a b n : Int) (H : PH) (h1 : (Builtin.Int.intBits a : Int) - n ≤ 4000) (h2 : b ≠ 0) (h3 : Builtin.Int.intBits b ≤ 9000) :
    runF noV ((["a", "b", "n"] : List Str).zip [PVal.int a, .int b, .int n]) g_d21 H = some (.tup [.int (a.fdiv b), .int (a.fmod b)], H) := by
  refine runE (K := H) (v := .tup [.int (a.fdiv b), .int (a.fmod b)]) ?_ rfl (List.take_of_length_le (Nat.le_refl _))
  apply Exists.intro
  unfold g_d21
  exact s_seqr (s_if (b_cmp (e_bin (e_me (e_var rfl) rfl l_nil rfl) (e_var rfl) p_sub) e_const rfl) ((if_pos (by simpa using h1)).trans (s_ret (e_bi (l_cons (e_var rfl) (l_cons (e_var rfl) l_nil)) (if_pos ⟨h2, h3⟩)))))

theorem strsP_T : ∀ ts : List (List Nat), strsP (ts.map T) = some (ts.map mkS)
  | [] => rfl
  | t :: ts => by
    show (strsP (ts.map T)).map _ = _
    rw [strsP_T ts]; rfl
theorem strsP_of {ps : List PVal} : ∀ {ss : List Str}, strsP ps = some ss → ps = (ss.map fun s => s.cps.toList).map T := by
  induction ps with
  | nil => intro ss h; cases h; rfl
  | cons v r ih =>
    intro ss h
    obtain ⟨x, ms, rfl, e, rfl⟩ := strsP_cons h
    rw [ih e]
    simp [T, mkS_of]

theorem parts_sum (y : List Nat) : ∀ (x : List Nat) (k : Nat) (cur : List Nat), ((splitGo y k cur x).map List.length).sum ≤ cur.length + x.length
  | [], k, cur => by unfold splitGo; simp
  | c :: r, 0, cur => by
    unfold splitGo
    split
    · have := parts_sum y r (y.length - 1) []; simp at this ⊢; (first | lia | omega)
    · have := parts_sum y r 0 (c :: cur); simp at this ⊢; (first | lia | omega)
  | c :: r, k + 1, cur => by
    unfold splitGo
    have := parts_sum y r k cur; simp; (first | lia | omega)
theorem foldLen (c : Nat) : ∀ (l : List (List Nat)) (s : Nat), (l.map mkS).foldl (fun a x => a + x.length + c) s = s + (l.map List.length).sum + l.length * c
  | [], s => by simp
  | x :: l, s => by
    rw [List.map_cons, List.foldl_cons, foldLen c l, mkS_length]
    simp [Nat.add_mul]; (first | lia | omega)
theorem joinOk {b : List Nat} {ps : List (List Nat)} (h : (ps.map List.length).sum + ps.length * b.length ≤ 10000000) : JoinOk (mkS b) (ps.map mkS) = true := by
  unfold JoinOk
  have e : (ps.map mkS).toArray.foldl (fun a x => a + x.length + (mkS b).length) 0 = (ps.map List.length).sum + ps.length * b.length := by
    rw [List.foldl_toArray, mkS_length, foldLen]; simp
  rw [e]
  simp only [Builtin.Str.tooLong, Bool.not_eq_true', decide_eq_false_iff_not]
  have : sizeLine = 16777216 := rfl
  (first | lia | omega)
theorem b_join {b : List Nat} {ps : List (List Nat)} {H : PH} (h : (ps.map List.length).sum + ps.length * b.length ≤ 10000000) : biP .join [T b, .lst (ps.map T)] H = some (T (joinL b ps), H) := by
  show ((strsP (ps.map T)).bind _) = _
  rw [strsP_T, Option.bind_some, if_pos (joinOk h), join_list]; rfl

theorem rep_body {V : PV} {K : PH} {t a b : List Nat} {r : List (List Nat)} (h1 : V "text" = some (T t)) (h2 : V "pairs" = some (.tup ((a :: b :: r).map T))) (hr : r.length ≤ 70) (ha : a ≠ []) (hal : a.all (· < 256) = true) (ht : t.length ≤ 2000) (hb : b.length ≤ 2000) :
    (sSeq (sAssign "text" (fMe .join (fIdx (fVar "pairs") (fConst (.int 1))) (lCons (fMe .split (fVar "text") (lCons (fIdx (fVar "pairs") (fConst (.int 0))) lNil)) lNil)))
      (sAssign "pairs" (fSlA (fVar "pairs") (fConst (.int 2))))) V K = some (.next, setV (setV V "text" (T (joinL b (splitL a t)))) "pairs" (.tup (r.map T)), K) := by
  refine s_seq (s_assign (e_me (e_idx (e_var h2) e_const (v := T b) rfl) rfl (l_cons (e_me (e_var h1) rfl (l_cons (e_idx (e_var h2) e_const (v := T a) rfl) l_nil) (b_split ha hal (by (first | lia | omega)))) l_nil) (b_join ?_))) ?_
  · have h3 := parts_sum a t 0 []
    have h4 := splitL_length a t
    have h5 : (splitL a t).length * b.length ≤ 2001 * 2000 := Nat.mul_le_mul (by (first | lia | omega)) hb
    have h6 : ((splitL a t).map List.length).sum ≤ t.length := by simpa [splitL] using h3
    (first | lia | omega)
  · refine s_assign (e_slA (e_var h2) e_const ?_)
    exact if_pos ⟨by decide, by simp, by rw [sl]; simp; (first | lia | omega)⟩
theorem rep_loop : ∀ (n : Nat) (ps : List (List Nat)) (t u : List Nat) (V : PV) (K : PH), repP 2000 ps t = some u → ps.length ≤ 70 → ps.length < 2 * n → V "text" = some (T t) → V "pairs" = some (.tup (ps.map T)) →
    ∃ V', whileG (bVal (fVar "pairs")) (sSeq (sAssign "text" (fMe .join (fIdx (fVar "pairs") (fConst (.int 1))) (lCons (fMe .split (fVar "text") (lCons (fIdx (fVar "pairs") (fConst (.int 0))) lNil)) lNil)))
      (sAssign "pairs" (fSlA (fVar "pairs") (fConst (.int 2))))) n V K = some (.next, V', K) ∧ V' "text" = some (T u)
  | 0, ps, t, u, V, K, h, hp, hn, h1, h2 => by (first | lia | omega)
  | n + 1, [], t, u, V, K, h, hp, hn, h1, h2 => by
    cases h
    refine ⟨V, ?_, h1⟩
    unfold whileG
    have : bVal (fVar "pairs") V K = some (false, K) := b_val (e_var h2) rfl
    rw [this]; rfl
  | n + 1, [_], t, u, V, K, h, hp, hn, h1, h2 => by cases h
  | n + 1, a :: b :: r, t, u, V, K, h, hp, hn, h1, h2 => by
    unfold repP at h
    split at h
    · rename_i hc
      obtain ⟨hc1, hc2, hc3, hc4⟩ := hc
      have hb := rep_body (K := K) h1 h2 (by simp at hp; (first | lia | omega)) hc1 hc2 hc3 hc4
      obtain ⟨V', ih, hu⟩ := rep_loop n r _ u (setV (setV V "text" (T (joinL b (splitL a t)))) "pairs" (.tup (r.map T))) K h (by simp at hp; (first | lia | omega)) (by simp at hn; (first | lia | omega)) rfl rfl
      refine ⟨V', ?_, hu⟩
      unfold whileG
      have : bVal (fVar "pairs") V K = some (true, K) := b_val (e_var h2) (by
        show (if ((a :: b :: r).map T).length ≤ sizeLine then _ else none) = _
        rw [if_pos (by rw [sl]; simp at hp ⊢; (first | lia | omega))]; rfl)
      rw [this, Option.bind_some, if_pos rfl, hb, Option.bind_some, if_pos rfl]
      exact ih
    · cases h
theorem run_rep (ps : List (List Nat)) (t u : List Nat) (H : PH) (h : repP 2000 ps t = some u) (hp : ps.length ≤ 70) :
    runF noV [("text", T t), ("pairs", .tup (ps.map T))] g_rep H = some (T u, H) := by
  obtain ⟨V', hl, hu⟩ := rep_loop 40 ps t u (bindV [("text", T t), ("pairs", .tup (ps.map T))] noV) H h hp (by (first | lia | omega)) rfl rfl
  refine runE (K := H) (v := T u) ⟨V', ?_⟩ rfl (List.take_of_length_le (Nat.le_refl _))
  unfold g_rep
  exact s_seq hl (s_ret (e_var hu))
end Mine

end

/- Dmp -/
section
open PySem PySem.W PySem.Calls PyProof.Rows
set_option maxRecDepth 100000
namespace Mine

/-- a loop over items by value: P is what holds between the turns -/
theorem forG_vals {x : Str} {body : SF} {vs : List PVal} (P : Nat → PV → PH → Prop) (hb : ∀ i v V K, vs[i]? = some v → P i V K → ∃ V' K', body (setV V x v) K = some (.next, V', K') ∧ K'.length = K.length ∧ P (i + 1) V' K') :
    ∀ (f i : Nat) (V : PV) (K : PH), i + f = vs.length + 1 → i ≤ vs.length → P i V K → ∃ V' K', forG (valsOf vs) x body f i V K = some (.next, V', K') ∧ P vs.length V' K'
  | 0, i, V, K, hf, hi, hP => by (first | lia | omega)
  | f + 1, i, V, K, hf, hi, hP => by
    unfold forG
    unfold valsOf
    rw [if_pos (by (first | lia | omega)), Option.bind_some]
    by_cases hi : i < vs.length
    · have e : vs[i]? = some vs[i] := List.getElem?_eq_getElem hi
      obtain ⟨V1, K1, h1, h2, h3⟩ := hb i _ V K e hP
      rw [e]
      dsimp only
      rw [h1, Option.bind_some, if_pos h2]
      obtain ⟨V', K', h4, h5⟩ := forG_vals P hb f (i + 1) V1 K1 (by (first | lia | omega)) (by (first | lia | omega)) h3
      exact ⟨V', K', h4, h5⟩
    · have : i = vs.length := by (first | lia | omega)
      subst this
      rw [List.getElem?_eq_none (Nat.le_refl _)]
      exact ⟨V, K, rfl, hP⟩
theorem s_for_rev {x : Str} {f : EF} {body : SF} {V : PV} {H H1 : PH} {vs : List PVal} {q : PFlow × PV × PH} (h1 : f V H = some (.lst vs, H1)) (h3 : forG (valsOf vs.reverse) x body (vs.length + 1) 0 V H1 = some q) : sFor x (iRev f) body V H = some q := by
  unfold sFor iRev
  rw [h1, Option.bind_some]
  exact h3
theorem s_for_val {x : Str} {f : EF} {body : SF} {V : PV} {H H1 : PH} {v : PVal} {vs : List PVal} {q : PFlow × PV × PH} (h1 : f V H = some (v, H1)) (h2 : itemsP v = some vs) (h3 : forG (valsOf vs) x body (vs.length + 1) 0 V H1 = some q) : sFor x (iVal f) body V H = some q := by
  unfold sFor iVal
  rw [h1, Option.bind_some]
  dsimp only
  rw [h2, Option.map_some, Option.bind_some]
  exact h3
theorem b_append {H : PH} {j : Nat} {vs : List PVal} {v : PVal} (e : H[j]? = some vs) (hv : v.isRef = false) (hl : vs.length ≤ 2000000) : biP .append [.ref j, v] H = some (.none, H.set j (vs ++ [v])) := by
  show ((H[j]?).bind _) = _
  rw [e, Option.bind_some, if_pos ⟨hv, by rw [sl]; (first | lia | omega)⟩]
theorem b_reverse {H : PH} {j : Nat} {vs : List PVal} (e : H[j]? = some vs) (hl : vs.length ≤ 2000000) : biP .reverse [.ref j] H = some (.none, H.set j vs.reverse) := by
  show ((H[j]?).bind _) = _
  rw [e, Option.bind_some, if_pos (by rw [sl]; (first | lia | omega))]
theorem natsP_ok : ∀ ds : List Nat, natsP (nums ds) = some ds
  | [] => rfl
  | d :: ds => by
    show (if (0 : Int) ≤ (d : Int) then (natsP (nums ds)).map _ else none) = _
    rw [if_pos (by (first | lia | omega)), natsP_ok ds]; simp
theorem d2iP_ok (ds : List Nat) (n : Nat) (hn : 0 < n) (hn1 : n ≤ 5000) (hl : ds.length ≤ 5000) (hd : ∀ d ∈ ds, d < 2 ^ n) : d2iP (nums ds) (n : Int) = some (valN n ds) := by
  unfold d2iP
  rw [if_pos ⟨by (first | lia | omega), by (first | lia | omega), by rw [nums_length]; exact hl⟩, natsP_ok, Option.bind_some, Int.toNat_natCast, if_pos (List.all_eq_true.mpr fun d h => by simpa using hd d h)]
theorem nums_append (a b : List Nat) : nums (a ++ b) = nums a ++ nums b := by simp [nums]
theorem nums_reverse (a : List Nat) : nums a.reverse = (nums a).reverse := by simp [nums]

noncomputable def dmpBody : SF := (sSeq (sPair "q_digit" "r" (fCallF F_d21 (lCons (fBin .Add (fBin .LShift (fVar "r") (fVar "n")) (fVar "a_digit")) (lCons (fVar "b") (lCons (fVar "n") lNil)))))
  (sExpr (fMe .append (fVar "q_digits") (lCons (fVar "q_digit") lNil))))

structure DivSt (H : PH) (b n : Nat) (l : List Nat) (i : Nat) (V : PV) (K : PH) : Prop where
  ex : ∃ (r : Nat) (qs : List Nat), V "r" = some (.int (r : Int)) ∧ V "n" = some (.int (n : Int)) ∧ V "b" = some (.int (b : Int)) ∧ V "q_digits" = some (.ref H.length) ∧ K = H ++ [nums qs] ∧ r < b ∧ qs.length = i ∧ (∀ q ∈ qs, q < 2 ^ n) ∧
    valN n qs.reverse * b + r = valN n (l.take i).reverse

theorem dmp_body {H : PH} {b n : Nat} {l : List Nat} (hn : n = Builtin.Int.intBits (b : Int)) (hb0 : 0 < b) (hb : n ≤ 2000) (hl : l.length ≤ 5000) (hd : ∀ d ∈ l, d < 2 ^ n) (i : Nat) (v : PVal) (V : PV) (K : PH) (hv : (nums l)[i]? = some v) (hP : DivSt H b n l i V K) :
    ∃ V' K', dmpBody (setV V "a_digit" v) K = some (.next, V', K') ∧ K'.length = K.length ∧ DivSt H b n l (i + 1) V' K' := by
  obtain ⟨r, qs, h1, h2, h3, h4, rfl, hr, hq, hqs, hval⟩ := hP.ex
  have hi : i < l.length := by have := (List.getElem?_eq_some_iff.mp hv).1; rwa [nums_length] at this
  rw [nums_get l i hi] at hv
  obtain rfl := Option.some.inj hv
  have hdl := hd l[i] (List.getElem_mem hi)
  generalize hdd : l[i] = d at hdl ⊢
  have hbn : b < 2 ^ n := hn ▸ lt_bits b
  have hx : r * 2 ^ n + d < b * 2 ^ n := by
    have : (r + 1) * 2 ^ n ≤ b * 2 ^ n := Nat.mul_le_mul_right _ hr
    rw [Nat.add_mul, Nat.one_mul] at this; (first | lia | omega)
  have hx2 : r * 2 ^ n + d < 2 ^ (n + n) := by
    refine Nat.lt_of_lt_of_le hx ?_
    rw [Nat.pow_add]; exact Nat.mul_le_mul_right _ (Nat.le_of_lt hbn)
  have hq2 : (r * 2 ^ n + d) / b < 2 ^ n := by
    rw [Nat.div_lt_iff_lt_mul hb0, Nat.mul_comm (2 ^ n) b]; exact hx
  have hrb : Builtin.Int.intBits (r : Int) ≤ n := bits_leN (Nat.lt_trans hr hbn)
  have hxb : Builtin.Int.intBits ((r * 2 ^ n + d : Nat) : Int) ≤ n + n := bits_leN hx2
  have hF : F_d21 [.int ((r * 2 ^ n + d : Nat) : Int), .int (b : Int), .int (n : Int)] (H ++ [nums qs]) = some (.tup [.int (((r * 2 ^ n + d) / b : Nat) : Int), .int (((r * 2 ^ n + d) % b : Nat) : Int)], H ++ [nums qs]) := by
    show (if _ then _ else none) = _
    rw [if_pos ⟨by (first | lia | omega), by (first | lia | omega), by (first | lia | omega)⟩, fdivN, fmodN]
  refine ⟨setV (setV (setV V "a_digit" (.int (d : Int))) "q_digit" (.int (((r * 2 ^ n + d) / b : Nat) : Int))) "r" (.int (((r * 2 ^ n + d) % b : Nat) : Int)), (H ++ [nums qs]).set H.length (nums qs ++ [.int (((r * 2 ^ n + d) / b : Nat) : Int)]), ?_, by simp, ⟨(r * 2 ^ n + d) % b, qs ++ [(r * 2 ^ n + d) / b], rfl, h2, h3, h4, ?_, Nat.mod_lt _ hb0, by simp [hq], ?_, ?_⟩⟩
  · refine s_seq (s_pair (e_callF (l_cons (e_bin (e_bin (e_var h1) (e_var h2) (q_shl (by (first | lia | omega)))) (e_var rfl) q_add) (l_cons (e_var h3) (l_cons (e_var h2) l_nil))) hF)) ?_
    exact s_expr (e_me (e_var h4) rfl (l_cons (e_var rfl) l_nil) (b_append (by simp) rfl (by rw [nums_length]; (first | lia | omega))))
  · rw [List.set_append_right _ _ (Nat.le_refl _), Nat.sub_self, nums_append]; rfl
  · intro q hqm
    rcases List.mem_append.mp hqm with h | h
    · exact hqs q h
    · rw [List.mem_singleton.mp h]; exact hq2
  · rw [List.take_succ_eq_append_getElem hi, List.reverse_append, List.reverse_append, List.reverse_singleton, List.reverse_singleton, List.singleton_append, List.singleton_append, valN, valN, hdd, ← hval]
    have := Nat.div_add_mod (r * 2 ^ n + d) b
    rw [Nat.add_mul, Nat.mul_add, Nat.mul_comm _ b, ← Nat.mul_assoc, Nat.mul_comm (2 ^ n) r]
    (first | lia | omega)

theorem run_dmp (a b : Nat) (H : PH) (hb0 : 0 < b) (ha : Builtin.Int.intBits (a : Int) ≤ 4000) (hb : Builtin.Int.intBits (b : Int) ≤ 2000) :
    runF noV ((["a", "b"] : List Str).zip [PVal.int (a : Int), .int (b : Int)]) g_dmp H = some (.tup [.int ((a / b : Nat) : Int), .int ((a % b : Nat) : Int)], H) := by
  obtain ⟨n, hn⟩ : ∃ n, n = Builtin.Int.intBits (b : Int) := ⟨_, rfl⟩
  have hn0 : 0 < n := hn ▸ bits_pos hb0
  have hn2 : n ≤ 2000 := hn ▸ hb
  have hm := ndig_le hn0 ha
  have hdl : (digs a n).length = ndig a n := digN_length _ _ _
  obtain ⟨V', K', hl, hst⟩ := forG_vals (x := "a_digit") (body := dmpBody) (vs := nums (digs a n).reverse) (DivSt H b n (digs a n).reverse) (fun i v V K hv hP => dmp_body (l := (digs a n).reverse) hn hb0 hn2 (by rw [List.length_reverse]; (first | lia | omega)) (fun d hd => digN_lt n _ a d (List.mem_reverse.mp hd)) i v V K hv hP)
    ((nums (digs a n).reverse).length + 1) 0 (setV (setV (setV (setV (bindV ((["a", "b"] : List Str).zip [PVal.int (a : Int), .int (b : Int)]) noV) "n" (.int (n : Int))) "a_digits" (.lst (nums (digs a n)))) "r" (.int 0)) "q_digits" (.ref H.length)) (H ++ [[]]) (by (first | lia | omega)) (by (first | lia | omega))
    ⟨0, [], rfl, rfl, rfl, rfl, rfl, hb0, rfl, (fun q h => absurd h List.not_mem_nil), by simp [valN]⟩
  obtain ⟨r, qs, h1, h2, h3, h4, rfl, hr, hq, hqs, hval⟩ := hst.ex
  rw [nums_length] at hq hval
  rw [List.take_of_length_le (Nat.le_refl _), List.reverse_reverse, show valN n (digs a n) = a from (valN_digN n _ a).trans (Nat.mod_eq_of_lt (ndig_ok a n hn0))] at hval
  have hQ : valN n qs.reverse = a / b := by
    rw [← hval, Nat.mul_comm, Nat.mul_add_div hb0, Nat.div_eq_of_lt hr, Nat.add_zero]
  have hR : r = a % b := by
    rw [← hval, Nat.mul_comm, Nat.mul_add_mod, Nat.mod_eq_of_lt hr]
  refine runE (K := H ++ [nums qs.reverse]) (v := .tup [.int ((a / b : Nat) : Int), .int ((a % b : Nat) : Int)]) ?_ rfl (by simp)
  apply Exists.intro
  unfold g_dmp
  refine s_seq (s_assign (v := .int (n : Int)) (H1 := H) (e_me (e_var rfl) rfl l_nil (by rw [hn]; rfl))) ?_
  refine s_seq (s_assign (e_callF (l_cons (e_var rfl) (l_cons (e_var rfl) l_nil)) (r := (.lst (nums (digs a n)), H)) ?_)) ?_
  · show (if _ then _ else none) = _
    rw [if_pos ⟨by (first | lia | omega), by (first | lia | omega), by (first | lia | omega), by (first | lia | omega)⟩]; rfl
  refine s_seq (s_assign e_const) ?_
  refine s_seq (s_new n_nil) ?_
  refine s_seq (s_for_rev (e_var rfl) (by rw [← nums_reverse]; rw [nums_length, List.length_reverse] at hl; rw [nums_length]; exact hl)) ?_
  refine s_seq (s_expr (e_me (e_var h4) rfl l_nil (b_reverse (vs := nums qs) (by simp) (by rw [nums_length]; rw [hq, List.length_reverse]; (first | lia | omega))))) ?_
  have eS : (H ++ [nums qs]).set H.length (nums qs).reverse = H ++ [nums qs.reverse] := by rw [List.set_append_right _ _ (Nat.le_refl _), Nat.sub_self, nums_reverse]; rfl
  rw [eS]
  refine s_seq (s_assign (e_callF (l_cons (e_var h4) (l_cons (e_var h2) l_nil)) (r := (.int ((a / b : Nat) : Int), H ++ [nums qs.reverse])) ?_)) ?_
  · show (((H ++ [nums qs.reverse])[H.length]?).bind _) = _
    have : (H ++ [nums qs.reverse])[H.length]? = some (nums qs.reverse) := by simp
    rw [this, Option.bind_some, d2iP_ok qs.reverse n hn0 (by (first | lia | omega)) (by rw [List.length_reverse, hq, List.length_reverse]; (first | lia | omega)) (fun d h => hqs d (List.mem_reverse.mp h)), hQ]; rfl
  refine s_ret (e_tup (l_cons (e_var rfl) (l_cons (e_var (v := .int ((a % b : Nat) : Int)) (by rw [← hR]; exact h1)) l_nil)) rfl (by rw [sl]; simp))
end Mine

end

/- Fs0 -/
section
open PySem PySem.W PySem.Calls PyProof.Rows
set_option maxRecDepth 100000
namespace Mine

noncomputable def innerOk (sc insc : Scope) (names : List Str) (nm : Str) : Bool :=
  (sc.names.lookup (("inner" : Str)) == some .cell) && insc.names.all (fun p => !(p.2 == .free) || (sc.names.lookup p.1 == some .cell && (p.1 == "n" || p.1 == "inner" || p.1 == nm))) &&
    insc.names.contains (("n" : Str), .free) && insc.names.contains (("inner" : Str), .free) && insc.names.contains (nm, .free) &&
    (insc.kind == .function) && decide ((insc.names.map (·.1)).Nodup) && !insc.isCoroutine && !insc.isGenerator && bindsTo insc names

theorem Inner.of {sc insc : Scope} {params : Arguments} {inbody : List Stmt} {names : List Str} {nm : Str} {gb : GF → SF} (h : innerOk sc insc names nm = true) (d0 : params.defaults = []) (k0 : params.kw_defaults = []) (ann : ∀ env, annTrees params none env = [])
    (ba : ∀ (cl : List (Str × Addr)) (doc pm ctv : Value) (c' : Addr) (q : Str) (xs : List Value), xs.length = names.length → bindArgs (fnX "inner" q params inbody insc cl .none .none doc pm none (.ref c') ctv) ⟨xs, []⟩ = pure (names.zip xs))
    (sims : ∀ (Y : Cx) d G, GSound Y d G → SimSs Y d insc inbody (gb G)) : Inner sc insc params inbody names nm gb := by
  unfold innerOk at h
  simp only [Bool.and_eq_true, decide_eq_true_eq] at h
  obtain ⟨⟨⟨⟨⟨⟨⟨⟨⟨h1, h2⟩, h3⟩, h4⟩, h5⟩, h6⟩, h7⟩, h8⟩, h9⟩, h10⟩ := h
  have h2 : ∀ x, (x, NameKind.free) ∈ insc.names → sc.names.lookup x = some .cell ∧ (x = "n" ∨ x = "inner" ∨ x = nm) := fun x hx => by
    have := List.all_eq_true.mp h2 (x, .free) hx
    simp at this
    obtain ⟨a, b⟩ := this
    refine ⟨a, ?_⟩
    rcases b with (b | b) | b
    · exact .inl b
    · exact .inr (.inl b)
    · exact .inr (.inr b)
  refine ⟨d0, k0, ann, by simpa using h1, fun n hn => (h2 n hn).1, fun x => ⟨fun hx => (h2 x hx).2, fun hx => ?_⟩, by simpa using h6, h7, by simpa using h8, by simpa using h9, ba, bindsTo_ok h10, sims⟩
  rcases hx with rfl | rfl | rfl
  · simpa using h3
  · simpa using h4
  · simpa using h5

/-- what stands of a text's globals: the addresses of the shared defs -/
structure Ads where
  em : Addr
  d21 : Addr
  i2d : Addr
  d2i : Addr
  dmp : Addr
  rep : Addr
structure LibOk (X : Cx) (a : Ads) : Prop where
  em : FS X 16 a.em F_em
  d21 : FS X 15 a.d21 F_d21
  i2d : FS X 15 a.i2d F_i2d
  d2i : FS X 15 a.d2i F_d2i
  dmp : FS X 16 a.dmp F_dmp
  rep : FS X 16 a.rep F_rep

theorem len1 {xs : List Value} (h : xs.length = 1) : ∃ a, xs = [a] := List.length_eq_one_iff.mp h
theorem len_cons {n : Nat} {xs : List Value} (h : xs.length = n + 1) : ∃ a r, xs = a :: r ∧ r.length = n := by
  cases xs with
  | nil => cases h
  | cons a r => exact ⟨a, r, rfl, Nat.succ.inj h⟩
theorem len2 {xs : List Value} (h : xs.length = 2) : ∃ a b, xs = [a, b] := by
  obtain ⟨a, r, rfl, h2⟩ := len_cons h
  obtain ⟨b, rfl⟩ := len1 h2
  exact ⟨a, b, rfl⟩
theorem len3 {xs : List Value} (h : xs.length = 3) : ∃ a b c, xs = [a, b, c] := by
  obtain ⟨a, r, rfl, h2⟩ := len_cons h
  obtain ⟨b, c, rfl⟩ := len2 h2
  exact ⟨a, b, c, rfl⟩

theorem em_run {vs : List PVal} {H : PH} {v : PVal} {H' : PH} (h : F_em vs H = some (v, H')) : vs.length = (["want", "got"] : List Str).length ∧ runF noV ((["want", "got"] : List Str).zip vs) g_em H = some (v, H') := by
  unfold F_em at h
  split at h
  · obtain ⟨want, q0, zq0⟩ := Option.bind_eq_some_iff.mp h
    clear h
    have h := zq0
    clear zq0
    obtain rfl := strI_some q0
    obtain ⟨got, q1, zq1⟩ := Option.bind_eq_some_iff.mp h
    clear h
    have h := zq1
    clear zq1
    obtain rfl := strI_some q1
    split at h
    · rename_i hc
      obtain ⟨b, hb, e⟩ := Option.map_eq_some_iff.mp h
      cases e
      have hw := mkS_of want
      have hg := mkS_of got
      refine ⟨rfl, ?_⟩
      have := run_em want.cps.toList got.cps.toList (by simpa [Str.length] using hc.1) (by simpa [Str.length] using hc.2) hb H
      unfold T at this
      rw [hw, hg] at this
      exact this
    · cases h
  · cases h
theorem d21_run {vs : List PVal} {H : PH} {v : PVal} {H' : PH} (h : F_d21 vs H = some (v, H')) : vs.length = (["a", "b", "n"] : List Str).length ∧ runF noV ((["a", "b", "n"] : List Str).zip vs) g_d21 H = some (v, H') := by
  unfold F_d21 at h
  split at h
  · obtain ⟨a, q0, zq0⟩ := Option.bind_eq_some_iff.mp h
    clear h
    have h := zq0
    clear zq0
    obtain rfl := intI_some q0
    obtain ⟨b, q1, zq1⟩ := Option.bind_eq_some_iff.mp h
    clear h
    have h := zq1
    clear zq1
    obtain rfl := intI_some q1
    obtain ⟨n, q2, zq2⟩ := Option.bind_eq_some_iff.mp h
    clear h
    have h := zq2
    clear zq2
    obtain rfl := intI_some q2
    split at h
    · rename_i hc
      cases h
      exact ⟨rfl, run_d21 a b n H hc.1 hc.2.1 hc.2.2⟩
    · cases h
  · cases h
theorem dmp_run {vs : List PVal} {H : PH} {v : PVal} {H' : PH} (h : F_dmp vs H = some (v, H')) : vs.length = (["a", "b"] : List Str).length ∧ runF noV ((["a", "b"] : List Str).zip vs) g_dmp H = some (v, H') := by
  unfold F_dmp at h
  split at h
  · obtain ⟨a, q0, zq0⟩ := Option.bind_eq_some_iff.mp h
    clear h
    have h := zq0
    clear zq0
    obtain rfl := intI_some q0
    obtain ⟨b, q1, zq1⟩ := Option.bind_eq_some_iff.mp h
    clear h
    have h := zq1
    clear zq1
    obtain rfl := intI_some q1
    split at h
    · rename_i hc
      cases h
      obtain ⟨a, rfl⟩ := Int.eq_ofNat_of_zero_le hc.1
      obtain ⟨b, rfl⟩ := Int.eq_ofNat_of_zero_le (Int.le_of_lt hc.2.1)
      exact ⟨rfl, run_dmp a b H (by have := hc.2.1; (first | lia | omega)) hc.2.2.1 hc.2.2.2⟩
    · cases h
  · cases h
theorem allBy_T (ts : List (List Nat)) : allBy (ts.map T) = true := by
  unfold allBy; rw [List.all_eq_true]; intro v hv
  obtain ⟨t, _, rfl⟩ := List.mem_map.mp hv; rfl
theorem rep_run {vs : List PVal} {H : PH} {v : PVal} {H' : PH} (h : F_rep vs H = some (v, H')) : ∃ a rest, vs = a :: rest ∧ allBy rest = true ∧ rest.length ≤ sizeLine ∧ runF noV [("text", a), ("pairs", .tup rest)] g_rep H = some (v, H') := by
  unfold F_rep at h
  split at h
  · rename_i ps
    obtain ⟨t, q0, zq0⟩ := Option.bind_eq_some_iff.mp h
    clear h
    have h := zq0
    clear zq0
    obtain rfl := strI_some q0
    obtain ⟨ss, hs, h⟩ := Option.bind_eq_some_iff.mp h
    split at h
    · rename_i hl
      obtain ⟨u, hu, e⟩ := Option.map_eq_some_iff.mp h
      cases e
      have hps := strsP_of hs
      refine ⟨_, ps, rfl, by rw [hps]; exact allBy_T _, by rw [hps, sl]; simp; (first | lia | omega), ?_⟩
      have := run_rep (ss.map fun s => s.cps.toList) t.cps.toList u H hu (by simpa using hl)
      unfold T at this
      rw [mkS_of] at this
      rw [hps]
      exact this
    · cases h
  · cases h
end Mine

end

/- Sp2 -/
section
open PySem PySem.W PyProof.Rows
set_option maxRecDepth 100000
namespace Mine
/-- law 2 -/
noncomputable def imgL (c : Int) : List Nat := (List.range (1 + (c.fmod 3).toNat)).map fun k => (((c.fdiv 3).fdiv (2 ^ k)).fmod 2).toNat
noncomputable def F_img : PF := fun vs H => match vs with
  | [x] => (intI x).bind fun c => some (.lst (nums (imgL c)), H)
  | _ => none
noncomputable def rowL (c : Int) (s : List Nat) : List Nat := (List.range 5).map fun k => (s ++ [124]).getD ((c.fdiv (3 ^ k)).fmod 3).toNat 0
noncomputable def pcsL (c : Int) (s : List Nat) : List (List Nat) := (splitL [124] (rowL c s)).filter fun p => !p.isEmpty
noncomputable def F_pcs : PF := fun vs H => match vs with
  | [x, y] => (intI x).bind fun c => (strI y).bind fun s => if s.length = 2 then some (.lst ((pcsL c s.cps.toList).map fun l => .str (mkS l)), H) else none
  | _ => none
/-- the longest end of what is seen that begins the piece -/
noncomputable def shrink (p : List Nat) : List Nat → List Nat
  | [] => []
  | c :: r => if (c :: r).isPrefixOf p = true then c :: r else shrink p r
noncomputable def stepGo (place : Nat) (sign : List Nat) : List (List Nat) → Nat → Nat
  | [], _ => place
  | p :: r, start => if place < start + p.length then start + (shrink p (p.take (place - start) ++ sign)).length else stepGo place sign r (start + p.length)
noncomputable def F_stp : PF := fun vs H => match vs with
  | [x, y, z] => (lstI x).bind fun ps => (intI y).bind fun place => (strI z).bind fun sign => (strsP ps).bind fun ss => if 0 ≤ place ∧ ss.length ≤ 10 ∧ ss.all (fun s => s.length ≤ 9) = true ∧ sign.length = 1 then some (.int ((stepGo place.toNat sign.cps.toList (ss.map fun s => s.cps.toList) 0 : Nat) : Int), H) else none
  | _ => none
noncomputable def movL (ps : List (List Nat)) (signs : List Nat) : List (List Nat) := signs.map fun c => (List.range (ps.flatten.length + 1)).map fun place => stepGo place [c] ps 0
noncomputable def F_mov : PF := fun vs H => match vs with
  | [x, y] => (lstI x).bind fun ps => (strI y).bind fun signs => (strsP ps).bind fun ss => if ss.length ≤ 10 ∧ ss.all (fun s => s.length ≤ 9) = true ∧ signs.length ≤ 10 then some (.lst ((movL (ss.map fun s => s.cps.toList) signs.cps.toList).map fun l => .lst (nums l)), H) else none
  | _ => none
/-- lists of lists of numbers -/
noncomputable def natLs : List PVal → Option (List (List Nat))
  | [] => some []
  | v :: r => (lstI v).bind fun vs => (natsP vs).bind fun ns => (natLs r).map (ns :: ·)
noncomputable def groL (moves images : List (List Nat)) : List (List Nat) := images.map fun im => im.foldl (fun mv s => mv.map fun place => (moves.getD s []).getD place 0) (List.range (moves.getD 0 []).length)
noncomputable def F_gro : PF := fun vs H => match vs with
  | [x, y] => (lstI x).bind fun ms => (lstI y).bind fun is => (natLs ms).bind fun moves => (natLs is).bind fun images =>
    if moves.length = 2 ∧ images.length ≤ 10 ∧ (moves.getD 0 []).length ≤ 10 ∧ moves.all (fun m => m.length == (moves.getD 0 []).length && m.all fun p => Nat.blt p (moves.getD 0 []).length) = true ∧ images.all (fun im => Nat.ble im.length 10 && im.all fun s => Nat.blt s 2) = true then
      some (.lst ((groL moves images).map fun l => .lst (nums l)), H) else none
  | _ => none
noncomputable def cntL (over under wide : Nat) : List Nat := (digs (over / under) wide ++ List.replicate (5 - (digs (over / under) wide).length) 0).reverse
noncomputable def F_cnt : PF := fun vs H => match vs with
  | [x, y, z] => (intI x).bind fun over => (intI y).bind fun under => (intI z).bind fun wide => if 0 ≤ over ∧ 0 < under ∧ 0 < wide ∧ Builtin.Int.intBits over ≤ 4000 ∧ Builtin.Int.intBits under ≤ 2000 ∧ wide ≤ 5000 ∧ (digs (over.toNat / under.toNat) wide.toNat).length ≤ 5 then some (.lst (nums (cntL over.toNat under.toNat wide.toNat)), H) else none
  | _ => none
noncomputable def hldP (sign : List Nat) (many : Nat) (word : List Nat) : Option Bool := (emP (dots ++ repL many (sign ++ dots)) word).bind fun b => if b = true then (emP (dots ++ repL many (sign ++ dots) ++ sign ++ dots) word).map (!·) else some false
noncomputable def F_hld : PF := fun vs H => match vs with
  | [x, y, z] => (strI x).bind fun sign => (intI y).bind fun many => (strI z).bind fun word => if 0 ≤ many ∧ many ≤ 1000 ∧ sign.length ≤ 10 ∧ word.length ≤ 1000 then (hldP sign.cps.toList many.toNat word.cps.toList).map fun b => (.bool b, H) else none
  | _ => none
end Mine

end

/- Gd2 -/
section
open PySem PySem.W PyProof.Rows
set_option maxRecDepth 100000
namespace Mine
noncomputable def cs_img_0 : Scope := { kind := .function, names := [(".0", .local), ("k", .local), ("cell", .free)], isGenerator := false, isCoroutine := false, more := [] }
noncomputable def g_img : SF :=
  (sRet (fComp cs_img_0 "k" (fBi .range (lCons (fBin .Add (fConst (.int 1)) (fBin .Mod (fVar "cell") (fConst (.int 3)))) lNil)) (fBin .Mod (fBin .FloorDiv (fBin .FloorDiv (fVar "cell") (fConst (.int 3))) (fBin .Pow (fConst (.int 2)) (fVar "k"))) (fConst (.int 2)))))
noncomputable def cs_pcs_0 : Scope := { kind := .function, names := [(".0", .local), ("k", .local), ("cell", .free), ("signs", .free)], isGenerator := false, isCoroutine := false, more := [] }
noncomputable def cs_pcs_1 : Scope := { kind := .function, names := [(".0", .local), ("piece", .local)], isGenerator := false, isCoroutine := false, more := [] }
noncomputable def g_pcs : SF :=
  (sSeq (sAssign "row" (fMe .join (fConst (.str "")) (lCons (fComp cs_pcs_0 "k" (fBi .range (lCons (fConst (.int 5)) lNil)) (fIdx (fBin .Add (fVar "signs") (fConst (.str "|"))) (fBin .Mod (fBin .FloorDiv (fVar "cell") (fBin .Pow (fConst (.int 3)) (fVar "k"))) (fConst (.int 3))))) lNil)))
  (sRet (fCompIf cs_pcs_1 "piece" (fMe .split (fVar "row") (lCons (fConst (.str "|")) lNil)) (bCmp .NotEq (fVar "piece") (fConst (.str ""))) (fVar "piece"))))
noncomputable def g_stp : SF :=
  (sSeq (sAssign "start" (fConst (.int 0)))
  (sSeq (sFor "piece" (iVal (fVar "pieces")) (sSeq (sIf (bCmp .Lt (fVar "place") (fBin .Add (fVar "start") (fBi .len (lCons (fVar "piece") lNil)))) (sSeq (sAssign "seen" (fBin .Add (fSlB (fVar "piece") (fBin .Sub (fVar "place") (fVar "start"))) (fVar "sign")))
  (sSeq (sWhile 12 (bNot (bVal (fMe .startswith (fVar "piece") (lCons (fVar "seen") lNil)))) (sAssign "seen" (fSlA (fVar "seen") (fConst (.int 1)))))
  (sRet (fBin .Add (fVar "start") (fBi .len (lCons (fVar "seen") lNil)))))) sNext)
  (sAssign "start" (fBin .Add (fVar "start") (fBi .len (lCons (fVar "piece") lNil))))))
  (sRet (fVar "place"))))
noncomputable def cs_mov_0 : Scope := { kind := .function, names := [(".0", .local), ("sign", .cell), ("pieces", .free), ("places", .free)], isGenerator := false, isCoroutine := false, more := [] }
noncomputable def cs_mov_1 : Scope := { kind := .function, names := [(".0", .local), ("place", .local), ("_law_step", .globalImplicit), ("pieces", .free), ("sign", .free)], isGenerator := false, isCoroutine := false, more := [] }
noncomputable def g_mov : SF :=
  (sSeq (sAssign "places" (fBi .range (lCons (fBin .Add (fBi .len (lCons (fMe .join (fConst (.str "")) (lCons (fVar "pieces") lNil)) lNil)) (fConst (.int 1))) lNil)))
  (sRet (fComp cs_mov_0 "sign" (fVar "signs") (fComp cs_mov_1 "place" (fVar "places") (fCallF F_stp (lCons (fVar "pieces") (lCons (fVar "place") (lCons (fVar "sign") lNil))))))))
noncomputable def cs_gro_0 : Scope := { kind := .function, names := [(".0", .local), ("place", .local), ("moves", .free), ("sign", .free)], isGenerator := false, isCoroutine := false, more := [] }
noncomputable def g_gro : SF :=
  (sSeq (sNew "grown" nNil)
  (sSeq (sFor "image" (iVal (fVar "images")) (sSeq (sAssign "move" (fBi .list (lCons (fBi .range (lCons (fBi .len (lCons (fIdx (fVar "moves") (fConst (.int 0))) lNil)) lNil)) lNil)))
  (sSeq (sFor "sign" (iVal (fVar "image")) (sAssign "move" (compRun (fVar "move") (stepE cs_gro_0 "place" (fIdx (fIdx (fVar "moves") (fVar "sign")) (fVar "place"))))))
  (sExpr (fMe .append (fVar "grown") (lCons (fVar "move") lNil))))))
  (sRet (fVar "grown"))))
noncomputable def g_cnt : SF :=
  (sSeq (sAssign "digits" (fCallF F_i2d (lCons (fIdx (fCallF F_dmp (lCons (fVar "over") (lCons (fVar "under") lNil))) (fConst (.int 0))) (lCons (fVar "wide") lNil))))
  (sRet (fRev (fBin .Add (fVar "digits") (fBin .Mult (fList (lCons (fConst (.int 0)) lNil)) (fBin .Sub (fConst (.int 5)) (fBi .len (lCons (fVar "digits") lNil))))))))
noncomputable def g_hld : SF :=
  (sSeq (sAssign "want" (fBin .Add (fConst (.str "...")) (fBin .Mult (fBin .Add (fVar "sign") (fConst (.str "..."))) (fVar "many"))))
  (sRet (fAnd (fCallF F_em (lCons (fVar "want") (lCons (fVar "word") lNil))) (fNot (fCallF F_em (lCons (fBin .Add (fBin .Add (fVar "want") (fVar "sign")) (fConst (.str "..."))) (lCons (fVar "word") lNil)))))))
noncomputable def cs_law2_0 : Scope := { kind := .function, names := [(".0", .local), ("k", .local), ("sum", .globalImplicit), ("base", .free), ("script", .free)], isGenerator := false, isCoroutine := false, more := [] }
noncomputable def cs_law2_1 : Scope := { kind := .function, names := [(".0", .local), ("cell", .local), ("_law_image", .globalImplicit)], isGenerator := false, isCoroutine := false, more := [] }
noncomputable def cs_law2_2 : Scope := { kind := .function, names := [(".0", .local), ("image", .local), ("signs", .free)], isGenerator := false, isCoroutine := false, more := [] }
noncomputable def cs_law2_3 : Scope := { kind := .function, names := [(".0", .local), ("k", .local), ("signs", .free)], isGenerator := false, isCoroutine := false, more := [] }
noncomputable def cs_law2_4 : Scope := { kind := .function, names := [(".0", .local), ("cell", .local), ("_law_pieces", .globalImplicit), ("signs", .free)], isGenerator := false, isCoroutine := false, more := [] }
noncomputable def cs_law2_5 : Scope := { kind := .function, names := [(".0", .local), ("pieces", .local), ("_law_moves", .globalImplicit), ("signs", .free)], isGenerator := false, isCoroutine := false, more := [] }
noncomputable def cs_law2_6 : Scope := { kind := .function, names := [(".0", .local), ("piece", .local)], isGenerator := false, isCoroutine := false, more := [] }
noncomputable def cs_law2_7 : Scope := { kind := .function, names := [(".0", .local), ("image", .local), ("grown", .free)], isGenerator := false, isCoroutine := false, more := [] }
noncomputable def cs_law2_8 : Scope := { kind := .function, names := [(".0", .local), ("sign", .local), ("grown", .free)], isGenerator := false, isCoroutine := false, more := [] }
noncomputable def cs_law2_9 : Scope := { kind := .function, names := [(".0", .local), ("move", .local), ("_law_grown_moves", .globalImplicit), ("images", .free)], isGenerator := false, isCoroutine := false, more := [] }
noncomputable def g_law2 : SF :=
  (sSeq (sAssign "signs" (fSlB (fSlA (fBin .Mult (fConst (.str "a#b\n :!\t")) (fConst (.int 2))) (fBin .Mod (fBi .sum (lCons (fVar "script") lNil)) (fConst (.int 8)))) (fConst (.int 2))))
  (sSeq (sAssign "base" (fList (lCons (fConst (.int 7)) (lCons (fConst (.int 0)) (lCons (fConst (.int 21)) (lCons (fConst (.int 238)) lNil))))))
  (sSeq (sAssign "cells" (compRun (fBi .range (lCons (fConst (.int 4)) lNil)) (stepE cs_law2_0 "k" (fBin .Add (fIdx (fVar "base") (fVar "k")) (fBi .sum (lCons (fSlAB (fVar "script") (fVar "k") (fBin .Add (fVar "k") (fConst (.int 1)))) lNil))))))
  (sSeq (sAssign "images" (fComp cs_law2_1 "cell" (fSlB (fVar "cells") (fConst (.int 2))) (fCallF F_img (lCons (fVar "cell") lNil))))
  (sSeq (sAssign "texts" (compRun (fVar "images") (stepE cs_law2_2 "image" (fMe .join (fConst (.str "")) (lCons (fComp cs_law2_3 "k" (fVar "image") (fIdx (fVar "signs") (fVar "k"))) lNil)))))
  (sSeq (sAssign "pairs" (fList (lCons (fIdx (fVar "signs") (fConst (.int 0))) (lCons (fConst (.str ".")) (lCons (fIdx (fVar "signs") (fConst (.int 1))) (lCons (fIdx (fVar "texts") (fConst (.int 1))) (lCons (fConst (.str ".")) (lCons (fIdx (fVar "texts") (fConst (.int 0))) lNil))))))))
  (sSeq (sAssign "wide" (fBin .Add (fConst (.int 12)) (fBi .len (lCons (fVar "script") lNil))))
  (sSeq (sAssign "bound" (fBin .LShift (fConst (.int 1)) (fVar "wide")))
  (sSeq (sAssign "p" (fMe .lcount (fIdx (fVar "images") (fConst (.int 0))) (lCons (fConst (.int 0)) lNil)))
  (sSeq (sAssign "q" (fMe .lcount (fIdx (fVar "images") (fConst (.int 0))) (lCons (fConst (.int 1)) lNil)))
  (sSeq (sAssign "r" (fMe .lcount (fIdx (fVar "images") (fConst (.int 1))) (lCons (fConst (.int 0)) lNil)))
  (sSeq (sAssign "s" (fMe .lcount (fIdx (fVar "images") (fConst (.int 1))) (lCons (fConst (.int 1)) lNil)))
  (sSeq (sAssign "under" (fBin .Sub (fBin .Add (fBin .Sub (fBin .Mult (fVar "bound") (fVar "bound")) (fBin .Mult (fBin .Add (fVar "p") (fVar "s")) (fVar "bound"))) (fBin .Mult (fVar "p") (fVar "s"))) (fBin .Mult (fVar "q") (fVar "r"))))
  (sSeq (sAssign "first" (fCallF F_cnt (lCons (fBin .LShift (fBin .Sub (fVar "bound") (fVar "s")) (fBin .Mult (fConst (.int 5)) (fVar "wide"))) (lCons (fVar "under") (lCons (fVar "wide") lNil)))))
  (sSeq (sAssign "second" (fCallF F_cnt (lCons (fBin .LShift (fVar "q") (fBin .Mult (fConst (.int 5)) (fVar "wide"))) (lCons (fVar "under") (lCons (fVar "wide") lNil)))))
  (sSeq (sAssign "patterns" (compRun (fSlA (fVar "cells") (fConst (.int 2))) (stepE cs_law2_4 "cell" (fCallF F_pcs (lCons (fVar "cell") (lCons (fVar "signs") lNil))))))
  (sSeq (sAssign "moves" (compRun (fVar "patterns") (stepE cs_law2_5 "pieces" (fCallF F_mov (lCons (fVar "pieces") (lCons (fVar "signs") lNil))))))
  (sSeq (sAssign "word" (fIdx (fVar "signs") (fConst (.int 0))))
  (sSeq (sAssign "grown" (fList (lCons (fIdx (fVar "signs") (fConst (.int 0))) (lCons (fIdx (fVar "signs") (fConst (.int 1))) lNil))))
  (sSeq (sFor "k" (iVal (fBi .range (lCons (fConst (.int 5)) lNil))) (sSeq (sIf (bCmp .NotEq (fVar "word") (fIdx (fVar "grown") (fConst (.int 0)))) (sRet (fConst (.bool false))) sNext)
  (sSeq (sIf (bOr (bNot (bVal (fCallF F_hld (lCons (fIdx (fVar "signs") (fConst (.int 0))) (lCons (fIdx (fVar "first") (fVar "k")) (lCons (fVar "word") lNil)))))) (bNot (bVal (fCallF F_hld (lCons (fIdx (fVar "signs") (fConst (.int 1))) (lCons (fIdx (fVar "second") (fVar "k")) (lCons (fVar "word") lNil))))))) (sRet (fConst (.bool false))) sNext)
  (sSeq (sFor "n" (iVal (fBi .range (lCons (fConst (.int 2)) lNil))) (sSeq (sAssign "want" (fBin .Add (fConst (.str "...")) (fMe .join (fConst (.str "")) (lCons (fComp cs_law2_6 "piece" (fIdx (fVar "patterns") (fVar "n")) (fBin .Add (fVar "piece") (fConst (.str "...")))) lNil))))
  (sIf (bCmp .NotEq (fCallF F_em (lCons (fVar "want") (lCons (fVar "word") lNil))) (fCmp .Eq (fIdx (fIdx (fIdx (fVar "moves") (fVar "n")) (fConst (.int 0))) (fConst (.int 0))) (fBin .Sub (fBi .len (lCons (fIdx (fIdx (fVar "moves") (fVar "n")) (fConst (.int 0))) lNil)) (fConst (.int 1))))) (sRet (fConst (.bool false))) sNext)))
  (sSeq (sAssign "word" (fCallF F_rep (lCons (fVar "word") (lStar (fVar "pairs") lNil))))
  (sSeq (sAssign "grown" (fComp cs_law2_7 "image" (fVar "images") (fMe .join (fConst (.str "")) (lCons (fComp cs_law2_8 "sign" (fVar "image") (fIdx (fVar "grown") (fVar "sign"))) lNil))))
  (sAssign "moves" (compRun (fVar "moves") (stepE cs_law2_9 "move" (fCallF F_gro (lCons (fVar "move") (lCons (fVar "images") lNil))))))))))))
  (sRet (fAnd (fCmp .Eq (fVar "word") (fIdx (fVar "grown") (fConst (.int 0)))) (fCmp .Eq (fCallF F_rep (lCons (fIdx (fVar "signs") (fConst (.int 0))) (lStar (fBin .Mult (fVar "pairs") (fConst (.int 5))) lNil))) (fVar "word"))))))))))))))))))))))))
end Mine

end

/- Gt2 -/
section
open PySem PySem.W PyProof.Rows
set_option maxRecDepth 100000
set_option maxHeartbeats 4000000
namespace Mine
theorem s_d21_02 {X : Cx} {d : Nat} {tDL : Tok} (B : BltOk X) (hDL : X.mg "_DIV_LIMIT" = some (.int 4000 tDL)) : SimSs X d (scopeAt PySem.Challenge.pw_pk0079_02 2) (bodyAt PySem.Challenge.pw_pk0079_02 2) g_d21 :=
  (sims_cons (sim_if_ (simb_cmp rfl (sim_bin (sim_meth0 _ rfl (fun _ => rfl) (sim_local rfl rfl)) (sim_local rfl rfl)) (sim_globInt rfl rfl hDL)) (sims_one (sim_ret (sim_bi (fun _ => rfl) (fun _ => rfl) (fun _ => rfl) (sim_blt (v := BI.val .divmod) rfl rfl (B "divmod" (by decide)).1 ((B "divmod" (by decide)).2.trans rfl)) (siml_cons (fun _ => rfl) (sim_local rfl rfl) (siml_cons (fun _ => rfl) (sim_local rfl rfl) siml_nil))))) sims_nil)
  sims_fail)
theorem s_i2d_02 {X : Cx} {d : Nat} (B : BltOk X) : SimS X d (scopeAt PySem.Challenge.pw_pk0079_02 4) ((bodyAt PySem.Challenge.pw_pk0079_02 4).headD default) g_i2d := (sim_new (.inr rfl) (fun _ _ => rfl) (simn_rep (sim_list (siml_cons (fun _ => rfl) sim_int siml_nil)) (sim_bin (sim_bin (sim_bin (sim_meth0 _ rfl (fun _ => rfl) (sim_local rfl rfl)) (sim_cell rfl rfl)) sim_int) (sim_cell rfl rfl))))
theorem s_i2d_in_02 {X : Cx} {d : Nat} {G : GF}   (hG : GSound X d G) : SimSs X d (scopeIn (bodyAt PySem.Challenge.pw_pk0079_02 4) 1) (bodyIn (bodyAt PySem.Challenge.pw_pk0079_02 4) 1) (g_i2d_in G) :=
  (sims_cons (sim_if_ (simb_cmp rfl (sim_bin (sim_local rfl rfl) sim_int) (sim_local rfl rfl)) (sims_cons (sim_set (fun _ _ => rfl) (sim_local rfl rfl) (sim_free rfl rfl rfl) (sim_local rfl rfl))
  (sims_one sim_retNone)) sims_nil)
  (sims_cons (sim_assign (.inl rfl) (fun _ _ => rfl) (sim_bin (sim_bin (sim_local rfl rfl) (sim_local rfl rfl)) sim_int))
  (sims_cons (sim_assign (.inl rfl) (fun _ _ => rfl) (sim_bin (sim_bin (sim_local rfl rfl) (sim_local rfl rfl)) (sim_free rfl rfl rfl)))
  (sims_cons (sim_assign (.inl rfl) (fun _ _ => rfl) (sim_bin (sim_local rfl rfl) (sim_local rfl rfl)))
  (sims_cons (sim_assign (.inl rfl) (fun _ _ => rfl) (sim_bin (sim_local rfl rfl) (sim_bin (sim_local rfl rfl) (sim_local rfl rfl))))
  (sims_cons (sim_expr (fun _ _ => rfl) (sim_call (fun _ => rfl) (fun _ => rfl) hG (sim_free rfl rfl rfl) (siml_cons (fun _ => rfl) (sim_local rfl rfl) (siml_cons (fun _ => rfl) (sim_local rfl rfl) (siml_cons (fun _ => rfl) (sim_local rfl rfl) siml_nil)))))
  (sims_one (sim_expr (fun _ _ => rfl) (sim_call (fun _ => rfl) (fun _ => rfl) hG (sim_free rfl rfl rfl) (siml_cons (fun _ => rfl) (sim_local rfl rfl) (siml_cons (fun _ => rfl) (sim_local rfl rfl) (siml_cons (fun _ => rfl) (sim_local rfl rfl) siml_nil))))))))))))
theorem s_d2i_in_02 {X : Cx} {d : Nat} {G : GF}   (hG : GSound X d G) : SimSs X d (scopeIn (bodyAt PySem.Challenge.pw_pk0079_02 5) 0) (bodyIn (bodyAt PySem.Challenge.pw_pk0079_02 5) 0) (g_d2i_in G) :=
  (sims_cons (sim_if_ (simb_cmp rfl (sim_bin (sim_local rfl rfl) sim_int) (sim_local rfl rfl)) (sims_one (sim_ret (sim_idx (fun _ _ => rfl) (sim_free rfl rfl rfl) (sim_local rfl rfl)))) sims_nil)
  (sims_cons (sim_assign (.inl rfl) (fun _ _ => rfl) (sim_bin (sim_bin (sim_local rfl rfl) (sim_local rfl rfl)) sim_int))
  (sims_cons (sim_assign (.inl rfl) (fun _ _ => rfl) (sim_bin (sim_bin (sim_local rfl rfl) (sim_local rfl rfl)) (sim_free rfl rfl rfl)))
  (sims_one (sim_ret (sim_bin (sim_bin (sim_call (fun _ => rfl) (fun _ => rfl) hG (sim_free rfl rfl rfl) (siml_cons (fun _ => rfl) (sim_local rfl rfl) (siml_cons (fun _ => rfl) (sim_local rfl rfl) siml_nil))) (sim_local rfl rfl)) (sim_call (fun _ => rfl) (fun _ => rfl) hG (sim_free rfl rfl rfl) (siml_cons (fun _ => rfl) (sim_local rfl rfl) (siml_cons (fun _ => rfl) (sim_local rfl rfl) siml_nil)))))))))
theorem s_dmp_02 {X : Cx} {d : Nat} {a_i2d : Addr} {a_d21 : Addr} {a_d2i : Addr} (B : BltOk X) (h_i2d : X.mg "_int2digits" = some (.ref a_i2d)) (S_i2d : FS X d a_i2d F_i2d) (h_d21 : X.mg "_div2n1n" = some (.ref a_d21)) (S_d21 : FS X d a_d21 F_d21) (h_d2i : X.mg "_digits2int" = some (.ref a_d2i)) (S_d2i : FS X d a_d2i F_d2i) : SimSs X d (scopeAt PySem.Challenge.pw_pk0079_02 6) (bodyAt PySem.Challenge.pw_pk0079_02 6) g_dmp :=
  (sims_cons (sim_assign (.inl rfl) (fun _ _ => rfl) (sim_meth0 _ rfl (fun _ => rfl) (sim_local rfl rfl)))
  (sims_cons (sim_assign (.inl rfl) (fun _ _ => rfl) (sim_callF (fun _ => rfl) (fun _ => rfl) S_i2d (sim_glob rfl rfl h_i2d) (siml_cons (fun _ => rfl) (sim_local rfl rfl) (siml_cons (fun _ => rfl) (sim_local rfl rfl) siml_nil))))
  (sims_cons (sim_assign (.inl rfl) (fun _ _ => rfl) sim_int)
  (sims_cons (sim_new (.inl rfl) (fun _ _ => rfl) simn_nil)
  (sims_cons (sim_for (.inl rfl) (fun _ _ => rfl) (simi_rev (fun _ => rfl) (fun _ => rfl) (sim_blt rfl rfl (B "reversed" (by decide)).1 ((B "reversed" (by decide)).2.trans rfl)) (sim_local rfl rfl) (siml_cons (fun _ => rfl) (sim_local rfl rfl) siml_nil)) (sims_cons (sim_pair (.inl rfl) (.inl rfl) (fun _ _ => rfl) (fun env h => by cases env; cases h; rfl) (sim_callF (fun _ => rfl) (fun _ => rfl) S_d21 (sim_glob rfl rfl h_d21) (siml_cons (fun _ => rfl) (sim_bin (sim_bin (sim_local rfl rfl) (sim_local rfl rfl)) (sim_local rfl rfl)) (siml_cons (fun _ => rfl) (sim_local rfl rfl) (siml_cons (fun _ => rfl) (sim_local rfl rfl) siml_nil)))))
  (sims_one (sim_expr (fun _ _ => rfl) (sim_meth _ rfl (fun _ => rfl) (fun _ => rfl) (fun _ => rfl) (sim_local rfl rfl) (siml_cons (fun _ => rfl) (sim_local rfl rfl) siml_nil))))))
  (sims_cons (sim_expr (fun _ _ => rfl) (sim_meth0 _ rfl (fun _ => rfl) (sim_local rfl rfl)))
  (sims_cons (sim_assign (.inl rfl) (fun _ _ => rfl) (sim_callF (fun _ => rfl) (fun _ => rfl) S_d2i (sim_glob rfl rfl h_d2i) (siml_cons (fun _ => rfl) (sim_local rfl rfl) (siml_cons (fun _ => rfl) (sim_local rfl rfl) siml_nil))))
  (sims_one (sim_ret (sim_tup (siml_cons (fun _ => rfl) (sim_local rfl rfl) (siml_cons (fun _ => rfl) (sim_local rfl rfl) siml_nil))))))))))))
theorem s_em_02 {X : Cx} {d : Nat} {tEM : Tok} (B : BltOk X) (hEM : X.mg "ELLIPSIS_MARKER" = some (.str "..." tEM)) : SimSs X d (scopeAt PySem.Challenge.pw_pk0079_02 9) (bodyAt PySem.Challenge.pw_pk0079_02 9) g_em :=
  (sims_cons (sim_if_ (simb_cmp rfl (sim_globStr rfl rfl hEM) (sim_local rfl rfl)) (sims_one (sim_ret (sim_cmp rfl (sim_local rfl rfl) (sim_local rfl rfl)))) sims_nil)
  (sims_cons (sim_new (.inl rfl) (fun _ _ => rfl) (simn_split _ (fun _ => rfl) (fun _ => rfl) (sim_local rfl rfl) (siml_cons (fun _ => rfl) (sim_globStr rfl rfl hEM) siml_nil)))
  (sims_cons (sim_assert (simb_cmp rfl (sim_bi (fun _ => rfl) (fun _ => rfl) (fun _ => rfl) (sim_blt (v := BI.val .len) rfl rfl (B "len" (by decide)).1 ((B "len" (by decide)).2.trans rfl)) (siml_cons (fun _ => rfl) (sim_local rfl rfl) siml_nil)) sim_int))
  (sims_cons (sim_pairR (.inl rfl) (.inl rfl) (fun _ _ => rfl) (fun env h => by cases env; cases h; rfl) (sim_tup (siml_cons (fun _ => rfl) sim_int (siml_cons (fun _ => rfl) (sim_bi (fun _ => rfl) (fun _ => rfl) (fun _ => rfl) (sim_blt (v := BI.val .len) rfl rfl (B "len" (by decide)).1 ((B "len" (by decide)).2.trans rfl)) (siml_cons (fun _ => rfl) (sim_local rfl rfl) siml_nil)) siml_nil))))
  (sims_cons (sim_assign (.inl rfl) (fun _ _ => rfl) (sim_idx (fun _ _ => rfl) (sim_local rfl rfl) sim_int))
  (sims_cons (sim_if_ (simb_val (fun _ _ => rfl) (sim_local rfl rfl)) (sims_one (sim_if_ (simb_val (fun _ _ => rfl) (sim_meth _ rfl (fun _ => rfl) (fun _ => rfl) (fun _ => rfl) (sim_local rfl rfl) (siml_cons (fun _ => rfl) (sim_local rfl rfl) siml_nil))) (sims_cons (sim_assign (.inl rfl) (fun _ _ => rfl) (sim_bi (fun _ => rfl) (fun _ => rfl) (fun _ => rfl) (sim_blt (v := BI.val .len) rfl rfl (B "len" (by decide)).1 ((B "len" (by decide)).2.trans rfl)) (siml_cons (fun _ => rfl) (sim_local rfl rfl) siml_nil)))
  (sims_one (sim_del0 (sim_local rfl rfl) sim_int))) (sims_one (sim_ret sim_bool)))) sims_nil)
  (sims_cons (sim_assign (.inl rfl) (fun _ _ => rfl) (sim_idx (fun _ _ => rfl) (sim_local rfl rfl) sim_neg))
  (sims_cons (sim_if_ (simb_val (fun _ _ => rfl) (sim_local rfl rfl)) (sims_one (sim_if_ (simb_val (fun _ _ => rfl) (sim_meth _ rfl (fun _ => rfl) (fun _ => rfl) (fun _ => rfl) (sim_local rfl rfl) (siml_cons (fun _ => rfl) (sim_local rfl rfl) siml_nil))) (sims_cons (sim_aug rfl (sim_bi (fun _ => rfl) (fun _ => rfl) (fun _ => rfl) (sim_blt (v := BI.val .len) rfl rfl (B "len" (by decide)).1 ((B "len" (by decide)).2.trans rfl)) (siml_cons (fun _ => rfl) (sim_local rfl rfl) siml_nil)))
  (sims_one (sim_delLast (sim_local rfl rfl) sim_neg))) (sims_one (sim_ret sim_bool)))) sims_nil)
  (sims_cons (sim_if_ (simb_cmp rfl (sim_local rfl rfl) (sim_local rfl rfl)) (sims_one (sim_ret sim_bool)) sims_nil)
  (sims_cons (sim_for (.inl rfl) (fun _ _ => rfl) (simi_ref (sim_local rfl rfl)) (sims_cons (sim_assign (.inl rfl) (fun _ _ => rfl) (sim_meth _ rfl (fun _ => rfl) (fun _ => rfl) (fun _ => rfl) (sim_local rfl rfl) (siml_cons (fun _ => rfl) (sim_local rfl rfl) (siml_cons (fun _ => rfl) (sim_local rfl rfl) (siml_cons (fun _ => rfl) (sim_local rfl rfl) siml_nil)))))
  (sims_cons (sim_if_ (simb_cmp rfl (sim_local rfl rfl) sim_int) (sims_one (sim_ret sim_bool)) sims_nil)
  (sims_one (sim_aug rfl (sim_bi (fun _ => rfl) (fun _ => rfl) (fun _ => rfl) (sim_blt (v := BI.val .len) rfl rfl (B "len" (by decide)).1 ((B "len" (by decide)).2.trans rfl)) (siml_cons (fun _ => rfl) (sim_local rfl rfl) siml_nil)))))))
  (sims_one (sim_ret sim_bool))))))))))))
theorem s_rep_02 {X : Cx} {d : Nat}  (B : BltOk X)  : SimSs X d (scopeAt PySem.Challenge.pw_pk0079_02 11) (bodyAt PySem.Challenge.pw_pk0079_02 11) g_rep :=
  (sims_cons (sim_while (n := 40) (simb_val (fun _ _ => rfl) (sim_local rfl rfl)) (sims_cons (sim_assign (.inl rfl) (fun _ _ => rfl) (sim_meth _ rfl (fun _ => rfl) (fun _ => rfl) (fun _ => rfl) (sim_idx (fun _ _ => rfl) (sim_local rfl rfl) sim_int) (siml_cons (fun _ => rfl) (sim_meth _ rfl (fun _ => rfl) (fun _ => rfl) (fun _ => rfl) (sim_local rfl rfl) (siml_cons (fun _ => rfl) (sim_idx (fun _ _ => rfl) (sim_local rfl rfl) sim_int) siml_nil)) siml_nil)))
  (sims_one (sim_assign (.inl rfl) (fun _ _ => rfl) (sim_slA (sim_local rfl rfl) sim_int)))))
  (sims_one (sim_ret (sim_local rfl rfl))))
theorem s_img_02 {X : Cx} {d : Nat}  (B : BltOk X)  : SimSs X d (scopeAt PySem.Challenge.pw_pk0079_02 13) (bodyAt PySem.Challenge.pw_pk0079_02 13) g_img :=
  (sims_one (sim_ret (sim_comp (fun _ _ => rfl) (CompScope.of rfl) (sim_bi (fun _ => rfl) (fun _ => rfl) (fun _ => rfl) (sim_blt (v := BI.val .range) rfl rfl (B "range" (by decide)).1 ((B "range" (by decide)).2.trans rfl)) (siml_cons (fun _ => rfl) (sim_bin sim_int (sim_bin (sim_cell rfl rfl) sim_int)) siml_nil)) (sim_bin (sim_bin (sim_bin (sim_cell rfl rfl) sim_int) (sim_bin sim_int (sim_local rfl rfl))) sim_int))))
theorem s_pcs_02 {X : Cx} {d : Nat}  (B : BltOk X)  : SimSs X d (scopeAt PySem.Challenge.pw_pk0079_02 14) (bodyAt PySem.Challenge.pw_pk0079_02 14) g_pcs :=
  (sims_cons (sim_assign (.inl rfl) (fun _ _ => rfl) (sim_meth _ rfl (fun _ => rfl) (fun _ => rfl) (fun _ => rfl) sim_str (siml_cons (fun _ => rfl) (sim_comp (fun _ _ => rfl) (CompScope.of rfl) (sim_bi (fun _ => rfl) (fun _ => rfl) (fun _ => rfl) (sim_blt (v := BI.val .range) rfl rfl (B "range" (by decide)).1 ((B "range" (by decide)).2.trans rfl)) (siml_cons (fun _ => rfl) sim_int siml_nil)) (sim_idx (fun _ _ => rfl) (sim_bin (sim_cell rfl rfl) sim_str) (sim_bin (sim_bin (sim_cell rfl rfl) (sim_bin sim_int (sim_local rfl rfl))) sim_int))) siml_nil)))
  (sims_one (sim_ret (sim_compIf (fun _ _ => rfl) (CompScope.of rfl) (sim_meth _ rfl (fun _ => rfl) (fun _ => rfl) (fun _ => rfl) (sim_local rfl rfl) (siml_cons (fun _ => rfl) sim_str siml_nil)) (simb_cmp rfl (sim_local rfl rfl) sim_str) (sim_local rfl rfl)))))
theorem s_stp_02 {X : Cx} {d : Nat}  (B : BltOk X)  : SimSs X d (scopeAt PySem.Challenge.pw_pk0079_02 15) (bodyAt PySem.Challenge.pw_pk0079_02 15) g_stp :=
  (sims_cons (sim_assign (.inl rfl) (fun _ _ => rfl) sim_int)
  (sims_cons (sim_for (.inl rfl) (fun _ _ => rfl) (simi_val (sim_local rfl rfl)) (sims_cons (sim_if_ (simb_cmp rfl (sim_local rfl rfl) (sim_bin (sim_local rfl rfl) (sim_bi (fun _ => rfl) (fun _ => rfl) (fun _ => rfl) (sim_blt (v := BI.val .len) rfl rfl (B "len" (by decide)).1 ((B "len" (by decide)).2.trans rfl)) (siml_cons (fun _ => rfl) (sim_local rfl rfl) siml_nil)))) (sims_cons (sim_assign (.inl rfl) (fun _ _ => rfl) (sim_bin (sim_slB (sim_local rfl rfl) (sim_bin (sim_local rfl rfl) (sim_local rfl rfl))) (sim_local rfl rfl)))
  (sims_cons (sim_while (n := 12) (simb_not (simb_val (fun _ _ => rfl) (sim_meth _ rfl (fun _ => rfl) (fun _ => rfl) (fun _ => rfl) (sim_local rfl rfl) (siml_cons (fun _ => rfl) (sim_local rfl rfl) siml_nil)))) (sims_one (sim_assign (.inl rfl) (fun _ _ => rfl) (sim_slA (sim_local rfl rfl) sim_int))))
  (sims_one (sim_ret (sim_bin (sim_local rfl rfl) (sim_bi (fun _ => rfl) (fun _ => rfl) (fun _ => rfl) (sim_blt (v := BI.val .len) rfl rfl (B "len" (by decide)).1 ((B "len" (by decide)).2.trans rfl)) (siml_cons (fun _ => rfl) (sim_local rfl rfl) siml_nil))))))) sims_nil)
  (sims_one (sim_assign (.inl rfl) (fun _ _ => rfl) (sim_bin (sim_local rfl rfl) (sim_bi (fun _ => rfl) (fun _ => rfl) (fun _ => rfl) (sim_blt (v := BI.val .len) rfl rfl (B "len" (by decide)).1 ((B "len" (by decide)).2.trans rfl)) (siml_cons (fun _ => rfl) (sim_local rfl rfl) siml_nil)))))))
  (sims_one (sim_ret (sim_local rfl rfl)))))
theorem s_mov_02 {X : Cx} {d : Nat} {a_stp : Addr} (B : BltOk X) (h_stp : X.mg "_law_step" = some (.ref a_stp)) (S_stp : FS X d a_stp F_stp) : SimSs X d (scopeAt PySem.Challenge.pw_pk0079_02 16) (bodyAt PySem.Challenge.pw_pk0079_02 16) g_mov :=
  (sims_cons (sim_assign (.inr rfl) (fun _ _ => rfl) (sim_bi (fun _ => rfl) (fun _ => rfl) (fun _ => rfl) (sim_blt (v := BI.val .range) rfl rfl (B "range" (by decide)).1 ((B "range" (by decide)).2.trans rfl)) (siml_cons (fun _ => rfl) (sim_bin (sim_bi (fun _ => rfl) (fun _ => rfl) (fun _ => rfl) (sim_blt (v := BI.val .len) rfl rfl (B "len" (by decide)).1 ((B "len" (by decide)).2.trans rfl)) (siml_cons (fun _ => rfl) (sim_meth _ rfl (fun _ => rfl) (fun _ => rfl) (fun _ => rfl) sim_str (siml_cons (fun _ => rfl) (sim_cell rfl rfl) siml_nil)) siml_nil)) sim_int) siml_nil)))
  (sims_one (sim_ret (sim_comp (fun _ _ => rfl) (CompScope.of rfl) (sim_local rfl rfl) (sim_comp (fun _ _ => rfl) (CompScope.of rfl) (sim_cell rfl rfl) (sim_callF (fun _ => rfl) (fun _ => rfl) S_stp (sim_glob rfl rfl h_stp) (siml_cons (fun _ => rfl) (sim_cell rfl rfl) (siml_cons (fun _ => rfl) (sim_local rfl rfl) (siml_cons (fun _ => rfl) (sim_cell rfl rfl) siml_nil)))))))))
theorem s_gro_02 {X : Cx} {d : Nat}  (B : BltOk X)  : SimSs X d (scopeAt PySem.Challenge.pw_pk0079_02 17) (bodyAt PySem.Challenge.pw_pk0079_02 17) g_gro :=
  (sims_cons (sim_new (.inl rfl) (fun _ _ => rfl) simn_nil)
  (sims_cons (sim_for (.inl rfl) (fun _ _ => rfl) (simi_val (sim_local rfl rfl)) (sims_cons (sim_assign (.inl rfl) (fun _ _ => rfl) (sim_bi (fun _ => rfl) (fun _ => rfl) (fun _ => rfl) (sim_blt (v := BI.val .list) rfl rfl (B "list" (by decide)).1 ((B "list" (by decide)).2.trans rfl)) (siml_cons (fun _ => rfl) (sim_bi (fun _ => rfl) (fun _ => rfl) (fun _ => rfl) (sim_blt (v := BI.val .range) rfl rfl (B "range" (by decide)).1 ((B "range" (by decide)).2.trans rfl)) (siml_cons (fun _ => rfl) (sim_bi (fun _ => rfl) (fun _ => rfl) (fun _ => rfl) (sim_blt (v := BI.val .len) rfl rfl (B "len" (by decide)).1 ((B "len" (by decide)).2.trans rfl)) (siml_cons (fun _ => rfl) (sim_idx (fun _ _ => rfl) (sim_cell rfl rfl) sim_int) siml_nil)) siml_nil)) siml_nil)))
  (sims_cons (sim_for (.inr rfl) (fun _ _ => rfl) (simi_val (sim_local rfl rfl)) (sims_one (sim_assignComp (.inl rfl) (fun env h => by cases env; cases h; rfl) rfl (fun _ _ => rfl) (sim_local rfl rfl) (CompScope.of rfl) loop_one (body_plain (by decide) (sim_idx (fun _ _ => rfl) (sim_idx (fun _ _ => rfl) (sim_cell rfl rfl) (sim_cell rfl rfl)) (sim_local rfl rfl))))))
  (sims_one (sim_expr (fun _ _ => rfl) (sim_meth _ rfl (fun _ => rfl) (fun _ => rfl) (fun _ => rfl) (sim_local rfl rfl) (siml_cons (fun _ => rfl) (sim_local rfl rfl) siml_nil)))))))
  (sims_one (sim_ret (sim_local rfl rfl)))))
theorem s_cnt_02 {X : Cx} {d : Nat} {a_dmp : Addr} {a_i2d : Addr} (B : BltOk X) (h_dmp : X.mg "_divmod_pos" = some (.ref a_dmp)) (S_dmp : FS X d a_dmp F_dmp) (h_i2d : X.mg "_int2digits" = some (.ref a_i2d)) (S_i2d : FS X d a_i2d F_i2d) : SimSs X d (scopeAt PySem.Challenge.pw_pk0079_02 18) (bodyAt PySem.Challenge.pw_pk0079_02 18) g_cnt :=
  (sims_cons (sim_assign (.inl rfl) (fun _ _ => rfl) (sim_callF (fun _ => rfl) (fun _ => rfl) S_i2d (sim_glob rfl rfl h_i2d) (siml_cons (fun _ => rfl) (sim_idx (fun _ _ => rfl) (sim_callF (fun _ => rfl) (fun _ => rfl) S_dmp (sim_glob rfl rfl h_dmp) (siml_cons (fun _ => rfl) (sim_local rfl rfl) (siml_cons (fun _ => rfl) (sim_local rfl rfl) siml_nil))) sim_int) (siml_cons (fun _ => rfl) (sim_local rfl rfl) siml_nil))))
  (sims_one (sim_ret (sim_rev (sim_bin (sim_local rfl rfl) (sim_bin (sim_list (siml_cons (fun _ => rfl) sim_int siml_nil)) (sim_bin sim_int (sim_bi (fun _ => rfl) (fun _ => rfl) (fun _ => rfl) (sim_blt (v := BI.val .len) rfl rfl (B "len" (by decide)).1 ((B "len" (by decide)).2.trans rfl)) (siml_cons (fun _ => rfl) (sim_local rfl rfl) siml_nil)))))))))
theorem s_hld_02 {X : Cx} {d : Nat} {a_em : Addr} (B : BltOk X) (h_em : X.mg "_ellipsis_match" = some (.ref a_em)) (S_em : FS X d a_em F_em) : SimSs X d (scopeAt PySem.Challenge.pw_pk0079_02 19) (bodyAt PySem.Challenge.pw_pk0079_02 19) g_hld :=
  (sims_cons (sim_assign (.inl rfl) (fun _ _ => rfl) (sim_bin sim_str (sim_bin (sim_bin (sim_local rfl rfl) sim_str) (sim_local rfl rfl))))
  (sims_one (sim_ret (sim_and (sim_callF (fun _ => rfl) (fun _ => rfl) S_em (sim_glob rfl rfl h_em) (siml_cons (fun _ => rfl) (sim_local rfl rfl) (siml_cons (fun _ => rfl) (sim_local rfl rfl) siml_nil))) (sim_not (sim_callF (fun _ => rfl) (fun _ => rfl) S_em (sim_glob rfl rfl h_em) (siml_cons (fun _ => rfl) (sim_bin (sim_bin (sim_local rfl rfl) (sim_local rfl rfl)) sim_str) (siml_cons (fun _ => rfl) (sim_local rfl rfl) siml_nil))))))))
theorem s_law2_02 {X : Cx} {d : Nat} {a_img : Addr} {a_cnt : Addr} {a_pcs : Addr} {a_mov : Addr} {a_hld : Addr} {a_em : Addr} {a_rep : Addr} {a_gro : Addr} (B : BltOk X) (h_img : X.mg "_law_image" = some (.ref a_img)) (S_img : FS X d a_img F_img) (h_cnt : X.mg "_law_counts" = some (.ref a_cnt)) (S_cnt : FS X d a_cnt F_cnt) (h_pcs : X.mg "_law_pieces" = some (.ref a_pcs)) (S_pcs : FS X d a_pcs F_pcs) (h_mov : X.mg "_law_moves" = some (.ref a_mov)) (S_mov : FS X d a_mov F_mov) (h_hld : X.mg "_law_held" = some (.ref a_hld)) (S_hld : FS X d a_hld F_hld) (h_em : X.mg "_ellipsis_match" = some (.ref a_em)) (S_em : FS X d a_em F_em) (h_rep : X.mg "replace" = some (.ref a_rep)) (S_rep : FS X d a_rep F_rep) (h_gro : X.mg "_law_grown_moves" = some (.ref a_gro)) (S_gro : FS X d a_gro F_gro) : SimSs X d (scopeAt PySem.Challenge.pw_pk0079_02 20) (bodyAt PySem.Challenge.pw_pk0079_02 20) g_law2 :=
  (sims_cons (sim_assign (.inr rfl) (fun _ _ => rfl) (sim_slB (sim_slA (sim_bin sim_str sim_int) (sim_bin (sim_bi (fun _ => rfl) (fun _ => rfl) (fun _ => rfl) (sim_blt (v := BI.val .sum) rfl rfl (B "sum" (by decide)).1 ((B "sum" (by decide)).2.trans rfl)) (siml_cons (fun _ => rfl) (sim_cell rfl rfl) siml_nil)) sim_int)) sim_int))
  (sims_cons (sim_assign (.inr rfl) (fun _ _ => rfl) (sim_list (siml_cons (fun _ => rfl) sim_int (siml_cons (fun _ => rfl) sim_int (siml_cons (fun _ => rfl) sim_int (siml_cons (fun _ => rfl) sim_int siml_nil))))))
  (sims_cons (sim_assignComp (.inl rfl) (fun env h => by cases env; cases h; rfl) rfl (fun _ _ => rfl) (sim_bi (fun _ => rfl) (fun _ => rfl) (fun _ => rfl) (sim_blt (v := BI.val .range) rfl rfl (B "range" (by decide)).1 ((B "range" (by decide)).2.trans rfl)) (siml_cons (fun _ => rfl) sim_int siml_nil)) (CompScope.of rfl) loop_one (body_plain (by decide) (sim_bin (sim_idx (fun _ _ => rfl) (sim_cell rfl rfl) (sim_local rfl rfl)) (sim_bi (fun _ => rfl) (fun _ => rfl) (fun _ => rfl) (sim_blt (v := BI.val .sum) rfl rfl (B "sum" (by decide)).1 ((B "sum" (by decide)).2.trans rfl)) (siml_cons (fun _ => rfl) (sim_slAB (sim_cell rfl rfl) (sim_local rfl rfl) (sim_bin (sim_local rfl rfl) sim_int)) siml_nil)))))
  (sims_cons (sim_assign (.inr rfl) (fun env h => by cases env; cases h; rfl) (sim_comp (fun _ _ => rfl) (CompScope.of rfl) (sim_slB (sim_local rfl rfl) sim_int) (sim_callF (fun _ => rfl) (fun _ => rfl) S_img (sim_glob rfl rfl h_img) (siml_cons (fun _ => rfl) (sim_local rfl rfl) siml_nil))))
  (sims_cons (sim_assignComp (.inl rfl) (fun env h => by cases env; cases h; rfl) rfl (fun _ _ => rfl) (sim_cell rfl rfl) (CompScope.of rfl) loop_one (body_plain (by decide) (sim_meth _ rfl (fun _ => rfl) (fun _ => rfl) (fun _ => rfl) sim_str (siml_cons (fun _ => rfl) (sim_comp (fun _ _ => rfl) (CompScope.of rfl) (sim_local rfl rfl) (sim_idx (fun _ _ => rfl) (sim_cell rfl rfl) (sim_local rfl rfl))) siml_nil))))
  (sims_cons (sim_assign (.inl rfl) (fun _ _ => rfl) (sim_list (siml_cons (fun _ => rfl) (sim_idx (fun _ _ => rfl) (sim_cell rfl rfl) sim_int) (siml_cons (fun _ => rfl) sim_str (siml_cons (fun _ => rfl) (sim_idx (fun _ _ => rfl) (sim_cell rfl rfl) sim_int) (siml_cons (fun _ => rfl) (sim_idx (fun _ _ => rfl) (sim_local rfl rfl) sim_int) (siml_cons (fun _ => rfl) sim_str (siml_cons (fun _ => rfl) (sim_idx (fun _ _ => rfl) (sim_local rfl rfl) sim_int) siml_nil))))))))
  (sims_cons (sim_assign (.inl rfl) (fun _ _ => rfl) (sim_bin sim_int (sim_bi (fun _ => rfl) (fun _ => rfl) (fun _ => rfl) (sim_blt (v := BI.val .len) rfl rfl (B "len" (by decide)).1 ((B "len" (by decide)).2.trans rfl)) (siml_cons (fun _ => rfl) (sim_cell rfl rfl) siml_nil))))
  (sims_cons (sim_assign (.inl rfl) (fun _ _ => rfl) (sim_bin sim_int (sim_local rfl rfl)))
  (sims_cons (sim_assign (.inl rfl) (fun _ _ => rfl) (sim_meth _ rfl (fun _ => rfl) (fun _ => rfl) (fun _ => rfl) (sim_idx (fun _ _ => rfl) (sim_cell rfl rfl) sim_int) (siml_cons (fun _ => rfl) sim_int siml_nil)))
  (sims_cons (sim_assign (.inl rfl) (fun _ _ => rfl) (sim_meth _ rfl (fun _ => rfl) (fun _ => rfl) (fun _ => rfl) (sim_idx (fun _ _ => rfl) (sim_cell rfl rfl) sim_int) (siml_cons (fun _ => rfl) sim_int siml_nil)))
  (sims_cons (sim_assign (.inl rfl) (fun _ _ => rfl) (sim_meth _ rfl (fun _ => rfl) (fun _ => rfl) (fun _ => rfl) (sim_idx (fun _ _ => rfl) (sim_cell rfl rfl) sim_int) (siml_cons (fun _ => rfl) sim_int siml_nil)))
  (sims_cons (sim_assign (.inl rfl) (fun _ _ => rfl) (sim_meth _ rfl (fun _ => rfl) (fun _ => rfl) (fun _ => rfl) (sim_idx (fun _ _ => rfl) (sim_cell rfl rfl) sim_int) (siml_cons (fun _ => rfl) sim_int siml_nil)))
  (sims_cons (sim_assign (.inl rfl) (fun _ _ => rfl) (sim_bin (sim_bin (sim_bin (sim_bin (sim_local rfl rfl) (sim_local rfl rfl)) (sim_bin (sim_bin (sim_local rfl rfl) (sim_local rfl rfl)) (sim_local rfl rfl))) (sim_bin (sim_local rfl rfl) (sim_local rfl rfl))) (sim_bin (sim_local rfl rfl) (sim_local rfl rfl))))
  (sims_cons (sim_assign (.inl rfl) (fun _ _ => rfl) (sim_callF (fun _ => rfl) (fun _ => rfl) S_cnt (sim_glob rfl rfl h_cnt) (siml_cons (fun _ => rfl) (sim_bin (sim_bin (sim_local rfl rfl) (sim_local rfl rfl)) (sim_bin sim_int (sim_local rfl rfl))) (siml_cons (fun _ => rfl) (sim_local rfl rfl) (siml_cons (fun _ => rfl) (sim_local rfl rfl) siml_nil)))))
  (sims_cons (sim_assign (.inl rfl) (fun _ _ => rfl) (sim_callF (fun _ => rfl) (fun _ => rfl) S_cnt (sim_glob rfl rfl h_cnt) (siml_cons (fun _ => rfl) (sim_bin (sim_local rfl rfl) (sim_bin sim_int (sim_local rfl rfl))) (siml_cons (fun _ => rfl) (sim_local rfl rfl) (siml_cons (fun _ => rfl) (sim_local rfl rfl) siml_nil)))))
  (sims_cons (sim_assignComp (.inl rfl) (fun env h => by cases env; cases h; rfl) rfl (fun _ _ => rfl) (sim_slA (sim_local rfl rfl) sim_int) (CompScope.of rfl) loop_one (body_plain (by decide) (sim_callF (fun _ => rfl) (fun _ => rfl) S_pcs (sim_glob rfl rfl h_pcs) (siml_cons (fun _ => rfl) (sim_local rfl rfl) (siml_cons (fun _ => rfl) (sim_cell rfl rfl) siml_nil)))))
  (sims_cons (sim_assignComp (.inl rfl) (fun env h => by cases env; cases h; rfl) rfl (fun _ _ => rfl) (sim_local rfl rfl) (CompScope.of rfl) loop_one (body_plain (by decide) (sim_callF (fun _ => rfl) (fun _ => rfl) S_mov (sim_glob rfl rfl h_mov) (siml_cons (fun _ => rfl) (sim_local rfl rfl) (siml_cons (fun _ => rfl) (sim_cell rfl rfl) siml_nil)))))
  (sims_cons (sim_assign (.inl rfl) (fun _ _ => rfl) (sim_idx (fun _ _ => rfl) (sim_cell rfl rfl) sim_int))
  (sims_cons (sim_assign (.inr rfl) (fun _ _ => rfl) (sim_list (siml_cons (fun _ => rfl) (sim_idx (fun _ _ => rfl) (sim_cell rfl rfl) sim_int) (siml_cons (fun _ => rfl) (sim_idx (fun _ _ => rfl) (sim_cell rfl rfl) sim_int) siml_nil))))
  (sims_cons (sim_for (.inl rfl) (fun _ _ => rfl) (simi_val (sim_bi (fun _ => rfl) (fun _ => rfl) (fun _ => rfl) (sim_blt (v := BI.val .range) rfl rfl (B "range" (by decide)).1 ((B "range" (by decide)).2.trans rfl)) (siml_cons (fun _ => rfl) sim_int siml_nil))) (sims_cons (sim_if_ (simb_cmp rfl (sim_local rfl rfl) (sim_idx (fun _ _ => rfl) (sim_cell rfl rfl) sim_int)) (sims_one (sim_ret sim_bool)) sims_nil)
  (sims_cons (sim_if_ (simb_or (simb_not (simb_val (fun _ _ => rfl) (sim_callF (fun _ => rfl) (fun _ => rfl) S_hld (sim_glob rfl rfl h_hld) (siml_cons (fun _ => rfl) (sim_idx (fun _ _ => rfl) (sim_cell rfl rfl) sim_int) (siml_cons (fun _ => rfl) (sim_idx (fun _ _ => rfl) (sim_local rfl rfl) (sim_local rfl rfl)) (siml_cons (fun _ => rfl) (sim_local rfl rfl) siml_nil)))))) (simb_not (simb_val (fun _ _ => rfl) (sim_callF (fun _ => rfl) (fun _ => rfl) S_hld (sim_glob rfl rfl h_hld) (siml_cons (fun _ => rfl) (sim_idx (fun _ _ => rfl) (sim_cell rfl rfl) sim_int) (siml_cons (fun _ => rfl) (sim_idx (fun _ _ => rfl) (sim_local rfl rfl) (sim_local rfl rfl)) (siml_cons (fun _ => rfl) (sim_local rfl rfl) siml_nil))))))) (sims_one (sim_ret sim_bool)) sims_nil)
  (sims_cons (sim_for (.inl rfl) (fun _ _ => rfl) (simi_val (sim_bi (fun _ => rfl) (fun _ => rfl) (fun _ => rfl) (sim_blt (v := BI.val .range) rfl rfl (B "range" (by decide)).1 ((B "range" (by decide)).2.trans rfl)) (siml_cons (fun _ => rfl) sim_int siml_nil))) (sims_cons (sim_assign (.inl rfl) (fun _ _ => rfl) (sim_bin sim_str (sim_meth _ rfl (fun _ => rfl) (fun _ => rfl) (fun _ => rfl) sim_str (siml_cons (fun _ => rfl) (sim_comp (fun _ _ => rfl) (CompScope.of rfl) (sim_idx (fun _ _ => rfl) (sim_local rfl rfl) (sim_local rfl rfl)) (sim_bin (sim_local rfl rfl) sim_str)) siml_nil))))
  (sims_one (sim_if_ (simb_cmp rfl (sim_callF (fun _ => rfl) (fun _ => rfl) S_em (sim_glob rfl rfl h_em) (siml_cons (fun _ => rfl) (sim_local rfl rfl) (siml_cons (fun _ => rfl) (sim_local rfl rfl) siml_nil))) (sim_cmp rfl (sim_idx (fun _ _ => rfl) (sim_idx (fun _ _ => rfl) (sim_idx (fun _ _ => rfl) (sim_local rfl rfl) (sim_local rfl rfl)) sim_int) sim_int) (sim_bin (sim_bi (fun _ => rfl) (fun _ => rfl) (fun _ => rfl) (sim_blt (v := BI.val .len) rfl rfl (B "len" (by decide)).1 ((B "len" (by decide)).2.trans rfl)) (siml_cons (fun _ => rfl) (sim_idx (fun _ _ => rfl) (sim_idx (fun _ _ => rfl) (sim_local rfl rfl) (sim_local rfl rfl)) sim_int) siml_nil)) sim_int))) (sims_one (sim_ret sim_bool)) sims_nil))))
  (sims_cons (sim_assign (.inl rfl) (fun _ _ => rfl) (sim_callF (fun _ => rfl) (fun _ => rfl) S_rep (sim_glob rfl rfl h_rep) (siml_cons (fun _ => rfl) (sim_local rfl rfl) (siml_star (sim_local rfl rfl) siml_nil))))
  (sims_cons (sim_assign (.inr rfl) (fun env h => by cases env; cases h; rfl) (sim_comp (fun _ _ => rfl) (CompScope.of rfl) (sim_cell rfl rfl) (sim_meth _ rfl (fun _ => rfl) (fun _ => rfl) (fun _ => rfl) sim_str (siml_cons (fun _ => rfl) (sim_comp (fun _ _ => rfl) (CompScope.of rfl) (sim_local rfl rfl) (sim_idx (fun _ _ => rfl) (sim_cell rfl rfl) (sim_local rfl rfl))) siml_nil))))
  (sims_one (sim_assignComp (.inl rfl) (fun env h => by cases env; cases h; rfl) rfl (fun _ _ => rfl) (sim_local rfl rfl) (CompScope.of rfl) loop_one (body_plain (by decide) (sim_callF (fun _ => rfl) (fun _ => rfl) S_gro (sim_glob rfl rfl h_gro) (siml_cons (fun _ => rfl) (sim_local rfl rfl) (siml_cons (fun _ => rfl) (sim_cell rfl rfl) siml_nil))))))))))))
  (sims_one (sim_ret (sim_and (sim_cmp rfl (sim_local rfl rfl) (sim_idx (fun _ _ => rfl) (sim_cell rfl rfl) sim_int)) (sim_cmp rfl (sim_callF (fun _ => rfl) (fun _ => rfl) S_rep (sim_glob rfl rfl h_rep) (siml_cons (fun _ => rfl) (sim_idx (fun _ _ => rfl) (sim_cell rfl rfl) sim_int) (siml_star (sim_bin (sim_local rfl rfl) sim_int) siml_nil))) (sim_local rfl rfl)))))))))))))))))))))))))
end Mine

end

/- Fs2 -/
section
open PySem PySem.W PySem.Calls PyProof.Rows
set_option maxRecDepth 100000
set_option maxHeartbeats 4000000
namespace Mine
theorem lib_02 {X : Cx} {a : Ads} {tEM tDL : Tok} {c1 P1 c2 P2 : Addr} (B : BltOk X) (hpre : X.pre = [])
    (hEM : X.mg "ELLIPSIS_MARKER" = some (.str "..." tEM)) (hDL : X.mg "_DIV_LIMIT" = some (.int 4000 tDL))
    (h_i2d : X.mg "_int2digits" = some (.ref a.i2d)) (h_d21 : X.mg "_div2n1n" = some (.ref a.d21)) (h_d2i : X.mg "_digits2int" = some (.ref a.d2i))
    (D_em : DefAt X a.em "_ellipsis_match" (paramsAt PySem.Challenge.pw_pk0079_02 9) (bodyAt PySem.Challenge.pw_pk0079_02 9) (scopeAt PySem.Challenge.pw_pk0079_02 9)) (D_d21 : DefAt X a.d21 "_div2n1n" (paramsAt PySem.Challenge.pw_pk0079_02 2) (bodyAt PySem.Challenge.pw_pk0079_02 2) (scopeAt PySem.Challenge.pw_pk0079_02 2))
    (D_dmp : DefAt X a.dmp "_divmod_pos" (paramsAt PySem.Challenge.pw_pk0079_02 6) (bodyAt PySem.Challenge.pw_pk0079_02 6) (scopeAt PySem.Challenge.pw_pk0079_02 6)) (D_rep : DefAt X a.rep "replace" (paramsAt PySem.Challenge.pw_pk0079_02 11) (bodyAt PySem.Challenge.pw_pk0079_02 11) (scopeAt PySem.Challenge.pw_pk0079_02 11))
    (D_i2d : MakAt X a.i2d "_int2digits" (paramsAt PySem.Challenge.pw_pk0079_02 4) (bodyAt PySem.Challenge.pw_pk0079_02 4) (scopeAt PySem.Challenge.pw_pk0079_02 4) c1) (D_d2i : MakAt X a.d2i "_digits2int" (paramsAt PySem.Challenge.pw_pk0079_02 5) (bodyAt PySem.Challenge.pw_pk0079_02 5) (scopeAt PySem.Challenge.pw_pk0079_02 5) c2)
    (N1 : NestOk X c1 P1 (("_int2digits" ++ ".<locals>.") ++ "inner") (posIn (bodyAt PySem.Challenge.pw_pk0079_02 4) 1)) (N2 : NestOk X c2 P2 (("_digits2int" ++ ".<locals>.") ++ "inner") (posIn (bodyAt PySem.Challenge.pw_pk0079_02 5) 0)) : LibOk X a := by
  have S_em : FS X 16 a.em F_em := fs_plain (names := ["want", "got"]) D_em rfl rfl (fun pm cd doc xs h => by obtain ⟨p, q, rfl⟩ := len2 h; rfl) (s_em_02 B hEM) (fun vs H v H' h => em_run h)
  have S_d21 : FS X 15 a.d21 F_d21 := fs_plain (names := ["a", "b", "n"]) D_d21 rfl rfl (fun pm cd doc xs h => by obtain ⟨p, q, r, rfl⟩ := len3 h; rfl) (s_d21_02 B hDL) (fun vs H v H' h => d21_run h)
  have S_rep : FS X 16 a.rep F_rep := fs_star D_rep rfl rfl (fun pm cd doc p xs => by cases xs <;> rfl) (s_rep_02 B) (fun vs H v H' h => rep_run h)
  have I1 : Inner (scopeAt PySem.Challenge.pw_pk0079_02 4) (scopeIn (bodyAt PySem.Challenge.pw_pk0079_02 4) 1) (paramsIn (bodyAt PySem.Challenge.pw_pk0079_02 4) 1) (bodyIn (bodyAt PySem.Challenge.pw_pk0079_02 4) 1) ["x", "L", "R"] "a_digits" g_i2d_in := Inner.of rfl rfl rfl (fun _ => rfl) (fun cl doc pm ctv c' q xs h => by obtain ⟨p, q, r, rfl⟩ := len3 h; rfl) (fun Y d G hG => s_i2d_in_02 hG)
  have I2 : Inner (scopeAt PySem.Challenge.pw_pk0079_02 5) (scopeIn (bodyAt PySem.Challenge.pw_pk0079_02 5) 0) (paramsIn (bodyAt PySem.Challenge.pw_pk0079_02 5) 0) (bodyIn (bodyAt PySem.Challenge.pw_pk0079_02 5) 0) ["L", "R"] "digits" g_d2i_in := Inner.of rfl rfl rfl (fun _ => rfl) (fun cl doc pm ctv c' q xs h => by obtain ⟨p, q, rfl⟩ := len2 h; rfl) (fun Y d G hG => s_d2i_in_02 hG)
  have S_i2d : FS X 15 a.i2d F_i2d := fs_i2d N1 I1 rfl rfl D_i2d (fun body pm cd doc xs h => by obtain ⟨p, q, rfl⟩ := len2 h; rfl) (s_i2d_02 B) (simb_val (fun _ _ => rfl) (sim_local rfl rfl)) (fun _ => rfl) (fun _ => rfl) (sim_cell rfl rfl)
    (siml_cons (fun _ => rfl) (sim_local rfl rfl) (siml_cons (fun _ => rfl) sim_int (siml_cons (fun _ => rfl) (sim_bi (fun _ => rfl) (fun _ => rfl) (fun _ => rfl) (sim_blt (v := BI.val .len) rfl rfl (B "len" (by decide)).1 ((B "len" (by decide)).2.trans rfl)) (siml_cons (fun _ => rfl) (sim_cell rfl rfl) siml_nil)) siml_nil)))
    (fun _ _ => rfl) (sim_cell rfl rfl)
  have S_d2i : FS X 15 a.d2i F_d2i := fs_d2i hpre N2 I2 rfl rfl D_d2i (fun body pm cd doc xs h => by obtain ⟨p, q, rfl⟩ := len2 h; rfl)
    ⟨fun Y _ _ => simb_val (fun _ _ => rfl) (sim_cell rfl rfl), fun _ => rfl, fun _ => rfl, fun Y => sim_cell rfl rfl,
      fun Y h1 h2 => siml_cons (fun _ => rfl) sim_int (siml_cons (fun _ => rfl) (sim_bi (fun _ => rfl) (fun _ => rfl) (fun _ => rfl) (sim_blt (v := BI.val .len) rfl rfl (by rw [h1]; exact (B "len" (by decide)).1) (by rw [h2]; exact (B "len" (by decide)).2.trans rfl)) (siml_cons (fun _ => rfl) (sim_cell rfl rfl) siml_nil)) siml_nil),
      fun Y => sim_int⟩
  have S_dmp : FS X 16 a.dmp F_dmp := fs_plain (names := ["a", "b"]) D_dmp rfl rfl (fun pm cd doc xs h => by obtain ⟨p, q, rfl⟩ := len2 h; rfl) (s_dmp_02 B h_i2d S_i2d h_d21 S_d21 h_d2i S_d2i) (fun vs H v H' h => dmp_run h)
  exact ⟨S_em, S_d21, S_i2d, S_d2i, S_dmp, S_rep⟩
end Mine

end

/- Hd0 -/
section
open PySem PySem.W PySem.Calls PyProof.Rows
set_option maxRecDepth 100000
namespace Mine

noncomputable def baseOf (h : Heap) (T : List Addr) : Addr → Option Obj := fun a => if a ∈ T then none else h.get? a
theorem baseOf_some {h : Heap} {T : List Addr} {a : Addr} {o : Obj} (e : h.get? a = some o) (n : a ∉ T) : baseOf h T a = some o := by unfold baseOf; rw [if_neg n]; exact e
theorem baseOf_inv {h : Heap} {T : List Addr} {a : Addr} {o : Obj} (e : baseOf h T a = some o) : h.get? a = some o ∧ a ∉ T := by
  unfold baseOf at e
  split at e
  · cases e
  · rename_i n; exact ⟨e, n⟩
theorem ns_of {h h' : Heap} {T : List Addr} {a : Addr} {m : Str → Option Value} (x : h.Ns a m) (n : a ∉ T) (k : ∀ b o, baseOf h T b = some o → h'.get? b = some o) : h'.Ns a m :=
  let ⟨o, es, ep, e, r⟩ := x; ⟨o, es, ep, k _ _ (baseOf_some e n), r⟩

noncomputable def TI2 (P1 P2 : Addr) (q1 q2 : Str) (p1 p2 : Pos) : Heap → Prop := fun h => TabI h P1 q1 p1 ∧ TabI h P2 q2 p2

noncomputable def lawCx (prog : Program) (w : World) (h0 : Heap) (P1 P2 : Addr) (q1 q2 : Str) (p1 p2 : Pos) (mg mb : Str → Option Value) (hg : h0.Ns mainGlobals mg) (hb : h0.Ns builtinsNs mb) (hl : h0.NoLimit) (n1 : mainGlobals ∉ [P1, P2]) (n2 : builtinsNs ∉ [P1, P2]) (n3 : cStatics ∉ [P1, P2]) : Cx where
  prog := prog
  w := w
  base := baseOf h0 [P1, P2]
  T := [P1, P2]
  TI := TI2 P1 P2 q1 q2 p1 p2
  pre := []
  mg := mg
  mb := mb
  tik := fun h h' t k => ⟨t.1.kept k, t.2.kept k⟩
  glob := fun h k => ns_of hg n1 k
  blt := fun h k => ns_of hb n2 k
  lim := fun h k => let ⟨mc, a, b⟩ := hl; ⟨mc, ns_of a n3 k, b⟩

section
variable {prog : Program} {w : World} {h0 : Heap} {P1 P2 : Addr} {q1 q2 : Str} {p1 p2 : Pos} {mg mb : Str → Option Value} {hg : h0.Ns mainGlobals mg} {hb : h0.Ns builtinsNs mb} {hl : h0.NoLimit} {n1 : mainGlobals ∉ [P1, P2]} {n2 : builtinsNs ∉ [P1, P2]} {n3 : cStatics ∉ [P1, P2]}

theorem lawCx_rel (t1 : h0.get? P1 = some (tabObj #[])) (t2 : h0.get? P2 = some (tabObj #[])) : HRel (lawCx prog w h0 P1 P2 q1 q2 p1 p2 mg mb hg hb hl n1 n2 n3) [] [] h0 where
  keep := fun b o e => (baseOf_inv e).1
  nodup := List.nodup_nil
  apart := fun a h => absurd h List.not_mem_nil
  fresh := fun a ha => by
    show baseOf h0 [P1, P2] a = none
    unfold baseOf
    rw [if_pos (show a ∈ [P1, P2] from ha)]
  len := rfl
  objs := fun i a vs e => by simp at e
  tobs := fun a ha => by
    have ha : a ∈ [P1, P2] := ha
    rcases List.mem_cons.mp ha with rfl | ha
    · exact ⟨_, t1, .inr rfl, _, rfl⟩
    · obtain rfl := List.mem_singleton.mp ha
      exact ⟨_, t2, .inr rfl, _, rfl⟩
  ti := ⟨.inl t1, .inl t2⟩
  pre := List.prefix_refl _

theorem bltAt (bm : ∃ bm ob, mg "__builtins__" = some (.ref bm) ∧ bm ≠ builtinsNs ∧ h0.get? bm = some ob ∧ ob.cls = .type "module" ∧ ob.dict = some builtinsNs ∧ ob.data = .plain) (hg : h0.Ns mainGlobals mg)
    {P : Addr} {T : List Addr} (hP : P ∈ T) (hT : ∀ a ∈ T, h0.get? a = some (tabObj #[])) (h : Heap) (k : ∀ b o, baseOf h0 T b = some o → h.get? b = some o) : h.BuiltinsAt mg P := by
  obtain ⟨b, ob, e1, e2, e3, e4, e5, e6⟩ := bm
  have nb : b ∉ T := fun q => by rw [hT b q] at e3; cases e3; cases e4
  refine ⟨b, ob, e1, e2, fun q => ?_, fun q => nb (q ▸ hP), k _ _ (baseOf_some e3 nb), e4, e5, e6⟩
  obtain ⟨o, es, ep, f1, f2, _⟩ := hg
  rw [← q, e3] at f1
  cases f1
  rw [e6] at f2; cases f2

theorem codeAt {c P : Addr} {T : List Addr} (C : CodeHd h0 c P) (hT : ∀ a ∈ T, h0.get? a = some (tabObj #[])) (h : Heap) (k : ∀ b o, baseOf h0 T b = some o → h.get? b = some o) : CodeHd h c P := by
  obtain ⟨o, vs, file, tf, flags, tg, inF, text, tt, e, e2, r⟩ := C
  refine ⟨o, vs, file, tf, flags, tg, inF, text, tt, k _ _ (baseOf_some e fun q => ?_), e2, r⟩
  rw [hT c q] at e; cases e; cases e2

theorem tabI_upd {h h' : Heap} {P P' : Addr} {q q' : Str} {p p' : Pos} (hne : P' ≠ P) (t : TabI h P q p) (t' : TabI h P' q' p') (k : ∀ b o, b ≠ P → h.get? b = some o → h'.get? b = some o) : TabI h' P' q' p' := by
  rcases t' with e | ⟨c', oc, vs, tk, e, e1, e2, e3, e4⟩
  · exact .inl (k _ _ hne e)
  · refine .inr ⟨c', oc, vs, tk, k _ _ hne e, k _ _ (fun q => ?_) e1, e2, e3, e4⟩
    obtain ⟨ps, ep⟩ := t.at
    rw [q, ep] at e1; cases e1; cases e2

theorem nest1 {c1 : Addr} (hne : P1 ≠ P2) (C : CodeHd h0 c1 P1) (t1 : h0.get? P1 = some (tabObj #[])) (t2 : h0.get? P2 = some (tabObj #[]))
    (bm : ∃ bm ob, mg "__builtins__" = some (.ref bm) ∧ bm ≠ builtinsNs ∧ h0.get? bm = some ob ∧ ob.cls = .type "module" ∧ ob.dict = some builtinsNs ∧ ob.data = .plain) :
    NestOk (lawCx prog w h0 P1 P2 q1 q2 p1 p2 mg mb hg hb hl n1 n2 n3) c1 P1 q1 p1 := by
  have hT : ∀ a ∈ [P1, P2], h0.get? a = some (tabObj #[]) := fun a ha => by
    rcases List.mem_cons.mp ha with rfl | ha
    · exact t1
    · obtain rfl := List.mem_singleton.mp ha; exact t2
  exact ⟨.head _, fun h k => codeAt C hT h k, fun h k => bltAt bm hg (.head _) hT h k, fun q => n1 (q ▸ .head _), fun h t => t.1,
    fun h h' t k t' => ⟨t', tabI_upd (Ne.symm hne) t.1 t.2 k⟩, fun h t a ha => by
      have ha : a ∈ [P1, P2] := ha
      rcases List.mem_cons.mp ha with rfl | ha
      · exact t.1.at
      · obtain rfl := List.mem_singleton.mp ha; exact t.2.at⟩
theorem nest2 {c2 : Addr} (hne : P1 ≠ P2) (C : CodeHd h0 c2 P2) (t1 : h0.get? P1 = some (tabObj #[])) (t2 : h0.get? P2 = some (tabObj #[]))
    (bm : ∃ bm ob, mg "__builtins__" = some (.ref bm) ∧ bm ≠ builtinsNs ∧ h0.get? bm = some ob ∧ ob.cls = .type "module" ∧ ob.dict = some builtinsNs ∧ ob.data = .plain) :
    NestOk (lawCx prog w h0 P1 P2 q1 q2 p1 p2 mg mb hg hb hl n1 n2 n3) c2 P2 q2 p2 := by
  have hT : ∀ a ∈ [P1, P2], h0.get? a = some (tabObj #[]) := fun a ha => by
    rcases List.mem_cons.mp ha with rfl | ha
    · exact t1
    · obtain rfl := List.mem_singleton.mp ha; exact t2
  have m2 : P2 ∈ [P1, P2] := .tail _ (.head _)
  exact ⟨m2, fun h k => codeAt C hT h k, fun h k => bltAt bm hg m2 hT h k, fun q => n1 (q ▸ m2), fun h t => t.2,
    fun h h' t k t' => ⟨tabI_upd hne t.2 t.1 k, t'⟩, fun h t a ha => by
      have ha : a ∈ [P1, P2] := ha
      rcases List.mem_cons.mp ha with rfl | ha
      · exact t.1.at
      · obtain rfl := List.mem_singleton.mp ha; exact t.2.at⟩

/-- the law's own def -/
theorem def_of {f : Addr} {o : Obj} {pm cd doc : Value} {name : Str} {params : Arguments} {body : List Stmt} {scope : Scope} (t1 : h0.get? P1 = some (tabObj #[])) (t2 : h0.get? P2 = some (tabObj #[])) (ho : h0.get? f = some o) (hd : o.data = .func (docDef name params body scope pm cd doc)) (hcd : h0.CodeRec cd name) :
    DefAt (lawCx prog w h0 P1 P2 q1 q2 p1 p2 mg mb hg hb hl n1 n2 n3) f name params body scope := by
  have hT : ∀ a ∈ [P1, P2], h0.get? a = some (tabObj #[]) := fun a ha => by
    rcases List.mem_cons.mp ha with rfl | ha
    · exact t1
    · obtain rfl := List.mem_singleton.mp ha; exact t2
  obtain ⟨c, oc, vs, t, rfl, h3, h4, h5⟩ := hcd
  refine ⟨o, pm, _, doc, baseOf_some ho fun q => ?_, hd, fun h k => ⟨c, oc, vs, t, rfl, k _ _ (baseOf_some h3 fun q => ?_), h4, h5⟩⟩
  · rw [hT f q] at ho; cases ho; cases hd
  · rw [hT c q] at h3; cases h3; cases h4; cases h5

theorem oldK_of {c1 c2 : Addr} {h' : Heap} (C1 : CodeHd h0 c1 P1) (C2 : CodeHd h0 c2 P2) (t1 : h0.get? P1 = some (tabObj #[])) (t2 : h0.get? P2 = some (tabObj #[]))
    (R : HRel (lawCx prog w h0 P1 P2 q1 q2 p1 p2 mg mb hg hb hl n1 n2 n3) [] [] h') (p : Pres (lawCx prog w h0 P1 P2 q1 q2 p1 p2 mg mb hg hb hl n1 n2 n3) [] h0 h') : OldK h0 h' := by
  have tab : ∀ {P : Addr} {q : Str} {ps : Pos} {c : Addr}, CodeHd h0 c P → h0.get? P = some (tabObj #[]) → TabI h' P q ps → asItWas h0 h' P (tabObj #[]) ∧ ∃ o', h'.get? P = some o' := fun {P q ps c} C t ti => by
    rcases ti with e | ⟨c', oc, vs, tk, e, _⟩
    · exact ⟨.inl e, _, e⟩
    · refine ⟨.inr (.inl ⟨(C.tab t).isCodeTable, rfl, #[], #[rawInt ps.line, rawInt ps.col, .ref c'], rfl, ?_⟩), _, e⟩
      rw [e]; simp
  have main : ∀ b o, h0.get? b = some o → asItWas h0 h' b o ∧ ∃ o', h'.get? b = some o' := fun b o e => by
    by_cases hb1 : b = P1
    · subst hb1; rw [t1] at e; cases e; exact tab C1 t1 R.ti.1
    · by_cases hb2 : b = P2
      · subst hb2; rw [t2] at e; cases e; exact tab C2 t2 R.ti.2
      · have := p b o e (by
          intro q
          have q : b ∈ [] ++ [P1, P2] := q
          simp at q
          rcases q with q | q
          · exact hb1 q
          · exact hb2 q)
        exact ⟨.inl this, _, this⟩
  exact ⟨fun b o e => (main b o e).1, fun b o e => (main b o e).2⟩
end
end Mine

end

/- Hd2 -/
section
open PySem PySem.W PySem.Calls PyProof.Rows
set_option maxRecDepth 100000
namespace Mine

noncomputable def dictOf (o : Obj) : Option (Array DictEntry) := match o.data with
  | .dict es _ => some es
  | _ => none
noncomputable def refOf : Value → Option Addr
  | .ref a => some a
  | _ => none
noncomputable def codeOf (o : Obj) : Option Addr := match o.data with
  | .func fd => refOf fd.code
  | _ => none
noncomputable def tabOf (o : Obj) : Option Addr := match o.data with
  | .fields vs => (vs[11]?).bind refOf
  | _ => none
/-- the table of the code object of a def of the top -/
noncomputable def chain (h : Heap) (n : Str) : Option Addr := ((((((h.get? mainGlobals).bind dictOf).bind fun es => nsFind es n).bind refOf).bind h.get?).bind codeOf).bind fun c => (h.get? c).bind tabOf
theorem chain_keeps {h h' : Heap} {n : Str} {P : Addr} (k : ∀ b o, h.get? b = some o → h'.get? b = some o) (x : chain h n = some P) : chain h' n = some P := by
  unfold chain at x ⊢
  obtain ⟨c, e1, x⟩ := Option.bind_eq_some_iff.mp x
  obtain ⟨o, e2, e3⟩ := Option.bind_eq_some_iff.mp e1
  obtain ⟨a, e4, e5⟩ := Option.bind_eq_some_iff.mp e2
  obtain ⟨v, e6, e7⟩ := Option.bind_eq_some_iff.mp e4
  obtain ⟨es, e8, e9⟩ := Option.bind_eq_some_iff.mp e6
  obtain ⟨om, e10, e11⟩ := Option.bind_eq_some_iff.mp e8
  obtain ⟨oc, e12, e13⟩ := Option.bind_eq_some_iff.mp x
  rw [k _ _ e10, Option.bind_some, e11, Option.bind_some, e9, Option.bind_some, e7, Option.bind_some, k _ _ e5, Option.bind_some, e3, Option.bind_some, k _ _ e12, Option.bind_some, e13]
theorem chain_eq {h : Heap} {n : Str} {mg : Str → Option Value} {a c P : Addr} {o : Obj} {fd : FuncData} {ps : Array Value} (g : h.Ns mainGlobals mg) (hm : mg n = some (.ref a)) (ho : h.get? a = some o) (hd : o.data = .func fd) (hc : fd.code = .ref c) (ht : h.TableAt c P ps) : chain h n = some P := by
  obtain ⟨om, es, ep, e1, e2, _, e3⟩ := g
  obtain ⟨⟨oc, vs, e4, _, e5, e6⟩, _⟩ := ht
  have d1 : dictOf om = some es := by unfold dictOf; rw [e2]
  have d2 : codeOf o = some c := by unfold codeOf; rw [hd]; dsimp only; rw [hc]; rfl
  have d3 : tabOf oc = some P := by unfold tabOf; rw [e5]; dsimp only; rw [e6]; rfl
  unfold chain
  rw [e1, Option.bind_some, d1, Option.bind_some, e3, hm, Option.bind_some, show refOf (.ref a) = some a from rfl, Option.bind_some, ho, Option.bind_some, d2, Option.bind_some, e4, Option.bind_some, d3]
noncomputable def tinyHook (n1 n2 : Str) (P1 P2 : Addr) : Hook where
  α := Option Addr × Option Addr
  obs := fun s => (chain s.heap n1, chain s.heap n2)
  val := fun _ => (some P1, some P2)
  says := fun _ h => chain h n1 = some P1 ∧ chain h n2 = some P2
  of := fun _ _ x => ⟨(Prod.mk.inj x).1, (Prod.mk.inj x).2⟩
  keeps := fun _ _ _ x k => ⟨chain_keeps k x.1, chain_keeps k x.2⟩

section
variable {prog : Program} {w : World} {h0 : Heap} {P1 P2 : Addr} {q1 q2 : Str} {p1 p2 : Pos} {mg mb : Str → Option Value} {hg : h0.Ns mainGlobals mg} {hb : h0.Ns builtinsNs mb} {hl : h0.NoLimit} {n1 : mainGlobals ∉ [P1, P2]} {n2 : builtinsNs ∉ [P1, P2]} {n3 : cStatics ∉ [P1, P2]}
  {q : Program} {loose : List Str} {mean : ExcName → Option Value} {x : Str} {params : Arguments} {body : List Stmt} {scope : Scope} {pos : Pos}

theorem rec_mem (hr : (recsOf q).find? (fun e => e.name == x) = some ⟨x, params, body, scope, pos⟩) : (⟨x, params, body, scope, pos⟩ : DefRec) ∈ recsOf q := List.mem_of_find?_eq_some hr
theorem fn_of (T : Top q loose mean mg mb h0) (t1 : h0.get? P1 = some (tabObj #[])) (t2 : h0.get? P2 = some (tabObj #[])) (hr : (recsOf q).find? (fun e => e.name == x) = some ⟨x, params, body, scope, pos⟩) :
    ∃ a, mg x = some (.ref a) ∧ DefAt (lawCx prog w h0 P1 P2 q1 q2 p1 p2 mg mb hg hb hl n1 n2 n3) a x params body scope := by
  obtain ⟨a, o, pm, cd, doc, h1, h2, h3, h4⟩ := T.fn _ (rec_mem hr)
  exact ⟨a, h1, def_of t1 t2 h2 h3 h4⟩
theorem tab_at {P : Addr} (T : Top q loose mean mg mb h0) (hr : (recsOf q).find? (fun e => e.name == x) = some ⟨x, params, body, scope, pos⟩) (hc : chain h0 x = some P) :
    ∃ a o pm c doc, mg x = some (.ref a) ∧ h0.get? a = some o ∧ o.data = .func (docDef x params body scope pm (.ref c) doc) ∧ h0.CodeRec (.ref c) x ∧ CodeHd h0 c P ∧ h0.get? P = some (tabObj #[]) := by
  obtain ⟨a, o, pm, cd, doc, h1, h2, h3, h4⟩ := T.fn _ (rec_mem hr)
  obtain ⟨a', o', fd, c, P', k1, k2, k3, k4, k5, k6⟩ := T.tab _ (rec_mem hr)
  have h1 : mg x = some (.ref a) := h1
  have k1 : mg x = some (.ref a') := k1
  rw [h1] at k1; cases k1
  rw [h2] at k2; cases k2
  rw [h3] at k3; cases k3
  have k4 : cd = .ref c := k4
  subst k4
  have := chain_eq T.g h1 h2 h3 rfl k6
  rw [hc] at this; cases this
  exact ⟨a, o, pm, c, doc, h1, h2, h3, h4, CodeHd.of k5 k6, k6.2⟩
theorem mak_at {a c : Addr} {o : Obj} {pm doc : Value} (t1 : h0.get? P1 = some (tabObj #[])) (t2 : h0.get? P2 = some (tabObj #[])) (h2 : h0.get? a = some o) (h3 : o.data = .func (docDef x params body scope pm (.ref c) doc)) (h4 : h0.CodeRec (.ref c) x) :
    MakAt (lawCx prog w h0 P1 P2 q1 q2 p1 p2 mg mb hg hb hl n1 n2 n3) a x params body scope c := by
  have hT : ∀ a ∈ [P1, P2], h0.get? a = some (tabObj #[]) := fun a ha => by
    rcases List.mem_cons.mp ha with rfl | ha
    · exact t1
    · obtain rfl := List.mem_singleton.mp ha; exact t2
  obtain ⟨c', oc, vs, t, e, k3, k4, k5⟩ := h4
  cases e
  refine ⟨o, pm, doc, baseOf_some h2 fun q => ?_, h3, fun h k => ⟨c, oc, vs, t, rfl, k _ _ (baseOf_some k3 fun q => ?_), k4, k5⟩⟩
  · rw [hT a q] at h2; cases h2; cases h3
  · rw [hT c q] at k3; cases k3; cases k4; cases k5
theorem const_str {s : Str} (T : Top q loose mean mg mb h0) (hv : valOf q x = some (.str s)) : ∃ t, mg x = some (.str s t) := by
  obtain ⟨v, e, r⟩ := T.const x _ hv
  have := r h0
  cases this
  exact ⟨_, e⟩
theorem const_int {s : Int} (T : Top q loose mean mg mb h0) (hv : valOf q x = some (.int s)) : ∃ t, mg x = some (.int s t) := by
  obtain ⟨v, e, r⟩ := T.const x _ hv
  have := r h0
  cases this
  exact ⟨_, e⟩
end
noncomputable def freeOf (q : Program) (loose : List Str) (x : Str) : Bool := !startupNames.contains x && !loose.contains x && !((recsOf q).map (·.name)).contains x && !((litsOf q).map (·.1)).contains x && !((clssOf q loose).map (·.name)).contains x
noncomputable def bltNames : List Str := ["len", "sum", "divmod", "range", "list", "reversed"]
theorem blt_of {X : Cx} {q : Program} {loose : List Str} {mean : ExcName → Option Value} {h0 : Heap} (T : Top q loose mean X.mg X.mb h0) (h : bltNames.all (freeOf q loose) = true) : BltOk X := fun x hx => by
  have := List.all_eq_true.mp h x hx
  unfold freeOf at this
  simp only [Bool.and_eq_true, Bool.not_eq_true', List.contains_eq_mem, decide_eq_false_iff_not] at this
  obtain ⟨⟨⟨⟨h1, h2⟩, h3⟩, h4⟩, h5⟩ := this
  refine ⟨T.free x h1 h2 h3 h4 h5, T.builtins x fun e => ?_⟩
  subst e
  revert hx; decide
end Mine

end

/- HdS -/
section
open PySem PySem.W PySem.Calls PyProof.Rows
set_option maxRecDepth 100000
set_option maxHeartbeats 4000000
namespace Mine

noncomputable def F_law (vs : List PVal) (H : PH) : Option (PVal × PH) := match vs with
  | [x] => (lstI x).bind fun us => (intsP us).bind fun ns => if ns.length ≤ 63 then some (.bool true, H) else none
  | _ => none
theorem intsP_of {us : List PVal} : ∀ {ns : List Int}, intsP us = some ns → us = ns.map .int := by
  induction us with
  | nil => intro ns h; cases h; rfl
  | cons v r ih =>
    intro ns h
    obtain ⟨i, ms, rfl, e, rfl⟩ := intsP_cons h
    rw [ih e]; rfl
theorem intsP_map : ∀ ns : List Int, intsP (ns.map .int) = some ns
  | [] => rfl
  | n :: ns => by
    show (intsP (ns.map .int)).map _ = _
    rw [intsP_map ns]; rfl
theorem law_run {g : SF} (hg : ∀ (ns : List Int), ns.length ≤ 63 → ∀ H, runF noV ((["script"] : List Str).zip [.lst (ns.map .int)]) g H = some (.bool true, H)) {vs : List PVal} {H : PH} {v : PVal} {H' : PH} (h : F_law vs H = some (v, H')) :
    vs.length = (["script"] : List Str).length ∧ runF noV ((["script"] : List Str).zip vs) g H = some (v, H') := by
  unfold F_law at h
  split at h
  · obtain ⟨us, q0, zq0⟩ := Option.bind_eq_some_iff.mp h
    clear h
    have h := zq0
    clear zq0
    obtain rfl := lstI_some q0
    obtain ⟨ns, hn, h⟩ := Option.bind_eq_some_iff.mp h
    split at h
    · rename_i hl
      cases h
      rw [intsP_of hn]
      exact ⟨rfl, hg ns hl H⟩
    · cases h
  · cases h

theorem ints_rel {h : Heap} {B : List Addr} {xs : List Value} {ns : List Int} (r : IntsAre xs ns) : BRels h B (ns.map .int) xs := by
  induction r with
  | nil => exact .nil
  | cons _ t r ih => exact .cons (.int _ t) ih
theorem well_list {P : Params} {h : Heap} {a : Addr} {ns : List Int} (w : Well P h (.ref a) (ofPy (PyData.list (ns.map PyData.int)))) {xs : List Value} (hL : h.IsList a xs.toArray) : h.PlainList a xs.toArray := by
  have e : ∃ ds, ofPy (PyData.list (ns.map PyData.int)) = .list ds := ⟨_, rfl⟩
  obtain ⟨ds, e⟩ := e
  rw [e] at w
  cases w with
  | list hp _ =>
    obtain ⟨o, e1, _, n, e2⟩ := hL
    rw [hp] at e1; cases e1
    have e2 : Data.seq _ _ = Data.seq _ _ := e2
    injection e2 with e3 e4
    rw [← e3]; exact ⟨_, hp⟩
theorem hpost_any (zs : List WData) : (WShape.has [] (WData.bool true) .bool && WTm.holds [] (.eq .res (.lit (.bool true))) { args := zs, res := some (.bool true), after := zs }) = true := by
  simp [WShape.has, WTm.holds, WTm.value, WShape.arms, same]

end Mine

end

/- L1a -/
section
open PySem PySem.W PySem.Calls PyProof.Rows
set_option maxRecDepth 100000
namespace Mine

theorem F_em_ok {a b : List Nat} {c : Bool} {H : PH} (h : emP a b = some c) (ha : a.length ≤ 1000000) (hb : b.length ≤ 1000000) : F_em [T a, T b] H = some (.bool c, H) := by
  show (if (mkS a).length ≤ 1000000 ∧ (mkS b).length ≤ 1000000 then (emP (mkS a).cps.toList (mkS b).cps.toList).map _ else none) = _
  rw [if_pos (by rw [mkS_length, mkS_length]; exact ⟨ha, hb⟩), mkS_cps, mkS_cps, h]; rfl
theorem F_rep_ok {t u : List Nat} {ps : List (List Nat)} {H : PH} (h : repP 2000 ps t = some u) (hp : ps.length ≤ 70) : F_rep (T t :: ps.map T) H = some (T u, H) := by
  show ((strsP (ps.map T)).bind _) = _
  rw [strsP_T, Option.bind_some, if_pos (by rw [List.length_map]; exact hp), List.map_map, mkS_cps]
  have : (ps.map ((fun s : Str => s.cps.toList) ∘ mkS)) = ps := by
    conv => rhs; rw [← List.map_id ps]
    exact List.map_congr_left fun x _ => mkS_cps x
  rw [this, h]; rfl
theorem items_rng {a b : Nat} (ha : a ≤ 1000000) (hb : b ≤ 1000000) : itemsP (.rng (a : Int) (b : Int)) = some ((List.range (b - a)).map fun (k : Nat) => PVal.int ((a + k : Nat) : Int)) := by
  show (if _ then _ else none) = _
  rw [if_pos ⟨by (first | lia | omega), by (first | lia | omega), by (first | lia | omega), by (first | lia | omega)⟩]
  unfold rngL
  rw [show ((b : Int) - (a : Int)).toNat = b - a from by (first | lia | omega)]
  rfl
theorem sl_upto {x : List Nat} {n : Nat} (h : x.length ≤ 1000000) : slB (T x) (.int (n : Int)) = some (T (x.take n)) := by
  show (if (mkS x).length ≤ sizeLine then some (PVal.str (Txt.slice (mkS x) none (some (n : Int)))) else none) = _
  rw [if_pos (by rw [mkS_length, sl]; (first | lia | omega)), slice_upto]; rfl
theorem p_addT {x y : List Nat} (h : x.length + y.length ≤ 10000000) : binP .Add (T x) (T y) = some (T (x ++ y)) := p_adds (by rw [sl]; (first | lia | omega))

end Mine

end

/- L1b -/
section
open PySem PySem.W PySem.Calls PyProof.Rows
set_option maxRecDepth 100000
namespace Mine

theorem p_mulT {i : List Nat} {n : Nat} (h : n ≤ 1000000) (h2 : i.length * n ≤ 1000000) : binP .Mult (T i) (.int (n : Int)) = some (T (repL n i)) := p_muls h h2

theorem dots_len : dots.length = 3 := rfl
theorem ne_self (x : List Nat) : cmpP .NotEq (T x) (T x) = some false := by
  show some (mkS x != mkS x) = _
  simp
theorem repL_len {α : Type} (n : Nat) (x : List α) : (repL n x).length = n * x.length := by
  unfold repL
  induction n with
  | zero => simp
  | succ n ih => rw [List.replicate_succ, List.flatten_cons, List.length_append, ih, Nat.add_mul]; (first | lia | omega)
end Mine

end

/- Cmp -/
section
open PySem PySem.W PySem.Calls PyProof.Rows
set_option maxRecDepth 100000
namespace Mine

theorem compLoop_out {step : PVal → PH → Option PH} {H : PH} {B : Nat} (out : PVal → List PVal) : ∀ (vs : List PVal) (acc : List PVal), (∀ v ∈ vs, ∀ acc, acc.length ≤ B → (acc ++ out v).length ≤ B → step v (H ++ [acc]) = some (H ++ [acc ++ out v])) → (acc ++ vs.flatMap out).length ≤ B →
    compLoop step vs (H ++ [acc]) = some (H ++ [acc ++ vs.flatMap out])
  | [], acc, _, _ => by simp [compLoop]
  | v :: r, acc, h, hB => by
    have e : acc ++ (v :: r).flatMap out = (acc ++ out v) ++ r.flatMap out := by simp
    rw [e] at hB ⊢
    unfold compLoop
    have h1 : (acc ++ out v).length ≤ B := by rw [List.length_append] at hB; (first | lia | omega)
    rw [h v (.head _) acc (by rw [List.length_append] at h1; (first | lia | omega)) h1, Option.bind_some]
    exact compLoop_out out r (acc ++ out v) (fun v hv => h v (.tail _ hv)) hB
theorem e_comp {it : EF} {mk : PV → Nat → PVal → PH → Option PH} {V : PV} {H H1 : PH} {v : PVal} {vs : List PVal} {B : Nat} (out : PVal → List PVal) (h1 : it V H = some (v, H1)) (h2 : itemsP v = some vs)
    (h3 : ∀ v ∈ vs, ∀ acc, acc.length ≤ B → (acc ++ out v).length ≤ B → mk V H1.length v (H1 ++ [acc]) = some (H1 ++ [acc ++ out v])) (h4 : (vs.flatMap out).length ≤ B) : compRun it mk V H = some (.lst (vs.flatMap out), H1) := by
  unfold compRun
  rw [h1, Option.bind_some]
  dsimp only
  rw [h2, Option.bind_some, compLoop_out out vs [] h3 (by simpa using h4), Option.bind_some]
  simp
theorem appendAt_ok {H : PH} {acc : List PVal} {v : PVal} (hv : v.isRef = false) (hl : acc.length ≤ 2000000) : appendAt H.length v (H ++ [acc]) = some (H ++ [acc ++ [v]]) := by
  unfold appendAt
  rw [b_append (vs := acc) (by simp) hv hl, Option.map_some, List.set_append_right _ _ (Nat.le_refl _), Nat.sub_self]; rfl
/-- a plain comprehension -/
theorem e_comp1 {scope : Scope} {x : Str} {it elt : EF} {V : PV} {H H1 : PH} {v : PVal} {vs : List PVal} (f : PVal → PVal) (h1 : it V H = some (v, H1)) (h2 : itemsP v = some vs)
    (h3 : ∀ v ∈ vs, ∀ K, elt (setV (freeV scope V) x v) K = some (f v, K)) (h5 : ∀ v ∈ vs, (f v).isRef = false) (h4 : vs.length ≤ 1000000) : fComp scope x it elt V H = some (.lst (vs.map f), H1) := by
  have hfm : vs.flatMap (fun v => [f v]) = vs.map f := by
    clear h2 h3 h4 h5
    induction vs with
    | nil => rfl
    | cons v r ih => simp [ih]
  have := e_comp (B := 1000000) (mk := stepE scope x elt) (fun v => [f v]) h1 h2 (fun v hv acc hB hB2 => by
    unfold stepE
    rw [h3 v hv, Option.bind_some]
    exact appendAt_ok (h5 v hv) (by (first | lia | omega))) (by rw [hfm, List.length_map]; exact h4)
  rw [hfm] at this
  exact this
end Mine

end

/- L1c -/
section
open PySem PySem.W PySem.Calls PyProof.Rows
set_option maxRecDepth 100000
namespace Mine

noncomputable def row : List Nat := [97, 35, 98, 10, 32, 58, 33, 9]
noncomputable def sgn (r m : Nat) : List Nat := ((row ++ row).drop r).take m
theorem joinL_ones : ∀ l : List Nat, joinL [] (l.map fun c => [c]) = l
  | [] => rfl
  | [c] => rfl
  | c :: d :: l => by
    have := joinL_ones (d :: l)
    rw [List.map_cons, List.map_cons] at *
    unfold joinL
    rw [this]; simp
theorem sum_ones : ∀ l : List Nat, ((l.map fun c => [c]).map List.length).sum = l.length
  | [] => rfl
  | c :: l => by
    have := sum_ones l
    rw [List.map_cons, List.map_cons, List.sum_cons, this]; simp; (first | lia | omega)
theorem items_str {x : List Nat} (h : x.length ≤ 1000000) : itemsP (T x) = some (x.map fun c => T [c]) := by
  show (if (mkS x).length ≤ sizeLine then some ((mkS x).cps.toList.map fun c => PVal.str ⟨#[c]⟩) else none) = _
  rw [if_pos (by rw [mkS_length, sl]; (first | lia | omega)), mkS_cps]; rfl
theorem items_lst {vs : List PVal} (h : vs.length ≤ 1000000) : itemsP (.lst vs) = some vs := by
  show (if vs.length ≤ sizeLine then some vs else none) = some vs
  rw [if_pos (by rw [sl]; (first | lia | omega))]
theorem idx_str {x : List Nat} {i : Nat} {c : Nat} {H : PH} (h : x[i]? = some c) (hi : i < 1000000) : idxP (T x) (.int (i : Int)) H = some (T [c]) := by
  unfold idxP T
  dsimp only
  rw [if_pos ⟨by (first | lia | omega), by (first | lia | omega)⟩, Int.toNat_natCast]
  have : (mkS x).cps[i]? = some c := by simp [mkS, h]
  rw [this]; rfl
theorem idx_lst {vs : List PVal} {i : Nat} {v : PVal} {H : PH} (h : vs[i]? = some v) (hi : i < 1000000) : idxP (.lst vs) (.int (i : Int)) H = some v := by
  show nthP vs (i : Int) = _
  unfold nthP
  rw [if_pos ⟨by (first | lia | omega), by (first | lia | omega)⟩, Int.toNat_natCast, h]
theorem sl_from {x : List Nat} {n : Nat} (h : x.length ≤ 1000000) : slA (T x) (.int (n : Int)) = some (T (x.drop n)) := by
  show (if (mkS x).length ≤ sizeLine then some (PVal.str (Txt.slice (mkS x) (some (n : Int)) none)) else none) = _
  rw [if_pos (by rw [mkS_length, sl]; (first | lia | omega)), slice_from]; rfl
theorem sl_lst {vs : List PVal} {n : Nat} (h : vs.length ≤ 1000000) : slB (.lst vs) (.int (n : Int)) = some (.lst (vs.take n)) := by
  show (if (0 : Int) ≤ (n : Int) ∧ vs.length ≤ sizeLine then some (PVal.lst (vs.take (n : Int).toNat)) else none) = _
  rw [if_pos ⟨by (first | lia | omega), by rw [sl]; (first | lia | omega)⟩, Int.toNat_natCast]
theorem F_i2d_ok {a n : Nat} {H : PH} (hn : 0 < n) (hn1 : n ≤ 5000) (ha : a < 2 ^ 5000) : F_i2d [.int (a : Int), .int (n : Int)] H = some (.lst (nums (digs a n)), H) := by
  show (if _ then _ else none) = _
  rw [if_pos ⟨by (first | lia | omega), by (first | lia | omega), by (first | lia | omega), bits_leN ha⟩]; rfl
theorem b_sum {ns : List Int} {H : PH} : biP .sum [.lst (ns.map .int)] H = some (.int ns.sum, H) := by
  show (intsP (ns.map .int)).map _ = _
  have : ∀ ns : List Int, intsP (ns.map .int) = some ns := by
    intro ns
    induction ns with
    | nil => rfl
    | cons n ns ih => show (intsP (ns.map .int)).map _ = _; rw [ih]; rfl
  rw [this]; rfl
end Mine

end

/- L1d -/
section
open PySem PySem.W PySem.Calls PyProof.Rows
set_option maxRecDepth 100000
set_option maxHeartbeats 1000000
namespace Mine

end Mine

end

/- L1e -/
section
open PySem PySem.W PySem.Calls PyProof.Rows
set_option maxRecDepth 100000
set_option maxHeartbeats 4000000
namespace Mine

end Mine

end

/- P1a -/
section
open PySem PySem.W PySem.Calls PyProof.Rows
set_option maxRecDepth 100000
namespace Mine

theorem split_skip (y : List Nat) : ∀ (k : Nat) (cur x : List Nat), splitGo y k cur x = splitGo y 0 cur (x.drop k)
  | 0, cur, x => by simp
  | k + 1, cur, [] => by rw [List.drop_nil]; unfold splitGo; rfl
  | k + 1, cur, c :: r => by
    rw [List.drop_succ_cons, ← split_skip y k cur r]
    conv => lhs; unfold splitGo
theorem split_ne (y : List Nat) : ∀ (x cur : List Nat), splitGo y 0 cur x ≠ []
  | [], cur => by unfold splitGo; simp
  | c :: r, cur => by
    unfold splitGo
    split
    · simp
    · exact split_ne y r _
theorem joinL_cons (y p : List Nat) : ∀ ps : List (List Nat), ps ≠ [] → joinL y (p :: ps) = p ++ y ++ joinL y ps
  | [], h => absurd rfl h
  | _ :: _, _ => rfl
theorem drop_tail {y : List Nat} (hy : y ≠ []) (c : Nat) (r : List Nat) : (c :: r).drop y.length = r.drop (y.length - 1) := by
  obtain ⟨n, hn⟩ : ∃ n, y.length = n + 1 := ⟨y.length - 1, by have := List.length_pos_iff.mpr hy; (first | lia | omega)⟩
  rw [hn]; rfl
/-- pieces without a dot -/
theorem split_run (y' cur t : List Nat) : ∀ p : List Nat, 46 ∉ p → splitGo (46 :: y') 0 cur (p ++ t) = splitGo (46 :: y') 0 (p.reverse ++ cur) t := by
  intro p
  induction p generalizing cur with
  | nil => intro _; rfl
  | cons c p ih =>
    intro h
    have hc : c ≠ 46 := fun q => h (by simp [q])
    rw [List.cons_append]
    conv => lhs; unfold splitGo
    rw [if_neg (by
      intro q
      rw [List.isPrefixOf_iff_prefix] at q
      obtain ⟨s, e⟩ := q
      exact hc (List.cons.inj e).1.symm), ih (c :: cur) (fun q => h (by simp [q]))]
    simp
theorem split_sep (y' cur t : List Nat) : splitGo (46 :: y') 0 cur ((46 :: y') ++ t) = cur.reverse :: splitGo (46 :: y') 0 [] t := by
  rw [List.cons_append]
  conv => lhs; unfold splitGo
  rw [if_pos (by rw [List.isPrefixOf_iff_prefix]; exact ⟨t, rfl⟩), split_skip]
  simp
theorem split_join (y' : List Nat) : ∀ (ps : List (List Nat)) (p cur : List Nat), (∀ q ∈ p :: ps, 46 ∉ q) → splitGo (46 :: y') 0 cur (joinL (46 :: y') (p :: ps)) = (cur.reverse ++ p) :: ps
  | [], p, cur, h => by
    have := split_run y' cur [] p (h p (.head _))
    rw [List.append_nil] at this
    show splitGo (46 :: y') 0 cur p = _
    rw [this]; unfold splitGo; simp
  | q :: ps, p, cur, h => by
    rw [joinL_cons _ _ _ (by simp), List.append_assoc, split_run y' cur _ p (h p (.head _)), split_sep, split_join y' ps q [] (fun s hs => h s (.tail _ hs))]
    simp
theorem split_joinL (y' : List Nat) {ps : List (List Nat)} (hne : ps ≠ []) (h : ∀ q ∈ ps, 46 ∉ q) : splitL (46 :: y') (joinL (46 :: y') ps) = ps := by
  cases ps with
  | nil => exact absurd rfl hne
  | cons p ps => exact split_join y' ps p [] h
theorem split_mem (y : List Nat) : ∀ (n : Nat) (x cur : List Nat), x.length ≤ n → ∀ p ∈ splitGo y 0 cur x, ∀ a ∈ p, a ∈ cur ∨ a ∈ x
  | _, [], cur, _, p, hp, a, ha => by unfold splitGo at hp; simp at hp; subst hp; simp at ha; exact .inl ha
  | 0, c :: r, cur, h, p, hp, a, ha => by simp at h
  | n + 1, c :: r, cur, h, p, hp, a, ha => by
    unfold splitGo at hp
    split at hp
    · rcases List.mem_cons.mp hp with rfl | hp
      · simp at ha; exact .inl ha
      · rw [split_skip] at hp
        rcases split_mem y n _ [] (by simp at h ⊢; (first | lia | omega)) p hp a ha with q | q
        · simp at q
        · exact .inr (List.mem_cons_of_mem _ (List.mem_of_mem_drop q))
    · rcases split_mem y n r (c :: cur) (by simp at h; (first | lia | omega)) p hp a ha with q | q
      · rcases List.mem_cons.mp q with rfl | q
        · exact .inr (.head _)
        · exact .inl q
      · exact .inr (.tail _ q)

/-- the wanted text: three dots ahead, between and behind -/
noncomputable def wantL (ps : List (List Nat)) : List Nat := dots ++ (ps.map (· ++ dots)).flatten
theorem wantL_join : ∀ ps : List (List Nat), joinL dots (ps ++ [[]]) = (ps.map (· ++ dots)).flatten
  | [] => rfl
  | p :: ps => by rw [List.cons_append, joinL_cons _ _ _ (by simp), wantL_join ps]; simp
theorem wantL_eq (ps : List (List Nat)) : wantL ps = joinL dots ([] :: (ps ++ [[]])) := by
  rw [joinL_cons _ _ _ (by simp), wantL_join]; rfl
theorem emL_snoc : ∀ (ps : List (List Nat)) (t : List Nat), emL (ps ++ [[]]) t = emL ps t
  | [], t => by
    show (match findR [] t with | none => false | some t' => emL [] t') = true
    cases t <;> rfl
  | p :: ps, t => by
    rw [List.cons_append]
    unfold emL
    cases findR p t with
    | none => rfl
    | some t' => exact emL_snoc ps t'
theorem emP_want {ps : List (List Nat)} (h : ∀ q ∈ ps, 46 ∉ q) (got : List Nat) : emP (wantL ps) got = some (emL ps got) := by
  have hs : splitL dots (wantL ps) = [] :: (ps ++ [[]]) := by
    rw [wantL_eq]
    refine split_joinL [46, 46] (by simp) fun q hq => ?_
    rcases List.mem_cons.mp hq with rfl | hq
    · simp
    · rcases List.mem_append.mp hq with hq | hq
      · exact h q hq
      · rw [List.mem_singleton.mp hq]; simp
  unfold emP
  rw [hs]
  cases ps with
  | nil =>
    show (if ([] : List (List Nat)) = [] ∧ ([] : List Nat) ≠ [] then _ else if [[]].getLast? = some [] then some (emL [[]] got) else none) = _
    rw [if_neg (by simp)]
    exact (if_pos (by rfl)).trans (congrArg some (emL_snoc [] got))
  | cons p ps =>
    show (if (ps ++ [[]]) = [] ∧ p ≠ [] then _ else if (p :: (ps ++ [[]])).getLast? = some [] then some (emL (p :: (ps ++ [[]])) got) else none) = _
    rw [if_neg (by simp), if_pos (by rw [← List.cons_append, List.getLast?_append]; rfl)]
    exact congrArg some (emL_snoc (p :: ps) got)
/-- how often w is found, one behind the other -/
noncomputable def cnt (w x : List Nat) : Nat := (splitL w x).length - 1
theorem cnt_go (w : List Nat) (hw : w ≠ []) : ∀ (n : Nat) (x cur : List Nat), x.length ≤ n → (splitGo w 0 cur x).length = match findR w x with
    | none => 1
    | some t => 1 + (splitGo w 0 [] t).length
  | _, [], cur, _ => by
    conv => lhs; unfold splitGo
    unfold findR
    rw [if_neg (by cases w with | nil => exact absurd rfl hw | cons _ _ => simp [List.isPrefixOf])]; rfl
  | 0, c :: r, cur, h => by simp at h
  | n + 1, c :: r, cur, h => by
    conv => lhs; unfold splitGo
    unfold findR
    by_cases hp : w.isPrefixOf (c :: r) = true
    · rw [if_pos hp, if_pos hp, split_skip, ← drop_tail hw c r]; simp; (first | lia | omega)
    · rw [if_neg hp, if_neg hp]
      exact cnt_go w hw n r (c :: cur) (by simp at h; (first | lia | omega))
theorem cnt_eq (w x : List Nat) (hw : w ≠ []) : cnt w x = match findR w x with
    | none => 0
    | some t => 1 + cnt w t := by
  unfold cnt splitL
  rw [cnt_go w hw x.length x [] (Nat.le_refl _)]
  cases findR w x with
  | none => rfl
  | some t =>
    have := List.length_pos_iff.mpr (split_ne w t [])
    show 1 + _ - 1 = 1 + (_ - 1)
    (first | lia | omega)
theorem emL_rep (w : List Nat) (hw : w ≠ []) : ∀ (k : Nat) (x : List Nat), emL (List.replicate k w) x = decide (k ≤ cnt w x)
  | 0, x => by simp [emL]
  | k + 1, x => by
    rw [List.replicate_succ]
    unfold emL
    rw [cnt_eq w x hw]
    cases findR w x with
    | none => simp
    | some t =>
      show emL (List.replicate k w) t = _
      rw [emL_rep w hw k t]
      have : (k + 1 ≤ 1 + cnt w t) ↔ (k ≤ cnt w t) := by (first | lia | omega)
      simp [this]
theorem want_rep (w : List Nat) (k : Nat) : dots ++ repL k (w ++ dots) = wantL (List.replicate k w) := by
  unfold wantL repL; rw [List.map_replicate]

theorem emP_rep {w : List Nat} (hw : w ≠ []) (h : 46 ∉ w) (k : Nat) (x : List Nat) : emP (dots ++ repL k (w ++ dots)) x = some (decide (k ≤ cnt w x)) := by
  rw [want_rep, emP_want (fun q hq => by rw [List.eq_of_mem_replicate hq]; exact h), emL_rep w hw]
theorem repL_succ {α : Type} (k : Nat) (x : List α) : repL (k + 1) x = repL k x ++ x := by
  unfold repL
  rw [List.replicate_succ']; simp
theorem emP_rep1 {w : List Nat} (hw : w ≠ []) (h : 46 ∉ w) (k : Nat) (x : List Nat) : emP (dots ++ repL k (w ++ dots) ++ w ++ dots) x = some (decide (k + 1 ≤ cnt w x)) := by
  rw [← emP_rep hw h, repL_succ]; simp

end Mine

end

/- L2a -/
section
open PySem PySem.W PySem.Calls PyProof.Rows
set_option maxRecDepth 100000
namespace Mine

noncomputable def imgF (c : Int) : PVal → PVal
  | .int k => .int (((c.fdiv 3).fdiv (2 ^ k.toNat)).fmod 2)
  | v => v
theorem fmod2 (a : Int) (n : Int) (hn : 0 < n) : a.fmod n = ((a.fmod n).toNat : Int) := by
  have := Int.fmod_nonneg_of_pos a hn; (first | lia | omega)
theorem pow_small {b k : Nat} (hb : b ≤ 3) (h1 : 1 ≤ b) (hk : k ≤ 10) : binP .Pow (.int (b : Int)) (.int (k : Int)) = some (.int ((b ^ k : Nat) : Int)) ∧ ((b ^ k : Nat) : Int) ≠ 0 ∧ Builtin.Int.intBits ((b ^ k : Nat) : Int) ≤ 9000 := by
  have h2 := bits_leN (x := b) (k := 2) (by (first | lia | omega))
  have h3 : (Builtin.Int.intBits (b : Int) : Int) * (k : Int) ≤ 2 * 10 := Int.mul_le_mul (by (first | lia | omega)) (by (first | lia | omega)) (by (first | lia | omega)) (by (first | lia | omega))
  have h4 : 0 < b ^ k := Nat.pow_pos (by (first | lia | omega))
  have h5 : b ^ k ≤ 3 ^ 10 := Nat.le_trans (Nat.pow_le_pow_left hb k) (Nat.pow_le_pow_right (by decide) hk)
  refine ⟨?_, by (first | lia | omega), Nat.le_trans (bits_leN (k := 20) (Nat.lt_of_le_of_lt h5 (show 3 ^ 10 < 2 ^ 20 by decide))) (show 20 ≤ 9000 by decide)⟩
  rw [p_pow ⟨by (first | lia | omega), by (first | lia | omega)⟩, Int.toNat_natCast, powN]

theorem run_img (c : Int) (H : PH) : runF noV ((["cell"] : List Str).zip [.int c]) g_img H = some (.lst (nums (imgL c)), H) := by
  have hn := fmod2 c 3 (by decide)
  have hn2 := Int.fmod_lt_of_pos c (b := 3) (by decide)
  have hc := e_comp1 (scope := cs_img_0) (x := "k") (it := fBi .range (lCons (fBin .Add (fConst (.int 1)) (fBin .Mod (fVar "cell") (fConst (.int 3)))) lNil)) (elt := fBin .Mod (fBin .FloorDiv (fBin .FloorDiv (fVar "cell") (fConst (.int 3))) (fBin .Pow (fConst (.int 2)) (fVar "k"))) (fConst (.int 2)))
    (V := bindV ((["cell"] : List Str).zip [.int c]) noV) (H := H) (imgF c) (v := .rng 0 ((1 + (c.fmod 3).toNat : Nat) : Int))
    (e_bi (l_cons (e_bin e_const (e_bin (e_var rfl) e_const (p_mod (by decide))) (by rw [p_add, hn])) l_nil) rfl) (items_rng (a := 0) (by (first | lia | omega)) (by (first | lia | omega))) (fun v hv K => by
      obtain ⟨k, hk, rfl⟩ := List.mem_map.mp hv
      have hk := List.mem_range.mp hk
      rw [Nat.zero_add]
      obtain ⟨g1, g2, g3⟩ := pow_small (b := 2) (k := k) (by decide) (by decide) (by (first | lia | omega))
      have e : imgF c (.int (k : Int)) = .int (((c.fdiv 3).fdiv ((2 ^ k : Nat) : Int)).fmod 2) := by
        unfold imgF; dsimp only; rw [Int.toNat_natCast]; simp
      rw [e]
      exact e_bin (e_bin (e_bin (e_var rfl) e_const (p_div ⟨by decide, by decide⟩)) (e_bin e_const (e_var rfl) g1) (p_div ⟨g2, g3⟩)) e_const (p_mod (by decide))) (fun v hv => by
      obtain ⟨k, hk, rfl⟩ := List.mem_map.mp hv; rfl) (by rw [List.length_map, List.length_range]; (first | lia | omega))
  have e : (((List.range (1 + (c.fmod 3).toNat - 0)).map fun (k : Nat) => PVal.int ((0 + k : Nat) : Int)).map (imgF c)) = nums (imgL c) := by
    unfold nums imgL
    rw [List.map_map, List.map_map, Nat.sub_zero]
    refine List.map_congr_left fun k _ => ?_
    show imgF c (.int ((0 + k : Nat) : Int)) = _
    unfold imgF
    dsimp only [Function.comp]
    rw [Nat.zero_add, Int.toNat_natCast, ← fmod2 _ 2 (by decide)]
  rw [e] at hc
  exact runE (K := H) ⟨_, s_ret hc⟩ rfl (List.take_of_length_le (Nat.le_refl _))

/-- a comprehension with a test -/
theorem e_compIf {scope : Scope} {x : Str} {it elt : EF} {c : BF} {V : PV} {H H1 : PH} {v : PVal} {vs : List PVal} (t : PVal → Bool) (f : PVal → PVal) (h1 : it V H = some (v, H1)) (h2 : itemsP v = some vs)
    (h0 : ∀ v ∈ vs, ∀ K, c (setV (freeV scope V) x v) K = some (t v, K)) (h3 : ∀ v ∈ vs, ∀ K, elt (setV (freeV scope V) x v) K = some (f v, K)) (h5 : ∀ v ∈ vs, (f v).isRef = false) (h4 : vs.length ≤ 1000000) : fCompIf scope x it c elt V H = some (.lst ((vs.filter t).map f), H1) := by
  have hfm : ∀ vs : List PVal, vs.flatMap (fun v => if t v = true then [f v] else []) = (vs.filter t).map f := by
    intro vs
    induction vs with
    | nil => rfl
    | cons v r ih =>
      rw [List.flatMap_cons, ih, List.filter_cons]
      cases t v <;> rfl
  have := e_comp (B := 1000000) (mk := stepIf scope x c elt) (fun v => if t v = true then [f v] else []) h1 h2 (fun v hv acc hB hB2 => by
    unfold stepIf
    rw [h0 v hv, Option.bind_some]
    dsimp only
    cases ht : t v with
    | true =>
      rw [if_pos rfl, if_pos rfl, h3 v hv, Option.bind_some]
      exact appendAt_ok (h5 v hv) (by (first | lia | omega))
    | false => simp) (by rw [hfm, List.length_map]; exact Nat.le_trans (List.length_filter_le _ _) h4)
  rw [hfm] at this
  exact this

noncomputable def pcsF (c : Int) (s : List Nat) : PVal → PVal
  | .int k => T [(s ++ [124]).getD ((c.fdiv (3 ^ k.toNat)).fmod 3).toNat 0]
  | v => v
noncomputable def pcsT : PVal → Bool
  | .str x => !x.cps.toList.isEmpty
  | _ => false
theorem ne_nil (l : List Nat) : cmpP .NotEq (T l) (.str "") = some (!l.isEmpty) := by
  show some (mkS l != ("" : Str)) = _
  rw [nil_eq, mkS_bne]
  cases l <;> rfl
theorem rowL_len (c : Int) (s : List Nat) : (rowL c s).length = 5 := by unfold rowL; simp

theorem run_pcs (c : Int) (s : List Nat) (hs : s.length = 2) (H : PH) : runF noV ((["cell", "signs"] : List Str).zip [.int c, T s]) g_pcs H = some (.lst ((pcsL c s).map T), H) := by
  have hc := e_comp1 (scope := cs_pcs_0) (x := "k") (it := fBi .range (lCons (fConst (.int 5)) lNil)) (elt := fIdx (fBin .Add (fVar "signs") (fConst (.str "|"))) (fBin .Mod (fBin .FloorDiv (fVar "cell") (fBin .Pow (fConst (.int 3)) (fVar "k"))) (fConst (.int 3))))
    (V := bindV ((["cell", "signs"] : List Str).zip [.int c, T s]) noV) (H := H) (pcsF c s) (v := .rng 0 ((5 : Nat) : Int)) (e_bi (l_cons e_const l_nil) rfl) (items_rng (a := 0) (by (first | lia | omega)) (by (first | lia | omega))) (fun v hv K => by
      obtain ⟨k, hk, rfl⟩ := List.mem_map.mp hv
      have hk := List.mem_range.mp hk
      rw [Nat.zero_add]
      obtain ⟨g1, g2, g3⟩ := pow_small (b := 3) (k := k) (by decide) (by decide) (by (first | lia | omega))
      have hx := fmod2 (c.fdiv ((3 ^ k : Nat) : Int)) 3 (by decide)
      have hx2 := Int.fmod_lt_of_pos (c.fdiv ((3 ^ k : Nat) : Int)) (b := 3) (by decide)
      have e : pcsF c s (.int (k : Int)) = T [(s ++ [124]).getD ((c.fdiv ((3 ^ k : Nat) : Int)).fmod 3).toNat 0] := by
        unfold pcsF; dsimp only; rw [Int.toNat_natCast]; simp
      rw [e]
      have hi : ((c.fdiv ((3 ^ k : Nat) : Int)).fmod 3).toNat < (s ++ [124]).length := by
        have hz : ∀ z : Int, z < 3 → z.toNat < 3 := fun z h => by (first | lia | omega)
        rw [List.length_append, hs]; exact hz _ hx2
      refine e_idx (a := T (s ++ [124])) (b := .int (((c.fdiv ((3 ^ k : Nat) : Int)).fmod 3).toNat : Int)) (e_bin (e_var rfl) e_const (p_addT (y := [124]) (by rw [hs]; decide))) (e_bin (e_bin (e_var rfl) (e_bin e_const (e_var rfl) g1) (p_div ⟨g2, g3⟩)) e_const (by rw [p_mod (by decide), ← hx])) ?_
      refine idx_str ?_ (by (first | lia | omega))
      rw [List.getElem?_eq_getElem hi, List.getD_eq_getElem?_getD, List.getElem?_eq_getElem hi]; rfl) (fun v hv => by
      obtain ⟨k, hk, rfl⟩ := List.mem_map.mp hv; rfl) (by simp)
  have e : (((List.range (5 - 0)).map fun (k : Nat) => PVal.int ((0 + k : Nat) : Int)).map (pcsF c s)) = ((rowL c s).map fun c => [c]).map T := by
    unfold rowL
    rw [List.map_map, List.map_map, List.map_map]
    refine List.map_congr_left fun k _ => ?_
    show pcsF c s (.int ((0 + k : Nat) : Int)) = _
    unfold pcsF
    dsimp only [Function.comp]
    rw [Nat.zero_add, Int.toNat_natCast]
  rw [e] at hc
  have hrow : fMe .join (fConst (.str "")) (lCons (fComp cs_pcs_0 "k" (fBi .range (lCons (fConst (.int 5)) lNil)) (fIdx (fBin .Add (fVar "signs") (fConst (.str "|"))) (fBin .Mod (fBin .FloorDiv (fVar "cell") (fBin .Pow (fConst (.int 3)) (fVar "k"))) (fConst (.int 3))))) lNil) (bindV ((["cell", "signs"] : List Str).zip [.int c, T s]) noV) H = some (T (rowL c s), H) := by
    refine e_me (a := T []) e_const rfl (l_cons hc l_nil) ?_
    rw [b_join (by rw [sum_ones, List.length_map, rowL_len]; decide), joinL_ones]
  have hsl := splitL_length [124] (rowL c s)
  rw [rowL_len] at hsl
  have hf := e_compIf (scope := cs_pcs_1) (x := "piece") (it := fMe .split (fVar "row") (lCons (fConst (.str "|")) lNil)) (elt := fVar "piece") (c := bCmp .NotEq (fVar "piece") (fConst (.str ""))) (V := setV (bindV ((["cell", "signs"] : List Str).zip [.int c, T s]) noV) "row" (T (rowL c s))) (H := H) (H1 := H) pcsT (fun v => v)
    (e_me (e_var rfl) rfl (l_cons e_const l_nil) (b_split (y := [124]) (by decide) (by decide) (by rw [rowL_len]; decide))) (items_lst (by rw [List.length_map]; (first | lia | omega))) (fun v hv K => by
      obtain ⟨l, _, rfl⟩ := List.mem_map.mp hv
      refine b_cmp (e_var rfl) e_const ?_
      rw [ne_nil]
      show _ = some (!(mkS l).cps.toList.isEmpty)
      rw [mkS_cps]) (fun v hv K => e_var rfl) (fun v hv => by obtain ⟨l, _, rfl⟩ := List.mem_map.mp hv; rfl) (by rw [List.length_map]; (first | lia | omega))
  have e2 : ((((splitL [124] (rowL c s)).map T).filter pcsT).map fun v => v) = (pcsL c s).map T := by
    rw [List.map_id', List.filter_map]
    unfold pcsL
    congr 1
  rw [e2] at hf
  exact runE (K := H) ⟨_, s_seq (s_assign hrow) (s_ret hf)⟩ rfl (List.take_of_length_le (Nat.le_refl _))

theorem run_cnt (over under wide : Nat) (H : PH) (h1 : 0 < under) (h2 : Builtin.Int.intBits (over : Int) ≤ 4000) (h3 : Builtin.Int.intBits (under : Int) ≤ 2000) (hw : 0 < wide) (hw2 : wide ≤ 5000) (h4 : (digs (over / under) wide).length ≤ 5) :
    runF noV ((["over", "under", "wide"] : List Str).zip [.int (over : Int), .int (under : Int), .int (wide : Int)]) g_cnt H = some (.lst (nums (cntL over under wide)), H) := by
  have hb : over / under < 2 ^ 5000 := by
    have h5 := lt_bits over
    exact Nat.lt_of_le_of_lt (Nat.div_le_self _ _) (Nat.lt_of_lt_of_le h5 (Nat.pow_le_pow_right (by decide) (by (first | lia | omega))))
  have hd : F_dmp [.int (over : Int), .int (under : Int)] H = some (.tup [.int ((over / under : Nat) : Int), .int ((over % under : Nat) : Int)], H) := by
    show (if _ then _ else none) = _
    rw [if_pos ⟨by (first | lia | omega), by (first | lia | omega), h2, h3⟩]; rfl
  generalize hds : digs (over / under) wide = ds at h4
  have e : cntL over under wide = (ds ++ List.replicate (5 - ds.length) 0).reverse := by unfold cntL; rw [hds]
  rw [e]
  refine runE (K := H) (v := .lst (nums (ds ++ List.replicate (5 - ds.length) 0).reverse)) ?_ rfl (List.take_of_length_le (Nat.le_refl _))
  apply Exists.intro
  unfold g_cnt
  refine s_seq (s_assign (v := .lst (nums ds)) (e_callF (l_cons (e_idx (v := .int ((over / under : Nat) : Int)) (e_callF (l_cons (e_var rfl) (l_cons (e_var rfl) l_nil)) hd) e_const rfl) (l_cons (e_var rfl) l_nil)) (by rw [← hds]; exact F_i2d_ok hw hw2 hb))) ?_
  have e5 : (5 : Int) - ((nums ds).length : Int) = ((5 - ds.length : Nat) : Int) := by rw [nums_length]; (first | lia | omega)
  refine s_ret (e_rev (a := .lst (nums (ds ++ List.replicate (5 - ds.length) 0))) (e_bin (e_var rfl) (e_bin (e_list (vs := [.int 0]) (l_cons e_const l_nil) rfl (by rw [sl]; decide)) (e_bin (v := .int ((5 - ds.length : Nat) : Int)) e_const (e_bi (l_cons (e_var rfl) l_nil) (b_lenL (by rw [nums_length]; (first | lia | omega)))) (by rw [p_sub, e5])) (p_mull ⟨by (first | lia | omega), by (first | lia | omega), by rw [sl]; simp; (first | lia | omega)⟩)) ?_) ?_)
  · rw [p_addl (by rw [sl, repL_len, nums_length, Int.toNat_natCast]; simp; (first | lia | omega)), nums_append]
    congr 3
    unfold repL nums
    rw [Int.toNat_natCast, List.map_replicate]
    generalize 5 - ds.length = n
    induction n with
    | zero => rfl
    | succ n ih => rw [List.replicate_succ, List.flatten_cons, ih, List.replicate_succ]; rfl
  · show (if _ then some (PVal.lst (nums (ds ++ List.replicate (5 - ds.length) 0)).reverse) else none) = _
    rw [if_pos (by rw [sl, nums_length, List.length_append, List.length_replicate]; (first | lia | omega)), nums_reverse]

theorem run_hld (sign word : List Nat) (many : Nat) (b : Bool) (H : PH) (h : hldP sign many word = some b) (hm : many ≤ 1000) (hs : sign.length ≤ 10) (hw : word.length ≤ 1000) :
    runF noV ((["sign", "many", "word"] : List Str).zip [T sign, .int (many : Int), T word]) g_hld H = some (.bool b, H) := by
  unfold hldP at h
  obtain ⟨b1, h1, h⟩ := Option.bind_eq_some_iff.mp h
  have hl : (repL many (sign ++ dots)).length ≤ 13000 := by
    rw [repL_len]; have : many * (sign ++ dots).length ≤ 1000 * 13 := Nat.mul_le_mul hm (by rw [List.length_append, dots_len]; (first | lia | omega)); (first | lia | omega)
  have hd : (dots ++ repL many (sign ++ dots)).length ≤ 13003 := by rw [List.length_append, dots_len]; (first | lia | omega)
  refine runE (K := H) (v := .bool b) ?_ rfl (List.take_of_length_le (Nat.le_refl _))
  apply Exists.intro
  unfold g_hld
  refine s_seq (s_assign (v := T (dots ++ repL many (sign ++ dots))) (e_bin e_const (e_bin (e_bin (e_var rfl) e_const (p_addT (y := dots) (by rw [dots_len]; (first | lia | omega)))) (e_var rfl) (p_mulT (by (first | lia | omega)) (by have : (sign ++ dots).length * many ≤ 13 * 1000 := Nat.mul_le_mul (by rw [List.length_append, dots_len]; (first | lia | omega)) hm; (first | lia | omega)))) (p_addT (x := dots) (by rw [dots_len]; (first | lia | omega))))) ?_
  refine s_ret (e_and (B := b1) (e_callF (l_cons (e_var rfl) (l_cons (e_var rfl) l_nil)) (F_em_ok h1 (by (first | lia | omega)) (by (first | lia | omega)))) rfl ?_)
  cases b1 with
  | true =>
    rw [if_pos rfl] at h ⊢
    obtain ⟨b2, h2, rfl⟩ := Option.map_eq_some_iff.mp h
    exact e_not (e_callF (l_cons (e_bin (e_bin (e_var rfl) (e_var rfl) (p_addT (by (first | lia | omega)))) e_const (p_addT (y := dots) (by rw [List.length_append, dots_len]; (first | lia | omega)))) (l_cons (e_var rfl) l_nil)) (F_em_ok h2 (by rw [List.length_append, List.length_append, dots_len]; (first | lia | omega)) (by (first | lia | omega)))) rfl
  | false =>
    rw [if_neg (by simp)] at h ⊢
    cases h; rfl
end Mine

end

/- L2b -/
section
open PySem PySem.W PySem.Calls PyProof.Rows
set_option maxRecDepth 100000
namespace Mine

theorem shrink_eq (p seen : List Nat) : shrink p seen = if seen.isPrefixOf p = true then seen else shrink p (seen.drop 1) := by
  cases seen with
  | nil => simp [shrink]
  | cons c r =>
    conv => lhs; unfold shrink
    rfl
theorem shrink_len (p : List Nat) : ∀ seen : List Nat, (shrink p seen).length ≤ seen.length
  | [] => Nat.le_refl _
  | c :: r => by
    unfold shrink
    split
    · exact Nat.le_refl _
    · have := shrink_len p r; simp; (first | lia | omega)

noncomputable def stpWB : BF := bNot (bVal (fMe .startswith (fVar "piece") (lCons (fVar "seen") lNil)))
noncomputable def stpWS : SF := sAssign "seen" (fSlA (fVar "seen") (fConst (.int 1)))
theorem stp_while {p : List Nat} {K : PH} : ∀ (f : Nat) (seen : List Nat) (V : PV), V "piece" = some (T p) → V "seen" = some (T seen) → seen.length < f → seen.length ≤ 1000 →
    ∃ V', whileG stpWB stpWS f V K = some (.next, V', K) ∧ V' "seen" = some (T (shrink p seen)) ∧ V' "start" = V "start"
  | 0, seen, V, _, _, h, _ => by (first | lia | omega)
  | f + 1, seen, V, h1, h2, hf, hl => by
    have hb : stpWB V K = some (!(seen.isPrefixOf p), K) := b_not (b_val (e_me (e_var h1) rfl (l_cons (e_var h2) l_nil) b_starts) rfl)
    unfold whileG
    rw [hb, Option.bind_some, shrink_eq]
    by_cases hp : seen.isPrefixOf p = true
    · rw [if_neg (by simp [hp]), if_pos hp]
      exact ⟨V, rfl, h2, rfl⟩
    · rw [if_pos (by simp [hp]), if_neg hp]
      have hs : stpWS V K = some (.next, setV V "seen" (T (seen.drop 1)), K) := s_assign (e_slA (e_var h2) e_const (sl_from (n := 1) (by (first | lia | omega))))
      rw [hs, Option.bind_some, if_pos rfl]
      have hne : 0 < seen.length := by
        cases seen with
        | nil => exact absurd rfl hp
        | cons c r => simp
      obtain ⟨V', g1, g2, g3⟩ := stp_while (p := p) (K := K) f (seen.drop 1) (setV V "seen" (T (seen.drop 1))) h1 rfl (by rw [List.length_drop]; (first | lia | omega)) (by rw [List.length_drop]; (first | lia | omega))
      exact ⟨V', g1, g2, g3⟩

noncomputable def stpBody : SF := (sSeq (sIf (bCmp .Lt (fVar "place") (fBin .Add (fVar "start") (fBi .len (lCons (fVar "piece") lNil)))) (sSeq (sAssign "seen" (fBin .Add (fSlB (fVar "piece") (fBin .Sub (fVar "place") (fVar "start"))) (fVar "sign")))
  (sSeq (sWhile 12 stpWB stpWS)
  (sRet (fBin .Add (fVar "start") (fBi .len (lCons (fVar "seen") lNil)))))) sNext)
  (sAssign "start" (fBin .Add (fVar "start") (fBi .len (lCons (fVar "piece") lNil)))))

theorem stp_loop {ps : List (List Nat)} {place : Nat} {sign : List Nat} {K : PH} (hps : ∀ p ∈ ps, p.length ≤ 9) (hsg : sign.length = 1) : ∀ (rest : List (List Nat)) (i f start : Nat) (V : PV), rest = ps.drop i → f = rest.length + 1 → i ≤ ps.length → V "place" = some (.int (place : Int)) → V "sign" = some (T sign) → V "start" = some (.int (start : Int)) → start ≤ place →
    (∃ V', forG (valsOf (ps.map T)) "piece" stpBody f i V K = some (.ret (.int ((stepGo place sign rest start : Nat) : Int)), V', K)) ∨ (∃ V', forG (valsOf (ps.map T)) "piece" stpBody f i V K = some (.next, V', K) ∧ V' "place" = some (.int (place : Int)) ∧ stepGo place sign rest start = place)
  | [], i, f, start, V, hr, hf, hi, h1, h2, h3, h4 => by
    subst hf
    have hi2 : i = ps.length := by have := congrArg List.length hr; simp at this; (first | lia | omega)
    refine .inr ⟨V, ?_, h1, rfl⟩
    unfold forG valsOf
    rw [if_pos (by rw [List.length_map]; (first | lia | omega)), Option.bind_some, List.getElem?_eq_none (by rw [List.length_map]; (first | lia | omega))]
  | p :: rest, i, f, start, V, hr, hf, hi, h1, h2, h3, h4 => by
    subst hf
    have hi2 : i < ps.length := by have := congrArg List.length hr; simp at this; (first | lia | omega)
    rw [List.drop_eq_getElem_cons hi2] at hr
    obtain ⟨e1, e2⟩ := List.cons.inj hr
    have hpl : p.length ≤ 9 := by rw [e1]; exact hps _ (List.getElem_mem hi2)
    have eg : (ps.map T)[i]? = some (T p) := by rw [List.getElem?_map, List.getElem?_eq_getElem hi2, ← e1]; rfl
    have hlen : fBin .Add (fVar "start") (fBi .len (lCons (fVar "piece") lNil)) (setV V "piece" (T p)) K = some (.int ((start + p.length : Nat) : Int), K) := e_bin (e_var h3) (e_bi (l_cons (e_var rfl) l_nil) (b_len (by (first | lia | omega)))) q_add
    have hcmp : bCmp .Lt (fVar "place") (fBin .Add (fVar "start") (fBi .len (lCons (fVar "piece") lNil))) (setV V "piece" (T p)) K = some (decide ((place : Int) < ((start + p.length : Nat) : Int)), K) := b_cmp (e_var h1) hlen rfl
    show (∃ V', forG (valsOf (ps.map T)) "piece" stpBody (rest.length + 1 + 1) i V K = _) ∨ (∃ V', forG (valsOf (ps.map T)) "piece" stpBody (rest.length + 1 + 1) i V K = _ ∧ _)
    unfold forG
    unfold valsOf
    rw [if_pos (by rw [List.length_map]; (first | lia | omega)), Option.bind_some, eg]
    dsimp only
    unfold stepGo
    by_cases hc : place < start + p.length
    · rw [if_pos hc]
      left
      have hsl : (place : Int) - (start : Int) = ((place - start : Nat) : Int) := by (first | lia | omega)
      have hseen : (p.take (place - start) ++ sign).length ≤ 10 := by rw [List.length_append, List.length_take, hsg]; (first | lia | omega)
      obtain ⟨V', w1, w2, w3⟩ := stp_while (p := p) (K := K) 12 (p.take (place - start) ++ sign) (setV (setV V "piece" (T p)) "seen" (T (p.take (place - start) ++ sign))) rfl rfl (by (first | lia | omega)) (by (first | lia | omega))
      have hsh := shrink_len p (p.take (place - start) ++ sign)
      have hb : stpBody (setV V "piece" (T p)) K = some (.ret (.int ((start + (shrink p (p.take (place - start) ++ sign)).length : Nat) : Int)), V', K) := by
        unfold stpBody
        refine s_seqr (s_if hcmp ((if_pos (by simpa using (by (first | lia | omega) : (place : Int) < ((start + p.length : Nat) : Int)))).trans ?_))
        refine s_seq (s_assign (e_bin (e_slB (b := .int ((place - start : Nat) : Int)) (e_var rfl) (e_bin (e_var h1) (e_var h3) (by rw [p_sub, hsl])) (sl_upto (by (first | lia | omega)))) (e_var h2) (p_addT (by rw [List.length_append] at hseen; (first | lia | omega))))) ?_
        refine s_seq w1 ?_
        exact s_ret (e_bin (e_var (w3.trans h3)) (e_bi (l_cons (e_var w2) l_nil) (b_len (by (first | lia | omega)))) q_add)
      rw [hb, Option.bind_some, if_pos rfl]
      exact ⟨V', rfl⟩
    · rw [if_neg hc]
      have hb : stpBody (setV V "piece" (T p)) K = some (.next, setV (setV V "piece" (T p)) "start" (.int ((start + p.length : Nat) : Int)), K) := by
        unfold stpBody
        exact s_seq (s_if hcmp ((if_neg (by simpa using (by (first | lia | omega) : ¬ (place : Int) < ((start + p.length : Nat) : Int)))).trans s_next)) (s_assign hlen)
      rw [hb, Option.bind_some, if_pos rfl]
      exact stp_loop hps hsg rest (i + 1) (rest.length + 1) (start + p.length) _ e2 rfl (by (first | lia | omega)) h1 h2 rfl (by (first | lia | omega))

theorem run_stp (ps : List (List Nat)) (place : Nat) (sign : List Nat) (H : PH) (hn : ps.length ≤ 10) (hps : ∀ p ∈ ps, p.length ≤ 9) (hsg : sign.length = 1) :
    runF noV ((["pieces", "place", "sign"] : List Str).zip [.lst (ps.map T), .int (place : Int), T sign]) g_stp H = some (.int ((stepGo place sign ps 0 : Nat) : Int), H) := by
  refine runE (K := H) (v := .int ((stepGo place sign ps 0 : Nat) : Int)) ?_ rfl (List.take_of_length_le (Nat.le_refl _))
  have hit : itemsP (.lst (ps.map T)) = some (ps.map T) := items_lst (by rw [List.length_map]; (first | lia | omega))
  unfold g_stp
  rcases stp_loop (K := H) hps hsg ps 0 (ps.length + 1) 0 (setV (bindV ((["pieces", "place", "sign"] : List Str).zip [.lst (ps.map T), .int (place : Int), T sign]) noV) "start" (.int 0)) (by simp) rfl (by (first | lia | omega)) rfl rfl rfl (by (first | lia | omega)) with ⟨V', h⟩ | ⟨V', h, h1, h2⟩
  · exact ⟨V', s_seq (s_assign e_const) (s_seqr (s_for_val (e_var rfl) hit (by rw [List.length_map]; exact h)))⟩
  · rw [h2]
    exact ⟨V', s_seq (s_assign e_const) (s_seq (s_for_val (e_var rfl) hit (by rw [List.length_map]; exact h)) (s_ret (e_var h1)))⟩

theorem F_stp_ok {ps : List (List Nat)} {place : Nat} {sign : List Nat} {H : PH} (hn : ps.length ≤ 10) (hps : ∀ p ∈ ps, p.length ≤ 9) (hsg : sign.length = 1) : F_stp [.lst (ps.map T), .int (place : Int), T sign] H = some (.int ((stepGo place sign ps 0 : Nat) : Int), H) := by
  show ((strsP (ps.map T)).bind _) = _
  rw [strsP_T, Option.bind_some, if_pos ⟨by (first | lia | omega), by rw [List.length_map]; exact hn, List.all_eq_true.mpr fun s hs => by
    obtain ⟨x, hx, rfl⟩ := List.mem_map.mp hs
    rw [mkS_length]; exact decide_eq_true (hps x hx), by rw [mkS_length]; exact hsg⟩, Int.toNat_natCast, mkS_cps, List.map_map]
  have : (ps.map ((fun s : Str => s.cps.toList) ∘ mkS)) = ps := by
    conv => rhs; rw [← List.map_id ps]
    exact List.map_congr_left fun x _ => mkS_cps x
  rw [this]

theorem joinL_nil : ∀ ps : List (List Nat), joinL [] ps = ps.flatten
  | [] => rfl
  | [p] => by simp [joinL]
  | p :: q :: ps => by
    have := joinL_nil (q :: ps)
    show p ++ [] ++ joinL [] (q :: ps) = _
    rw [this]; simp
noncomputable def movF (ps : List (List Nat)) : PVal → PVal
  | .str x => .lst (nums ((List.range (ps.flatten.length + 1)).map fun place => stepGo place x.cps.toList ps 0))
  | v => v
noncomputable def stpF (ps : List (List Nat)) (c : List Nat) : PVal → PVal
  | .int k => .int ((stepGo k.toNat c ps 0 : Nat) : Int)
  | v => v
theorem flat_len : ∀ ps : List (List Nat), ps.flatten.length = (ps.map List.length).sum
  | [] => rfl
  | p :: ps => by rw [List.flatten_cons, List.length_append, flat_len ps, List.map_cons, List.sum_cons]
theorem sum_le9 : ∀ ps : List (List Nat), (∀ p ∈ ps, p.length ≤ 9) → (ps.map List.length).sum ≤ 9 * ps.length
  | [], _ => Nat.le_refl _
  | p :: ps, h => by
    have h1 := sum_le9 ps fun q hq => h q (.tail _ hq)
    have h2 := h p (.head _)
    rw [List.map_cons, List.sum_cons, List.length_cons]; (first | lia | omega)

theorem run_mov (ps : List (List Nat)) (signs : List Nat) (H : PH) (hn : ps.length ≤ 10) (hps : ∀ p ∈ ps, p.length ≤ 9) (hsg : signs.length ≤ 10) :
    runF noV ((["pieces", "signs"] : List Str).zip [.lst (ps.map T), T signs]) g_mov H = some (.lst ((movL ps signs).map fun l => .lst (nums l)), H) := by
  have hfl := flat_len ps
  have h9 := sum_le9 ps hps
  refine runE (K := H) (v := .lst ((movL ps signs).map fun l => .lst (nums l))) ?_ rfl (List.take_of_length_le (Nat.le_refl _))
  apply Exists.intro
  unfold g_mov
  refine s_seq (s_assign (v := .rng 0 ((ps.flatten.length + 1 : Nat) : Int)) (e_bi (l_cons (e_bin (e_bi (l_cons (e_me (a := T []) e_const rfl (l_cons (e_var rfl) l_nil) (b_join (by rw [List.length_nil, Nat.mul_zero]; (first | lia | omega)))) l_nil) (by rw [joinL_nil]; exact b_len (by (first | lia | omega)))) e_const (q_add (j := 1))) l_nil) rfl)) ?_
  have hc := e_comp1 (scope := cs_mov_0) (x := "sign") (it := fVar "signs") (elt := fComp cs_mov_1 "place" (fVar "places") (fCallF F_stp (lCons (fVar "pieces") (lCons (fVar "place") (lCons (fVar "sign") lNil)))))
    (V := setV (bindV ((["pieces", "signs"] : List Str).zip [.lst (ps.map T), T signs]) noV) "places" (.rng 0 ((ps.flatten.length + 1 : Nat) : Int))) (H := H) (movF ps) (e_var rfl) (items_str (by (first | lia | omega))) (fun v hv K => by
      obtain ⟨c, hc, rfl⟩ := List.mem_map.mp hv
      have hi := e_comp1 (scope := cs_mov_1) (x := "place") (it := fVar "places") (elt := fCallF F_stp (lCons (fVar "pieces") (lCons (fVar "place") (lCons (fVar "sign") lNil))))
        (V := setV (freeV cs_mov_0 (setV (bindV ((["pieces", "signs"] : List Str).zip [.lst (ps.map T), T signs]) noV) "places" (.rng 0 ((ps.flatten.length + 1 : Nat) : Int)))) "sign" (T [c])) (H := K) (stpF ps [c]) (e_var rfl) (items_rng (a := 0) (b := ps.flatten.length + 1) (by (first | lia | omega)) (by (first | lia | omega))) (fun v hv K => by
          obtain ⟨k, hk, rfl⟩ := List.mem_map.mp hv
          rw [Nat.zero_add]
          exact e_callF (l_cons (e_var rfl) (l_cons (e_var rfl) (l_cons (e_var rfl) l_nil))) (F_stp_ok hn hps rfl)) (fun v hv => by
          obtain ⟨k, hk, rfl⟩ := List.mem_map.mp hv; rfl) (by rw [List.length_map, List.length_range]; (first | lia | omega))
      have e : (((List.range (ps.flatten.length + 1 - 0)).map fun (k : Nat) => PVal.int ((0 + k : Nat) : Int)).map (stpF ps [c])) = nums ((List.range (ps.flatten.length + 1)).map fun place => stepGo place [c] ps 0) := by
        unfold nums
        rw [List.map_map, List.map_map, Nat.sub_zero]
        refine List.map_congr_left fun k _ => ?_
        show stpF ps [c] (.int ((0 + k : Nat) : Int)) = _
        unfold stpF
        dsimp only [Function.comp]
        rw [Nat.zero_add, Int.toNat_natCast]
      rw [e] at hi
      exact hi) (fun v hv => by obtain ⟨c, hc, rfl⟩ := List.mem_map.mp hv; rfl) (by rw [List.length_map]; (first | lia | omega))
  have e : (signs.map fun c => T [c]).map (movF ps) = (movL ps signs).map fun l => .lst (nums l) := by
    unfold movL
    rw [List.map_map, List.map_map]; rfl
  rw [e] at hc
  exact s_ret hc
end Mine

end

/- L2c -/
section
open PySem PySem.W PySem.Calls PyProof.Rows
set_option maxRecDepth 100000
namespace Mine

/-- lists of lists of numbers -/
noncomputable def L (l : List Nat) : PVal := .lst (nums l)
theorem natLs_ok : ∀ ls : List (List Nat), natLs (ls.map L) = some ls
  | [] => rfl
  | l :: ls => by
    show ((natsP (nums l)).bind fun ns => (natLs (ls.map L)).map (ns :: ·)) = _
    rw [natsP_ok, natLs_ok ls]; rfl
theorem natLs_of {vs : List PVal} : ∀ {ls : List (List Nat)}, natLs vs = some ls → vs = ls.map L := by
  induction vs with
  | nil => intro ls h; cases h; rfl
  | cons v r ih =>
    intro ls h
    obtain ⟨us, e0, h⟩ := Option.bind_eq_some_iff.mp h
    obtain ⟨ns, e1, h⟩ := Option.bind_eq_some_iff.mp h
    obtain ⟨ms, e2, rfl⟩ := Option.map_eq_some_iff.mp h
    cases v with
    | lst ws =>
      obtain rfl := Option.some.inj e0
      rw [natsP_nums e1, ih e2]; rfl
    | _ => cases e0
theorem idx_L {ls : List (List Nat)} {i : Nat} {l : List Nat} {H : PH} (h : ls[i]? = some l) (hi : i < 1000000) : idxP (.lst (ls.map L)) (.int (i : Int)) H = some (L l) := idx_lst (by rw [List.getElem?_map, h]; rfl) hi
theorem idx_n {l : List Nat} {i : Nat} {n : Nat} {H : PH} (h : l[i]? = some n) (hi : i < 1000000) : idxP (L l) (.int (i : Int)) H = some (.int (n : Int)) := idx_lst (by unfold nums; rw [List.getElem?_map, h]; rfl) hi
theorem b_list {n : Nat} (h : n ≤ 1000000) {H : PH} : biP .list [.rng 0 (n : Int)] H = some (L (List.range n), H) := by
  show (if _ then some (PVal.lst (rngL 0 (n : Int)), H) else none) = _
  rw [if_pos ⟨by (first | lia | omega), by (first | lia | omega), by (first | lia | omega), by (first | lia | omega)⟩]
  unfold rngL L nums
  congr 3
  rw [show ((n : Int) - 0).toNat = n from by (first | lia | omega)]
  exact List.map_congr_left fun k _ => by congr 1; (first | lia | omega)

/-- one image's move -/
noncomputable def mvL (moves : List (List Nat)) (im mv : List Nat) : List Nat := im.foldl (fun mv s => mv.map fun place => (moves.getD s []).getD place 0) mv
theorem groL_eq (moves images : List (List Nat)) : groL moves images = images.map fun im => mvL moves im (List.range (moves.getD 0 []).length) := rfl
structure MovesOk (moves : List (List Nat)) (n : Nat) : Prop where
  two : moves.length = 2
  len : ∀ m ∈ moves, m.length = n
  lt : ∀ m ∈ moves, ∀ p ∈ m, p < n
  n10 : n ≤ 10
noncomputable def pickF (m : List Nat) : PVal → PVal
  | .int k => .int ((m.getD k.toNat 0 : Nat) : Int)
  | v => v

noncomputable def groIn : SF := sAssign "move" (compRun (fVar "move") (stepE cs_gro_0 "place" (fIdx (fIdx (fVar "moves") (fVar "sign")) (fVar "place"))))
theorem gro_in {moves : List (List Nat)} {n s : Nat} {mv : List Nat} {V : PV} {K : PH} (M : MovesOk moves n) (hs : s < 2) (h1 : V "moves" = some (.lst (moves.map L))) (h2 : V "move" = some (L mv)) (hmv : ∀ p ∈ mv, p < n) (hl : mv.length ≤ 10) :
    groIn (setV V "sign" (.int (s : Int))) K = some (.next, setV (setV V "sign" (.int (s : Int))) "move" (L (mv.map fun place => (moves.getD s []).getD place 0)), K) := by
  have hsm : s < moves.length := by rw [M.two]; exact hs
  have es : moves[s]? = some moves[s] := List.getElem?_eq_getElem hsm
  have ed : moves.getD s [] = moves[s] := by rw [List.getD_eq_getElem?_getD, es]; rfl
  have hm : moves[s] ∈ moves := List.getElem_mem hsm
  have hc := e_comp1 (scope := cs_gro_0) (x := "place") (it := fVar "move") (elt := fIdx (fIdx (fVar "moves") (fVar "sign")) (fVar "place")) (V := setV V "sign" (.int (s : Int))) (H := K) (pickF moves[s]) (v := L mv) (vs := nums mv) (e_var h2) (items_lst (by rw [nums_length]; (first | lia | omega))) (fun v hv K => by
    obtain ⟨p, hp, rfl⟩ := List.mem_map.mp hv
    have hpn := hmv p hp
    have hpl : p < moves[s].length := by rw [M.len _ hm]; exact hpn
    have ep : moves[s][p]? = some moves[s][p] := List.getElem?_eq_getElem hpl
    have e : pickF moves[s] (.int (p : Int)) = .int ((moves[s][p] : Nat) : Int) := by
      unfold pickF; dsimp only; rw [Int.toNat_natCast, List.getD_eq_getElem?_getD, ep]; rfl
    rw [e]
    exact e_idx (e_idx (e_var h1) (e_var rfl) (idx_L es (by (first | lia | omega)))) (e_var rfl) (idx_n ep (by have := M.n10; (first | lia | omega)))) (fun v hv => by
      obtain ⟨p, hp, rfl⟩ := List.mem_map.mp hv; rfl) (by rw [nums_length]; (first | lia | omega))
  have e : (nums mv).map (pickF moves[s]) = nums (mv.map fun place => (moves.getD s []).getD place 0) := by
    rw [ed]
    unfold nums
    rw [List.map_map, List.map_map]
    exact List.map_congr_left fun k _ => by
      show pickF moves[s] (.int (k : Int)) = _
      unfold pickF; dsimp only [Function.comp]; rw [Int.toNat_natCast]
  rw [e] at hc
  exact s_assign hc
theorem mvL_ok {moves : List (List Nat)} {n : Nat} (M : MovesOk moves n) : ∀ (im mv : List Nat), (∀ s ∈ im, s < 2) → (∀ p ∈ mv, p < n) → (∀ p ∈ mvL moves im mv, p < n) ∧ (mvL moves im mv).length = mv.length
  | [], mv, _, h => ⟨h, rfl⟩
  | s :: im, mv, hs, h => by
    have hsm : s < moves.length := by rw [M.two]; exact hs s (.head _)
    have ed : moves.getD s [] = moves[s] := by rw [List.getD_eq_getElem?_getD, List.getElem?_eq_getElem hsm]; rfl
    have := mvL_ok M im (mv.map fun place => (moves.getD s []).getD place 0) (fun x hx => hs x (.tail _ hx)) (fun p hp => by
      obtain ⟨k, hk, rfl⟩ := List.mem_map.mp hp
      have hkl : k < moves[s].length := by rw [M.len _ (List.getElem_mem hsm)]; exact h k hk
      rw [ed, List.getD_eq_getElem?_getD, List.getElem?_eq_getElem hkl]
      exact M.lt _ (List.getElem_mem hsm) _ (List.getElem_mem hkl))
    exact ⟨this.1, by rw [show mvL moves (s :: im) mv = mvL moves im (mv.map fun place => (moves.getD s []).getD place 0) from rfl, this.2, List.length_map]⟩

noncomputable def groBody : SF := (sSeq (sAssign "move" (fBi .list (lCons (fBi .range (lCons (fBi .len (lCons (fIdx (fVar "moves") (fConst (.int 0))) lNil)) lNil)) lNil)))
  (sSeq (sFor "sign" (iVal (fVar "image")) groIn)
  (sExpr (fMe .append (fVar "grown") (lCons (fVar "move") lNil)))))

theorem run_gro (moves images : List (List Nat)) (n : Nat) (H : PH) (M : MovesOk moves n) (hl : images.length ≤ 10) (hi : ∀ im ∈ images, im.length ≤ 10 ∧ ∀ s ∈ im, s < 2) :
    runF noV ((["moves", "images"] : List Str).zip [.lst (moves.map L), .lst (images.map L)]) g_gro H = some (.lst ((groL moves images).map L), H) := by
  have h0 : 0 < moves.length := by rw [M.two]; decide
  have e0 : moves[0]? = some moves[0] := List.getElem?_eq_getElem h0
  have hlen0 : moves[0].length = n := M.len _ (List.getElem_mem h0)
  have ed : (moves.getD 0 []).length = n := by rw [List.getD_eq_getElem?_getD, e0]; exact hlen0
  obtain ⟨V', K', hf, hV, _, hK⟩ := forG_vals (x := "image") (body := groBody) (vs := images.map L)
    (fun i V K => V "grown" = some (.ref H.length) ∧ V "moves" = some (.lst (moves.map L)) ∧ K = H ++ [(groL moves (images.take i)).map L]) (fun i v V K hv hP => by
      obtain ⟨h1, h2, rfl⟩ := hP
      have hil : i < images.length := by have := (List.getElem?_eq_some_iff.mp hv).1; simpa using this
      rw [List.getElem?_map, List.getElem?_eq_getElem hil] at hv
      obtain rfl := Option.some.inj hv
      obtain ⟨him, hims⟩ := hi _ (List.getElem_mem hil)
      have n10 := M.n10
      have eK : (H ++ [(groL moves (images.take i)).map L])[H.length]? = some ((groL moves (images.take i)).map L) := by simp
      obtain ⟨V2, K2, w1, w2, w3, w4, w5⟩ := forG_vals (x := "sign") (body := groIn) (vs := nums images[i])
        (fun j V K => K = H ++ [(groL moves (images.take i)).map L] ∧ V "grown" = some (.ref H.length) ∧ V "moves" = some (.lst (moves.map L)) ∧ V "move" = some (L (mvL moves (images[i].take j) (List.range n)))) (fun j v V K hv hP => by
          obtain ⟨rfl, g1, g2, g3⟩ := hP
          have hj : j < images[i].length := by have := (List.getElem?_eq_some_iff.mp hv).1; rwa [nums_length] at this
          rw [nums_get _ j hj] at hv
          obtain rfl := Option.some.inj hv
          have hok := mvL_ok M (images[i].take j) (List.range n) (fun s hs => hims s (List.mem_of_mem_take hs)) (fun p hp => List.mem_range.mp hp)
          refine ⟨_, _, gro_in M (hims _ (List.getElem_mem hj)) g2 g3 hok.1 (by rw [hok.2, List.length_range]; (first | lia | omega)), rfl, rfl, g1, g2, ?_⟩
          rw [List.take_succ_eq_append_getElem hj]
          unfold mvL
          rw [List.foldl_append]; rfl)
        (images[i].length + 1) 0 (setV (setV V "image" (L images[i])) "move" (L (List.range n))) (H ++ [(groL moves (images.take i)).map L]) (by rw [nums_length]; (first | lia | omega)) (by (first | lia | omega)) ⟨rfl, h1, h2, rfl⟩
      rw [nums_length, List.take_of_length_le (Nat.le_refl _)] at w5
      subst w2
      have eS : (H ++ [(groL moves (images.take i)).map L]).set H.length ((groL moves (images.take i)).map L ++ [L (mvL moves images[i] (List.range n))]) = H ++ [(groL moves (images.take (i + 1))).map L] := by
        rw [List.set_append_right _ _ (Nat.le_refl _), Nat.sub_self, List.take_succ_eq_append_getElem hil, groL_eq, groL_eq, List.map_append, List.map_append, ed]; rfl
      refine ⟨V2, H ++ [(groL moves (images.take (i + 1))).map L], ?_, by simp, w3, w4, rfl⟩
      unfold groBody
      refine s_seq (s_assign (e_bi (l_cons (e_bi (l_cons (e_bi (l_cons (e_idx (a := .lst (moves.map L)) (e_var h2) e_const (idx_L (i := 0) e0 (by decide))) l_nil) (b_lenL (by rw [nums_length]; (first | lia | omega)))) l_nil) rfl) l_nil) (by rw [nums_length, hlen0]; exact b_list (by (first | lia | omega))))) ?_
      refine s_seq (s_for_val (v := L images[i]) (e_var rfl) (items_lst (by rw [nums_length]; (first | lia | omega))) (by rw [nums_length]; exact w1)) ?_
      rw [← eS]
      exact s_expr (e_me (e_var w3) rfl (l_cons (e_var w5) l_nil) (b_append eK rfl (by rw [groL_eq, List.length_map, List.length_map, List.length_take]; (first | lia | omega)))))
    (images.length + 1) 0 (setV (bindV ((["moves", "images"] : List Str).zip [.lst (moves.map L), .lst (images.map L)]) noV) "grown" (.ref H.length)) (H ++ [[]]) (by simp) (by (first | lia | omega)) ⟨rfl, rfl, rfl⟩
  rw [List.length_map, List.take_of_length_le (Nat.le_refl _)] at hK
  subst hK
  refine runE (K := H ++ [(groL moves images).map L]) (v := .ref H.length) ?_ (by unfold retV; simp) (by simp)
  refine ⟨V', ?_⟩
  unfold g_gro
  refine s_seq (s_new n_nil) ?_
  refine s_seq (s_for_val (v := .lst (images.map L)) (e_var rfl) (items_lst (by rw [List.length_map]; (first | lia | omega))) (by rw [List.length_map]; exact hf)) ?_
  exact s_ret (e_var hV)
end Mine

end

/- L2d -/
section
open PySem PySem.W PySem.Calls PyProof.Rows
set_option maxRecDepth 100000
namespace Mine

theorem T_of (s : Str) : T s.cps.toList = .str s := by unfold T; rw [mkS_of]
theorem img_run {vs : List PVal} {H : PH} {v : PVal} {H' : PH} (h : F_img vs H = some (v, H')) : vs.length = (["cell"] : List Str).length ∧ runF noV ((["cell"] : List Str).zip vs) g_img H = some (v, H') := by
  unfold F_img at h
  split at h
  · obtain ⟨c, q0, zq0⟩ := Option.bind_eq_some_iff.mp h
    clear h
    have h := zq0
    clear zq0
    obtain rfl := intI_some q0
    cases h; exact ⟨rfl, run_img _ H⟩
  · cases h
theorem pcs_run {vs : List PVal} {H : PH} {v : PVal} {H' : PH} (h : F_pcs vs H = some (v, H')) : vs.length = (["cell", "signs"] : List Str).length ∧ runF noV ((["cell", "signs"] : List Str).zip vs) g_pcs H = some (v, H') := by
  unfold F_pcs at h
  split at h
  · obtain ⟨c, q0, zq0⟩ := Option.bind_eq_some_iff.mp h
    clear h
    have h := zq0
    clear zq0
    obtain rfl := intI_some q0
    obtain ⟨s, q1, zq1⟩ := Option.bind_eq_some_iff.mp h
    clear h
    have h := zq1
    clear zq1
    obtain rfl := strI_some q1
    split at h
    · rename_i hs
      cases h
      have := run_pcs c s.cps.toList (by simpa [Str.length] using hs) H
      rw [T_of] at this
      exact ⟨rfl, this⟩
    · cases h
  · cases h
theorem stp_run {vs : List PVal} {H : PH} {v : PVal} {H' : PH} (h : F_stp vs H = some (v, H')) : vs.length = (["pieces", "place", "sign"] : List Str).length ∧ runF noV ((["pieces", "place", "sign"] : List Str).zip vs) g_stp H = some (v, H') := by
  unfold F_stp at h
  split at h
  · obtain ⟨ps, q0, zq0⟩ := Option.bind_eq_some_iff.mp h
    clear h
    have h := zq0
    clear zq0
    obtain rfl := lstI_some q0
    obtain ⟨place, q1, zq1⟩ := Option.bind_eq_some_iff.mp h
    clear h
    have h := zq1
    clear zq1
    obtain rfl := intI_some q1
    obtain ⟨sign, q2, zq2⟩ := Option.bind_eq_some_iff.mp h
    clear h
    have h := zq2
    clear zq2
    obtain rfl := strI_some q2
    obtain ⟨ss, hss, h⟩ := Option.bind_eq_some_iff.mp h
    split at h
    · rename_i hc
      cases h
      have hps := strsP_of hss
      have := run_stp (ss.map fun s => s.cps.toList) place.toNat sign.cps.toList H (by simpa using hc.2.1) (fun p hp => by
        obtain ⟨s, hs, rfl⟩ := List.mem_map.mp hp
        have := List.all_eq_true.mp hc.2.2.1 s hs
        simpa [Str.length] using of_decide_eq_true this) (by simpa [Str.length] using hc.2.2.2)
      rw [← hps, T_of, Int.toNat_of_nonneg hc.1] at this
      exact ⟨rfl, this⟩
    · cases h
  · cases h
theorem mov_run {vs : List PVal} {H : PH} {v : PVal} {H' : PH} (h : F_mov vs H = some (v, H')) : vs.length = (["pieces", "signs"] : List Str).length ∧ runF noV ((["pieces", "signs"] : List Str).zip vs) g_mov H = some (v, H') := by
  unfold F_mov at h
  split at h
  · obtain ⟨ps, q0, zq0⟩ := Option.bind_eq_some_iff.mp h
    clear h
    have h := zq0
    clear zq0
    obtain rfl := lstI_some q0
    obtain ⟨signs, q1, zq1⟩ := Option.bind_eq_some_iff.mp h
    clear h
    have h := zq1
    clear zq1
    obtain rfl := strI_some q1
    obtain ⟨ss, hss, h⟩ := Option.bind_eq_some_iff.mp h
    split at h
    · rename_i hc
      cases h
      have hps := strsP_of hss
      have := run_mov (ss.map fun s => s.cps.toList) signs.cps.toList H (by simpa using hc.1) (fun p hp => by
        obtain ⟨s, hs, rfl⟩ := List.mem_map.mp hp
        have := List.all_eq_true.mp hc.2.1 s hs
        simpa [Str.length] using of_decide_eq_true this) (by simpa [Str.length] using hc.2.2)
      rw [← hps, T_of] at this
      exact ⟨rfl, this⟩
    · cases h
  · cases h
theorem gro_run {vs : List PVal} {H : PH} {v : PVal} {H' : PH} (h : F_gro vs H = some (v, H')) : vs.length = (["moves", "images"] : List Str).length ∧ runF noV ((["moves", "images"] : List Str).zip vs) g_gro H = some (v, H') := by
  unfold F_gro at h
  split at h
  · obtain ⟨ms, q0, zq0⟩ := Option.bind_eq_some_iff.mp h
    clear h
    have h := zq0
    clear zq0
    obtain rfl := lstI_some q0
    obtain ⟨is, q1, zq1⟩ := Option.bind_eq_some_iff.mp h
    clear h
    have h := zq1
    clear zq1
    obtain rfl := lstI_some q1
    obtain ⟨moves, hm, h⟩ := Option.bind_eq_some_iff.mp h
    obtain ⟨images, hi, h⟩ := Option.bind_eq_some_iff.mp h
    split at h
    · rename_i hc
      obtain ⟨c1, c2, c3, c4, c5⟩ := hc
      cases h
      rw [natLs_of hm, natLs_of hi]
      refine ⟨rfl, run_gro moves images (moves.getD 0 []).length H ⟨c1, fun m hm => ?_, fun m hm p hp => ?_, c3⟩ c2 fun im him => ?_⟩
      · have := List.all_eq_true.mp c4 m hm
        rw [Bool.and_eq_true] at this
        simpa using this.1
      · have := List.all_eq_true.mp c4 m hm
        rw [Bool.and_eq_true] at this
        have := List.all_eq_true.mp this.2 p hp
        simpa [Nat.blt_eq] using this
      · have := List.all_eq_true.mp c5 im him
        rw [Bool.and_eq_true] at this
        refine ⟨by simpa [Nat.ble_eq] using this.1, fun s hs => ?_⟩
        have := List.all_eq_true.mp this.2 s hs
        simpa [Nat.blt_eq] using this
    · cases h
  · cases h
theorem cnt_run {vs : List PVal} {H : PH} {v : PVal} {H' : PH} (h : F_cnt vs H = some (v, H')) : vs.length = (["over", "under", "wide"] : List Str).length ∧ runF noV ((["over", "under", "wide"] : List Str).zip vs) g_cnt H = some (v, H') := by
  unfold F_cnt at h
  split at h
  · obtain ⟨over, q0, zq0⟩ := Option.bind_eq_some_iff.mp h
    clear h
    have h := zq0
    clear zq0
    obtain rfl := intI_some q0
    obtain ⟨under, q1, zq1⟩ := Option.bind_eq_some_iff.mp h
    clear h
    have h := zq1
    clear zq1
    obtain rfl := intI_some q1
    obtain ⟨wide, q2, zq2⟩ := Option.bind_eq_some_iff.mp h
    clear h
    have h := zq2
    clear zq2
    obtain rfl := intI_some q2
    split at h
    · rename_i hc
      obtain ⟨c1, c2, c3, c4, c5, c6, c7⟩ := hc
      cases h
      obtain ⟨over, rfl⟩ := Int.eq_ofNat_of_zero_le c1
      obtain ⟨under, rfl⟩ := Int.eq_ofNat_of_zero_le (Int.le_of_lt c2)
      obtain ⟨wide, rfl⟩ := Int.eq_ofNat_of_zero_le (Int.le_of_lt c3)
      exact ⟨rfl, run_cnt over under wide H (by (first | lia | omega)) c4 c5 (by (first | lia | omega)) (by (first | lia | omega)) c7⟩
    · cases h
  · cases h
theorem hld_run {vs : List PVal} {H : PH} {v : PVal} {H' : PH} (h : F_hld vs H = some (v, H')) : vs.length = (["sign", "many", "word"] : List Str).length ∧ runF noV ((["sign", "many", "word"] : List Str).zip vs) g_hld H = some (v, H') := by
  unfold F_hld at h
  split at h
  · obtain ⟨sign, q0, zq0⟩ := Option.bind_eq_some_iff.mp h
    clear h
    have h := zq0
    clear zq0
    obtain rfl := strI_some q0
    obtain ⟨many, q1, zq1⟩ := Option.bind_eq_some_iff.mp h
    clear h
    have h := zq1
    clear zq1
    obtain rfl := intI_some q1
    obtain ⟨word, q2, zq2⟩ := Option.bind_eq_some_iff.mp h
    clear h
    have h := zq2
    clear zq2
    obtain rfl := strI_some q2
    split at h
    · rename_i hc
      obtain ⟨c1, c2, c3, c4⟩ := hc
      obtain ⟨b, hb, e⟩ := Option.map_eq_some_iff.mp h
      cases e
      obtain ⟨many, rfl⟩ := Int.eq_ofNat_of_zero_le c1
      have := run_hld sign.cps.toList word.cps.toList many b H hb (by (first | lia | omega)) (by simpa [Str.length] using c3) (by simpa [Str.length] using c4)
      rw [T_of, T_of] at this
      exact ⟨rfl, this⟩
    · cases h
  · cases h

theorem back (ps : List (List Nat)) : (ps.map mkS).map (fun s => s.cps.toList) = ps := by
  rw [List.map_map]
  conv => rhs; rw [← List.map_id ps]
  exact List.map_congr_left fun x _ => mkS_cps x
theorem F_pcs_ok {c : Int} {s : List Nat} {H : PH} (hs : s.length = 2) : F_pcs [.int c, T s] H = some (.lst ((pcsL c s).map T), H) := by
  show (if (mkS s).length = 2 then _ else none) = _
  rw [if_pos (by rw [mkS_length]; exact hs), mkS_cps]; rfl
theorem F_mov_ok {ps : List (List Nat)} {sg : List Nat} {H : PH} (hn : ps.length ≤ 10) (hps : ∀ p ∈ ps, p.length ≤ 9) (hsg : sg.length ≤ 10) : F_mov [.lst (ps.map T), T sg] H = some (.lst ((movL ps sg).map L), H) := by
  show ((strsP (ps.map T)).bind _) = _
  rw [strsP_T, Option.bind_some, if_pos ⟨by rw [List.length_map]; exact hn, List.all_eq_true.mpr fun s hs => by
    obtain ⟨x, hx, rfl⟩ := List.mem_map.mp hs
    rw [mkS_length]; exact decide_eq_true (hps x hx), by rw [mkS_length]; exact hsg⟩, mkS_cps, back]; rfl
theorem F_gro_ok {moves images : List (List Nat)} {n : Nat} {H : PH} (M : MovesOk moves n) (hl : images.length ≤ 10) (hi : ∀ im ∈ images, im.length ≤ 10 ∧ ∀ s ∈ im, s < 2) : F_gro [.lst (moves.map L), .lst (images.map L)] H = some (.lst ((groL moves images).map L), H) := by
  show ((natLs (moves.map L)).bind _) = _
  have h0 : 0 < moves.length := by rw [M.two]; decide
  have ed : (moves.getD 0 []).length = n := by rw [List.getD_eq_getElem?_getD, List.getElem?_eq_getElem h0]; exact M.len _ (List.getElem_mem h0)
  rw [natLs_ok, Option.bind_some, natLs_ok, Option.bind_some]
  refine (if_pos ⟨M.two, hl, by rw [ed]; exact M.n10, ?_, ?_⟩).trans rfl
  · rw [ed]
    refine List.all_eq_true.mpr fun m hm => ?_
    rw [Bool.and_eq_true]
    exact ⟨by simpa using M.len m hm, List.all_eq_true.mpr fun p hp => by simpa [Nat.blt_eq] using M.lt m hm p hp⟩
  · refine List.all_eq_true.mpr fun im him => ?_
    rw [Bool.and_eq_true]
    exact ⟨by simpa [Nat.ble_eq] using (hi im him).1, List.all_eq_true.mpr fun s hs => by simpa [Nat.blt_eq] using (hi im him).2 s hs⟩
theorem F_cnt_ok {over under wide : Nat} {H : PH} (h1 : 0 < under) (h2 : over < 2 ^ 4000) (h3 : under < 2 ^ 2000) (hw : 0 < wide) (hw2 : wide ≤ 5000) (h4 : (digs (over / under) wide).length ≤ 5) : F_cnt [.int (over : Int), .int (under : Int), .int (wide : Int)] H = some (L (cntL over under wide), H) := by
  show (if _ then _ else none) = _
  rw [if_pos ⟨by (first | lia | omega), by (first | lia | omega), by (first | lia | omega), bits_leN h2, bits_leN h3, by (first | lia | omega), h4⟩]; rfl
theorem F_hld_ok {sign word : List Nat} {many : Nat} {b : Bool} {H : PH} (h : hldP sign many word = some b) (hm : many ≤ 1000) (hs : sign.length ≤ 10) (hw : word.length ≤ 1000) : F_hld [T sign, .int (many : Int), T word] H = some (.bool b, H) := by
  show (if _ then (hldP (mkS sign).cps.toList many (mkS word).cps.toList).map _ else none) = _
  rw [if_pos ⟨by (first | lia | omega), by (first | lia | omega), by rw [mkS_length]; exact hs, by rw [mkS_length]; exact hw⟩, mkS_cps, mkS_cps, h]; rfl
end Mine

end

/- L2e -/
section
open PySem PySem.W PySem.Calls PyProof.Rows
set_option maxRecDepth 100000
set_option maxHeartbeats 4000000
namespace Mine

noncomputable def cellOf (ns : List Int) (k : Nat) : Int := ([7, 0, 21, 238] : List Int).getD k 0 + ((ns.drop k).take 1).sum
noncomputable def imgs (ns : List Int) : List (List Nat) := [imgL (cellOf ns 0), imgL (cellOf ns 1)]
noncomputable def txOf (sg im : List Nat) : List Nat := im.map fun i => sg.getD i 0
noncomputable def pairsOf (sg : List Nat) (ns : List Int) : List (List Nat) := [[sg.getD 0 0], [46], [sg.getD 1 0], txOf sg (imgL (cellOf ns 1)), [46], txOf sg (imgL (cellOf ns 0))]
noncomputable def patsOf (sg : List Nat) (ns : List Int) : List (List (List Nat)) := [pcsL (cellOf ns 2) sg, pcsL (cellOf ns 3) sg]
noncomputable def grownOf (sg : List Nat) (is : List (List Nat)) : Nat → List (List Nat)
  | 0 => [[sg.getD 0 0], [sg.getD 1 0]]
  | k + 1 => is.map fun im => (im.map fun i => (grownOf sg is k).getD i []).flatten
noncomputable def movesOf (ps : List (List (List Nat))) (sg : List Nat) (is : List (List Nat)) : Nat → List (List (List Nat))
  | 0 => ps.map fun p => movL p sg
  | k + 1 => (movesOf ps sg is k).map fun m => groL m is
noncomputable def LL (m : List (List Nat)) : PVal := .lst (m.map L)
noncomputable def TL (p : List (List Nat)) : PVal := .lst (p.map T)

/-- what the plain law says of a script -/
structure Law2 (ns : List Int) (r U : Nat) (sg : List Nat) (is : List (List Nat)) (ps : List (List (List Nat))) : Prop where
  hr : (ns.sum).fmod 8 = (r : Int)
  sg_ : sgn r 2 = sg
  sl : sg.length = 2
  is_ : imgs ns = is
  ps_ : patsOf sg ns = ps
  iok : ∀ im ∈ is, im.length ≤ 3 ∧ ∀ s ∈ im, s < 2
  U0 : 0 < U
  U1 : U < 2 ^ 2000
  U_ : ((2 ^ (12 + ns.length) : Nat) : Int) * ((2 ^ (12 + ns.length) : Nat) : Int) - ((((imgL (cellOf ns 0)).count 0 : Nat) : Int) + (((imgL (cellOf ns 1)).count 1 : Nat) : Int)) * ((2 ^ (12 + ns.length) : Nat) : Int) + (((imgL (cellOf ns 0)).count 0 : Nat) : Int) * (((imgL (cellOf ns 1)).count 1 : Nat) : Int) - (((imgL (cellOf ns 0)).count 1 : Nat) : Int) * (((imgL (cellOf ns 1)).count 0 : Nat) : Int) = (U : Int)
  f1 : (digs ((2 ^ (12 + ns.length) - (imgL (cellOf ns 1)).count 1) * 2 ^ (5 * (12 + ns.length)) / U) (12 + ns.length)).length ≤ 5
  f2 : (digs ((imgL (cellOf ns 0)).count 1 * 2 ^ (5 * (12 + ns.length)) / U) (12 + ns.length)).length ≤ 5
  c1 : ∀ k < 5, (cntL ((2 ^ (12 + ns.length) - (imgL (cellOf ns 1)).count 1) * 2 ^ (5 * (12 + ns.length))) U (12 + ns.length)).getD k 0 ≤ 1000
  c2 : ∀ k < 5, (cntL ((imgL (cellOf ns 0)).count 1 * 2 ^ (5 * (12 + ns.length))) U (12 + ns.length)).getD k 0 ≤ 1000
  h1 : ∀ k < 5, hldP [sg.getD 0 0] ((cntL ((2 ^ (12 + ns.length) - (imgL (cellOf ns 1)).count 1) * 2 ^ (5 * (12 + ns.length))) U (12 + ns.length)).getD k 0) ((grownOf sg is k).getD 0 []) = some true
  h2 : ∀ k < 5, hldP [sg.getD 1 0] ((cntL ((imgL (cellOf ns 0)).count 1 * 2 ^ (5 * (12 + ns.length))) U (12 + ns.length)).getD k 0) ((grownOf sg is k).getD 0 []) = some true
  em : ∀ k < 5, ∀ n < 2, emP (wantL (ps.getD n [])) ((grownOf sg is k).getD 0 []) = some (decide ((((((movesOf ps sg is k).getD n []).getD 0 []).getD 0 0 : Nat) : Int) = (((((movesOf ps sg is k).getD n []).getD 0 []).length : Nat) : Int) - 1))
  rep : ∀ k < 5, repP 2000 (pairsOf sg ns) ((grownOf sg is k).getD 0 []) = some ((grownOf sg is (k + 1)).getD 0 [])
  rep5 : repP 2000 (repL 5 (pairsOf sg ns)) [sg.getD 0 0] = some ((grownOf sg is 5).getD 0 [])
  gl : ∀ k ≤ 5, (grownOf sg is k).length = 2 ∧ ∀ g ∈ grownOf sg is k, g.length ≤ 500
  ml : ∀ k ≤ 5, (movesOf ps sg is k).length = 2 ∧ ∀ m ∈ movesOf ps sg is k, ∃ n, 0 < n ∧ MovesOk m n
  pl : ∀ p ∈ ps, p.length ≤ 10 ∧ ∀ q ∈ p, q.length ≤ 9

theorem count_nums (l : List Nat) (k : Nat) {H : PH} : biP .lcount [L l, .int (k : Int)] H = some (.int ((l.count k : Nat) : Int), H) := by
  show (intsP (nums l)).map _ = _
  rw [intsP_nums]
  have : (l.map fun (d : Nat) => (d : Int)).count (k : Int) = l.count k := by
    induction l with
    | nil => rfl
    | cons a l ih =>
      rw [List.map_cons, List.count_cons, List.count_cons, ih]
      congr 1
      have : ((a : Int) == (k : Int)) = (a == k) := by
        rw [Bool.eq_iff_iff, beq_iff_eq, beq_iff_eq]; (first | lia | omega)
      rw [this]
  rw [Option.map_some, this]

noncomputable def addF (ns : List Int) : PVal → PVal
  | .int k => .int (cellOf ns k.toNat)
  | v => v
theorem law2_cells {V : PV} {H : PH} {ns : List Int} (h1 : V "script" = some (.lst (ns.map .int))) (h2 : V "base" = some (.lst [.int 7, .int 0, .int 21, .int 238])) (hl : ns.length ≤ 63) :
    compRun (fBi .range (lCons (fConst (.int 4)) lNil)) (stepE cs_law2_0 "k" (fBin .Add (fIdx (fVar "base") (fVar "k")) (fBi .sum (lCons (fSlAB (fVar "script") (fVar "k") (fBin .Add (fVar "k") (fConst (.int 1)))) lNil)))) V H = some (.lst ([cellOf ns 0, cellOf ns 1, cellOf ns 2, cellOf ns 3].map .int), H) := by
  have hc := e_comp1 (scope := cs_law2_0) (x := "k") (it := fBi .range (lCons (fConst (.int 4)) lNil)) (elt := fBin .Add (fIdx (fVar "base") (fVar "k")) (fBi .sum (lCons (fSlAB (fVar "script") (fVar "k") (fBin .Add (fVar "k") (fConst (.int 1)))) lNil))) (V := V) (H := H) (addF ns) (v := .rng 0 ((4 : Nat) : Int)) (e_bi (l_cons e_const l_nil) rfl) (items_rng (a := 0) (by (first | lia | omega)) (by (first | lia | omega))) (fun v hv K => by
    obtain ⟨k, hk, rfl⟩ := List.mem_map.mp hv
    have hk := List.mem_range.mp hk
    rw [Nat.zero_add]
    have e : addF ns (.int (k : Int)) = .int (([7, 0, 21, 238] : List Int).getD k 0 + ((ns.drop k).take 1).sum) := by
      unfold addF; dsimp only; rw [Int.toNat_natCast]; rfl
    rw [e]
    have hb : (([7, 0, 21, 238] : List Int).map PVal.int)[k]? = some (.int (([7, 0, 21, 238] : List Int).getD k 0)) := by
      have : k = 0 ∨ k = 1 ∨ k = 2 ∨ k = 3 := by (first | lia | omega)
      rcases this with rfl | rfl | rfl | rfl <;> rfl
    have hsl : slAB (.lst (ns.map .int)) (.int (k : Int)) (.int ((k + 1 : Nat) : Int)) = some (.lst (((ns.drop k).take 1).map .int)) := by
      show (if _ then some (PVal.lst (((ns.map PVal.int).drop ((k : Int)).toNat).take (((k + 1 : Nat) : Int).toNat - (k : Int).toNat))) else none) = _
      rw [if_pos ⟨by (first | lia | omega), by (first | lia | omega), by rw [Mine.sl, List.length_map]; (first | lia | omega)⟩, Int.toNat_natCast, Int.toNat_natCast, Nat.add_sub_cancel_left, List.map_take, List.map_drop]
    exact e_bin (e_idx (e_var h2) (e_var rfl) (idx_lst hb (by (first | lia | omega)))) (e_bi (l_cons (e_slAB (e_var h1) (e_var rfl) (e_bin (e_var rfl) e_const (q_add (j := 1))) hsl) l_nil) b_sum) p_add) (fun v hv => by
    obtain ⟨k, hk, rfl⟩ := List.mem_map.mp hv; rfl) (by simp)
  exact hc

noncomputable def pickT (sg : List Nat) : PVal → PVal
  | .int k => T [sg.getD k.toNat 0]
  | v => v
noncomputable def txF (sg : List Nat) : PVal → PVal
  | .lst vs => T (vs.map fun v => match v with | .int k => sg.getD k.toNat 0 | _ => 0)
  | v => v
theorem txF_L (sg im : List Nat) : txF sg (L im) = T (txOf sg im) := by
  show T ((nums im).map _) = _
  unfold nums txOf
  rw [List.map_map]; rfl
theorem law2_texts {V : PV} {H : PH} {sg : List Nat} {is : List (List Nat)} (h1 : V "images" = some (LL is)) (h2 : V "signs" = some (T sg)) (hs : sg.length = 2) (hi : ∀ im ∈ is, im.length ≤ 3 ∧ ∀ s ∈ im, s < 2) (hl : is.length ≤ 10) :
    compRun (fVar "images") (stepE cs_law2_2 "image" (fMe .join (fConst (.str "")) (lCons (fComp cs_law2_3 "k" (fVar "image") (fIdx (fVar "signs") (fVar "k"))) lNil))) V H = some (.lst ((is.map (txOf sg)).map T), H) := by
  have hc := e_comp1 (scope := cs_law2_2) (x := "image") (it := fVar "images") (elt := fMe .join (fConst (.str "")) (lCons (fComp cs_law2_3 "k" (fVar "image") (fIdx (fVar "signs") (fVar "k"))) lNil)) (V := V) (H := H) (txF sg) (e_var h1) (items_lst (by rw [List.length_map]; (first | lia | omega))) (fun v hv K => by
    obtain ⟨im, him, rfl⟩ := List.mem_map.mp hv
    obtain ⟨i3, i2⟩ := hi im him
    rw [txF_L]
    have hi := e_comp1 (scope := cs_law2_3) (x := "k") (it := fVar "image") (elt := fIdx (fVar "signs") (fVar "k")) (V := setV (freeV cs_law2_2 V) "image" (L im)) (H := K) (pickT sg) (v := L im) (e_var rfl) (items_lst (by rw [nums_length]; (first | lia | omega))) (fun v hv K => by
      obtain ⟨k, hk, rfl⟩ := List.mem_map.mp hv
      have hk2 : k < sg.length := by rw [hs]; exact i2 k hk
      have e : pickT sg (.int (k : Int)) = T [sg[k]] := by
        unfold pickT; dsimp only; rw [Int.toNat_natCast, List.getD_eq_getElem?_getD, List.getElem?_eq_getElem hk2]; rfl
      rw [e]
      exact e_idx (e_var h2) (e_var rfl) (idx_str (List.getElem?_eq_getElem hk2) (by (first | lia | omega)))) (fun v hv => by
      obtain ⟨k, hk, rfl⟩ := List.mem_map.mp hv; rfl) (by rw [nums_length]; (first | lia | omega))
    have e : (nums im).map (pickT sg) = ((txOf sg im).map fun c => [c]).map T := by
      unfold nums txOf
      rw [List.map_map, List.map_map, List.map_map]; rfl
    rw [e] at hi
    refine e_me (a := T []) e_const rfl (l_cons hi l_nil) ?_
    rw [b_join (by rw [sum_ones]; unfold txOf; rw [List.length_nil, Nat.mul_zero, List.length_map]; (first | lia | omega)), joinL_ones]) (fun v hv => by
      obtain ⟨im, him, rfl⟩ := List.mem_map.mp hv
      rw [txF_L]; rfl) (by rw [List.length_map]; (first | lia | omega))
  have e : (is.map L).map (txF sg) = (is.map (txOf sg)).map T := by
    rw [List.map_map, List.map_map]
    exact List.map_congr_left fun im _ => txF_L sg im
  rw [e] at hc
  exact hc
end Mine

end

/- L2f -/
section
open PySem PySem.W PySem.Calls PyProof.Rows
set_option maxRecDepth 100000
set_option maxHeartbeats 4000000
namespace Mine

theorem compLoop_M {α : Type} {step : PVal → PH → Option PH} {H : PH} {B : Nat} (g h : α → PVal) : ∀ (xs : List α) (acc : List PVal), (∀ a ∈ xs, ∀ acc, acc.length ≤ B → step (g a) (H ++ [acc]) = some (H ++ [acc ++ [h a]])) → acc.length + xs.length ≤ B →
    compLoop step (xs.map g) (H ++ [acc]) = some (H ++ [acc ++ xs.map h])
  | [], acc, _, _ => by simp [compLoop]
  | a :: r, acc, k, hB => by
    rw [List.length_cons] at hB
    rw [List.map_cons]
    unfold compLoop
    rw [k a (.head _) acc (by (first | lia | omega)), Option.bind_some, compLoop_M g h r (acc ++ [h a]) (fun b hb => k b (.tail _ hb)) (by rw [List.length_append, List.length_singleton]; (first | lia | omega)), List.map_cons, List.append_assoc]; rfl
theorem e_compM {α : Type} {scope : Scope} {x : Str} {it elt : EF} {V : PV} {H H1 : PH} {v : PVal} (xs : List α) (g h : α → PVal) (h1 : it V H = some (v, H1)) (h2 : itemsP v = some (xs.map g))
    (h3 : ∀ a ∈ xs, ∀ K, elt (setV (freeV scope V) x (g a)) K = some (h a, K)) (h5 : ∀ a ∈ xs, (h a).isRef = false) (h4 : xs.length ≤ 1000000) : fComp scope x it elt V H = some (.lst (xs.map h), H1) := by
  unfold fComp compRun
  rw [h1, Option.bind_some]
  dsimp only
  rw [h2, Option.bind_some, compLoop_M (B := 1000000) g h xs [] (fun a ha acc hB => by
    unfold stepE
    rw [h3 a ha, Option.bind_some]
    exact appendAt_ok (h5 a ha) (by (first | lia | omega))) (by rw [List.length_nil]; (first | lia | omega)), Option.bind_some]
  simp

section
variable {V : PV} {H : PH} {ns : List Int} {sg : List Nat} {is : List (List Nat)}
theorem law2_images (h1 : V "cells" = some (.lst ([cellOf ns 0, cellOf ns 1, cellOf ns 2, cellOf ns 3].map .int))) : fComp cs_law2_1 "cell" (fSlB (fVar "cells") (fConst (.int 2))) (fCallF F_img (lCons (fVar "cell") lNil)) V H = some (LL (imgs ns), H) :=
  e_compM [cellOf ns 0, cellOf ns 1] .int (fun c => L (imgL c)) (e_slB (e_var h1) e_const (sl_lst (n := 2) (by simp))) (items_lst (by simp)) (fun c hc K => e_callF (l_cons (e_var rfl) l_nil) rfl) (fun c hc => rfl) (by simp)
theorem slA_lst {vs : List PVal} {n : Nat} (h : vs.length ≤ 1000000) : slA (.lst vs) (.int (n : Int)) = some (.lst (vs.drop n)) := by
  show (if (0 : Int) ≤ (n : Int) ∧ vs.length ≤ sizeLine then some (PVal.lst (vs.drop (n : Int).toNat)) else none) = _
  rw [if_pos ⟨by (first | lia | omega), by rw [sl]; (first | lia | omega)⟩, Int.toNat_natCast]
theorem law2_patterns (h1 : V "cells" = some (.lst ([cellOf ns 0, cellOf ns 1, cellOf ns 2, cellOf ns 3].map .int))) (h2 : V "signs" = some (T sg)) (hs : sg.length = 2) : fComp cs_law2_4 "cell" (fSlA (fVar "cells") (fConst (.int 2))) (fCallF F_pcs (lCons (fVar "cell") (lCons (fVar "signs") lNil))) V H = some (.lst ((patsOf sg ns).map TL), H) :=
  e_compM [cellOf ns 2, cellOf ns 3] .int (fun c => TL (pcsL c sg)) (e_slA (e_var h1) e_const (slA_lst (n := 2) (by simp))) (items_lst (by simp)) (fun c hc K => e_callF (l_cons (e_var rfl) (l_cons (e_var h2) l_nil)) (F_pcs_ok hs)) (fun c hc => rfl) (by simp)
theorem law2_moves {ps : List (List (List Nat))} (h1 : V "patterns" = some (.lst (ps.map TL))) (h2 : V "signs" = some (T sg)) (hs : sg.length = 2) (hp : ∀ p ∈ ps, p.length ≤ 10 ∧ ∀ q ∈ p, q.length ≤ 9) (hl : ps.length ≤ 10) :
    fComp cs_law2_5 "pieces" (fVar "patterns") (fCallF F_mov (lCons (fVar "pieces") (lCons (fVar "signs") lNil))) V H = some (.lst ((ps.map fun p => movL p sg).map LL), H) := by
  have := e_compM (scope := cs_law2_5) (x := "pieces") (it := fVar "patterns") (elt := fCallF F_mov (lCons (fVar "pieces") (lCons (fVar "signs") lNil))) (V := V) (H := H) ps TL (fun p => LL (movL p sg)) (e_var h1) (items_lst (by rw [List.length_map]; (first | lia | omega))) (fun p hpm K => e_callF (l_cons (e_var rfl) (l_cons (e_var h2) l_nil)) (F_mov_ok (hp p hpm).1 (hp p hpm).2 (by (first | lia | omega)))) (fun c hc => rfl) (by (first | lia | omega))
  rw [List.map_map]
  exact this
theorem law2_next {ms : List (List (List Nat))} (h1 : V "moves" = some (.lst (ms.map LL))) (h2 : V "images" = some (LL is)) (hi : ∀ im ∈ is, im.length ≤ 3 ∧ ∀ s ∈ im, s < 2) (hl : is.length ≤ 10) (hm : ∀ m ∈ ms, ∃ n, 0 < n ∧ MovesOk m n) (hml : ms.length ≤ 10) :
    fComp cs_law2_9 "move" (fVar "moves") (fCallF F_gro (lCons (fVar "move") (lCons (fVar "images") lNil))) V H = some (.lst ((ms.map fun m => groL m is).map LL), H) := by
  have := e_compM (scope := cs_law2_9) (x := "move") (it := fVar "moves") (elt := fCallF F_gro (lCons (fVar "move") (lCons (fVar "images") lNil))) (V := V) (H := H) ms LL (fun m => LL (groL m is)) (e_var h1) (items_lst (by rw [List.length_map]; (first | lia | omega))) (fun m hmm K => by
    obtain ⟨n, _, M⟩ := hm m hmm
    exact e_callF (l_cons (e_var rfl) (l_cons (e_var h2) l_nil)) (F_gro_ok M hl fun im him => ⟨by have := (hi im him).1; (first | lia | omega), (hi im him).2⟩)) (fun c hc => rfl) (by (first | lia | omega))
  rw [List.map_map]
  exact this
theorem law2_grown {G : List (List Nat)} (h1 : V "grown" = some (TL G)) (h2 : V "images" = some (LL is)) (hi : ∀ im ∈ is, im.length ≤ 3 ∧ ∀ s ∈ im, s < 2) (hl : is.length ≤ 10) (hG : G.length = 2) (hg : ∀ g ∈ G, g.length ≤ 500) :
    fComp cs_law2_7 "image" (fVar "images") (fMe .join (fConst (.str "")) (lCons (fComp cs_law2_8 "sign" (fVar "image") (fIdx (fVar "grown") (fVar "sign"))) lNil)) V H = some (TL (is.map fun im => (im.map fun i => G.getD i []).flatten), H) := by
  have := e_compM (scope := cs_law2_7) (x := "image") (it := fVar "images") (elt := fMe .join (fConst (.str "")) (lCons (fComp cs_law2_8 "sign" (fVar "image") (fIdx (fVar "grown") (fVar "sign"))) lNil)) (V := V) (H := H) is L (fun im => T (im.map fun i => G.getD i []).flatten) (e_var h2) (items_lst (by rw [List.length_map]; (first | lia | omega))) (fun im him K => by
    obtain ⟨i3, i2⟩ := hi im him
    have hc := e_compM (scope := cs_law2_8) (x := "sign") (it := fVar "image") (elt := fIdx (fVar "grown") (fVar "sign")) (V := setV (freeV cs_law2_7 V) "image" (L im)) (H := K) im (fun (i : Nat) => PVal.int (i : Int)) (fun i => T (G.getD i [])) (v := L im) (e_var rfl) (items_lst (by rw [nums_length]; (first | lia | omega))) (fun i hi K => by
      have hiG : i < G.length := by rw [hG]; exact i2 i hi
      refine e_idx (e_var h1) (e_var rfl) (idx_lst ?_ (by (first | lia | omega)))
      rw [List.getElem?_map, List.getElem?_eq_getElem hiG, List.getD_eq_getElem?_getD, List.getElem?_eq_getElem hiG]; rfl) (fun i hi => rfl) (by (first | lia | omega))
    have e : im.map (fun i => T (G.getD i [])) = (im.map fun i => G.getD i []).map T := by rw [List.map_map]; rfl
    rw [e] at hc
    refine e_me (a := T []) e_const rfl (l_cons hc l_nil) ?_
    rw [b_join ?_, joinL_nil]
    rw [List.length_nil, Nat.mul_zero]
    have hb : ∀ im : List Nat, (∀ s ∈ im, s < 2) → ((im.map fun i => G.getD i []).map List.length).sum ≤ 500 * im.length := by
      intro im
      induction im with
      | nil => intro _; exact Nat.le_refl _
      | cons i im ih =>
        intro h
        have h1 := ih fun s hs => h s (.tail _ hs)
        have hiG : i < G.length := by rw [hG]; exact h i (.head _)
        have h2 : (G.getD i []).length ≤ 500 := by
          rw [List.getD_eq_getElem?_getD, List.getElem?_eq_getElem hiG]; exact hg _ (List.getElem_mem hiG)
        rw [List.map_cons, List.map_cons, List.sum_cons, List.length_cons]; (first | lia | omega)
    have := hb im i2
    (first | lia | omega)) (fun c hc => rfl) (by (first | lia | omega))
  unfold TL
  rw [List.map_map]
  exact this
theorem law2_want {p : List (List Nat)} {ps : List (List (List Nat))} {n : Nat} (h1 : V "patterns" = some (.lst (ps.map TL))) (h2 : V "n" = some (.int (n : Int))) (hp : ps[n]? = some p) (hn : n < 10) (hl : p.length ≤ 10) (hq : ∀ q ∈ p, q.length ≤ 9) :
    fBin .Add (fConst (.str "...")) (fMe .join (fConst (.str "")) (lCons (fComp cs_law2_6 "piece" (fIdx (fVar "patterns") (fVar "n")) (fBin .Add (fVar "piece") (fConst (.str "...")))) lNil)) V H = some (T (wantL p), H) := by
  have hc := e_compM (scope := cs_law2_6) (x := "piece") (it := fIdx (fVar "patterns") (fVar "n")) (elt := fBin .Add (fVar "piece") (fConst (.str "..."))) (V := V) (H := H) p T (fun q => T (q ++ dots)) (v := TL p) (e_idx (e_var h1) (e_var h2) (idx_lst (by rw [List.getElem?_map, hp]; rfl) (by (first | lia | omega)))) (items_lst (by rw [List.length_map]; (first | lia | omega))) (fun q hqm K => by
    have := hq q hqm
    exact e_bin (e_var rfl) e_const (p_addT (y := dots) (by rw [dots_len]; (first | lia | omega)))) (fun c hc => rfl) (by (first | lia | omega))
  have e : p.map (fun q => T (q ++ dots)) = (p.map (· ++ dots)).map T := by rw [List.map_map]; rfl
  rw [e] at hc
  have hs : ∀ p : List (List Nat), (∀ q ∈ p, q.length ≤ 9) → ((p.map (· ++ dots)).map List.length).sum ≤ 12 * p.length := by
    intro p
    induction p with
    | nil => intro _; exact Nat.le_refl _
    | cons q p ih =>
      intro h
      have h1 := ih fun s hs => h s (.tail _ hs)
      have h2 := h q (.head _)
      rw [List.map_cons, List.map_cons, List.sum_cons, List.length_cons, List.length_append, dots_len]; (first | lia | omega)
  have hs := hs p hq
  refine e_bin (b := T (p.map (· ++ dots)).flatten) e_const (e_me (a := T []) e_const rfl (l_cons hc l_nil) ?_) (p_addT (x := dots) (by rw [flat_len, dots_len]; (first | lia | omega)))
  rw [b_join (by rw [List.length_nil, Nat.mul_zero]; (first | lia | omega)), joinL_nil]
end
end Mine

end

/- L2g -/
section
open PySem PySem.W PySem.Calls PyProof.Rows
set_option maxRecDepth 100000
set_option maxHeartbeats 4000000
namespace Mine

noncomputable def law2In : SF := (sSeq (sAssign "want" (fBin .Add (fConst (.str "...")) (fMe .join (fConst (.str "")) (lCons (fComp cs_law2_6 "piece" (fIdx (fVar "patterns") (fVar "n")) (fBin .Add (fVar "piece") (fConst (.str "...")))) lNil))))
  (sIf (bCmp .NotEq (fCallF F_em (lCons (fVar "want") (lCons (fVar "word") lNil))) (fCmp .Eq (fIdx (fIdx (fIdx (fVar "moves") (fVar "n")) (fConst (.int 0))) (fConst (.int 0))) (fBin .Sub (fBi .len (lCons (fIdx (fIdx (fVar "moves") (fVar "n")) (fConst (.int 0))) lNil)) (fConst (.int 1))))) (sRet (fConst (.bool false))) sNext))

theorem ne_dec (b : Bool) : cmpP .NotEq (.bool b) (.bool b) = some false := by
  show some (b != b) = _
  simp
theorem want_len (p : List (List Nat)) (hl : p.length ≤ 10) (hq : ∀ q ∈ p, q.length ≤ 9) : (wantL p).length ≤ 200 := by
  unfold wantL
  rw [List.length_append, dots_len, flat_len]
  have : ∀ p : List (List Nat), (∀ q ∈ p, q.length ≤ 9) → ((p.map (· ++ dots)).map List.length).sum ≤ 12 * p.length := by
    intro p
    induction p with
    | nil => intro _; exact Nat.le_refl _
    | cons q p ih =>
      intro h
      have h1 := ih fun s hs => h s (.tail _ hs)
      have h2 := h q (.head _)
      rw [List.map_cons, List.map_cons, List.sum_cons, List.length_cons, List.length_append, dots_len]; (first | lia | omega)
  have := this p hq
  (first | lia | omega)

theorem law2_inner {V0 : PV} {K : PH} {ps ms : List (List (List Nat))} {word : List Nat} (h1 : V0 "patterns" = some (.lst (ps.map TL))) (h2 : V0 "moves" = some (.lst (ms.map LL))) (h3 : V0 "word" = some (T word)) (hw : word.length ≤ 500) (hps : ps.length = 2) (hms : ms.length = 2)
    (hp : ∀ p ∈ ps, p.length ≤ 10 ∧ ∀ q ∈ p, q.length ≤ 9) (hm : ∀ m ∈ ms, ∃ n, 0 < n ∧ MovesOk m n)
    (em : ∀ n < 2, emP (wantL (ps.getD n [])) word = some (decide (((((ms.getD n []).getD 0 []).getD 0 0 : Nat) : Int) = ((((ms.getD n []).getD 0 []).length : Nat) : Int) - 1))) :
    ∃ V', forG (valsOf ((List.range (2 - 0)).map fun (k : Nat) => PVal.int ((0 + k : Nat) : Int))) "n" law2In (2 + 1) 0 V0 K = some (.next, V', K) ∧ ∀ y : Str, y ≠ "n" → y ≠ "want" → V' y = V0 y := by
  obtain ⟨V', K', hl, hK, hfr⟩ := forG_vals (x := "n") (body := law2In) (vs := (List.range (2 - 0)).map fun (k : Nat) => PVal.int ((0 + k : Nat) : Int))
    (fun i V K' => K' = K ∧ ∀ y : Str, y ≠ "n" → y ≠ "want" → V y = V0 y) (fun i v V K' hv hP => by
      obtain ⟨rfl, hfr⟩ := hP
      have hi : i < 2 := by have := (List.getElem?_eq_some_iff.mp hv).1; simpa using this
      have hv' : v = PVal.int (i : Int) := by
        rw [List.getElem?_map, List.getElem?_range (by (first | lia | omega))] at hv
        have := Option.some.inj hv
        rw [← this]; simp
      subst hv'
      have hip : i < ps.length := by (first | lia | omega)
      have him : i < ms.length := by (first | lia | omega)
      have epi : ps[i]? = some ps[i] := List.getElem?_eq_getElem hip
      have emi : ms[i]? = some ms[i] := List.getElem?_eq_getElem him
      obtain ⟨p1, p2⟩ := hp _ (List.getElem_mem hip)
      obtain ⟨n, hn0, M⟩ := hm _ (List.getElem_mem him)
      have h0 : 0 < ms[i].length := by rw [M.two]; decide
      have e0 : ms[i][0]? = some ms[i][0] := List.getElem?_eq_getElem h0
      have hlen : ms[i][0].length = n := M.len _ (List.getElem_mem h0)
      have h00 : 0 < ms[i][0].length := by (first | lia | omega)
      have e00 : ms[i][0][0]? = some ms[i][0][0] := List.getElem?_eq_getElem h00
      have hem := em i hi
      rw [List.getD_eq_getElem?_getD, epi, Option.getD_some, List.getD_eq_getElem?_getD (l := ms), emi, Option.getD_some, List.getD_eq_getElem?_getD (l := ms[i]), e0, Option.getD_some, List.getD_eq_getElem?_getD (l := ms[i][0]), e00, Option.getD_some] at hem
      have n10 := M.n10
      have q1 : ∀ W : PVal, (setV (setV V "n" (.int (i : Int))) "want" W) "moves" = some (.lst (ms.map LL)) := fun W => (hfr "moves" (by decide) (by decide)).trans h2
      have q2 : ∀ W : PVal, (setV (setV V "n" (.int (i : Int))) "want" W) "word" = some (T word) := fun W => (hfr "word" (by decide) (by decide)).trans h3
      have hidx : fIdx (fIdx (fVar "moves") (fVar "n")) (fConst (.int 0)) (setV (setV V "n" (.int (i : Int))) "want" (T (wantL ps[i]))) K' = some (L ms[i][0], K') :=
        e_idx (e_idx (e_var (q1 _)) (e_var rfl) (v := LL ms[i]) (idx_lst (by rw [List.getElem?_map, emi]; rfl) (by (first | lia | omega)))) e_const (idx_L (i := 0) e0 (by decide))
      refine ⟨setV (setV V "n" (.int (i : Int))) "want" (T (wantL ps[i])), K', ?_, rfl, rfl, fun y a b => ?_⟩
      · unfold law2In
        refine s_seq (s_assign (law2_want (ps := ps) (n := i) ((hfr "patterns" (by decide) (by decide)).trans h1) rfl epi (by (first | lia | omega)) p1 p2)) ?_
        have hl1 : fBin .Sub (fBi .len (lCons (fIdx (fIdx (fVar "moves") (fVar "n")) (fConst (.int 0))) lNil)) (fConst (.int 1)) (setV (setV V "n" (.int (i : Int))) "want" (T (wantL ps[i]))) K' = some (.int (((ms[i][0].length : Nat) : Int) - 1), K') := by
          have := e_bin (op := .Sub) (e_bi (l_cons hidx l_nil) (b_lenL (vs := nums ms[i][0]) (by rw [nums_length]; (first | lia | omega)))) (e_const (v := .int 1)) p_sub
          rw [nums_length] at this
          exact this
        have hcmp : fCmp .Eq (fIdx (fIdx (fIdx (fVar "moves") (fVar "n")) (fConst (.int 0))) (fConst (.int 0))) (fBin .Sub (fBi .len (lCons (fIdx (fIdx (fVar "moves") (fVar "n")) (fConst (.int 0))) lNil)) (fConst (.int 1))) (setV (setV V "n" (.int (i : Int))) "want" (T (wantL ps[i]))) K' = some (.bool (decide (((ms[i][0][0] : Nat) : Int) = ((ms[i][0].length : Nat) : Int) - 1)), K') :=
          e_cmp (e_idx hidx e_const (idx_n (i := 0) e00 (by decide))) hl1 rfl
        exact s_if (b_cmp (e_callF (l_cons (e_var rfl) (l_cons (e_var (q2 _)) l_nil)) (F_em_ok hem (by have := want_len _ p1 p2; (first | lia | omega)) (by (first | lia | omega)))) hcmp (ne_dec _)) ((if_neg (by simp)).trans s_next)
      · unfold setV; rw [if_neg b, if_neg a]; exact hfr y a b)
    (2 + 1) 0 V0 K (by simp) (by (first | lia | omega)) ⟨rfl, fun y _ _ => rfl⟩
  subst hK
  exact ⟨V', hl, hfr⟩

noncomputable def law2Body : SF := (sSeq (sIf (bCmp .NotEq (fVar "word") (fIdx (fVar "grown") (fConst (.int 0)))) (sRet (fConst (.bool false))) sNext)
  (sSeq (sIf (bOr (bNot (bVal (fCallF F_hld (lCons (fIdx (fVar "signs") (fConst (.int 0))) (lCons (fIdx (fVar "first") (fVar "k")) (lCons (fVar "word") lNil)))))) (bNot (bVal (fCallF F_hld (lCons (fIdx (fVar "signs") (fConst (.int 1))) (lCons (fIdx (fVar "second") (fVar "k")) (lCons (fVar "word") lNil))))))) (sRet (fConst (.bool false))) sNext)
  (sSeq (sFor "n" (iVal (fBi .range (lCons (fConst (.int 2)) lNil))) law2In)
  (sSeq (sAssign "word" (fCallF F_rep (lCons (fVar "word") (lStar (fVar "pairs") lNil))))
  (sSeq (sAssign "grown" (fComp cs_law2_7 "image" (fVar "images") (fMe .join (fConst (.str "")) (lCons (fComp cs_law2_8 "sign" (fVar "image") (fIdx (fVar "grown") (fVar "sign"))) lNil))))
  (sAssign "moves" (compRun (fVar "moves") (stepE cs_law2_9 "move" (fCallF F_gro (lCons (fVar "move") (lCons (fVar "images") lNil)))))))))))

theorem cntL_len {a b n : Nat} (h : (digs (a / b) n).length ≤ 5) : (cntL a b n).length = 5 := by
  unfold cntL; rw [List.length_reverse, List.length_append, List.length_replicate]; (first | lia | omega)

theorem law2_loop {V0 : PV} {H : PH} {ns : List Int} {r U : Nat} {sg : List Nat} {is : List (List Nat)} {ps : List (List (List Nat))} (F : Law2 ns r U sg is ps) (c1 c2 : List Nat) (e1 : c1 = cntL ((2 ^ (12 + ns.length) - (imgL (cellOf ns 1)).count 1) * 2 ^ (5 * (12 + ns.length))) U (12 + ns.length)) (e2 : c2 = cntL ((imgL (cellOf ns 0)).count 1 * 2 ^ (5 * (12 + ns.length))) U (12 + ns.length))
    (v1 : V0 "signs" = some (T sg)) (v2 : V0 "first" = some (L c1)) (v3 : V0 "second" = some (L c2)) (v4 : V0 "patterns" = some (.lst (ps.map TL))) (v5 : V0 "pairs" = some (TL (pairsOf sg ns))) (v6 : V0 "images" = some (LL is))
    (v7 : V0 "word" = some (T [sg.getD 0 0])) (v8 : V0 "grown" = some (TL (grownOf sg is 0))) (v9 : V0 "moves" = some (.lst ((movesOf ps sg is 0).map LL))) :
    ∃ V', forG (valsOf ((List.range (5 - 0)).map fun (k : Nat) => PVal.int ((0 + k : Nat) : Int))) "k" law2Body (5 + 1) 0 V0 H = some (.next, V', H) ∧ V' "word" = some (T ((grownOf sg is 5).getD 0 [])) ∧ V' "grown" = some (TL (grownOf sg is 5)) ∧ ∀ y : Str, y ≠ "k" → y ≠ "n" → y ≠ "want" → y ≠ "word" → y ≠ "grown" → y ≠ "moves" → V' y = V0 y := by
  have hisl : is.length = 2 := by rw [← F.is_]; rfl
  have hpsl : ps.length = 2 := by rw [← F.ps_]; rfl
  have hc1 : c1.length = 5 := by rw [e1]; exact cntL_len F.f1
  have hc2 : c2.length = 5 := by rw [e2]; exact cntL_len F.f2
  have hsg0 : sg[0]? = some (sg.getD 0 0) := by
    rw [List.getD_eq_getElem?_getD, List.getElem?_eq_getElem (by rw [F.sl]; decide : 0 < sg.length)]; rfl
  have hsg1 : sg[1]? = some (sg.getD 1 0) := by
    rw [List.getD_eq_getElem?_getD, List.getElem?_eq_getElem (by rw [F.sl]; decide : 1 < sg.length)]; rfl
  obtain ⟨V', K', hl, hK, hw, hg, hmv, hfr⟩ := forG_vals (x := "k") (body := law2Body) (vs := (List.range (5 - 0)).map fun (k : Nat) => PVal.int ((0 + k : Nat) : Int))
    (fun k V K => K = H ∧ V "word" = some (T ((grownOf sg is k).getD 0 [])) ∧ V "grown" = some (TL (grownOf sg is k)) ∧ V "moves" = some (.lst ((movesOf ps sg is k).map LL)) ∧ ∀ y : Str, y ≠ "k" → y ≠ "n" → y ≠ "want" → y ≠ "word" → y ≠ "grown" → y ≠ "moves" → V y = V0 y) (fun k v V K hv hP => by
      obtain ⟨rfl, g1, g2, g3, hfr⟩ := hP
      have hk : k < 5 := by have := (List.getElem?_eq_some_iff.mp hv).1; simpa using this
      have hv' : v = PVal.int (k : Int) := by
        rw [List.getElem?_map, List.getElem?_range (by (first | lia | omega))] at hv
        have := Option.some.inj hv
        rw [← this]; simp
      subst hv'
      have w1 : (setV V "k" (.int (k : Int))) "signs" = some (T sg) := (hfr "signs" (by decide) (by decide) (by decide) (by decide) (by decide) (by decide)).trans v1
      have w2 : (setV V "k" (.int (k : Int))) "first" = some (L c1) := (hfr "first" (by decide) (by decide) (by decide) (by decide) (by decide) (by decide)).trans v2
      have w3 : (setV V "k" (.int (k : Int))) "second" = some (L c2) := (hfr "second" (by decide) (by decide) (by decide) (by decide) (by decide) (by decide)).trans v3
      have w4 : (setV V "k" (.int (k : Int))) "patterns" = some (.lst (ps.map TL)) := (hfr "patterns" (by decide) (by decide) (by decide) (by decide) (by decide) (by decide)).trans v4
      have w5 : (setV V "k" (.int (k : Int))) "pairs" = some (TL (pairsOf sg ns)) := (hfr "pairs" (by decide) (by decide) (by decide) (by decide) (by decide) (by decide)).trans v5
      have w6 : (setV V "k" (.int (k : Int))) "images" = some (LL is) := (hfr "images" (by decide) (by decide) (by decide) (by decide) (by decide) (by decide)).trans v6
      have g1 : (setV V "k" (.int (k : Int))) "word" = some (T ((grownOf sg is k).getD 0 [])) := g1
      have g2 : (setV V "k" (.int (k : Int))) "grown" = some (TL (grownOf sg is k)) := g2
      have g3 : (setV V "k" (.int (k : Int))) "moves" = some (.lst ((movesOf ps sg is k).map LL)) := g3
      obtain ⟨gl1, gl2⟩ := F.gl k (by (first | lia | omega))
      obtain ⟨ml1, ml2⟩ := F.ml k (by (first | lia | omega))
      have hG0 : (grownOf sg is k)[0]? = some ((grownOf sg is k).getD 0 []) := by
        rw [List.getD_eq_getElem?_getD, List.getElem?_eq_getElem (by rw [gl1]; decide : 0 < (grownOf sg is k).length)]; rfl
      have hwl : ((grownOf sg is k).getD 0 []).length ≤ 500 := gl2 _ (List.mem_of_getElem? hG0)
      have hk1 : k < c1.length := by (first | lia | omega)
      have hk2 : k < c2.length := by (first | lia | omega)
      have ec1 : c1[k]? = some (c1.getD k 0) := by rw [List.getD_eq_getElem?_getD, List.getElem?_eq_getElem hk1]; rfl
      have ec2 : c2[k]? = some (c2.getD k 0) := by rw [List.getD_eq_getElem?_getD, List.getElem?_eq_getElem hk2]; rfl
      have f1 := F.h1 k hk
      have f2 := F.h2 k hk
      have b1 := F.c1 k hk
      have b2 := F.c2 k hk
      rw [← e1] at f1 b1
      rw [← e2] at f2 b2
      obtain ⟨W, hW, hWf⟩ := law2_inner (V0 := setV V "k" (.int (k : Int))) (K := K) w4 g3 g1 hwl hpsl ml1 F.pl ml2 (fun n hn => F.em k hk n hn)
      have x1 : W "word" = some (T ((grownOf sg is k).getD 0 [])) := (hWf "word" (by decide) (by decide)).trans g1
      have x2 : W "pairs" = some (TL (pairsOf sg ns)) := (hWf "pairs" (by decide) (by decide)).trans w5
      have x3 : W "grown" = some (TL (grownOf sg is k)) := (hWf "grown" (by decide) (by decide)).trans g2
      have x4 : W "images" = some (LL is) := (hWf "images" (by decide) (by decide)).trans w6
      have x5 : W "moves" = some (.lst ((movesOf ps sg is k).map LL)) := (hWf "moves" (by decide) (by decide)).trans g3
      refine ⟨setV (setV (setV W "word" (T ((grownOf sg is (k + 1)).getD 0 []))) "grown" (TL (grownOf sg is (k + 1)))) "moves" (.lst ((movesOf ps sg is (k + 1)).map LL)), K, ?_, rfl, rfl, rfl, rfl, rfl, fun y a1 a2 a3 a4 a5 a6 => ?_⟩
      · unfold law2Body
        refine s_seq (s_if (b_cmp (e_var g1) (e_idx (e_var g2) e_const (v := T ((grownOf sg is k).getD 0 [])) (idx_lst (i := 0) (by rw [List.getElem?_map, hG0]; rfl) (by decide))) (ne_self _)) ((if_neg (by simp)).trans s_next)) ?_
        have hb1 : bNot (bVal (fCallF F_hld (lCons (fIdx (fVar "signs") (fConst (.int 0))) (lCons (fIdx (fVar "first") (fVar "k")) (lCons (fVar "word") lNil))))) (setV V "k" (.int (k : Int))) K = some (false, K) :=
          b_not (b_val (e_callF (l_cons (e_idx (e_var w1) e_const (idx_str (i := 0) hsg0 (by decide))) (l_cons (e_idx (e_var w2) (e_var rfl) (idx_n ec1 (by (first | lia | omega)))) (l_cons (e_var g1) l_nil))) (F_hld_ok f1 b1 (show 1 ≤ 10 by decide) (by (first | lia | omega)))) rfl)
        have hb2 : bNot (bVal (fCallF F_hld (lCons (fIdx (fVar "signs") (fConst (.int 1))) (lCons (fIdx (fVar "second") (fVar "k")) (lCons (fVar "word") lNil))))) (setV V "k" (.int (k : Int))) K = some (false, K) :=
          b_not (b_val (e_callF (l_cons (e_idx (e_var w1) e_const (idx_str (i := 1) hsg1 (by decide))) (l_cons (e_idx (e_var w3) (e_var rfl) (idx_n ec2 (by (first | lia | omega)))) (l_cons (e_var g1) l_nil))) (F_hld_ok f2 b2 (show 1 ≤ 10 by decide) (by (first | lia | omega)))) rfl)
        refine s_seq (s_if (b_or hb1 ((if_neg (by simp)).trans hb2)) ((if_neg (by simp)).trans s_next)) ?_
        refine s_seq (s_for_val (v := .rng 0 ((2 : Nat) : Int)) (e_bi (l_cons e_const l_nil) rfl) (items_rng (a := 0) (by (first | lia | omega)) (by (first | lia | omega))) hW) ?_
        refine s_seq (s_assign (e_callF (l_cons (e_var x1) (l_star (e_var x2) (by rw [sl]; simp [pairsOf]) l_nil)) (by rw [List.append_nil]; exact F_rep_ok (F.rep k hk) (by simp [pairsOf])))) ?_
        refine s_seq (s_assign (law2_grown (G := grownOf sg is k) (is := is) x3 x4 F.iok (by (first | lia | omega)) gl1 gl2)) ?_
        exact s_assign (law2_next (ms := movesOf ps sg is k) (is := is) x5 x4 F.iok (by (first | lia | omega)) ml2 (by (first | lia | omega)))
      · unfold setV
        rw [if_neg a6, if_neg a5, if_neg a4, hWf y a2 a3]
        unfold setV
        rw [if_neg a1]
        exact hfr y a1 a2 a3 a4 a5 a6)
    (5 + 1) 0 V0 H (by simp) (by (first | lia | omega)) ⟨rfl, v7, v8, v9, fun y _ _ _ _ _ _ => rfl⟩
  subst hK
  simp only [List.length_map, List.length_range, Nat.sub_zero] at hw hg
  exact ⟨V', hl, hw, hg, hfr⟩
end Mine

end

/- L2h -/
section
open PySem PySem.W PySem.Calls PyProof.Rows
set_option maxRecDepth 100000
set_option maxHeartbeats 4000000
namespace Mine

theorem eq_selfT (x : List Nat) : cmpP .Eq (T x) (T x) = some true := by
  show some (mkS x == mkS x) = _
  simp
theorem repL_map {α β : Type} (f : α → β) (n : Nat) (l : List α) : repL n (l.map f) = (repL n l).map f := by
  unfold repL
  induction n with
  | zero => rfl
  | succ n ih => rw [List.replicate_succ, List.replicate_succ, List.flatten_cons, List.flatten_cons, List.map_append, ih]

theorem run_law2_of {ns : List Int} (hlen : ns.length ≤ 63) {r U : Nat} {sg : List Nat} {is : List (List Nat)} {ps : List (List (List Nat))} (F : Law2 ns r U sg is ps) (H : PH) :
    runF noV ((["script"] : List Str).zip [.lst (ns.map .int)]) g_law2 H = some (.bool true, H) := by
  obtain ⟨w, hw⟩ : ∃ w, 12 + ns.length = w := ⟨_, rfl⟩
  have hw75 : w ≤ 75 := by (first | lia | omega)
  have hw0 : 0 < w := by (first | lia | omega)
  have hr8 : r < 8 := by
    have h1 := F.hr
    have h2 := Int.fmod_lt_of_pos ns.sum (b := 8) (by decide)
    (first | lia | omega)
  obtain ⟨im0, h0⟩ : ∃ im, imgL (cellOf ns 0) = im := ⟨_, rfl⟩
  obtain ⟨im1, h1⟩ : ∃ im, imgL (cellOf ns 1) = im := ⟨_, rfl⟩
  have his : is = [im0, im1] := by rw [← F.is_, imgs, h0, h1]
  have i0 := F.iok im0 (by rw [his]; exact .head _)
  have i1 := F.iok im1 (by rw [his]; exact .tail _ (.head _))
  obtain ⟨p, hp⟩ : ∃ p, im0.count 0 = p := ⟨_, rfl⟩
  obtain ⟨q, hq⟩ : ∃ q, im0.count 1 = q := ⟨_, rfl⟩
  obtain ⟨r', hr'⟩ : ∃ r, im1.count 0 = r := ⟨_, rfl⟩
  obtain ⟨s, hs⟩ : ∃ s, im1.count 1 = s := ⟨_, rfl⟩
  have p3 : p ≤ 3 := by rw [← hp]; exact Nat.le_trans List.count_le_length i0.1
  have q3 : q ≤ 3 := by rw [← hq]; exact Nat.le_trans List.count_le_length i0.1
  have r3 : r' ≤ 3 := by rw [← hr']; exact Nat.le_trans List.count_le_length i1.1
  have s3 : s ≤ 3 := by rw [← hs]; exact Nat.le_trans List.count_le_length i1.1
  have hU_ := F.U_
  have hf1 := F.f1
  have hf2 := F.f2
  rw [h0, h1, hw, hp, hq, hr', hs] at hU_
  rw [h1, hw, hs] at hf1
  rw [h0, hw, hq] at hf2
  have hB : 2 ^ w < 2 ^ 76 := Nat.pow_lt_pow_right (by decide) (by (first | lia | omega))
  have hB3 : 2 ^ 3 ≤ 2 ^ w := Nat.pow_le_pow_right (by decide) (by (first | lia | omega))
  have bB : Builtin.Int.intBits ((1 * 2 ^ w : Nat) : Int) ≤ 76 := bits_leN (by rw [Nat.one_mul]; exact hB)
  have bp := bits_leN (x := p) (k := 2) (by (first | lia | omega))
  have bq := bits_leN (x := q) (k := 2) (by (first | lia | omega))
  have br := bits_leN (x := r') (k := 2) (by (first | lia | omega))
  have bs := bits_leN (x := s) (k := 2) (by (first | lia | omega))
  have bps := bits_leN (x := p + s) (k := 3) (by (first | lia | omega))
  have h5 : 2 ^ (5 * w) ≤ 2 ^ 375 := Nat.pow_le_pow_right (by decide) (by (first | lia | omega))
  have o1 : (2 ^ w - s) * 2 ^ (5 * w) < 2 ^ 4000 := Nat.lt_of_lt_of_le (Nat.lt_of_le_of_lt (Nat.mul_le_mul (Nat.sub_le _ _) h5) ((Nat.mul_lt_mul_right (Nat.two_pow_pos _)).mpr hB)) (by rw [← Nat.pow_add]; exact Nat.pow_le_pow_right (by decide) (by decide))
  have o2 : q * 2 ^ (5 * w) < 2 ^ 4000 := Nat.lt_of_le_of_lt (Nat.mul_le_mul q3 h5) (Nat.lt_of_lt_of_le ((Nat.mul_lt_mul_right (Nat.two_pow_pos 375)).mpr (by decide : 3 < 2 ^ 2)) (by rw [← Nat.pow_add]; exact Nat.pow_le_pow_right (by decide) (by decide)))
  have hpsl : ps.length = 2 := by rw [← F.ps_]; rfl
  have hsg0 : sg[0]? = some (sg.getD 0 0) := by
    rw [List.getD_eq_getElem?_getD, List.getElem?_eq_getElem (by rw [F.sl]; decide : 0 < sg.length)]; rfl
  have hsg1 : sg[1]? = some (sg.getD 1 0) := by
    rw [List.getD_eq_getElem?_getD, List.getElem?_eq_getElem (by rw [F.sl]; decide : 1 < sg.length)]; rfl
  obtain ⟨C1, hC1⟩ : ∃ C, cntL ((2 ^ w - s) * 2 ^ (5 * w)) U w = C := ⟨_, rfl⟩
  obtain ⟨C2, hC2⟩ : ∃ C, cntL (q * 2 ^ (5 * w)) U w = C := ⟨_, rfl⟩
  let V0 : PV := setV (setV (setV (setV (setV (setV (setV (setV (setV (setV (setV (setV (setV (setV (setV (setV (setV (setV (setV (bindV ((["script"] : List Str).zip [.lst (ns.map .int)]) noV) "signs" (T sg)) "base" (.lst [.int 7, .int 0, .int 21, .int 238])) "cells" (.lst ([cellOf ns 0, cellOf ns 1, cellOf ns 2, cellOf ns 3].map .int))) "images" (LL is)) "texts" (.lst ((is.map (txOf sg)).map T))) "pairs" (TL (pairsOf sg ns))) "wide" (.int (w : Int))) "bound" (.int ((1 * 2 ^ w : Nat) : Int))) "p" (.int (p : Int))) "q" (.int (q : Int))) "r" (.int (r' : Int))) "s" (.int (s : Int))) "under" (.int (U : Int))) "first" (L C1)) "second" (L C2)) "patterns" (.lst (ps.map TL))) "moves" (.lst ((movesOf ps sg is 0).map LL))) "word" (T [sg.getD 0 0])) "grown" (TL (grownOf sg is 0))
  obtain ⟨V', hl, hword, hgrown, hfr⟩ := law2_loop (V0 := V0) (H := H) F C1 C2 (by rw [← hC1, h1, hw, hs]) (by rw [← hC2, h0, hw, hq]) rfl rfl rfl rfl rfl rfl rfl rfl rfl
  refine runE (K := H) (v := .bool true) ?_ rfl (List.take_of_length_le (Nat.le_refl _))
  refine ⟨V', ?_⟩
  unfold g_law2
  refine s_seq (s_assign (v := T sg) (e_slB (a := T ((row ++ row).drop r)) (e_slA (a := T (row ++ row)) (b := .int (r : Int)) (e_bin e_const e_const (p_mulT (i := row) (n := 2) (by decide) (by decide))) (e_bin (e_bi (l_cons (e_var rfl) l_nil) b_sum) e_const (by rw [p_mod (by decide), F.hr])) (sl_from (by decide))) e_const (by rw [← F.sg_]; exact sl_upto (n := 2) (by simp [row]; (first | lia | omega))))) ?_
  refine s_seq (s_assign (e_list (vs := [.int 7, .int 0, .int 21, .int 238]) (l_cons e_const (l_cons e_const (l_cons e_const (l_cons e_const l_nil)))) rfl (by rw [sl]; simp))) ?_
  refine s_seq (s_assign (law2_cells rfl rfl hlen)) ?_
  refine s_seq (s_assign (v := LL is) (by rw [← F.is_]; exact law2_images rfl)) ?_
  refine s_seq (s_assign (law2_texts (is := is) rfl rfl F.sl F.iok (by rw [his]; exact (show 2 ≤ 10 by decide)))) ?_
  refine s_seq (s_assign (v := TL (pairsOf sg ns)) (e_list (vs := (pairsOf sg ns).map T) (l_cons (e_idx (e_var rfl) e_const (idx_str (i := 0) hsg0 (by decide))) (l_cons e_const (l_cons (e_idx (e_var rfl) e_const (idx_str (i := 1) hsg1 (by decide))) (l_cons (e_idx (e_var rfl) e_const (idx_lst (i := 1) (by rw [his, ← h0, ← h1]; rfl) (by decide))) (l_cons e_const (l_cons (e_idx (e_var rfl) e_const (idx_lst (i := 0) (by rw [his, ← h0, ← h1]; rfl) (by decide))) l_nil)))))) rfl (by rw [sl]; simp [pairsOf]))) ?_
  refine s_seq (s_assign (v := .int (w : Int)) (e_bin e_const (e_bi (l_cons (e_var rfl) l_nil) (b_lenL (by rw [List.length_map]; (first | lia | omega)))) (by rw [List.length_map]; exact (q_add (i := 12)).trans (by rw [hw])))) ?_
  refine s_seq (s_assign (e_bin e_const (e_var rfl) (q_shl (i := 1) (by have := bits_leN (x := 1) (k := 1) (by decide); (first | lia | omega))))) ?_
  have ei0 : (is.map L)[0]? = some (L im0) := by rw [his]; rfl
  have ei1 : (is.map L)[1]? = some (L im1) := by rw [his]; rfl
  refine s_seq (s_assign (v := .int (p : Int)) (e_me (e_idx (e_var rfl) e_const (v := L im0) (idx_lst (i := 0) ei0 (by decide))) rfl (l_cons e_const l_nil) (by rw [← hp]; exact count_nums im0 0))) ?_
  refine s_seq (s_assign (v := .int (q : Int)) (e_me (e_idx (e_var rfl) e_const (v := L im0) (idx_lst (i := 0) ei0 (by decide))) rfl (l_cons e_const l_nil) (by rw [← hq]; exact count_nums im0 1))) ?_
  refine s_seq (s_assign (v := .int (r' : Int)) (e_me (e_idx (e_var rfl) e_const (v := L im1) (idx_lst (i := 1) ei1 (by decide))) rfl (l_cons e_const l_nil) (by rw [← hr']; exact count_nums im1 0))) ?_
  refine s_seq (s_assign (v := .int (s : Int)) (e_me (e_idx (e_var rfl) e_const (v := L im1) (idx_lst (i := 1) ei1 (by decide))) rfl (l_cons e_const l_nil) (by rw [← hs]; exact count_nums im1 1))) ?_
  refine s_seq (s_assign (v := .int (U : Int)) (e_bin (e_bin (e_bin (e_bin (e_var rfl) (e_var rfl) (q_mul (by (first | lia | omega)))) (e_bin (e_bin (e_var rfl) (e_var rfl) q_add) (e_var rfl) (q_mul (by (first | lia | omega)))) p_sub) (e_bin (e_var rfl) (e_var rfl) (q_mul (by (first | lia | omega)))) p_add) (e_bin (e_var rfl) (e_var rfl) (q_mul (by (first | lia | omega)))) ?_)) ?_
  · rw [p_sub]
    congr 2
    rw [← hU_, Nat.one_mul]
    simp only [Int.natCast_mul, Int.natCast_add]
  have hsub : ((1 * 2 ^ w : Nat) : Int) - (s : Int) = ((2 ^ w - s : Nat) : Int) := by rw [Nat.one_mul]; (first | lia | omega)
  have b5 := bits_leN (x := 5) (k := 3) (by decide)
  have bw := bits_leN (x := w) (k := 7) (by (first | lia | omega))
  have bsub : Builtin.Int.intBits ((2 ^ w - s : Nat) : Int) ≤ 76 := bits_leN (by (first | lia | omega))
  refine s_seq (s_assign (v := L C1) (e_callF (l_cons (e_bin (a := .int ((2 ^ w - s : Nat) : Int)) (e_bin (e_var rfl) (e_var rfl) (by rw [p_sub, hsub])) (e_bin e_const (e_var rfl) (q_mul (i := 5) (by (first | lia | omega)))) (q_shl (by (first | lia | omega)))) (l_cons (e_var rfl) (l_cons (e_var rfl) l_nil))) (by rw [← hC1]; exact F_cnt_ok F.U0 o1 F.U1 hw0 (by (first | lia | omega)) hf1))) ?_
  refine s_seq (s_assign (v := L C2) (e_callF (l_cons (e_bin (e_var rfl) (e_bin e_const (e_var rfl) (q_mul (i := 5) (by (first | lia | omega)))) (q_shl (by (first | lia | omega)))) (l_cons (e_var rfl) (l_cons (e_var rfl) l_nil))) (by rw [← hC2]; exact F_cnt_ok F.U0 o2 F.U1 hw0 (by (first | lia | omega)) hf2))) ?_
  refine s_seq (s_assign (v := .lst (ps.map TL)) (by rw [← F.ps_]; exact law2_patterns rfl rfl F.sl)) ?_
  refine s_seq (s_assign (law2_moves (ps := ps) rfl rfl F.sl F.pl (by (first | lia | omega)))) ?_
  refine s_seq (s_assign (e_idx (e_var rfl) e_const (idx_str (i := 0) hsg0 (by decide)))) ?_
  refine s_seq (s_assign (v := TL (grownOf sg is 0)) (e_list (vs := (grownOf sg is 0).map T) (l_cons (e_idx (e_var rfl) e_const (idx_str (i := 0) hsg0 (by decide))) (l_cons (e_idx (e_var rfl) e_const (idx_str (i := 1) hsg1 (by decide))) l_nil)) rfl (by rw [sl]; simp [grownOf]))) ?_
  refine s_seq (s_for_val (v := .rng 0 ((5 : Nat) : Int)) (e_bi (l_cons e_const l_nil) rfl) (items_rng (a := 0) (by (first | lia | omega)) (by (first | lia | omega))) hl) ?_
  obtain ⟨gl1, gl2⟩ := F.gl 5 (by (first | lia | omega))
  have hG0 : (grownOf sg is 5)[0]? = some ((grownOf sg is 5).getD 0 []) := by
    rw [List.getD_eq_getElem?_getD, List.getElem?_eq_getElem (by rw [gl1]; decide : 0 < (grownOf sg is 5).length)]; rfl
  have hpl5 : (repL 5 (pairsOf sg ns)).length = 30 := by rw [repL_len]; rfl
  have g1 : V' "signs" = some (T sg) := hfr "signs" (by decide) (by decide) (by decide) (by decide) (by decide) (by decide)
  have g2 : V' "pairs" = some (TL (pairsOf sg ns)) := hfr "pairs" (by decide) (by decide) (by decide) (by decide) (by decide) (by decide)
  have e1 : fCmp .Eq (fVar "word") (fIdx (fVar "grown") (fConst (.int 0))) V' H = some (.bool true, H) := e_cmp (e_var hword) (e_idx (e_var hgrown) e_const (v := T ((grownOf sg is 5).getD 0 [])) (idx_lst (i := 0) (by rw [List.getElem?_map, hG0]; rfl) (by decide))) (eq_selfT _)
  have e2 : fBin .Mult (fVar "pairs") (fConst (.int 5)) V' H = some (.lst ((repL 5 (pairsOf sg ns)).map T), H) := by
    refine e_bin (e_var g2) e_const ?_
    rw [← repL_map]
    exact p_mull (j := 5) ⟨by decide, by decide, by rw [sl]; simp [pairsOf]⟩
  have e3 : fCmp .Eq (fCallF F_rep (lCons (fIdx (fVar "signs") (fConst (.int 0))) (lStar (fBin .Mult (fVar "pairs") (fConst (.int 5))) lNil))) (fVar "word") V' H = some (.bool true, H) :=
    e_cmp (e_callF (l_cons (e_idx (e_var g1) e_const (idx_str (i := 0) hsg0 (by decide))) (l_star e2 (by rw [sl, List.length_map, hpl5]; decide) l_nil)) (by rw [List.append_nil]; exact F_rep_ok F.rep5 (by rw [hpl5]; decide))) (e_var hword) (eq_selfT _)
  exact s_ret (e_and e1 rfl ((if_pos rfl).trans e3))
end Mine

end

/- P1b -/
section
open PySem PySem.W PySem.Calls PyProof.Rows
set_option maxRecDepth 100000
namespace Mine

end Mine

end

/- P1c -/
section
open PySem PySem.W PySem.Calls PyProof.Rows
set_option maxRecDepth 100000
namespace Mine

section
variable {f : Nat → Nat}
end

theorem digN_valN (n : Nat) : ∀ ds : List Nat, (∀ d ∈ ds, d < 2 ^ n) → digN n (valN n ds) ds.length = ds
  | [], _ => rfl
  | d :: ds, h => by
    have hd := h d (.head _)
    rw [List.length_cons, valN, digN, Nat.add_mul_mod_self_left, Nat.mod_eq_of_lt hd, Nat.add_mul_div_left _ _ (Nat.two_pow_pos n), Nat.div_eq_of_lt hd, Nat.zero_add, digN_valN n ds fun x hx => h x (.tail _ hx)]
end Mine

end

/- P1d -/
section
open PySem PySem.W PySem.Calls PyProof.Rows
set_option maxRecDepth 100000
namespace Mine

/-- the signs are apart and no dots -/
theorem sgn_ok : ∀ m, m = 2 ∨ m = 3 → ∀ r, r < 8 → (sgn r m).length = m ∧ (sgn r m).all (fun a => a != 46 && decide (a < 256)) = true ∧ (sgn r m).Nodup := by
  intro m hm r hr
  have : ∀ m ∈ [2, 3], ∀ r ∈ List.range 8, (sgn r m).length = m ∧ (sgn r m).all (fun a => a != 46 && decide (a < 256)) = true ∧ (sgn r m).Nodup := by decide
  exact this m (by rcases hm with rfl | rfl <;> simp) r (List.mem_range.mpr hr)
noncomputable def sf (r m : Nat) : Nat → Nat := fun i => (sgn r m).getD i 0
theorem sf_inj {m r : Nat} (hm : m = 2 ∨ m = 3) (hr : r < 8) : ∀ a < m, ∀ b < m, sf r m a = sf r m b → a = b := by
  intro a ha b hb e
  obtain ⟨h1, _, h3⟩ := sgn_ok m hm r hr
  unfold sf at e
  rw [List.getD_eq_getElem?_getD, List.getD_eq_getElem?_getD, List.getElem?_eq_getElem (by (first | lia | omega)), List.getElem?_eq_getElem (by (first | lia | omega)), Option.getD_some, Option.getD_some] at e
  exact (List.getElem_inj h3).mp e
theorem sf_ok {m r : Nat} (hm : m = 2 ∨ m = 3) (hr : r < 8) : ∀ a < m, sf r m a ≠ 46 ∧ sf r m a < 256 := by
  intro a ha
  obtain ⟨h1, h2, _⟩ := sgn_ok m hm r hr
  unfold sf
  rw [List.getD_eq_getElem?_getD, List.getElem?_eq_getElem (by (first | lia | omega)), Option.getD_some]
  have := List.all_eq_true.mp h2 _ (List.getElem_mem (by (first | lia | omega) : a < (sgn r m).length))
  simpa using this
theorem sgn_map {m r : Nat} (hm : m = 2 ∨ m = 3) (hr : r < 8) : sgn r m = (List.range m).map (sf r m) := by
  obtain ⟨h1, _, _⟩ := sgn_ok m hm r hr
  apply List.ext_getElem
  · simp [h1]
  · intro i hi _
    rw [List.getElem_map, List.getElem_range]
    unfold sf
    rw [List.getD_eq_getElem?_getD, List.getElem?_eq_getElem hi, Option.getD_some]

end Mine

end

/- P2a -/
section
open PySem PySem.W PySem.Calls PyProof.Rows
set_option maxRecDepth 100000
namespace Mine

theorem shrink_app (p : List Nat) (c : Nat) : ∀ u : List Nat, shrink p (shrink p u ++ [c]) = shrink p (u ++ [c])
  | [] => rfl
  | d :: u => by
    conv => lhs; arg 2; arg 1; unfold shrink
    by_cases h : (d :: u).isPrefixOf p = true
    · rw [if_pos h]
    · rw [if_neg h, shrink_app p c u]
      conv => rhs; rw [List.cons_append]; unfold shrink
      rw [if_neg]
      intro q
      apply h
      rw [List.isPrefixOf_iff_prefix] at q ⊢
      rw [← List.cons_append] at q
      exact (List.prefix_append _ _).trans q
theorem shrink_suf (p : List Nat) : ∀ u : List Nat, shrink p u <:+ u
  | [] => List.suffix_refl _
  | d :: u => by
    unfold shrink
    split
    · exact List.suffix_refl _
    · exact (shrink_suf p u).trans (List.suffix_cons d u)
theorem shrink_pre (p : List Nat) : ∀ u : List Nat, shrink p u <+: p
  | [] => List.nil_prefix
  | d :: u => by
    unfold shrink
    split
    · rename_i h; exact List.isPrefixOf_iff_prefix.mp h
    · exact shrink_pre p u
theorem shrink_full {p : List Nat} (hp : p ≠ []) : ∀ {u : List Nat}, p <:+ u → shrink p u = p
  | [], h => absurd (List.suffix_nil.mp h) hp
  | d :: u, h => by
    unfold shrink
    by_cases q : (d :: u).isPrefixOf p = true
    · rw [if_pos q]
      have := (List.isPrefixOf_iff_prefix.mp q).length_le
      exact (h.eq_of_length_le this).symm
    · rw [if_neg q]
      rcases List.suffix_cons_iff.mp h with e | e
      · exact absurd (by rw [← e]; exact List.isPrefixOf_iff_prefix.mpr (List.prefix_refl _)) q
      · exact shrink_full hp e
theorem shrink_lt {p u : List Nat} (h : ¬ p <:+ u) : (shrink p u).length < p.length := by
  have h1 := (shrink_pre p u).length_le
  rcases Nat.lt_or_ge (shrink p u).length p.length with q | q
  · exact q
  · exfalso
    have := (shrink_pre p u).eq_of_length (by (first | lia | omega))
    exact h (this ▸ shrink_suf p u)

/-- reading on -/
noncomputable def runS (ps : List (List Nat)) : Nat → List Nat → Nat
  | x, [] => x
  | x, c :: t => runS ps (stepGo x [c] ps 0) t
noncomputable def fa (p : List Nat) : List Nat → List Nat → Option (List Nat)
  | _, [] => none
  | u, c :: t => if p.isSuffixOf (u ++ [c]) = true then some t else fa p (u ++ [c]) t

theorem step_shift (sign : List Nat) : ∀ (ps : List (List Nat)) (x start d : Nat), stepGo (x + d) sign ps (start + d) = stepGo x sign ps start + d
  | [], _, _, _ => rfl
  | p :: ps, x, start, d => by
    unfold stepGo
    by_cases h : x < start + p.length
    · rw [if_pos (by (first | lia | omega)), if_pos h, show x + d - (start + d) = x - start from by (first | lia | omega)]; (first | lia | omega)
    · rw [if_neg (by (first | lia | omega)), if_neg h, show start + d + p.length = (start + p.length) + d from by (first | lia | omega), step_shift sign ps]
theorem runS_shift (p : List Nat) (ps : List (List Nat)) : ∀ (t : List Nat) (x : Nat), runS (p :: ps) (x + p.length) t = runS ps x t + p.length
  | [], _ => rfl
  | c :: t, x => by
    have e : stepGo (x + p.length) [c] (p :: ps) 0 = stepGo x [c] ps 0 + p.length := by
      conv => lhs; unfold stepGo
      rw [if_neg (by (first | lia | omega))]
      exact step_shift [c] ps x 0 p.length
    show runS (p :: ps) (stepGo (x + p.length) [c] (p :: ps) 0) t = runS ps (stepGo x [c] ps 0) t + p.length
    rw [e, runS_shift p ps t]
theorem runS_fa (p : List Nat) (ps : List (List Nat)) (hp : p ≠ []) : ∀ (t u : List Nat), (shrink p u).length < p.length → match fa p u t with
    | none => runS (p :: ps) (shrink p u).length t < p.length
    | some t' => runS (p :: ps) (shrink p u).length t = runS ps 0 t' + p.length
  | [], u, h => h
  | c :: t, u, h => by
    have e : stepGo (shrink p u).length [c] (p :: ps) 0 = (shrink p (u ++ [c])).length := by
      unfold stepGo
      rw [if_pos (by (first | lia | omega)), Nat.sub_zero, Nat.zero_add, ← List.prefix_iff_eq_take.mp (shrink_pre p u), shrink_app]
    unfold fa
    by_cases q : p.isSuffixOf (u ++ [c]) = true
    · rw [if_pos q]
      show runS (p :: ps) (stepGo (shrink p u).length [c] (p :: ps) 0) t = _
      rw [e, shrink_full hp (List.isSuffixOf_iff_suffix.mp q)]
      have := runS_shift p ps t 0
      rwa [Nat.zero_add] at this
    · rw [if_neg q]
      have hl := shrink_lt fun z => q (List.isSuffixOf_iff_suffix.mpr z)
      have ih := runS_fa p ps hp t (u ++ [c]) hl
      have e2 : runS (p :: ps) (shrink p u).length (c :: t) = runS (p :: ps) (shrink p (u ++ [c])).length t := by
        show runS (p :: ps) (stepGo (shrink p u).length [c] (p :: ps) 0) t = _
        rw [e]
      rw [e2]
      exact ih

theorem findR_none {p : List Nat} : ∀ {x : List Nat}, p ≠ [] → ¬ p <:+: x → findR p x = none
  | [], hp, _ => by
    unfold findR
    rw [if_neg (by cases p with | nil => exact absurd rfl hp | cons _ _ => simp [List.isPrefixOf])]
  | c :: x, hp, h => by
    unfold findR
    rw [if_neg (fun q => h (List.isPrefixOf_iff_prefix.mp q).isInfix)]
    exact findR_none hp fun q => h (q.trans (List.suffix_cons c x).isInfix)
theorem findR_some {p t : List Nat} : ∀ {a : List Nat}, (∀ a' b', a' ++ p ++ b' = a ++ p ++ t → a.length ≤ a'.length) → findR p (a ++ p ++ t) = some t
  | [], _ => by
    rw [List.nil_append]
    have hpre : p.isPrefixOf (p ++ t) = true := List.isPrefixOf_iff_prefix.mpr (List.prefix_append _ _)
    cases e : p ++ t with
    | nil =>
      obtain ⟨rfl, rfl⟩ := List.append_eq_nil_iff.mp e
      rfl
    | cons c r =>
      unfold findR
      rw [← e, if_pos hpre, List.drop_left' rfl]
  | d :: a, h => by
    rw [List.cons_append, List.cons_append]
    unfold findR
    rw [if_neg]
    · refine findR_some fun a' b' e => ?_
      have := h (d :: a') b' (by rw [List.cons_append, List.cons_append, e]; rfl)
      simpa using this
    · intro q
      obtain ⟨s, e⟩ := List.isPrefixOf_iff_prefix.mp q
      have := h [] s (by rw [List.nil_append, e]; rfl)
      simp at this
theorem findR_fa (p : List Nat) (hp : p ≠ []) : ∀ (t u : List Nat), ¬ p <:+: u → findR p (u ++ t) = fa p u t
  | [], u, h => by rw [List.append_nil]; exact findR_none hp h
  | c :: t, u, h => by
    unfold fa
    by_cases q : p.isSuffixOf (u ++ [c]) = true
    · rw [if_pos q]
      obtain ⟨a, e⟩ := List.isSuffixOf_iff_suffix.mp q
      have e2 : u ++ c :: t = a ++ p ++ t := by rw [e]; simp
      rw [e2]
      refine findR_some fun a' b' e3 => ?_
      rcases Nat.lt_or_ge a'.length a.length with z | z
      · exfalso
        -- the finding ends within u
        have hl : (a' ++ p).length ≤ u.length := by
          have := congrArg List.length e
          simp at this ⊢; (first | lia | omega)
        have h4 : a' ++ p <+: u ++ c :: t := by rw [e2, ← e3]; exact List.prefix_append _ _
        have h5 : a' ++ p <+: u := List.prefix_of_prefix_length_le h4 (List.prefix_append _ _) hl
        exact h ((List.suffix_append a' p).isInfix.trans h5.isInfix)
      · exact z
    · rw [if_neg q, show u ++ c :: t = (u ++ [c]) ++ t from by simp]
      refine findR_fa p hp t (u ++ [c]) fun z => ?_
      obtain ⟨a, b, e⟩ := z
      rcases List.eq_nil_or_concat b with rfl | ⟨b', d, rfl⟩
      · rw [List.append_nil] at e
        exact q (List.isSuffixOf_iff_suffix.mpr ⟨a, e⟩)
      · rw [List.concat_eq_append, ← List.append_assoc] at e
        have := (List.append_inj' e rfl).1
        exact h ⟨a, b', this⟩

/-- the automaton reads through just where the pieces lie one behind the other -/
theorem emL_run : ∀ (ps : List (List Nat)) (t : List Nat), (∀ p ∈ ps, p ≠ []) → emL ps t = decide (runS ps 0 t = ps.flatten.length)
  | [], t, _ => by
    have : ∀ t : List Nat, runS [] 0 t = 0 := by
      intro t
      induction t with
      | nil => rfl
      | cons c t ih => exact ih
    rw [this]; rfl
  | p :: ps, t, h => by
    have hp := h p (.head _)
    have h0 : (shrink p []).length < p.length := List.length_pos_iff.mpr hp
    have hr := runS_fa p ps hp t [] h0
    have hf := findR_fa p hp t [] (fun q => hp (List.infix_nil.mp q))
    rw [List.nil_append] at hf
    have e0 : (shrink p []).length = 0 := rfl
    rw [e0] at hr
    unfold emL
    rw [hf, List.flatten_cons, List.length_append]
    cases e : fa p [] t with
    | none =>
      rw [e] at hr
      have hr : runS (p :: ps) 0 t < p.length := hr
      exact (decide_eq_false (by (first | lia | omega))).symm
    | some t' =>
      rw [e] at hr
      have hr : runS (p :: ps) 0 t = runS ps 0 t' + p.length := hr
      show emL ps t' = _
      rw [emL_run ps t' fun q hq => h q (.tail _ hq), hr]
      congr 1
      exact propext ⟨fun z => by (first | lia | omega), fun z => by (first | lia | omega)⟩
end Mine

end

/- P2b -/
section
open PySem PySem.W PySem.Calls PyProof.Rows
set_option maxRecDepth 100000
namespace Mine

/-- the grown words by their signs' numbers -/
noncomputable def HI (is : List (List Nat)) : Nat → Nat → List Nat
  | 0, i => [i]
  | k + 1, i => (is.getD i []).flatMap (HI is k)
theorem HI_succ (is : List (List Nat)) : ∀ (k i : Nat), HI is (k + 1) i = (HI is k i).flatMap fun j => is.getD j []
  | 0, i => by
    show (is.getD i []).flatMap (fun j => [j]) = [i].flatMap fun j => is.getD j []
    simp
  | k + 1, i => by
    show (is.getD i []).flatMap (HI is (k + 1)) = ((is.getD i []).flatMap (HI is k)).flatMap fun j => is.getD j []
    rw [List.flatMap_assoc]
    congr 1
    funext j
    exact HI_succ is k j
section
variable {is : List (List Nat)} (hi : ∀ im ∈ is, im.length ≤ 3 ∧ ∀ s ∈ im, s < 2) (h2 : is.length = 2)
include hi h2
theorem is_at {i : Nat} (h : i < 2) : is.getD i [] ∈ is := by
  rw [List.getD_eq_getElem?_getD, List.getElem?_eq_getElem (by (first | lia | omega))]; exact List.getElem_mem _
theorem HI_lt : ∀ (k i : Nat), i < 2 → ∀ a ∈ HI is k i, a < 2
  | 0, i, h, a, ha => by rw [List.mem_singleton.mp ha]; exact h
  | k + 1, i, h, a, ha => by
    obtain ⟨j, hj, ha⟩ := List.mem_flatMap.mp ha
    exact HI_lt k j ((hi _ (is_at hi h2 h)).2 j hj) a ha
theorem HI_len : ∀ (k i : Nat), i < 2 → (HI is k i).length ≤ 3 ^ k
  | 0, i, h => Nat.le_refl _
  | k + 1, i, h => by
    have hm := hi _ (is_at hi h2 h)
    have : ∀ l : List Nat, (∀ s ∈ l, s < 2) → (l.flatMap (HI is k)).length ≤ 3 ^ k * l.length := by
      intro l
      induction l with
      | nil => intro _; simp
      | cons s l ih =>
        intro hs
        have h1 := ih fun x hx => hs x (.tail _ hx)
        have h3 := HI_len k s (hs s (.head _))
        rw [List.flatMap_cons, List.length_append, List.length_cons, Nat.mul_add, Nat.mul_one]; (first | lia | omega)
    have h4 := this _ hm.2
    have h5 : 3 ^ k * (is.getD i []).length ≤ 3 ^ k * 3 := Nat.mul_le_mul_left _ hm.1
    rw [Nat.pow_succ]
    show ((is.getD i []).flatMap (HI is k)).length ≤ _
    (first | lia | omega)
end
theorem count_flat (c : Nat) (g : Nat → List Nat) : ∀ l : List Nat, (∀ s ∈ l, s < 2) → (l.flatMap g).count c = l.count 0 * (g 0).count c + l.count 1 * (g 1).count c
  | [], _ => by simp
  | s :: l, h => by
    have hs := h s (.head _)
    rw [List.flatMap_cons, List.count_append, count_flat c g l fun x hx => h x (.tail _ hx), List.count_cons, List.count_cons]
    have : s = 0 ∨ s = 1 := by (first | lia | omega)
    rcases this with rfl | rfl
    · simp [Nat.add_mul]; (first | lia | omega)
    · simp [Nat.add_mul]; (first | lia | omega)

noncomputable def ab (p q r s : Nat) : Nat → Nat × Nat
  | 0 => (1, 0)
  | k + 1 => ((ab p q r s k).1 * p + (ab p q r s k).2 * r, (ab p q r s k).1 * q + (ab p q r s k).2 * s)
theorem HI_count {im0 im1 : List Nat} (hi : ∀ im ∈ [im0, im1], im.length ≤ 3 ∧ ∀ s ∈ im, s < 2) : ∀ k, (HI [im0, im1] k 0).count 0 = (ab (im0.count 0) (im0.count 1) (im1.count 0) (im1.count 1) k).1 ∧ (HI [im0, im1] k 0).count 1 = (ab (im0.count 0) (im0.count 1) (im1.count 0) (im1.count 1) k).2
  | 0 => ⟨rfl, rfl⟩
  | k + 1 => by
    obtain ⟨e1, e2⟩ := HI_count hi k
    have hlt := HI_lt hi rfl k 0 (by decide)
    rw [HI_succ, count_flat _ _ _ hlt, count_flat _ _ _ hlt, e1, e2]
    exact ⟨rfl, rfl⟩

/-- one sign is changed for a word -/
theorem sub_go (c : Nat) (b : List Nat) : ∀ (t cur : List Nat), joinL b (splitGo [c] 0 cur t) = cur.reverse ++ t.flatMap fun x => if x = c then b else [x]
  | [], cur => by unfold splitGo; simp [joinL]
  | d :: t, cur => by
    unfold splitGo
    by_cases h : d = c
    · subst h
      rw [if_pos (by simp [List.isPrefixOf]), List.length_singleton, joinL_cons _ _ _ (split_ne _ _ _), sub_go d b t []]
      simp
    · rw [if_neg (by simp [List.isPrefixOf]; exact fun q => h q.symm), sub_go c b t (d :: cur)]
      simp [h]
theorem sub_eq (c : Nat) (b t : List Nat) : joinL b (splitL [c] t) = t.flatMap fun x => if x = c then b else [x] := sub_go c b t []
theorem cnt_one (c : Nat) (t : List Nat) : cnt [c] t = t.count c := by
  have : ∀ t cur : List Nat, (splitGo [c] 0 cur t).length = 1 + t.count c := by
    intro t
    induction t with
    | nil => intro cur; unfold splitGo; rfl
    | cons d t ih =>
      intro cur
      unfold splitGo
      by_cases h : d = c
      · subst h
        rw [if_pos (by simp [List.isPrefixOf]), List.length_singleton, List.length_cons, ih [], List.count_cons_self]; (first | lia | omega)
      · rw [if_neg (by simp [List.isPrefixOf]; exact fun q => h q.symm), ih (d :: cur), List.count_cons_of_ne h]
  unfold cnt splitL
  rw [this t []]; (first | lia | omega)

theorem flatMap_len (g : Nat → List Nat) (M : Nat) : ∀ l : List Nat, (∀ x ∈ l, (g x).length ≤ M) → (l.flatMap g).length ≤ M * l.length
  | [], _ => by simp
  | x :: l, h => by
    have h1 := flatMap_len g M l fun y hy => h y (.tail _ hy)
    have h2 := h x (.head _)
    rw [List.flatMap_cons, List.length_append, List.length_cons, Nat.mul_add, Nat.mul_one]; (first | lia | omega)

/-- the three pairs -/
theorem rep_pairs {a b : Nat} {ta tb t : List Nat} (hab : a ≠ b) (ha : a ≠ 46) (hb : b ≠ 46) (ha2 : a < 256) (hb2 : b < 256) (hta : ta.length ≤ 3) (htb : tb.length ≤ 3) (htb2 : ∀ x ∈ tb, x ≠ 46) (ht : ∀ x ∈ t, x = a ∨ x = b) (hl : t.length ≤ 200) :
    repP 2000 [[a], [46], [b], tb, [46], ta] t = some (t.flatMap fun x => if x = a then ta else tb) := by
  have l1 : (t.flatMap fun x => if x = a then [46] else [x]).length ≤ 1 * t.length := flatMap_len _ 1 t fun x _ => by split <;> simp
  have l2 : ((t.flatMap fun x => if x = a then [46] else [x]).flatMap fun x => if x = b then tb else [x]).length ≤ 3 * (t.flatMap fun x => if x = a then [46] else [x]).length := flatMap_len _ 3 _ fun x _ => by
    split
    · exact htb
    · simp
  unfold repP
  rw [if_pos ⟨by simp, by simp [ha2], by (first | lia | omega), by simp⟩, sub_eq]
  unfold repP
  rw [if_pos ⟨by simp, by simp [hb2], by (first | lia | omega), by (first | lia | omega)⟩, sub_eq]
  unfold repP
  rw [if_pos ⟨by simp, by decide, by (first | lia | omega), by (first | lia | omega)⟩, sub_eq]
  unfold repP
  rw [List.flatMap_assoc, List.flatMap_assoc]
  congr 1
  have : ∀ t : List Nat, (∀ x ∈ t, x = a ∨ x = b) → (t.flatMap fun x => (if x = a then [46] else [x]).flatMap fun x => (if x = b then tb else [x]).flatMap fun x => if x = 46 then ta else [x]) = t.flatMap fun x => if x = a then ta else tb := by
    intro t
    induction t with
    | nil => intro _; rfl
    | cons x t ih =>
      intro h
      rw [List.flatMap_cons, List.flatMap_cons, ih fun y hy => h y (.tail _ hy)]
      congr 1
      rcases h x (.head _) with rfl | rfl
      · rw [if_pos rfl, if_pos rfl]
        simp [Ne.symm hb]
      · rw [if_neg (Ne.symm hab), if_neg (Ne.symm hab)]
        simp only [List.flatMap_cons, List.flatMap_nil, List.append_nil, if_true]
        have : ∀ l : List Nat, (∀ x ∈ l, x ≠ 46) → (l.flatMap fun x => if x = 46 then ta else [x]) = l := by
          intro l
          induction l with
          | nil => intro _; rfl
          | cons y l ih => intro h; rw [List.flatMap_cons, ih fun z hz => h z (.tail _ hz), if_neg (h y (.head _))]; rfl
        exact this tb htb2
  exact this t ht
theorem repP_app (M : Nat) : ∀ (n : Nat) (xs ys : List (List Nat)) (t : List Nat), xs.length = 2 * n → repP M (xs ++ ys) t = (repP M xs t).bind (repP M ys)
  | 0, xs, ys, t, h => by
    have : xs = [] := List.length_eq_zero_iff.mp (by (first | lia | omega))
    subst this; rfl
  | n + 1, [], _, _, h => by simp at h
  | n + 1, [_], _, _, h => by simp at h; (first | lia | omega)
  | n + 1, a :: b :: xs, ys, t, h => by
    rw [List.cons_append, List.cons_append]
    unfold repP
    split
    · exact repP_app M n xs ys _ (by simp at h; (first | lia | omega))
    · rfl

/-- the moves -/
theorem step_le (sign : List Nat) (hs : sign.length = 1) : ∀ (ps : List (List Nat)) (x start : Nat), x ≤ start + ps.flatten.length → stepGo x sign ps start ≤ start + ps.flatten.length
  | [], x, start, h => h
  | p :: ps, x, start, h => by
    unfold stepGo
    rw [List.flatten_cons, List.length_append] at h ⊢
    split
    · have := (shrink_pre p (p.take (x - start) ++ sign)).length_le; (first | lia | omega)
    · have := step_le sign hs ps x (start + p.length) (by (first | lia | omega)); (first | lia | omega)
theorem runS_le (ps : List (List Nat)) : ∀ (t : List Nat) (x : Nat), x ≤ ps.flatten.length → runS ps x t ≤ ps.flatten.length
  | [], x, h => h
  | c :: t, x, h => runS_le ps t _ (by have := step_le [c] rfl ps x 0 (by (first | lia | omega)); (first | lia | omega))
theorem runS_app (ps : List (List Nat)) : ∀ (t u : List Nat) (x : Nat), runS ps x (t ++ u) = runS ps (runS ps x t) u
  | [], _, _ => rfl
  | c :: t, u, x => runS_app ps t u _

noncomputable def moveAt (p : List (List Nat)) (is : List (List Nat)) (f : Nat → Nat) (k i : Nat) : List Nat := (List.range (p.flatten.length + 1)).map fun x => runS p x ((HI is k i).map f)
theorem mvL_run {p is : List (List Nat)} {f : Nat → Nat} {k : Nat} {m : List (List Nat)} (hm : ∀ s < 2, m.getD s [] = moveAt p is f k s) : ∀ (im w : List Nat), (∀ s ∈ im, s < 2) →
    mvL m im ((List.range (p.flatten.length + 1)).map fun x => runS p x w) = (List.range (p.flatten.length + 1)).map fun x => runS p x (w ++ (im.flatMap (HI is k)).map f)
  | [], w, _ => by simp [mvL]
  | s :: im, w, h => by
    have e : (((List.range (p.flatten.length + 1)).map fun x => runS p x w).map fun y => (m.getD s []).getD y 0) = (List.range (p.flatten.length + 1)).map fun x => runS p x (w ++ (HI is k s).map f) := by
      rw [List.map_map]
      refine List.map_congr_left fun x hx => ?_
      have hx := List.mem_range.mp hx
      have hle := runS_le p w x (by (first | lia | omega))
      show (m.getD s []).getD (runS p x w) 0 = _
      rw [hm s (h s (.head _)), runS_app]
      unfold moveAt
      rw [List.getD_eq_getElem?_getD, List.getElem?_map, List.getElem?_range (by (first | lia | omega))]; rfl
    show mvL m im (((List.range (p.flatten.length + 1)).map fun x => runS p x w).map fun y => (m.getD s []).getD y 0) = _
    rw [e, mvL_run hm im _ fun x hx => h x (.tail _ hx)]
    refine List.map_congr_left fun x _ => ?_
    rw [List.flatMap_cons, List.map_append, List.append_assoc]
theorem movesOf_eq {im0 im1 : List Nat} {f : Nat → Nat} (hi : ∀ im ∈ [im0, im1], im.length ≤ 3 ∧ ∀ s ∈ im, s < 2) (ps : List (List (List Nat))) : ∀ k, movesOf ps [f 0, f 1] [im0, im1] k = ps.map fun p => [moveAt p [im0, im1] f k 0, moveAt p [im0, im1] f k 1]
  | 0 => rfl
  | k + 1 => by
    unfold movesOf
    rw [movesOf_eq hi ps k, List.map_map]
    refine List.map_congr_left fun p _ => ?_
    show groL [moveAt p [im0, im1] f k 0, moveAt p [im0, im1] f k 1] [im0, im1] = _
    have hm : ∀ s < 2, ([moveAt p [im0, im1] f k 0, moveAt p [im0, im1] f k 1] : List (List Nat)).getD s [] = moveAt p [im0, im1] f k s := fun s hs => by
      have : s = 0 ∨ s = 1 := by (first | lia | omega)
      rcases this with rfl | rfl <;> rfl
    have hl : (([moveAt p [im0, im1] f k 0, moveAt p [im0, im1] f k 1] : List (List Nat)).getD 0 []).length = p.flatten.length + 1 := by
      show (moveAt p [im0, im1] f k 0).length = _
      unfold moveAt; rw [List.length_map, List.length_range]
    rw [groL_eq, hl]
    have h0 := mvL_run hm im0 [] (hi im0 (.head _)).2
    have h1 := mvL_run hm im1 [] (hi im1 (.tail _ (.head _))).2
    have er : (List.range (p.flatten.length + 1)).map (fun x => runS p x []) = List.range (p.flatten.length + 1) := List.map_id' _
    rw [er] at h0 h1
    show [mvL _ im0 _, mvL _ im1 _] = _
    rw [h0, h1]; rfl
theorem grownOf_eq {im0 im1 : List Nat} {f : Nat → Nat} (hi : ∀ im ∈ [im0, im1], im.length ≤ 3 ∧ ∀ s ∈ im, s < 2) : ∀ k, grownOf [f 0, f 1] [im0, im1] k = [(HI [im0, im1] k 0).map f, (HI [im0, im1] k 1).map f]
  | 0 => rfl
  | k + 1 => by
    unfold grownOf
    rw [grownOf_eq hi k]
    have : ∀ im : List Nat, (∀ s ∈ im, s < 2) → (im.map fun i => ([(HI [im0, im1] k 0).map f, (HI [im0, im1] k 1).map f] : List (List Nat)).getD i []).flatten = (im.flatMap (HI [im0, im1] k)).map f := by
      intro im
      induction im with
      | nil => intro _; rfl
      | cons s im ih =>
        intro h
        have hs := h s (.head _)
        rw [List.map_cons, List.flatten_cons, ih fun x hx => h x (.tail _ hx), List.flatMap_cons, List.map_append]
        have : s = 0 ∨ s = 1 := by (first | lia | omega)
        rcases this with rfl | rfl <;> rfl
    refine Eq.trans (b := [(im0.map fun i => ([(HI [im0, im1] k 0).map f, (HI [im0, im1] k 1).map f] : List (List Nat)).getD i []).flatten, (im1.map fun i => ([(HI [im0, im1] k 0).map f, (HI [im0, im1] k 1).map f] : List (List Nat)).getD i []).flatten]) rfl ?_
    exact congr (congrArg List.cons (this im0 (hi im0 (.head _)).2)) (congrArg (fun z => [z]) (this im1 (hi im1 (.tail _ (.head _))).2))
end Mine

end

/- P2c -/
section
open PySem PySem.W PySem.Calls PyProof.Rows
set_option maxRecDepth 100000
namespace Mine

noncomputable def l5 (f : Nat → Nat) : List Nat := [f 4, f 3, f 2, f 1, f 0]
noncomputable def chk2b (B U A1 A2 v1 v2 D : Nat) : Bool := Nat.blt D (U + D) && Nat.ble (v1 * U) A1 && Nat.blt A1 ((v1 + 1) * U) && Nat.ble (v2 * U) A2 && Nat.blt A2 ((v2 + 1) * U) && Nat.blt U (2 ^ 2000) && Nat.ble 4096 B
noncomputable def chk2a (p q r s w B : Nat) : Bool := chk2b B (B * B + p * s - ((p + s) * B + q * r)) ((B - s) * 2 ^ (5 * w)) (q * 2 ^ (5 * w)) (valN w (l5 fun k => (ab p q r s k).1)) (valN w (l5 fun k => (ab p q r s k).2)) ((p + s) * B + q * r) && Nat.blt ((p + s) * B + q * r) (B * B + p * s)
noncomputable def chk2 (p q r s : Nat) : Bool := (List.range 64).all (fun l => chk2a p q r s (12 + l) (2 ^ (12 + l))) && (List.range 5).all fun k => Nat.ble (ab p q r s k).1 1000 && Nat.ble (ab p q r s k).2 1000
noncomputable def pq : List (Nat × Nat) := [(1, 0), (0, 1), (2, 0), (1, 1), (0, 2), (3, 0), (2, 1), (1, 2), (0, 3)]
noncomputable def chkR (p q : Nat) : Bool := pq.all fun x => chk2 p q x.1 x.2
theorem two0 : chkR 1 0 = true := by decide +kernel
theorem two1 : chkR 0 1 = true := by decide +kernel
theorem two2 : chkR 2 0 = true := by decide +kernel
theorem two3 : chkR 1 1 = true := by decide +kernel
theorem two4 : chkR 0 2 = true := by decide +kernel
theorem two5 : chkR 3 0 = true := by decide +kernel
theorem two6 : chkR 2 1 = true := by decide +kernel
theorem two7 : chkR 1 2 = true := by decide +kernel
theorem two8 : chkR 0 3 = true := by decide +kernel
theorem two_all : ∀ x ∈ pq, chkR x.1 x.2 = true := by
  intro x hx
  simp only [pq, List.mem_cons, List.not_mem_nil, or_false] at hx
  rcases hx with rfl | rfl | rfl | rfl | rfl | rfl | rfl | rfl | rfl
  · exact two0
  · exact two1
  · exact two2
  · exact two3
  · exact two4
  · exact two5
  · exact two6
  · exact two7
  · exact two8
theorem pq_mem {p q : Nat} (h1 : 1 ≤ p + q) (h3 : p + q ≤ 3) : (p, q) ∈ pq := by
  have hp : p = 0 ∨ p = 1 ∨ p = 2 ∨ p = 3 := by (first | lia | omega)
  have hq : q = 0 ∨ q = 1 ∨ q = 2 ∨ q = 3 := by (first | lia | omega)
  rcases hp with rfl | rfl | rfl | rfl <;> rcases hq with rfl | rfl | rfl | rfl <;> first | (exfalso; (first | lia | omega)) | decide

theorem digN_zero (n : Nat) : ∀ m, digN n 0 m = List.replicate m 0
  | 0 => rfl
  | m + 1 => by rw [digN, Nat.zero_mod, Nat.zero_div, digN_zero n m, List.replicate_succ]
theorem pad_digs {n : Nat} (hn : 0 < n) {ds : List Nat} (h : ∀ d ∈ ds, d < 2 ^ n) : (digs (valN n ds) n).length ≤ ds.length ∧ digs (valN n ds) n ++ List.replicate (ds.length - (digs (valN n ds) n).length) 0 = ds := by
  have hx := valN_lt n ds h
  have hd := digN_valN n ds h
  generalize valN n ds = x at hx hd
  have hk : ndig x n ≤ ds.length := by
    have hb := bits_leN hx
    unfold ndig
    generalize Builtin.Int.intBits (x : Int) = b at hb
    have : (b + n - 1) / n < ds.length + 1 := by
      rw [Nat.div_lt_iff_lt_mul hn, Nat.add_mul, Nat.one_mul, Nat.mul_comm ds.length n]; (first | lia | omega)
    (first | lia | omega)
  have hl : (digs x n).length = ndig x n := digN_length n _ x
  have hlt := ndig_ok x n hn
  refine ⟨by (first | lia | omega), ?_⟩
  rw [hl]
  obtain ⟨m, hm⟩ : ∃ m, ds.length = ndig x n + m := ⟨ds.length - ndig x n, by (first | lia | omega)⟩
  rw [hm, digN_add, Nat.mod_eq_of_lt hlt, Nat.div_eq_of_lt hlt, digN_zero] at hd
  rw [hm, Nat.add_sub_cancel_left]
  exact hd
theorem cntL_eq {A U w : Nat} (hw : 0 < w) {ds : List Nat} (hl : ds.length = 5) (h : ∀ d ∈ ds, d < 2 ^ w) (hd : A / U = valN w ds) : (digs (A / U) w).length ≤ 5 ∧ cntL A U w = ds.reverse := by
  obtain ⟨h1, h2⟩ := pad_digs hw h
  rw [hl] at h1 h2
  unfold cntL
  rw [hd]
  exact ⟨h1, congrArg List.reverse h2⟩
theorem l5_get (f : Nat → Nat) : ∀ k < 5, (l5 f).reverse.getD k 0 = f k := by
  intro k hk
  have : k = 0 ∨ k = 1 ∨ k = 2 ∨ k = 3 ∨ k = 4 := by (first | lia | omega)
  rcases this with rfl | rfl | rfl | rfl | rfl <;> rfl

theorem imgL_ok (c : Int) : 1 ≤ (imgL c).length ∧ (imgL c).length ≤ 3 ∧ ∀ s ∈ imgL c, s < 2 := by
  have h1 := Int.fmod_nonneg_of_pos c (b := 3) (by decide)
  have h2 := Int.fmod_lt_of_pos c (b := 3) (by decide)
  have hl : (imgL c).length = 1 + (c.fmod 3).toNat := by unfold imgL; simp
  refine ⟨by (first | lia | omega), by (first | lia | omega), fun s hs => ?_⟩
  unfold imgL at hs
  obtain ⟨k, _, rfl⟩ := List.mem_map.mp hs
  have := Int.fmod_lt_of_pos ((c.fdiv 3).fdiv (2 ^ k)) (b := 2) (by decide)
  have hz : ∀ z : Int, z < 2 → z.toNat < 2 := fun z h => by (first | lia | omega)
  exact hz _ this
theorem count01 : ∀ l : List Nat, (∀ s ∈ l, s < 2) → l.count 0 + l.count 1 = l.length
  | [], _ => rfl
  | s :: l, h => by
    have ih := count01 l fun x hx => h x (.tail _ hx)
    have hs := h s (.head _)
    rw [List.count_cons, List.count_cons, List.length_cons]
    have : s = 0 ∨ s = 1 := by (first | lia | omega)
    rcases this with rfl | rfl
    · simp; (first | lia | omega)
    · simp; (first | lia | omega)
theorem pcsL_ok (c : Int) (a b : Nat) (ha : a ≠ 46) (hb : b ≠ 46) : (pcsL c [a, b]).length ≤ 10 ∧ (∀ q ∈ pcsL c [a, b], q.length ≤ 9 ∧ q ≠ [] ∧ 46 ∉ q) ∧ (pcsL c [a, b]).flatten.length ≤ 5 := by
  have hrow : (rowL c [a, b]).length = 5 := rowL_len _ _
  have hmem : ∀ x ∈ rowL c [a, b], x ≠ 46 := fun x hx => by
    unfold rowL at hx
    obtain ⟨k, _, rfl⟩ := List.mem_map.mp hx
    generalize ((c.fdiv (3 ^ k)).fmod 3).toNat = i
    show ([a, b, 124] : List Nat).getD i 0 ≠ 46
    match i with
    | 0 => exact ha
    | 1 => exact hb
    | 2 => show (124 : Nat) ≠ 46; decide
    | i + 3 => show (0 : Nat) ≠ 46; decide
  have hl := splitL_length [124] (rowL c [a, b])
  have hsum := parts_sum [124] (rowL c [a, b]) 0 []
  have hfs : ∀ ps : List (List Nat), ((ps.filter fun p => !p.isEmpty).map List.length).sum ≤ (ps.map List.length).sum := by
    intro ps
    induction ps with
    | nil => exact Nat.le_refl _
    | cons p ps ih =>
      rw [List.filter_cons]
      split
      · rw [List.map_cons, List.map_cons, List.sum_cons, List.sum_cons]; (first | lia | omega)
      · rw [List.map_cons, List.sum_cons]; (first | lia | omega)
  refine ⟨?_, fun q hq => ?_, ?_⟩
  · unfold pcsL
    exact Nat.le_trans (List.length_filter_le _ _) (by (first | lia | omega))
  · unfold pcsL at hq
    obtain ⟨h1, h2⟩ := List.mem_filter.mp hq
    have h3 := parts_mem_le [124] (rowL c [a, b]) 0 [] q h1
    have h9 : q.length ≤ 9 := by rw [hrow, List.length_nil] at h3; (first | lia | omega)
    have hne : q ≠ [] := fun e => by rw [e] at h2; cases h2
    refine ⟨h9, hne, fun e => ?_⟩
    rcases split_mem [124] (rowL c [a, b]).length (rowL c [a, b]) [] (Nat.le_refl _) q h1 46 e with z | z
    · cases z
    · exact hmem 46 z rfl
  · rw [flat_len]
    have h5 : ((pcsL c [a, b]).map List.length).sum ≤ ((splitL [124] (rowL c [a, b])).map List.length).sum := hfs _
    have h6 : ((splitL [124] (rowL c [a, b])).map List.length).sum ≤ ([] : List Nat).length + (rowL c [a, b]).length := hsum
    rw [hrow, List.length_nil] at h6
    (first | lia | omega)
end Mine

end

/- P2d -/
section
open PySem PySem.W PySem.Calls PyProof.Rows
set_option maxRecDepth 100000
namespace Mine

theorem chk2_get {p q r s : Nat} (h : chkR p q = true) (hrs : (r, s) ∈ pq) {len : Nat} (hl : len ≤ 63) : chk2a p q r s (12 + len) (2 ^ (12 + len)) = true ∧ ∀ k < 5, (ab p q r s k).1 ≤ 1000 ∧ (ab p q r s k).2 ≤ 1000 := by
  have h := List.all_eq_true.mp h (r, s) hrs
  unfold chk2 at h
  rw [Bool.and_eq_true] at h
  refine ⟨List.all_eq_true.mp h.1 len (List.mem_range.mpr (by (first | lia | omega))), fun k hk => ?_⟩
  have := List.all_eq_true.mp h.2 k (List.mem_range.mpr hk)
  rw [Bool.and_eq_true, Nat.ble_eq, Nat.ble_eq] at this
  exact this

theorem hld_ok {c many : Nat} {word : List Nat} (hc : c ≠ 46) (h : word.count c = many) : hldP [c] many word = some true := by
  have h46 : 46 ∉ [c] := fun q => hc (List.mem_singleton.mp q).symm
  unfold hldP
  rw [emP_rep (by simp) h46, cnt_one, h, decide_eq_true (Nat.le_refl _), Option.bind_some, if_pos rfl, emP_rep1 (by simp) h46, cnt_one, h, decide_eq_false (by (first | lia | omega))]; rfl
theorem count_map {f : Nat → Nat} (hf : ∀ a < 2, ∀ b < 2, f a = f b → a = b) {i : Nat} (hi : i < 2) : ∀ w : List Nat, (∀ a ∈ w, a < 2) → (w.map f).count (f i) = w.count i
  | [], _ => rfl
  | a :: w, h => by
    rw [List.map_cons, List.count_cons, List.count_cons, count_map hf hi w fun x hx => h x (.tail _ hx)]
    have : (f a == f i) = (a == i) := by
      rw [Bool.eq_iff_iff, beq_iff_eq, beq_iff_eq]
      exact ⟨hf a (h a (.head _)) i hi, fun e => by rw [e]⟩
    rw [this]

section
variable {im0 im1 : List Nat} {f : Nat → Nat}
theorem moveAt_len (p : List (List Nat)) (is : List (List Nat)) (k i : Nat) : (moveAt p is f k i).length = p.flatten.length + 1 := by unfold moveAt; rw [List.length_map, List.length_range]
theorem moveAt_lt (p : List (List Nat)) (is : List (List Nat)) (k i : Nat) : ∀ x ∈ moveAt p is f k i, x < p.flatten.length + 1 := fun x hx => by
  unfold moveAt at hx
  obtain ⟨y, hy, rfl⟩ := List.mem_map.mp hx
  have := runS_le p ((HI is k i).map f) y (by have := List.mem_range.mp hy; (first | lia | omega))
  (first | lia | omega)
theorem em_ok {p : List (List Nat)} (hp : ∀ q ∈ p, q.length ≤ 9 ∧ q ≠ [] ∧ 46 ∉ q) (is : List (List Nat)) (k : Nat) :
    emP (wantL p) ((HI is k 0).map f) = some (decide ((((moveAt p is f k 0).getD 0 0 : Nat) : Int) = (((moveAt p is f k 0).length : Nat) : Int) - 1)) := by
  rw [emP_want (fun q hq => (hp q hq).2.2), emL_run p _ (fun q hq => (hp q hq).2.1), moveAt_len]
  have e : (moveAt p is f k 0).getD 0 0 = runS p 0 ((HI is k 0).map f) := by
    unfold moveAt
    rw [List.getD_eq_getElem?_getD, List.getElem?_map, List.getElem?_range (by (first | lia | omega))]; rfl
  rw [e]
  congr 2
  exact propext ⟨fun z => by (first | lia | omega), fun z => by (first | lia | omega)⟩
theorem rep_ok (hi : ∀ im ∈ [im0, im1], im.length ≤ 3 ∧ ∀ s ∈ im, s < 2) (hf : ∀ a < 2, ∀ b < 2, f a = f b → a = b) (hf2 : ∀ a < 2, f a ≠ 46 ∧ f a < 256) (k : Nat) (hk : k < 5) :
    repP 2000 [[f 0], [46], [f 1], im1.map f, [46], im0.map f] ((HI [im0, im1] k 0).map f) = some ((HI [im0, im1] (k + 1) 0).map f) := by
  have hlt := HI_lt hi rfl k 0 (by decide)
  have hlen := HI_len hi rfl k 0 (by decide)
  have h3 : 3 ^ k ≤ 3 ^ 4 := Nat.pow_le_pow_right (by decide) (by (first | lia | omega))
  have h0 := hf2 0 (by decide)
  have h1 := hf2 1 (by decide)
  rw [rep_pairs (fun e => absurd (hf 0 (by decide) 1 (by decide) e) (by decide)) h0.1 h1.1 h0.2 h1.2 (by rw [List.length_map]; exact (hi im0 (.head _)).1) (by rw [List.length_map]; exact (hi im1 (.tail _ (.head _))).1) (fun x hx => by
    obtain ⟨a, ha, rfl⟩ := List.mem_map.mp hx
    exact (hf2 a ((hi im1 (.tail _ (.head _))).2 a ha)).1) (fun x hx => by
    obtain ⟨a, ha, rfl⟩ := List.mem_map.mp hx
    have := hlt a ha
    have : a = 0 ∨ a = 1 := by (first | lia | omega)
    rcases this with rfl | rfl
    · exact .inl rfl
    · exact .inr rfl) (by rw [List.length_map]; (first | lia | omega)), HI_succ]
  congr 1
  have : ∀ w : List Nat, (∀ a ∈ w, a < 2) → ((w.map f).flatMap fun x => if x = f 0 then im0.map f else im1.map f) = (w.flatMap fun j => ([im0, im1] : List (List Nat)).getD j []).map f := by
    intro w
    induction w with
    | nil => intro _; rfl
    | cons a w ih =>
      intro h
      have ha := h a (.head _)
      rw [List.map_cons, List.flatMap_cons, ih fun x hx => h x (.tail _ hx), List.flatMap_cons, List.map_append]
      congr 1
      have : a = 0 ∨ a = 1 := by (first | lia | omega)
      rcases this with rfl | rfl
      · rw [if_pos rfl]; rfl
      · rw [if_neg fun e => absurd (hf 1 (by decide) 0 (by decide) e) (by decide)]; rfl
  exact this _ hlt
end

theorem law2_plain (ns : List Int) (hlen : ns.length ≤ 63) : ∃ r U sg is ps, Law2 ns r U sg is ps := by
  obtain ⟨r, hr⟩ : ∃ r : Nat, (ns.sum).fmod 8 = (r : Int) := ⟨((ns.sum).fmod 8).toNat, by
    have := Int.fmod_nonneg_of_pos ns.sum (b := 8) (by decide); (first | lia | omega)⟩
  have hr8 : r < 8 := by have := Int.fmod_lt_of_pos ns.sum (b := 8) (by decide); (first | lia | omega)
  have hfi := sf_inj (m := 2) (.inl rfl) hr8
  have hfo := sf_ok (m := 2) (.inl rfl) hr8
  have hsg : sgn r 2 = [sf r 2 0, sf r 2 1] := sgn_map (.inl rfl) hr8
  generalize sf r 2 = f at hfi hfo hsg
  obtain ⟨im0, h0⟩ : ∃ im, imgL (cellOf ns 0) = im := ⟨_, rfl⟩
  obtain ⟨im1, h1⟩ : ∃ im, imgL (cellOf ns 1) = im := ⟨_, rfl⟩
  have k0 := imgL_ok (cellOf ns 0)
  have k1 := imgL_ok (cellOf ns 1)
  rw [h0] at k0
  rw [h1] at k1
  have hi : ∀ im ∈ [im0, im1], im.length ≤ 3 ∧ ∀ s ∈ im, s < 2 := fun im hm => by
    rcases List.mem_cons.mp hm with rfl | hm
    · exact ⟨k0.2.1, k0.2.2⟩
    · rw [List.mem_singleton.mp hm]; exact ⟨k1.2.1, k1.2.2⟩
  have c0 := count01 im0 k0.2.2
  have c1 := count01 im1 k1.2.2
  obtain ⟨hchk, hab⟩ := chk2_get (two_all (im0.count 0, im0.count 1) (pq_mem (by (first | lia | omega)) (by (first | lia | omega)))) (pq_mem (p := im1.count 0) (q := im1.count 1) (by (first | lia | omega)) (by (first | lia | omega))) hlen
  have hcnt := HI_count hi
  obtain ⟨w, hw⟩ : ∃ w, 12 + ns.length = w := ⟨_, rfl⟩
  have hw0 : 0 < w := by (first | lia | omega)
  rw [hw] at hchk
  dsimp only at hchk hab
  generalize hp : im0.count 0 = p at hchk hab hcnt
  generalize hq : im0.count 1 = q at hchk hab hcnt
  generalize hr' : im1.count 0 = r' at hchk hab hcnt
  generalize hs : im1.count 1 = s at hchk hab hcnt
  have s3 : s ≤ 3 := by (first | lia | omega)
  unfold chk2a at hchk
  obtain ⟨D, hD⟩ : ∃ D, (p + s) * 2 ^ w + q * r' = D := ⟨_, rfl⟩
  rw [hD] at hchk
  obtain ⟨Z, hZ⟩ : ∃ Z, 2 ^ w * 2 ^ w + p * s = Z := ⟨_, rfl⟩
  rw [hZ] at hchk
  obtain ⟨U, hU⟩ : ∃ U, Z - D = U := ⟨_, rfl⟩
  rw [hU] at hchk
  unfold chk2b at hchk
  simp only [Bool.and_eq_true, Nat.ble_eq, Nat.blt_eq] at hchk
  obtain ⟨⟨⟨⟨⟨⟨⟨n1, n2⟩, n3⟩, n4⟩, n5⟩, n6⟩, n7⟩, n8⟩ := hchk
  have hU0 : 0 < U := by (first | lia | omega)
  have hbig : 1000 < 2 ^ w := by (first | lia | omega)
  have hsmall : ∀ g : Nat → Nat, (∀ k < 5, g k ≤ 1000) → ∀ d ∈ l5 g, d < 2 ^ w := fun g hg d hd => by
    unfold l5 at hd
    simp only [List.mem_cons, List.not_mem_nil, or_false] at hd
    rcases hd with rfl | rfl | rfl | rfl | rfl
    · exact Nat.lt_of_le_of_lt (hg 4 (by decide)) hbig
    · exact Nat.lt_of_le_of_lt (hg 3 (by decide)) hbig
    · exact Nat.lt_of_le_of_lt (hg 2 (by decide)) hbig
    · exact Nat.lt_of_le_of_lt (hg 1 (by decide)) hbig
    · exact Nat.lt_of_le_of_lt (hg 0 (by decide)) hbig
  obtain ⟨d1, e1⟩ := cntL_eq (A := (2 ^ w - s) * 2 ^ (5 * w)) (U := U) hw0 (ds := l5 fun k => (ab p q r' s k).1) rfl (hsmall _ fun k hk => (hab k hk).1) (Nat.div_eq_of_lt_le n2 n3)
  obtain ⟨d2, e2⟩ := cntL_eq (A := q * 2 ^ (5 * w)) (U := U) hw0 (ds := l5 fun k => (ab p q r' s k).2) rfl (hsmall _ fun k hk => (hab k hk).2) (Nat.div_eq_of_lt_le n4 n5)
  have hg := grownOf_eq (f := f) hi
  have hG : ∀ k, (grownOf [f 0, f 1] [im0, im1] k).getD 0 [] = (HI [im0, im1] k 0).map f := fun k => by rw [hg]; rfl
  have ps2 := pcsL_ok (cellOf ns 2) (f 0) (f 1) (hfo 0 (by decide)).1 (hfo 1 (by decide)).1
  have ps3 := pcsL_ok (cellOf ns 3) (f 0) (f 1) (hfo 0 (by decide)).1 (hfo 1 (by decide)).1
  generalize hp2 : pcsL (cellOf ns 2) [f 0, f 1] = P2 at ps2
  generalize hp3 : pcsL (cellOf ns 3) [f 0, f 1] = P3 at ps3
  have hm := movesOf_eq (f := f) hi [P2, P3]
  have htx : ∀ im : List Nat, (∀ s ∈ im, s < 2) → txOf [f 0, f 1] im = im.map f := fun im h => by
    unfold txOf
    refine List.map_congr_left fun i hi => ?_
    have := h i hi
    have : i = 0 ∨ i = 1 := by (first | lia | omega)
    rcases this with rfl | rfl <;> rfl
  have hpairs : pairsOf [f 0, f 1] ns = [[f 0], [46], [f 1], im1.map f, [46], im0.map f] := by
    unfold pairsOf
    rw [h0, h1, htx im0 k0.2.2, htx im1 k1.2.2]; rfl
  have hrep := rep_ok hi hfi hfo
  refine ⟨r, U, [f 0, f 1], [im0, im1], [P2, P3], ⟨hr, hsg, rfl, by rw [imgs, h0, h1], by rw [patsOf, hp2, hp3], hi, hU0, n6, ?_, ?_, ?_, ?_, ?_, ?_, ?_, ?_, ?_, ?_, ?_, ?_, ?_⟩⟩
  · rw [h0, h1, hw, hp, hq, hr', hs]
    have hZD : (Z : Int) - (D : Int) = (U : Int) := by (first | lia | omega)
    rw [← hZD, ← hZ, ← hD]
    simp only [Int.natCast_mul, Int.natCast_add]
    generalize ((2 ^ w : Nat) : Int) * ((2 ^ w : Nat) : Int) = x1
    generalize ((p : Int) + (s : Int)) * ((2 ^ w : Nat) : Int) = x2
    generalize (p : Int) * (s : Int) = x3
    generalize (q : Int) * (r' : Int) = x4
    (first | lia | omega)
  · rw [h1, hw, hs]; exact d1
  · rw [h0, hw, hq]; exact d2
  · intro k hk
    rw [h1, hw, hs, e1, l5_get _ k hk]; exact (hab k hk).1
  · intro k hk
    rw [h0, hw, hq, e2, l5_get _ k hk]; exact (hab k hk).2
  · intro k hk
    rw [h1, hw, hs, e1, l5_get _ k hk, hG]
    exact hld_ok (hfo 0 (by decide)).1 ((count_map hfi (i := 0) (by decide) _ (HI_lt hi rfl k 0 (by decide))).trans (hcnt k).1)
  · intro k hk
    rw [h0, hw, hq, e2, l5_get _ k hk, hG]
    exact hld_ok (hfo 1 (by decide)).1 ((count_map hfi (i := 1) (by decide) _ (HI_lt hi rfl k 0 (by decide))).trans (hcnt k).2)
  · intro k hk n hn
    rw [hG, hm]
    have : n = 0 ∨ n = 1 := by (first | lia | omega)
    rcases this with rfl | rfl
    · exact em_ok ps2.2.1 [im0, im1] k
    · exact em_ok ps3.2.1 [im0, im1] k
  · intro k hk
    rw [hpairs, hG, hG]; exact hrep k hk
  · rw [hpairs, hG]
    have hone : ∀ (n k : Nat), n + k ≤ 5 → repP 2000 (repL n [[f 0], [46], [f 1], im1.map f, [46], im0.map f]) ((HI [im0, im1] k 0).map f) = some ((HI [im0, im1] (n + k) 0).map f) := by
      intro n
      induction n with
      | zero => intro k _; rw [Nat.zero_add]; rfl
      | succ n ih =>
        intro k hk
        have e : repL (n + 1) [[f 0], [46], [f 1], im1.map f, [46], im0.map f] = [[f 0], [46], [f 1], im1.map f, [46], im0.map f] ++ repL n [[f 0], [46], [f 1], im1.map f, [46], im0.map f] := by
          unfold repL; rw [List.replicate_succ, List.flatten_cons]
        rw [e, repP_app 2000 3 _ _ _ rfl, hrep k (by (first | lia | omega)), Option.bind_some, ih (k + 1) (by (first | lia | omega)), show n + (k + 1) = n + 1 + k from by (first | lia | omega)]
    have := hone 5 0 (by (first | lia | omega))
    exact this
  · intro k hk
    rw [hg]
    refine ⟨rfl, fun g hgm => ?_⟩
    have h3 : 3 ^ k ≤ 3 ^ 5 := Nat.pow_le_pow_right (by decide) hk
    rcases List.mem_cons.mp hgm with rfl | hgm
    · have := HI_len hi rfl k 0 (by decide); rw [List.length_map]; (first | lia | omega)
    · rw [List.mem_singleton.mp hgm]
      have := HI_len hi rfl k 1 (by decide); rw [List.length_map]; (first | lia | omega)
  · intro k hk
    rw [hm]
    refine ⟨rfl, fun m hmm => ?_⟩
    have ok : ∀ P : List (List Nat), P.flatten.length ≤ 5 → ∃ n, 0 < n ∧ MovesOk [moveAt P [im0, im1] f k 0, moveAt P [im0, im1] f k 1] n := fun P hP => by
      refine ⟨P.flatten.length + 1, by (first | lia | omega), rfl, fun x hx => ?_, fun x hx => ?_, by (first | lia | omega)⟩
      · rcases List.mem_cons.mp hx with rfl | hx
        · exact moveAt_len _ _ _ _
        · rw [List.mem_singleton.mp hx]; exact moveAt_len _ _ _ _
      · rcases List.mem_cons.mp hx with rfl | hx
        · exact moveAt_lt _ _ _ _
        · rw [List.mem_singleton.mp hx]; exact moveAt_lt _ _ _ _
    rcases List.mem_cons.mp hmm with rfl | hmm
    · exact ok P2 ps2.2.2
    · rw [List.mem_singleton.mp hmm]; exact ok P3 ps3.2.2
  · intro P hP
    rcases List.mem_cons.mp hP with rfl | hP
    · exact ⟨ps2.1, fun x hx => (ps2.2.1 x hx).1⟩
    · rw [List.mem_singleton.mp hP]; exact ⟨ps3.1, fun x hx => (ps3.2.1 x hx).1⟩
end Mine

end

/- Hd4 -/
section
open PySem PySem.W PySem.Calls PyProof.Rows
set_option maxRecDepth 100000
set_option maxHeartbeats 4000000
namespace Mine

theorem run_law2 (ns : List Int) (h : ns.length ≤ 63) (H : PH) : runF noV ((["script"] : List Str).zip [.lst (ns.map .int)]) g_law2 H = some (.bool true, H) := by
  obtain ⟨_, _, _, _, _, F⟩ := law2_plain ns h
  exact run_law2_of h F H

noncomputable abbrev PW2 := PySem.Challenge.pw_pk0079_02
noncomputable abbrev recIs2 (q : Program) (x : Str) (i : Nat) : Prop := (recsOf q).find? (fun e => e.name == x) = some ⟨x, paramsAt PW2 i, bodyAt PW2 i, scopeAt PW2 i, posOf (PW2.main.body.getD i default)⟩
/-- what is asked of the view of the top -/
structure View2 (q : Program) : Prop where
  em : recIs2 q "_ellipsis_match" 9
  d21 : recIs2 q "_div2n1n" 2
  i2d : recIs2 q "_int2digits" 4
  d2i : recIs2 q "_digits2int" 5
  dmp : recIs2 q "_divmod_pos" 6
  rep : recIs2 q "replace" 11
  img : recIs2 q "_law_image" 13
  pcs : recIs2 q "_law_pieces" 14
  stp : recIs2 q "_law_step" 15
  mov : recIs2 q "_law_moves" 16
  gro : recIs2 q "_law_grown_moves" 17
  cnt : recIs2 q "_law_counts" 18
  hld : recIs2 q "_law_held" 19
  mark : valOf q "ELLIPSIS_MARKER" = some (.str "...")
  lim : valOf q "_DIV_LIMIT" = some (.int 4000)
  blt : bltNames.all (freeOf q (looseW q [])) = true

theorem walk2 {q : Program} {XP : (Str → Option Value) → Heap → Prop} {pos : Pos} (W : View2 q) :
    WalkO q [] XP (tinyHook "_int2digits" "_digits2int" 30 37).says PySem.Challenge.rw_pk0079_02.row.toRowW ⟨"law", paramsAt PW2 20, bodyAt PW2 20, scopeAt PW2 20, pos⟩ [] (fun f vs => PySem.call f vs) := by
  intro w s₀ s₁ mg mb G Y fa o pm cd doc dV kV ho hd hcd hD hmg hg args vals as hpre hlay hrd hwl hlo
  obtain ⟨c1h, c2h⟩ := Y
  have T := G.T
  clear G
  wrow_args hpre hlay hrd hwl hlo
  rename_i ns _ _ _ _ _ _ _ la xs _ hL _ hw _ hI _ hlen _
  have hlen : ns.length ≤ 63 := by (first | lia | omega)
  have r_i2d := W.i2d
  have r_d2i := W.d2i
  obtain ⟨a1, o1, pm1, c1, doc1, m1, g1, f1, k1, C1, t1⟩ := tab_at T r_i2d c1h
  obtain ⟨a2, o2, pm2, c2, doc2, m2, g2, f2, k2, C2, t2⟩ := tab_at T r_d2i c2h
  have bm := T.bmain
  have dP : dV = .none := by
    rcases hD.pos with ⟨_, e⟩ | ⟨e, _⟩
    · exact e
    · exact absurd rfl e
  have dK : kV = .none := by
    rcases hD.kw with ⟨_, e⟩ | ⟨e, _⟩
    · exact e
    · exact absurd rfl e
  subst dP dK
  let X := lawCx PW2 w s₁.heap 30 37 (("_int2digits" ++ ".<locals>.") ++ "inner") (("_digits2int" ++ ".<locals>.") ++ "inner") (posIn (bodyAt PW2 4) 1) (posIn (bodyAt PW2 5) 0) mg mb T.g T.b T.nolimit (by decide) (by decide) (by decide)
  have B : BltOk X := blt_of T W.blt
  obtain ⟨a_em, g_em, D_em⟩ : ∃ a, mg "_ellipsis_match" = some (.ref a) ∧ DefAt X a "_ellipsis_match" _ _ _ := fn_of T t1 t2 W.em
  obtain ⟨a_d21, g_d21, D_d21⟩ : ∃ a, mg "_div2n1n" = some (.ref a) ∧ DefAt X a "_div2n1n" _ _ _ := fn_of T t1 t2 W.d21
  obtain ⟨a_dmp, g_dmp, D_dmp⟩ : ∃ a, mg "_divmod_pos" = some (.ref a) ∧ DefAt X a "_divmod_pos" _ _ _ := fn_of T t1 t2 W.dmp
  obtain ⟨a_rep, g_rep, D_rep⟩ : ∃ a, mg "replace" = some (.ref a) ∧ DefAt X a "replace" _ _ _ := fn_of T t1 t2 W.rep
  obtain ⟨a_img, g_img, D_img⟩ : ∃ a, mg "_law_image" = some (.ref a) ∧ DefAt X a "_law_image" _ _ _ := fn_of T t1 t2 W.img
  obtain ⟨a_pcs, g_pcs, D_pcs⟩ : ∃ a, mg "_law_pieces" = some (.ref a) ∧ DefAt X a "_law_pieces" _ _ _ := fn_of T t1 t2 W.pcs
  obtain ⟨a_stp, g_stp, D_stp⟩ : ∃ a, mg "_law_step" = some (.ref a) ∧ DefAt X a "_law_step" _ _ _ := fn_of T t1 t2 W.stp
  obtain ⟨a_mov, g_mov, D_mov⟩ : ∃ a, mg "_law_moves" = some (.ref a) ∧ DefAt X a "_law_moves" _ _ _ := fn_of T t1 t2 W.mov
  obtain ⟨a_gro, g_gro, D_gro⟩ : ∃ a, mg "_law_grown_moves" = some (.ref a) ∧ DefAt X a "_law_grown_moves" _ _ _ := fn_of T t1 t2 W.gro
  obtain ⟨a_cnt, g_cnt, D_cnt⟩ : ∃ a, mg "_law_counts" = some (.ref a) ∧ DefAt X a "_law_counts" _ _ _ := fn_of T t1 t2 W.cnt
  obtain ⟨a_hld, g_hld, D_hld⟩ : ∃ a, mg "_law_held" = some (.ref a) ∧ DefAt X a "_law_held" _ _ _ := fn_of T t1 t2 W.hld
  have D_law : DefAt X fa "law" (paramsAt PW2 20) (bodyAt PW2 20) (scopeAt PW2 20) := def_of t1 t2 ho hd hcd
  obtain ⟨_, hEM⟩ := const_str T W.mark
  obtain ⟨_, hDL⟩ := const_int T W.lim
  have L : LibOk X ⟨a_em, a_d21, a1, a2, a_dmp, a_rep⟩ := lib_02 B rfl hEM hDL m1 g_d21 m2 D_em D_d21 D_dmp D_rep (mak_at t1 t2 g1 f1 k1) (mak_at t1 t2 g2 f2 k2)
    (nest1 (by decide) C1 t1 t2 bm) (nest2 (by decide) C2 t1 t2 bm)
  have S_img : FS X 17 a_img F_img := fs_plain (names := ["cell"]) D_img rfl rfl (fun pm cd doc xs h => by obtain ⟨p, rfl⟩ := len1 h; rfl) (s_img_02 B) (fun vs H v H' h => img_run h)
  have S_pcs : FS X 17 a_pcs F_pcs := fs_plain (names := ["cell", "signs"]) D_pcs rfl rfl (fun pm cd doc xs h => by obtain ⟨p, q, rfl⟩ := len2 h; rfl) (s_pcs_02 B) (fun vs H v H' h => pcs_run h)
  have S_stp : FS X 16 a_stp F_stp := fs_plain (names := ["pieces", "place", "sign"]) D_stp rfl rfl (fun pm cd doc xs h => by obtain ⟨p, q, r, rfl⟩ := len3 h; rfl) (s_stp_02 B) (fun vs H v H' h => stp_run h)
  have S_mov : FS X 17 a_mov F_mov := fs_plain (names := ["pieces", "signs"]) D_mov rfl rfl (fun pm cd doc xs h => by obtain ⟨p, q, rfl⟩ := len2 h; rfl) (s_mov_02 B g_stp S_stp) (fun vs H v H' h => mov_run h)
  have S_gro : FS X 17 a_gro F_gro := fs_plain (names := ["moves", "images"]) D_gro rfl rfl (fun pm cd doc xs h => by obtain ⟨p, q, rfl⟩ := len2 h; rfl) (s_gro_02 B) (fun vs H v H' h => gro_run h)
  have S_cnt : FS X 17 a_cnt F_cnt := fs_plain (names := ["over", "under", "wide"]) D_cnt rfl rfl (fun pm cd doc xs h => by obtain ⟨p, q, r, rfl⟩ := len3 h; rfl) (s_cnt_02 B g_dmp L.dmp m1 (L.i2d.up (by decide))) (fun vs H v H' h => cnt_run h)
  have S_hld : FS X 17 a_hld F_hld := fs_plain (names := ["sign", "many", "word"]) D_hld rfl rfl (fun pm cd doc xs h => by obtain ⟨p, q, r, rfl⟩ := len3 h; rfl) (s_hld_02 B g_em L.em) (fun vs H v H' h => hld_run h)
  have S_law : FS X 18 fa F_law := fs_plain (names := ["script"]) D_law rfl rfl (fun pm cd doc xs h => by obtain ⟨p, rfl⟩ := len1 h; rfl)
    (s_law2_02 B g_img S_img g_cnt S_cnt g_pcs S_pcs g_mov S_mov g_hld S_hld g_em (L.em.up (by decide)) g_rep (L.rep.up (by decide)) g_gro S_gro) (fun vs H v H' h => law_run run_law2 h)
  have hF : F_law [.lst (ns.map .int)] [] = some (.bool true, []) := by
    show (intsP (ns.map .int)).bind _ = _
    rw [intsP_map, Option.bind_some, if_pos hlen]
  have lp := well_list hw hL
  have lb : la ∉ X.ban [] := fun q => by
    have q : la ∈ [30, 37] := q
    obtain ⟨n, e⟩ := lp
    rcases List.mem_cons.mp q with rfl | q
    · rw [t1] at e; cases e
    · obtain rfl := List.mem_singleton.mp q
      rw [t2] at e; cases e
  refine (S_law _ _ _ _ hF).2 s₁ [] callerA _ _ [.ref la] ⟨rfl, by decide, by decide⟩ (lawCx_rel t1 t2) (.cons (.by (.lst lp lb (ints_rel hI))) .nil) fun r h' tk' R rv p => ?_
  obtain rfl := rv.bool_inv
  have hpost : PySem.Challenge.rw_pk0079_02.row.claim.post [ofPy (PyData.list (List.map PyData.int ns))] (WData.bool true) [ofPy (PyData.list (List.map PyData.int ns))] = true := hpost_any _
  exact ⟨.inl ⟨.bool true, .bool true, [], rfl, fun _ => rfl, .bool _, hpost, fun _ => ⟨List.nodup_nil, fun a h => absurd h List.not_mem_nil⟩⟩, oldK_of C1 C2 t1 t2 R p, rfl, .of_eq hg⟩

/-- the view of the top: all statements but the names of the modules -/
noncomputable def view2 : Program := { PW2 with main := { PW2.main with body := [1, 2, 3, 4, 5, 6, 8, 9, 11, 13, 14, 15, 16, 17, 18, 19, 20].map fun i => PW2.main.body.getD i default } }
noncomputable abbrev hook2 : Hook := tinyHook "_int2digits" "_digits2int" 30 37
/-- the run of the top, in one check -/
theorem left2 : LeftO PW2 view2 [] (fun s => xlAt view2 [] s && recOk (RowW.records PySem.Challenge.rw_pk0079_02.row.toRowW) s) hook2.obs hook2.val 1174 := fun w => by
  kernel_rfl
theorem law2_ok : PySem.Challenge.rw_pk0079_02.Holds := by
  w_on
  o_law
  refine holds_open (q := view2) (loose := []) (Xt := fun s => xlAt view2 [] s && recOk (RowW.records PySem.Challenge.rw_pk0079_02.row.toRowW) s) (XP := XL view2 []) (Yf := hook2.obs) (Ya := hook2.val) (YP := hook2.says)
    left2 hook2.of hook2.keeps (fun s e => xl_of s (Bool.and_eq_true_iff.mp e).1) XL.keeps (by rfl) (by rfl) (by rfl) (fun s e => recFacts_of (Bool.and_eq_true_iff.mp e).2) (by rfl) (by assumption) (by decide +kernel) ⟨rfl, rfl, rfl, rfl, rfl, by decide +kernel⟩ ?hw ?hc
  case hw => w_witness2
  exact walk2 ⟨by unfold recIs2; kernel_rfl, by unfold recIs2; kernel_rfl, by unfold recIs2; kernel_rfl, by unfold recIs2; kernel_rfl, by unfold recIs2; kernel_rfl, by unfold recIs2; kernel_rfl, by unfold recIs2; kernel_rfl, by unfold recIs2; kernel_rfl, by unfold recIs2; kernel_rfl, by unfold recIs2; kernel_rfl, by unfold recIs2; kernel_rfl, by unfold recIs2; kernel_rfl, by unfold recIs2; kernel_rfl, by kernel_rfl, by kernel_rfl, by kernel_rfl⟩
end Mine

end

open PySem PySem.W PyProof.Rows
theorem PySem.Challenge.cw_pk0079_02_holds : PySem.Challenge.rw_pk0079_02.Holds :=
  Mine.law2_ok
