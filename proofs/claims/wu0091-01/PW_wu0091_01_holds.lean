import PyProof.Rows.All
import Wide.All
import OpenK.AllK
import Wide.FinOn
import Lean
import PySem.Challenge.RW_wu0091_01
set_option maxRecDepth 100000
set_option Elab.async false
section
namespace Wu
open PySem PySem.Spec PySem.Calls PyProof.Rows PySem.W

/-- pure data -/
inductive D where
  | none
  | bool (b : Bool)
  | int (i : Int)
  | flt (x : UInt64)
  | str (s : Str)
  | ty (n : String)
  | tup (xs : List D)
  | lst (xs : List D)
  deriving Inhabited

mutual
/-- v reads as the datum in h, over no address of av -/
noncomputable def Rep (h : Heap) (av : List Addr) : D → Value → Prop
  | .none, v => v = .none
  | .bool b, v => v = .bool b
  | .int i, v => ∃ t, v = .int i t
  | .flt x, v => ∃ t, v = .float x t
  | .str s, v => ∃ t, v = .str s t
  | .ty n, v => v = .type n
  | .tup xs, v => ∃ a vs, v = .ref a ∧ a ∉ av ∧ IsTup h a vs.toArray ∧ Reps h av xs vs
  | .lst xs, v => ∃ a vs, v = .ref a ∧ a ∉ av ∧ h.IsList a vs.toArray ∧ Reps h av xs vs
noncomputable def Reps (h : Heap) (av : List Addr) : List D → List Value → Prop
  | [], vs => vs = []
  | x :: xs, vs => ∃ v r, vs = v :: r ∧ Rep h av x v ∧ Reps h av xs r
end

/-- the sequences of h outside av stand in h' -/
noncomputable def Kp (av : List Addr) (h h' : Heap) : Prop := ∀ a, a ∉ av → ∀ o items n, h.get? a = some o → o.data = .seq items n → h'.get? a = some o
noncomputable abbrev Keeps (h h' : Heap) : Prop := ∀ b o, h.get? b = some o → h'.get? b = some o
theorem Keeps.kp {h h' : Heap} (k : Keeps h h') (av : List Addr) : Kp av h h' := fun a _ o _ _ e _ => k a o e
theorem Kp.of_same {a : Addr} {av : List Addr} {h h' : Heap} (s : Heap.SameBut a h h') (n : a ∈ av ∨ ∀ o items k, h.get? a = some o → o.data ≠ .seq items k) : Kp av h h' := by
  intro b hb o items k e hd
  by_cases q : b = a
  · subst q
    rcases n with n | n
    · exact absurd n hb
    · exact absurd hd (n o items k e)
  · exact (s.2 b q).trans e

mutual
theorem Rep.mono {h h' : Heap} {av av' : List Addr} (k : Kp av h h') (l : ∀ a ∈ av', a ∈ av) : ∀ (d : D) (v : Value), Rep h av d v → Rep h' av' d v
  | .none, _, r => r
  | .bool _, _, r => r
  | .int _, _, r => r
  | .flt _, _, r => r
  | .str _, _, r => r
  | .ty _, _, r => r
  | .tup xs, v, r => by
    obtain ⟨a, vs, e, ha, ⟨o, ho, hc, n, hd⟩, hr⟩ := r
    exact ⟨a, vs, e, fun q => ha (l a q), ⟨o, k a ha o _ _ ho hd, hc, n, hd⟩, Reps.mono k l xs vs hr⟩
  | .lst xs, v, r => by
    obtain ⟨a, vs, e, ha, ⟨o, ho, hc, n, hd⟩, hr⟩ := r
    exact ⟨a, vs, e, fun q => ha (l a q), ⟨o, k a ha o _ _ ho hd, hc, n, hd⟩, Reps.mono k l xs vs hr⟩
theorem Reps.mono {h h' : Heap} {av av' : List Addr} (k : Kp av h h') (l : ∀ a ∈ av', a ∈ av) : ∀ (ds : List D) (vs : List Value), Reps h av ds vs → Reps h' av' ds vs
  | [], _, r => r
  | d :: ds, vs, r => by
    obtain ⟨v, t, e, h1, h2⟩ := r
    exact ⟨v, t, e, Rep.mono k l d v h1, Reps.mono k l ds t h2⟩
end
theorem Rep.keeps {h h' : Heap} {av : List Addr} {d : D} {v : Value} (r : Rep h av d v) (k : Keeps h h') : Rep h' av d v := Rep.mono (k.kp av) (fun _ x => x) d v r
theorem Reps.keeps {h h' : Heap} {av : List Addr} {ds : List D} {vs : List Value} (r : Reps h av ds vs) (k : Keeps h h') : Reps h' av ds vs := Reps.mono (k.kp av) (fun _ x => x) ds vs r
theorem Rep.kp {h h' : Heap} {av : List Addr} {d : D} {v : Value} (r : Rep h av d v) (k : Kp av h h') : Rep h' av d v := Rep.mono k (fun _ x => x) d v r
theorem Reps.kp {h h' : Heap} {av : List Addr} {ds : List D} {vs : List Value} (r : Reps h av ds vs) (k : Kp av h h') : Reps h' av ds vs := Reps.mono k (fun _ x => x) ds vs r

theorem Reps.length {h : Heap} {av : List Addr} : ∀ {ds : List D} {vs : List Value}, Reps h av ds vs → vs.length = ds.length
  | [], _, r => by cases r; rfl
  | _ :: ds, _, r => by obtain ⟨v, t, e, _, h2⟩ := r; subst e; simp [Reps.length h2]
theorem Reps.get {h : Heap} {av : List Addr} : ∀ {ds : List D} {vs : List Value} {i : Nat} {d : D}, Reps h av ds vs → ds[i]? = some d → ∃ v, vs[i]? = some v ∧ Rep h av d v
  | [], _, _, _, _, e => by simp at e
  | x :: ds, _, 0, d, r, e => by obtain ⟨v, t, e', h1, _⟩ := r; subst e'; simp at e; subst e; exact ⟨v, by simp, h1⟩
  | x :: ds, _, i + 1, d, r, e => by obtain ⟨v, t, e', _, h2⟩ := r; subst e'; simp at e; obtain ⟨v', q, r'⟩ := Reps.get h2 e; exact ⟨v', by simpa using q, r'⟩
theorem Reps.get' {h : Heap} {av : List Addr} : ∀ {ds : List D} {vs : List Value} {i : Nat} {v : Value}, Reps h av ds vs → vs[i]? = some v → ∃ d, ds[i]? = some d ∧ Rep h av d v
  | [], _, _, _, r, e => by cases r; simp at e
  | x :: ds, _, 0, v, r, e => by obtain ⟨v', t, e', h1, _⟩ := r; subst e'; simp at e; subst e; exact ⟨x, by simp, h1⟩
  | x :: ds, _, i + 1, v, r, e => by obtain ⟨v', t, e', _, h2⟩ := r; subst e'; simp at e; obtain ⟨d, q, r'⟩ := Reps.get' h2 e; exact ⟨d, by simpa using q, r'⟩
theorem Reps.append {h : Heap} {av : List Addr} : ∀ {ds es : List D} {vs us : List Value}, Reps h av ds vs → Reps h av es us → Reps h av (ds ++ es) (vs ++ us)
  | [], _, _, _, r, q => by cases r; exact q
  | _ :: _, _, _, _, r, q => by obtain ⟨v, t, e, h1, h2⟩ := r; subst e; exact ⟨v, _, rfl, h1, Reps.append h2 q⟩
theorem Reps.one {h : Heap} {av : List Addr} {d : D} {v : Value} (r : Rep h av d v) : Reps h av [d] [v] := ⟨v, [], rfl, r, rfl⟩
theorem Reps.cons {h : Heap} {av : List Addr} {d : D} {v : Value} {ds : List D} {vs : List Value} (r : Rep h av d v) (q : Reps h av ds vs) : Reps h av (d :: ds) (v :: vs) := ⟨v, vs, rfl, r, q⟩
theorem Reps.nil {h : Heap} {av : List Addr} : Reps h av [] [] := rfl

noncomputable abbrev pw : Program := PySem.Challenge.pw_wu0091_01
noncomputable def b1L : List Int := [173, 847, 6150, 6155, 6156, 6157, 8203, 8204, 8205, 8288, 65279] ++ (List.range 16).map fun (k : Nat) => (65024 + k : Int)
noncomputable def c7L : List Int := (List.range 12).map fun (k : Nat) => (12272 + k : Int)
noncomputable def c9L : List Int := 917505 :: (List.range 96).map fun (k : Nat) => (917536 + k : Int)
noncomputable def keyD : Option Expr → Int
  | some (.Constant (.int i) _ _) => i
  | _ => 0
noncomputable def valD : Expr → Str
  | .Constant (.str x) _ _ => x
  | _ => ""
/-- table B.3's exceptions, as the text's display holds them -/
noncomputable def b3L : List (Int × Str) := match (pw.main.body[(20 : Nat)]? : Option Stmt) with
  | some (.Assign _ (.Dict ks vs _) _) => (ks.map keyD).zip (vs.map valD)
  | _ => []
/-- the three sets, the table and the three numbers of the top -/
structure Mo (mg : Str → Option Value) (h : Heap) : Prop where
  b1 : ∀ (prog : Program) (w : World), ∃ a n, mg "b1_set" = some (.ref a) ∧ h.SetOf (intKind prog w) a (fun i => decide (i ∈ b1L)) n
  c7 : ∀ (prog : Program) (w : World), ∃ a n, mg "c7_set" = some (.ref a) ∧ h.SetOf (intKind prog w) a (fun i => decide (i ∈ c7L)) n
  c9 : ∀ (prog : Program) (w : World), ∃ a n, mg "c9_set" = some (.ref a) ∧ h.SetOf (intKind prog w) a (fun i => decide (i ∈ c9L)) n
  b3 : ∀ (prog : Program) (w : World), ∃ a, mg "b3_exceptions" = some (.ref a) ∧ IntTab prog w h a (b3L.map fun p => (.int p.1, .str p.2))
  f1 : ∃ t, mg "ONE_THIRD" = some (.float 0x3FD5555555555555 t)
  f2 : ∃ t, mg "ONE_SIXTH" = some (.float 0x3FC5555555555555 t)
  f3 : ∃ t, mg "TWO_THIRD" = some (.float 0x3FE5555555555555 t)
theorem setOf_keeps {prog : Program} {w : World} {h h' : Heap} {a : Addr} {S : Int → Bool} {n : Nat} (r : h.SetOf (intKind prog w) a S n) (k : Keeps h h') : h'.SetOf (intKind prog w) a S n :=
  let ⟨o, es, ep, t, ho, q⟩ := r; ⟨o, es, ep, t, k _ _ ho, q⟩
theorem Mo.keeps {mg : Str → Option Value} {h h' : Heap} (m : Mo mg h) (k : Keeps h h') : Mo mg h' where
  b1 := fun p w => let ⟨a, n, e, r⟩ := m.b1 p w; ⟨a, n, e, setOf_keeps r k⟩
  c7 := fun p w => let ⟨a, n, e, r⟩ := m.c7 p w; ⟨a, n, e, setOf_keeps r k⟩
  c9 := fun p w => let ⟨a, n, e, r⟩ := m.c9 p w; ⟨a, n, e, setOf_keeps r k⟩
  b3 := fun p w => let ⟨a, e, r⟩ := m.b3 p w; ⟨a, e, r.keep k⟩
  f1 := m.f1
  f2 := m.f2
  f3 := m.f3

/-- what stands at the top and stays -/
structure Gl (fns : List DefRec) (mg mb : Str → Option Value) (h : Heap) : Prop where
  g : h.Ns mainGlobals mg
  b : h.Ns builtinsNs mb
  nolimit : h.NoLimit
  bb : ∀ x : Str, x ≠ "__name__" → mb x = bootBuiltins x
  mo : Mo mg h
  fn : ∀ d ∈ fns, ∃ a o pm code doc, mg d.name = some (.ref a) ∧ h.get? a = some o ∧ o.data = .func (docDef d.name d.params d.body d.scope pm code doc) ∧ h.CodeRec code d.name
theorem Gl.keeps {fns : List DefRec} {mg mb : Str → Option Value} {h h' : Heap} (G : Gl fns mg mb h) (k : Keeps h h') : Gl fns mg mb h' where
  g := G.g.keeps k
  b := G.b.keeps k
  nolimit := G.nolimit.keeps k
  bb := G.bb
  mo := G.mo.keeps k
  fn := fun d hd => let ⟨a, o, pm, code, doc, h1, h2, h3, h4⟩ := G.fn d hd; ⟨a, o, pm, code, doc, h1, k _ _ h2, h3, h4.keeps k⟩

/-- every address of av is taken -/
noncomputable def Live (av : List Addr) (h : Heap) : Prop := ∀ a ∈ av, ∃ ob, h.get? a = some ob
theorem Live.keeps {av : List Addr} {h h' : Heap} (l : Live av h) (k : Keeps h h') : Live av h' := fun a ha => let ⟨ob, e⟩ := l a ha; ⟨ob, k _ _ e⟩
theorem Live.new {av : List Addr} {h : Heap} (l : Live av h) : h.objs.size ∉ av := fun ha => let ⟨_, e⟩ := l _ ha; Nat.lt_irrefl _ (Heap.lt_size e)

structure Room (A : Around) (k : Nat) : Prop where
  handled : A.handled = none
  depth : A.depth + k < recursionLimit
  units : A.units + 10 * k < cLine

noncomputable abbrev PEnv := List (Str × D)

/-- a frame, as it stays -/
structure Fx where
  A : Around
  env : Env
  base : Heap
  avO : List Addr
  k : Nat

noncomputable def VarAt (env : Env) (h : Heap) (x : Str) (v : Value) : Prop :=
  (env.kindOf x = some .local ∧ ∃ m, h.Ns env.locals m ∧ m x = some v) ∨ ((env.kindOf x = some .cell ∨ (env.kindOf x = some .free ∧ (x == ("__classdict__" : Str)) = false)) ∧ ∃ c, env.cells.lookup x = some c ∧ h.IsCell c (some v))
theorem VarAt.keeps {env : Env} {h h' : Heap} {x : Str} {v : Value} (r : VarAt env h x v) (k : Keeps h h') : VarAt env h' x v := by
  rcases r with ⟨e, m, hm, hx⟩ | ⟨e, c, hc, hv⟩
  · exact .inl ⟨e, m, hm.keeps k, hx⟩
  · exact .inr ⟨e, c, hc, hv.keeps k⟩

structure FrameOk (env : Env) (base h : Heap) : Prop where
  kind : env.scope.kind = .function
  globals : env.globals = mainGlobals
  builtins : env.builtins = builtinsNs
  ns : ∃ m, h.Ns env.locals m
  baseL : base.get? env.locals = none
  cells : ∀ x c, env.cells.lookup x = some c → base.get? c = none ∧ ∃ v, h.IsCell c v
  inj : ∀ x y c, env.cells.lookup x = some c → env.cells.lookup y = some c → x = y
theorem FrameOk.keeps {env : Env} {base h h' : Heap} (r : FrameOk env base h) (k : Keeps h h') : FrameOk env base h' :=
  ⟨r.kind, r.globals, r.builtins, let ⟨m, hm⟩ := r.ns; ⟨m, hm.keeps k⟩, r.baseL, fun x c e => ⟨(r.cells x c e).1, let ⟨v, hv⟩ := (r.cells x c e).2; ⟨v, hv.keeps k⟩⟩, r.inj⟩

/-- a list that the frame is filling: its name, its address, what it holds -/
noncomputable abbrev Own := Option (Str × Addr × List D)
noncomputable def avOf (c : Fx) : Own → List Addr
  | none => c.avO
  | some (_, a, _) => a :: c.avO
noncomputable def OwnOk (c : Fx) (h : Heap) : Own → Prop
  | none => True
  | some (x, a, ds) => a ∉ c.avO ∧ c.base.get? a = none ∧ VarAt c.env h x (.ref a) ∧ ∃ vs n, h.get? a = some { cls := .type "list", data := .seq vs.toArray n } ∧ Reps h (a :: c.avO) ds vs
theorem OwnOk.keeps {c : Fx} {h h' : Heap} {o : Own} (r : OwnOk c h o) (k : Keeps h h') : OwnOk c h' o := by
  cases o with
  | none => trivial
  | some p =>
    obtain ⟨x, a, ds⟩ := p
    obtain ⟨h0, h1, h2, vs, n, h3, h4⟩ := r
    exact ⟨h0, h1, h2.keeps k, vs, n, k _ _ h3, h4.keeps k⟩

section
variable (prog : Program) (w : World) (fns : List DefRec) (mg mb : Str → Option Value)

structure Ok (c : Fx) (s : Shared) (ρ : PEnv) (o : Own) : Prop where
  room : Room c.A c.k
  gl : Gl fns mg mb c.base
  keep : Keeps c.base s.heap
  vars : ∀ x d, ρ.lookup x = some d → ∃ v, VarAt c.env s.heap x v ∧ Rep s.heap (avOf c o) d v
  own : OwnOk c s.heap o
  live : Live (avOf c o) s.heap
  frame : FrameOk c.env c.base s.heap

/-- the expression gives the datum -/
structure Ev (c : Fx) (ρ : PEnv) (o : Own) (e : Expr) (d : D) : Prop where
  of : ∀ (s : Shared) (Q : Value → Shared → Prop) (E : Value → Shared → Prop), Ok fns mg mb c s ρ o →
    (∀ v h' tk, Keeps s.heap h' → Rep h' (avOf c o) d v → Q v { s with heap := h', toks := tk }) → wpAny (model prog w) c.A (eval e c.env) Q E s

/-- the test decides -/
structure Tst (c : Fx) (ρ : PEnv) (o : Own) (e : Expr) (b : Bool) : Prop where
  of : ∀ (s : Shared) (Q : Bool → Shared → Prop) (E : Value → Shared → Prop), Ok fns mg mb c s ρ o →
    (∀ h' tk, Keeps s.heap h' → Q b { s with heap := h', toks := tk }) → wpAny (model prog w) c.A (isTrue e c.env (eval e c.env)) Q E s

/-- a def's word: what it hands back for these data -/
noncomputable def Fn (k : Nat) (name : Str) (args : List D) (r : D) : Prop :=
  ∀ (A : Around) (a : Addr) (av : List Addr) (vs : List Value) (s : Shared) (Q : Value → Shared → Prop) (E : Value → Shared → Prop), Room A k → Gl fns mg mb s.heap → Live av s.heap → mg name = some (.ref a) → Reps s.heap av args vs →
    (∀ v h' tk, Keeps s.heap h' → Rep h' av r v → Q v { s with heap := h', toks := tk }) → wpAny (model prog w) A (call (.ref a) vs) Q E s

inductive Res where
  | next (ρ : PEnv) (o : Own)
  | cont (ρ : PEnv) (o : Own)
  | ret (d : D)

noncomputable def ResOk (c : Fx) (s' : Shared) : Res → Flow → Prop
  | .next ρ o, f => f = .next ∧ Ok fns mg mb c s' ρ o
  | .cont ρ o, f => f = .cont ∧ Ok fns mg mb c s' ρ o
  | .ret d, f => ∃ v, f = .ret v ∧ Keeps c.base s'.heap ∧ Rep s'.heap c.avO d v

structure Ex (c : Fx) (ρ : PEnv) (o : Own) (st : Stmt) (r : Res) : Prop where
  of : ∀ (s : Shared) (Q : Flow → Shared → Prop) (E : Value → Shared → Prop), Ok fns mg mb c s ρ o →
    (∀ f h' tk, ResOk fns mg mb c { s with heap := h', toks := tk } r f → Q f { s with heap := h', toks := tk }) → wpAny (model prog w) c.A (exec st c.env) Q E s
structure Exs (c : Fx) (ρ : PEnv) (o : Own) (sts : List Stmt) (r : Res) : Prop where
  of : ∀ (s : Shared) (Q : Flow → Shared → Prop) (E : Value → Shared → Prop), Ok fns mg mb c s ρ o →
    (∀ f h' tk, ResOk fns mg mb c { s with heap := h', toks := tk } r f → Q f { s with heap := h', toks := tk }) → wpAny (model prog w) c.A (execs sts c.env) Q E s
end
end Wu
end
section
namespace Wu
open PySem PySem.Spec PySem.Calls PyProof.Rows PySem.W

theorem Keeps.refl (h : Heap) : Keeps h h := fun _ _ e => e
theorem Keeps.trans {a b c : Heap} (x : Keeps a b) (y : Keeps b c) : Keeps a c := fun p o e => y p o (x p o e)
theorem Keeps.push (h : Heap) (o : Obj) : Keeps h (h.push o) := fun _ _ e => Heap.get?_push_of_some _ e
theorem Room.less {A : Around} {k j : Nat} (r : Room A k) (h : j ≤ k) : Room A j := ⟨r.handled, by have := r.depth; omega, by have := r.units; omega⟩

section
variable {prog : Program} {w : World} {fns : List DefRec} {mg mb : Str → Option Value} {c : Fx} {ρ : PEnv} {o : Own}

theorem Ok.keeps {s : Shared} (k : Ok fns mg mb c s ρ o) {h' : Heap} (kk : Keeps s.heap h') (tk : Nat) : Ok fns mg mb c { s with heap := h', toks := tk } ρ o :=
  ⟨k.room, k.gl, k.keep.trans kk, fun x d e => let ⟨v, h1, h2⟩ := k.vars x d e; ⟨v, h1.keeps kk, h2.keeps kk⟩, k.own.keeps kk, k.live.keeps kk, k.frame.keeps kk⟩
theorem Ok.glh {s : Shared} (k : Ok fns mg mb c s ρ o) : Gl fns mg mb s.heap := k.gl.keeps k.keep

/-- fewer names -/
theorem Ok.sub {s : Shared} {ρ' : PEnv} (k : Ok fns mg mb c s ρ o) (h : ∀ x d, ρ'.lookup x = some d → ρ.lookup x = some d) : Ok fns mg mb c s ρ' o :=
  ⟨k.room, k.gl, k.keep, fun x d e => k.vars x d (h x d e), k.own, k.live, k.frame⟩

theorem Ev.cint {i : Int} {k : Nat} {p : Pos} : Ev prog w fns mg mb c ρ o (.Constant (.int i) k p) (.int i) :=
  ⟨fun _ _ _ _ h => wpAny_Constant_int (h _ _ _ (Keeps.refl _) ⟨_, rfl⟩)⟩
theorem Ev.cflt {i : UInt64} {k : Nat} {p : Pos} : Ev prog w fns mg mb c ρ o (.Constant (.float i) k p) (.flt i) :=
  ⟨fun _ _ _ _ h => wpAny_Constant_float (h _ _ _ (Keeps.refl _) ⟨_, rfl⟩)⟩
theorem Ev.cstr {i : Str} {k : Nat} {p : Pos} : Ev prog w fns mg mb c ρ o (.Constant (.str i) k p) (.str i) :=
  ⟨fun _ _ _ _ h => wpAny_Constant_str (h _ _ _ (Keeps.refl _) ⟨_, rfl⟩)⟩
theorem Ev.cnone {k : Nat} {p : Pos} : Ev prog w fns mg mb c ρ o (.Constant .none k p) .none :=
  ⟨fun s _ _ _ h => wpAny_Constant_none (h _ _ s.toks (Keeps.refl _) rfl)⟩
theorem Ev.cbool {b : Bool} {k : Nat} {p : Pos} : Ev prog w fns mg mb c ρ o (.Constant (.bool b) k p) (.bool b) :=
  ⟨fun s _ _ _ h => wpAny_Constant_bool (h _ _ s.toks (Keeps.refl _) rfl)⟩

theorem loadVar {A : Around} {x : Str} {v : Value} {s : Shared} {Q : Value → Shared → Prop} {E : Value → Shared → Prop} {env : Env} (hk : env.scope.kind = .function) (hv : VarAt env s.heap x v) (h : Q v s) :
    wpAny (model prog w) A (loadName env x) Q E s := by
  rcases hv with ⟨e, m, hm, hx⟩ | ⟨e | e, c, hc, hv⟩
  · exact wpAny_loadName_local hk e hm hx h
  · exact wpAny_loadName_cell hk e hc hv h
  · exact wpAny_loadName_free hk e.1 hc hv h e.2
theorem Ev.name {x : Str} {p : Pos} {d : D} (h : ρ.lookup x = some d) (hd : (x == ("__debug__" : Str)) = false) : Ev prog w fns mg mb c ρ o (.Name x p) d := by
  refine ⟨fun s Q E ok hQ => ?_⟩
  obtain ⟨v, h1, h2⟩ := ok.vars x d h
  exact wpAny_Name (loadVar ok.frame.kind h1 (hQ v s.heap s.toks (Keeps.refl _) h2)) hd

/-- a name of the top -/
theorem loadG {A : Around} {x : Str} {p : Pos} {v : Value} {s : Shared} {Q : Value → Shared → Prop} {E : Value → Shared → Prop} (ok : Ok fns mg mb c s ρ o) (hx : c.env.kindOf x = some .globalImplicit) (hv : mg x = some v)
    (hd : (x == ("__debug__" : Str)) = false) (h : Q v s) : wpAny (model prog w) A (eval (.Name x p) c.env) Q E s :=
  Calls.Name_function_global ok.frame.kind hx (Calls.loadGlobal_global (by rw [ok.frame.globals]; exact ok.glh.g) hv h) hd
theorem loadB {A : Around} {x : Str} {p : Pos} {v : Value} {s : Shared} {Q : Value → Shared → Prop} {E : Value → Shared → Prop} (ok : Ok fns mg mb c s ρ o) (hx : c.env.kindOf x = some .globalImplicit) (hn : mg x = none) (hv : bootBuiltins x = some v)
    (hn1 : x ≠ "__name__") (hd : (x == ("__debug__" : Str)) = false) (h : Q v s) : wpAny (model prog w) A (eval (.Name x p) c.env) Q E s :=
  Calls.Name_function_global ok.frame.kind hx (Calls.loadGlobal_builtin (by rw [ok.frame.globals]; exact ok.glh.g) hn (by rw [ok.frame.builtins]; exact ok.glh.b) ((ok.glh.bb x hn1).trans hv) h) hd
theorem Ev.gflt {x : Str} {p : Pos} {b : UInt64} {t : Tok} (hx : c.env.kindOf x = some .globalImplicit) (hv : mg x = some (.float b t)) (hd : (x == ("__debug__" : Str)) = false) : Ev prog w fns mg mb c ρ o (.Name x p) (.flt b) :=
  ⟨fun s _ _ ok hQ => loadG ok hx hv hd (hQ _ s.heap s.toks (Keeps.refl _) ⟨_, rfl⟩)⟩

/-- binary operations -/
noncomputable def Bin (prog : Program) (w : World) (op : Operator) (a b r : D) : Prop :=
  ∀ (A : Around) (va vb : Value) (av : List Addr) (s : Shared) (Q : Value → Shared → Prop) (E : Value → Shared → Prop), Room A 0 → Live av s.heap → Rep s.heap av a va → Rep s.heap av b vb →
    (∀ v h' tk, Keeps s.heap h' → Rep h' av r v → Q v { s with heap := h', toks := tk }) → wpAny (model prog w) A (binaryOp op va vb) Q E s
theorem Ev.bin {op : Operator} {l r : Expr} {p : Pos} {a b d : D} (h1 : Ev prog w fns mg mb c ρ o l a) (h2 : Ev prog w fns mg mb c ρ o r b) (hb : Bin prog w op a b d) : Ev prog w fns mg mb c ρ o (.BinOp l op r p) d := by
  refine ⟨fun s Q E ok hQ => ?_⟩
  refine wpAny_BinOp (h1.of s _ E ok fun v1 g1 t1 k1 r1 => ?_)
  refine h2.of _ _ E (ok.keeps k1 t1) fun v2 g2 t2 k2 r2 => ?_
  exact hb _ _ _ (avOf c o) _ _ _ (ok.room.less (Nat.zero_le _)) ((ok.live.keeps k1).keeps k2) (r1.keeps k2) r2 fun v h' tk k r => hQ v h' tk ((k1.trans k2).trans k) r

noncomputable def Cmp (prog : Program) (w : World) (op : CmpOp) (a b : D) (r : Bool) : Prop :=
  ∀ (A : Around) (va vb : Value) (av : List Addr) (s : Shared) (Q : Value → Shared → Prop) (E : Value → Shared → Prop), Room A 0 → Live av s.heap → Rep s.heap av a va → Rep s.heap av b vb →
    (∀ h' tk, Keeps s.heap h' → Q (.bool r) { s with heap := h', toks := tk }) → wpAny (model prog w) A (compareOp op va vb) Q E s
theorem Ev.cmp {op : CmpOp} {l r : Expr} {p : Pos} {a b : D} {d : Bool} (h1 : Ev prog w fns mg mb c ρ o l a) (h2 : Ev prog w fns mg mb c ρ o r b) (hb : Cmp prog w op a b d) (hm : behindInMarks op r = false) : Ev prog w fns mg mb c ρ o (.Compare l [op] [r] p) (.bool d) := by
  refine ⟨fun s Q E ok hQ => ?_⟩
  refine wpAny_Compare1 (h1.of s _ E ok fun v1 g1 t1 k1 r1 => ?_) hm
  refine h2.of _ _ E (ok.keeps k1 t1) fun v2 g2 t2 k2 r2 => ?_
  exact hb _ _ _ (avOf c o) _ _ _ (ok.room.less (Nat.zero_le _)) ((ok.live.keeps k1).keeps k2) (r1.keeps k2) r2 fun h' tk k => hQ _ h' tk ((k1.trans k2).trans k) rfl
theorem Tst.cmp {op : CmpOp} {l r : Expr} {p : Pos} {a b : D} {d : Bool} (h1 : Ev prog w fns mg mb c ρ o l a) (h2 : Ev prog w fns mg mb c ρ o r b) (hb : Cmp prog w op a b d) (hm : behindInMarks op r = false) : Tst prog w fns mg mb c ρ o (.Compare l [op] [r] p) d := by
  refine ⟨fun s Q E ok hQ => ?_⟩
  refine wpAny_isTrue_Compare1 (h1.of s _ E ok fun v1 g1 t1 k1 r1 => ?_) hm
  refine h2.of _ _ E (ok.keeps k1 t1) fun v2 g2 t2 k2 r2 => ?_
  exact hb _ _ _ (avOf c o) _ _ _ (ok.room.less (Nat.zero_le _)) ((ok.live.keeps k1).keeps k2) (r1.keeps k2) r2 fun h' tk k => wpAny_truthy_bool (hQ h' tk ((k1.trans k2).trans k))
/-- a test by an expression that gives a bool -/
theorem Tst.ev {e : Expr} {b : Bool} (h : Ev prog w fns mg mb c ρ o e (.bool b)) (he : ∀ env whole, isTrue e env whole = (do let v ← whole; standAt e.pos; holding [v] (truthy v))) : Tst prog w fns mg mb c ρ o e b := by
  refine ⟨fun s Q E ok hQ => ?_⟩
  refine wpAny_isTrue_value (h.of s _ E ok fun v h' tk k r => ?_) (he _ _)
  cases r
  exact wpAny_truthy_bool (hQ h' tk k)
theorem Tst.or_nil {p : Pos} : Tst prog w fns mg mb c ρ o (.BoolOp .Or [] p) false := ⟨fun s _ _ _ hQ => isTrue_or_nil (hQ s.heap s.toks (Keeps.refl _))⟩
theorem Tst.or {p : Pos} {x : Expr} {rest : List Expr} {a b : Bool} (h1 : Tst prog w fns mg mb c ρ o x a) (h2 : a = false → Tst prog w fns mg mb c ρ o (.BoolOp .Or rest p) b) : Tst prog w fns mg mb c ρ o (.BoolOp .Or (x :: rest) p) (a || b) := by
  refine ⟨fun s Q E ok hQ => ?_⟩
  refine isTrue_or (h1.of s _ E ok fun h' tk k => ?_)
  cases a with
  | true => exact hQ h' tk k
  | false => exact (h2 rfl).of _ _ E (ok.keeps k tk) fun h'' tk' k' => hQ h'' tk' (k.trans k')
theorem Tst.and_nil {p : Pos} : Tst prog w fns mg mb c ρ o (.BoolOp .And [] p) true := ⟨fun s _ _ _ hQ => isTrue_and_nil (hQ s.heap s.toks (Keeps.refl _))⟩
theorem Tst.and {p : Pos} {x : Expr} {rest : List Expr} {a b : Bool} (h1 : Tst prog w fns mg mb c ρ o x a) (h2 : a = true → Tst prog w fns mg mb c ρ o (.BoolOp .And rest p) b) : Tst prog w fns mg mb c ρ o (.BoolOp .And (x :: rest) p) (a && b) := by
  refine ⟨fun s Q E ok hQ => ?_⟩
  refine isTrue_and (h1.of s _ E ok fun h' tk k => ?_)
  cases a with
  | false => exact hQ h' tk k
  | true => exact (h2 rfl).of _ _ E (ok.keeps k tk) fun h'' tk' k' => hQ h'' tk' (k.trans k')
theorem Ev.ifexp {t b e : Expr} {p : Pos} {x : Bool} {d : D} (ht : Tst prog w fns mg mb c ρ o t x) (h1 : x = true → Ev prog w fns mg mb c ρ o b d) (h2 : x = false → Ev prog w fns mg mb c ρ o e d) : Ev prog w fns mg mb c ρ o (.IfExp t b e p) d := by
  refine ⟨fun s Q E ok hQ => ?_⟩
  refine wpAny_IfExp (ht.of s _ E ok fun h' tk k => ?_)
  cases x with
  | true => exact (h1 rfl).of _ _ E (ok.keeps k tk) fun v h'' tk' k' r => hQ v h'' tk' (k.trans k') r
  | false => exact (h2 rfl).of _ _ E (ok.keeps k tk) fun v h'' tk' k' r => hQ v h'' tk' (k.trans k') r
theorem Ev.neg {x : Expr} {p : Pos} {i : Int} (h : Ev prog w fns mg mb c ρ o x (.int i)) : Ev prog w fns mg mb c ρ o (.UnaryOp .USub x p) (.int (-i)) := by
  refine ⟨fun s Q E ok hQ => ?_⟩
  refine wpAny_UnaryOp (h.of s _ E ok fun v h' tk k r => ?_)
  obtain ⟨t, rfl⟩ := r
  exact PyProof.Rows.neg_int (hQ _ h' _ k ⟨_, rfl⟩)

/-- items of a display, or arguments -/
structure Evs (prog : Program) (w : World) (fns : List DefRec) (mg mb : Str → Option Value) (c : Fx) (ρ : PEnv) (o : Own) (es : List Expr) (ds : List D) : Prop where
  of : ∀ (pos : Pos) (s : Shared) (Q : List Value → Shared → Prop) (E : Value → Shared → Prop), Ok fns mg mb c s ρ o →
    (∀ vs h' tk, Keeps s.heap h' → Reps h' (avOf c o) ds vs → Q vs { s with heap := h', toks := tk }) → wpAny (model prog w) c.A (spliced (backTo pos (starEach es c.env))) Q E s
theorem Evs.nil : Evs prog w fns mg mb c ρ o [] [] := ⟨fun _ s _ _ _ hQ => wpAny_items_nil (hQ [] s.heap s.toks (Keeps.refl _) rfl)⟩
theorem Evs.cons {e : Expr} {es : List Expr} {d : D} {ds : List D} (h1 : Ev prog w fns mg mb c ρ o e d) (h2 : Evs prog w fns mg mb c ρ o es ds) (he : ∀ env, starEach (e :: es) env = (false, eval e env) :: starEach es env) : Evs prog w fns mg mb c ρ o (e :: es) (d :: ds) := by
  refine ⟨fun pos s Q E ok hQ => ?_⟩
  refine wpAny_items_cons (h1.of s _ E ok fun v h' tk k r => ?_) (he _)
  exact h2.of pos _ _ E (ok.keeps k tk) fun vs h'' tk' k' rs => hQ (v :: vs) h'' tk' (k.trans k') ⟨v, vs, rfl, r.keeps k', rs⟩

theorem Ev.tup {es : List Expr} {n : Nat} {p : Pos} {ds : List D} (h : Evs prog w fns mg mb c ρ o es ds) (hz : ds.length ≤ 1000) : Ev prog w fns mg mb c ρ o (.Tuple es n p) (.tup ds) := by
  refine ⟨fun s Q E ok hQ => ?_⟩
  refine wpAny_Tuple (h.of p s _ E ok fun vs h' tk k rs => ⟨?_, ?_⟩)
  · rw [rs.length]; exact Nat.le_trans hz (by decide)
  · refine hQ _ _ tk (k.trans (Keeps.push _ _)) ⟨_, vs, rfl, (ok.live.keeps k).new, ⟨_, Heap.get?_push_size _ rfl, rfl, _, rfl⟩, rs.keeps (Keeps.push _ _)⟩
theorem Ev.lst {es : List Expr} {p : Pos} {ds : List D} (h : Evs prog w fns mg mb c ρ o es ds) (hz : ds.length ≤ 1000) : Ev prog w fns mg mb c ρ o (.List es p) (.lst ds) := by
  refine ⟨fun s Q E ok hQ => ?_⟩
  refine wpAny_List (h.of p s _ E ok fun vs h' tk k rs => ⟨?_, ?_⟩)
  · rw [rs.length]; exact Nat.le_trans hz (by decide)
  · refine hQ _ _ tk (k.trans (Keeps.push _ _)) ⟨_, vs, rfl, (ok.live.keeps k).new, ⟨_, Heap.get?_push_size _ rfl, rfl, _, rfl⟩, rs.keeps (Keeps.push _ _)⟩

/-- calls: the arguments -/
theorem args_go {f : Value} {p : Pos} {e : Expr} {es : List Expr} {ds : List D} (hes : Evs prog w fns mg mb c ρ o (e :: es) ds) {s : Shared} {Q : Args → Shared → Prop} {E : Value → Shared → Prop} (ok : Ok fns mg mb c s ρ o)
    (he : ∀ env, starEach (e :: es) env = (false, eval e env) :: starEach es env) (hQ : ∀ vs h' tk, Keeps s.heap h' → Reps h' (avOf c o) ds vs → Q ⟨vs, []⟩ { s with heap := h', toks := tk }) :
    wpAny (model prog w) c.A (evalArgs f true (backTo p (starEach (e :: es) c.env)) []) Q E s := by
  have h := hes.of p s (fun vs s' => Q ⟨vs, []⟩ s') E ok hQ
  rw [he] at h ⊢
  exact Calls.evalArgs_plain h
/-- calls of the text's defs -/
theorem Ev.call {x : Str} {xp p : Pos} {e : Expr} {es : List Expr} {ds : List D} {d : D} {j : Nat} (hes : Evs prog w fns mg mb c ρ o (e :: es) ds) (hf : Fn prog w fns mg mb j x ds d) (hm : ∃ r ∈ fns, r.name = x) (hj : j ≤ c.k)
    (hx : c.env.kindOf x = some .globalImplicit) (hd : (x == ("__debug__" : Str)) = false) (he : ∀ env, starEach (e :: es) env = (false, eval e env) :: starEach es env) : Ev prog w fns mg mb c ρ o (.Call (.Name x xp) (e :: es) [] p) d := by
  refine ⟨fun s Q E ok hQ => ?_⟩
  obtain ⟨r, hr, rfl⟩ := hm
  obtain ⟨a, ob, pm, code, doc, h1, h2, h3, h4⟩ := ok.glh.fn r hr
  refine wpAny_Call_NameR (loadG ok hx h1 hd ?_)
  refine callWith_function_kw (o := ob) (fd := docDef r.name r.params r.body r.scope pm code doc) ?_
  refine args_go hes ok he fun vs h' tk k rs => ⟨⟨k _ _ h2, h3⟩, ?_⟩
  exact hf c.A a (avOf c o) _ _ _ E (ok.room.less hj) (ok.glh.keeps k) (ok.live.keeps k) h1 rs fun v h'' tk' k' r => hQ v h'' tk' (k.trans k') r
/-- built-in functions of positional arguments -/
noncomputable def Bi (prog : Program) (w : World) (f : Value) (ds : List D) (d : D) : Prop :=
  ∀ (A : Around) (av : List Addr) (vs : List Value) (s : Shared) (Q : Value → Shared → Prop) (E : Value → Shared → Prop), Room A 1 → s.heap.NoLimit → Live av s.heap → Reps s.heap av ds vs →
    (∀ v h' tk, Keeps s.heap h' → Rep h' av d v → Q v { s with heap := h', toks := tk }) → wpAny (model prog w) A (call f vs) Q E s
theorem Ev.bi {x : Str} {xp p : Pos} {e : Expr} {es : List Expr} {ds : List D} {d : D} {id : String} (hes : Evs prog w fns mg mb c ρ o (e :: es) ds) (hf : Bi prog w (.builtin id) ds d) (hk : 1 ≤ c.k)
    (hx : c.env.kindOf x = some .globalImplicit) (hn : mg x = none) (hv : bootBuiltins x = some (.builtin id)) (hn1 : x ≠ "__name__") (hd : (x == ("__debug__" : Str)) = false)
    (he : ∀ env, starEach (e :: es) env = (false, eval e env) :: starEach es env) (hp : (backTo p (starEach (e :: es) c.env)).any (·.1) = false) : Ev prog w fns mg mb c ρ o (.Call (.Name x xp) (e :: es) [] p) d := by
  refine ⟨fun s Q E ok hQ => ?_⟩
  refine wpAny_Call_NameR (loadB ok hx hn hv hn1 hd (Calls.callWith_builtin hp ?_))
  refine args_go hes ok he fun vs h' tk k rs => ?_
  exact hf c.A (avOf c o) _ _ _ E (ok.room.less hk) (ok.glh.nolimit.keeps k) (ok.live.keeps k) rs fun v h'' tk' k' r => hQ v h'' tk' (k.trans k') r
theorem Ev.bt {x : Str} {xp p : Pos} {e : Expr} {es : List Expr} {ds : List D} {d : D} {id : String} (hes : Evs prog w fns mg mb c ρ o (e :: es) ds) (hf : Bi prog w (.type id) ds d) (hk : 1 ≤ c.k)
    (hx : c.env.kindOf x = some .globalImplicit) (hn : mg x = none) (hv : bootBuiltins x = some (.type id)) (hn1 : x ≠ "__name__") (hd : (x == ("__debug__" : Str)) = false)
    (he : ∀ env, starEach (e :: es) env = (false, eval e env) :: starEach es env) (hp : (backTo p (starEach (e :: es) c.env)).any (·.1) = false) : Ev prog w fns mg mb c ρ o (.Call (.Name x xp) (e :: es) [] p) d := by
  refine ⟨fun s Q E ok hQ => ?_⟩
  refine wpAny_Call_NameR (loadB ok hx hn hv hn1 hd (PyProof.Rows.callWith_type hp ?_))
  refine args_go hes ok he fun vs h' tk k rs => ?_
  exact hf c.A (avOf c o) _ _ _ E (ok.room.less hk) (ok.glh.nolimit.keeps k) (ok.live.keeps k) rs fun v h'' tk' k' r => hQ v h'' tk' (k.trans k') r
end
end Wu
end
section
namespace Wu
open PySem PySem.Spec PySem.Calls PyProof.Rows PySem.W

theorem ns_same {h : Heap} {L : Addr} {m m' : Str → Option Value} (a : h.Ns L m) (b : h.Ns L m') (x : Str) : m x = m' x := by
  obtain ⟨o, es, ep, e1, e2, _, e3⟩ := a
  obtain ⟨o', es', ep', f1, f2, _, f3⟩ := b
  rw [e1] at f1
  cases f1
  rw [e2] at f2
  cases f2
  rw [← e3, ← f3]

section
variable {prog : Program} {w : World} {fns : List DefRec} {mg mb : Str → Option Value} {c : Fx} {ρ : PEnv} {o : Own}

/-- a change of the frame's own object at a (its dict, or a cell) -/
theorem Ok.change {s : Shared} (k : Ok fns mg mb c s ρ o) {a : Addr} {h' : Heap} {tk : Nat} {ρ' : PEnv} (hs : Heap.SameBut a s.heap h') (hb : c.base.get? a = none)
    (hq : ∀ ob items n, s.heap.get? a = some ob → ob.data ≠ .seq items n) (hl : ∃ ob, h'.get? a = some ob)
    (hv : ∀ x v, o.map (·.1) = some x → VarAt c.env s.heap x v → VarAt c.env h' x v)
    (hvars : ∀ x d, ρ'.lookup x = some d → ∃ v, VarAt c.env h' x v ∧ Rep s.heap (avOf c o) d v) (hf : FrameOk c.env c.base h') : Ok fns mg mb c { s with heap := h', toks := tk } ρ' o := by
  have kp : ∀ av, Kp av s.heap h' := fun av => Kp.of_same hs (.inr hq)
  refine ⟨k.room, k.gl, fun b ob e => ?_, fun x d e => ?_, ?_, fun b hb' => ?_, hf⟩
  · have : b ≠ a := fun q => by rw [q, hb] at e; cases e
    exact (hs.2 b this).trans (k.keep b ob e)
  · obtain ⟨v, h1, h2⟩ := hvars x d e
    exact ⟨v, h1, h2.kp (kp _)⟩
  · have ho := k.own
    cases o with
    | none => trivial
    | some p =>
      obtain ⟨x, l, ds⟩ := p
      obtain ⟨h0, h1, h2, vs, n, h3, h4⟩ := ho
      refine ⟨h0, h1, hv x _ rfl h2, vs, n, ?_, h4.kp (kp _)⟩
      have : l ≠ a := fun q => by subst q; exact hq _ _ _ h3 rfl
      exact (hs.2 l this).trans h3
  · by_cases q : b = a
    · subst q; exact hl
    · obtain ⟨ob, e⟩ := k.live b hb'
      exact ⟨ob, (hs.2 b q).trans e⟩

noncomputable def Storable (env : Env) (x : Str) : Prop := env.kindOf x = some .local ∨ (env.kindOf x = some .cell ∧ ∃ ca, env.cells.lookup x = some ca)

theorem store_raw {A : Around} {s : Shared} (F : FrameOk c.env c.base s.heap) {x : Str} {v : Value} (hx : Storable c.env x) {Q : Unit → Shared → Prop} {E : Value → Shared → Prop}
    (h : ∀ h' tk b, Heap.SameBut b s.heap h' → c.base.get? b = none → (∀ ob items n, s.heap.get? b = some ob → ob.data ≠ .seq items n) → (∃ ob, h'.get? b = some ob) →
      (∀ y v', y ≠ x → VarAt c.env s.heap y v' → VarAt c.env h' y v') → VarAt c.env h' x v → FrameOk c.env c.base h' → Q () { s with heap := h', toks := tk }) : wpAny (model prog w) A (storeName c.env x v) Q E s := by
  obtain ⟨m, hm⟩ := F.ns
  have hLd : ∀ ob items n, s.heap.get? c.env.locals = some ob → ob.data ≠ .seq items n := by
    obtain ⟨o', es, ep, e1, e2, _⟩ := hm
    intro ob items n e q
    rw [e1] at e; cases e; rw [e2] at q; cases q
  rcases hx with hx | ⟨hx, ca, hca⟩
  · refine wpAny_storeName_local hx hm (fun h' hm' hs => ?_) (by rw [F.kind]; rfl)
    have cellNe : ∀ ca v', s.heap.IsCell ca v' → ca ≠ c.env.locals := by
      intro ca v' hc q
      subst q
      obtain ⟨oc, e, ed⟩ := hc
      obtain ⟨o', es, ep, e1, e2, _⟩ := hm
      rw [e1] at e; cases e; rw [e2] at ed; cases ed
    refine h h' _ c.env.locals hs F.baseL hLd ?_ ?_ (.inl ⟨hx, _, hm', by rw [if_pos rfl]⟩) ?_
    · obtain ⟨o', _, _, e1, _⟩ := hm'; exact ⟨o', e1⟩
    · rintro y v' hy (⟨e, m₂, hm₂, hy₂⟩ | ⟨e, ca, hc, hv⟩)
      · exact .inl ⟨e, _, hm', by rw [if_neg hy, ns_same hm hm₂, hy₂]⟩
      · exact .inr ⟨e, ca, hc, hv.sameBut hs (cellNe _ _ hv)⟩
    · exact ⟨F.kind, F.globals, F.builtins, ⟨_, hm'⟩, F.baseL, fun y ca e => ⟨(F.cells y ca e).1, let ⟨v', hv⟩ := (F.cells y ca e).2; ⟨v', hv.sameBut hs (cellNe _ _ hv)⟩⟩, F.inj⟩
  · obtain ⟨hcb, v₀, hv₀⟩ := F.cells x ca hca
    refine wpAny_storeName_cell F.kind hx hca hv₀ fun h' hc' hs => ?_
    have hLne : c.env.locals ≠ ca := by
      intro q
      obtain ⟨oc, e, ed⟩ := hv₀
      obtain ⟨o', es, ep, e1, e2, _⟩ := hm
      rw [q] at e1
      rw [e1] at e; cases e; rw [e2] at ed; cases ed
    refine h h' s.toks ca hs hcb ?_ ?_ ?_ (.inr ⟨.inl hx, ca, hca, hc'⟩) ?_
    · obtain ⟨oc, e, ed⟩ := hv₀
      intro ob items n e' q
      rw [e] at e'; cases e'; rw [ed] at q; cases q
    · obtain ⟨oc, e, _⟩ := hc'; exact ⟨oc, e⟩
    · rintro y v' hy (⟨e, m₂, hm₂, hy₂⟩ | ⟨e, cb, hc, hv⟩)
      · exact .inl ⟨e, _, hm₂.sameBut hs hLne, hy₂⟩
      · exact .inr ⟨e, cb, hc, hv.sameBut hs (fun q => hy (F.inj y x ca (q ▸ hc) hca))⟩
    · refine ⟨F.kind, F.globals, F.builtins, ⟨m, hm.sameBut hs hLne⟩, F.baseL, fun y cb e => ⟨(F.cells y cb e).1, ?_⟩, F.inj⟩
      by_cases q : cb = ca
      · subst q; exact ⟨_, hc'⟩
      · obtain ⟨v', hv⟩ := (F.cells y cb e).2
        exact ⟨v', hv.sameBut hs q⟩

theorem store_ok {A : Around} {s : Shared} (k : Ok fns mg mb c s ρ o) {x : Str} {v : Value} {d : D} (hx : Storable c.env x) (hr : Rep s.heap (avOf c o) d v) (hn : o.map (·.1) ≠ some x) {Q : Unit → Shared → Prop} {E : Value → Shared → Prop}
    (h : ∀ h' tk, Ok fns mg mb c { s with heap := h', toks := tk } ((x, d) :: ρ) o → Q () { s with heap := h', toks := tk }) : wpAny (model prog w) A (storeName c.env x v) Q E s := by
  refine store_raw k.frame hx fun h' tk b hs hb hq hl hvar hvx hF => h h' tk (k.change hs hb hq hl (fun y v' hy => hvar y v' (fun q => hn (q ▸ hy))) (fun y d' e => ?_) hF)
  rw [List.lookup_cons] at e
  cases hyx : y == x with
  | true =>
    rw [hyx] at e; cases e
    have : y = x := beq_iff_eq.mp hyx
    subst this
    exact ⟨v, hvx, hr⟩
  | false =>
    rw [hyx] at e
    obtain ⟨v', h1, h2⟩ := k.vars y d' e
    exact ⟨v', hvar y v' (fun q => by rw [q, beq_self_eq_true] at hyx; cases hyx) h1, h2⟩

theorem Ex.assign {x : Str} {p p' : Pos} {e : Expr} {d : D} (he : Ev prog w fns mg mb c ρ o e d) (hx : Storable c.env x) (hn : o.map (·.1) ≠ some x) (hs : swapsWith e (some (.Name x p)) p'.line c.env = pure false) :
    Ex prog w fns mg mb c ρ o (.Assign [.Name x p] e p') (.next ((x, d) :: ρ) o) := by
  refine ⟨fun s Q E ok hQ => ?_⟩
  refine wpAny_Assign_Name (he.of s _ E ok fun v h' tk k r => ?_) hs
  exact store_ok (ok.keeps k tk) hx r hn fun h'' tk' ok' => hQ .next h'' tk' ⟨rfl, ok'⟩
theorem Ex.aug {x : Str} {p p' : Pos} {op : Operator} {e : Expr} {a b d : D} (ha : ρ.lookup x = some a) (he : Ev prog w fns mg mb c ρ o e b)
    (hop : ∀ (A : Around) (va vb : Value) (av : List Addr) (s : Shared) (Q : Value → Shared → Prop) (E : Value → Shared → Prop), Room A 0 → Live av s.heap → Rep s.heap av a va → Rep s.heap av b vb →
      (∀ v h' tk, Keeps s.heap h' → Rep h' av d v → Q v { s with heap := h', toks := tk }) → wpAny (model prog w) A (inplaceOp op va vb) Q E s)
    (hx : Storable c.env x) (hn : o.map (·.1) ≠ some x) :
    Ex prog w fns mg mb c ρ o (.AugAssign (.Name x p) op e p') (.next ((x, d) :: ρ) o) := by
  refine ⟨fun s Q E ok hQ => ?_⟩
  obtain ⟨v, h1, h2⟩ := ok.vars x a ha
  refine wpAny_AugAssign_Name (loadVar ok.frame.kind h1 (he.of s _ E ok fun v' h' tk k r => ?_))
  refine hop c.A _ _ (avOf c o) _ _ E (ok.room.less (Nat.zero_le _)) (ok.live.keeps k) (h2.keeps k) r fun v'' h'' tk' k' r' => ?_
  exact store_ok ((ok.keeps k tk).keeps k' tk') hx r' hn fun h3 tk3 ok' => hQ .next h3 tk3 ⟨rfl, ok'⟩
theorem Ex.ret {e : Expr} {p : Pos} {d : D} (he : Ev prog w fns mg mb c ρ none e d) : Ex prog w fns mg mb c ρ none (.Return (some e) p) (.ret d) := by
  refine ⟨fun s Q E ok hQ => ?_⟩
  refine wpAny_Return_some (he.of s _ E ok fun v h' tk k r => ?_)
  exact hQ _ h' tk ⟨v, rfl, ok.keep.trans k, r⟩
theorem Ex.if {t : Expr} {b e : List Stmt} {p : Pos} {x : Bool} {r : Res} (ht : Tst prog w fns mg mb c ρ o t x) (h1 : x = true → Exs prog w fns mg mb c ρ o b r) (h2 : x = false → Exs prog w fns mg mb c ρ o e r) : Ex prog w fns mg mb c ρ o (.If t b e p) r := by
  refine ⟨fun s Q E ok hQ => ?_⟩
  refine wpAny_If (ht.of s _ E ok fun h' tk k => ?_)
  cases x with
  | true => exact (h1 rfl).of _ _ E (ok.keeps k tk) fun f h'' tk' hr => hQ f h'' tk' hr
  | false => exact (h2 rfl).of _ _ E (ok.keeps k tk) fun f h'' tk' hr => hQ f h'' tk' hr
theorem Ex.cont {p : Pos} : Ex prog w fns mg mb c ρ o (.Continue p) (.cont ρ o) := ⟨fun s _ _ ok hQ => wpAny_Continue (hQ .cont s.heap s.toks ⟨rfl, ok⟩)⟩
theorem Exs.nil : Exs prog w fns mg mb c ρ o [] (.next ρ o) := ⟨fun s _ _ ok hQ => wpAny_execs_nil (hQ .next s.heap s.toks ⟨rfl, ok⟩)⟩
theorem Exs.cons {st : Stmt} {sts : List Stmt} {ρ' : PEnv} {o' : Own} {r : Res} (h1 : Ex prog w fns mg mb c ρ o st (.next ρ' o')) (h2 : Exs prog w fns mg mb c ρ' o' sts r) : Exs prog w fns mg mb c ρ o (st :: sts) r := by
  refine ⟨fun s Q E ok hQ => ?_⟩
  refine wpAny_execs_cons (h1.of s _ E ok fun f h' tk hr => ?_)
  obtain ⟨rfl, ok'⟩ := hr
  exact h2.of _ _ E ok' fun f h'' tk' hr => hQ f h'' tk' hr
theorem Exs.ret {st : Stmt} {sts : List Stmt} {d : D} (h1 : Ex prog w fns mg mb c ρ o st (.ret d)) : Exs prog w fns mg mb c ρ o (st :: sts) (.ret d) := by
  refine ⟨fun s Q E ok hQ => ?_⟩
  refine wpAny_execs_cons (h1.of s _ E ok fun f h' tk hr => ?_)
  have hr' := hr
  obtain ⟨v, rfl, _⟩ := hr
  exact hQ _ h' tk hr'
theorem Exs.cont {st : Stmt} {sts : List Stmt} {ρ' : PEnv} {o' : Own} (h1 : Ex prog w fns mg mb c ρ o st (.cont ρ' o')) : Exs prog w fns mg mb c ρ o (st :: sts) (.cont ρ' o') := by
  refine ⟨fun s Q E ok hQ => ?_⟩
  refine wpAny_execs_cons (h1.of s _ E ok fun f h' tk hr => ?_)
  have hr' := hr
  obtain ⟨rfl, _⟩ := hr
  exact hQ _ h' tk hr'
/-- fewer names ahead -/
theorem Exs.sub {ρ' : PEnv} {sts : List Stmt} {r : Res} (h : ∀ x d, ρ'.lookup x = some d → ρ.lookup x = some d) (h1 : Exs prog w fns mg mb c ρ' o sts r) : Exs prog w fns mg mb c ρ o sts r :=
  ⟨fun s Q E ok hQ => h1.of s Q E (ok.sub h) hQ⟩
/-- the filled list is data from here on -/
theorem Ok.freeze {s : Shared} {x : Str} {a : Addr} {ds : List D} (k : Ok fns mg mb c s ρ (some (x, a, ds))) : Ok fns mg mb c s ((x, .lst ds) :: ρ) none := by
  obtain ⟨h0, h1, h2, vs, n, h3, h4⟩ := k.own
  have sub : ∀ b ∈ c.avO, b ∈ a :: c.avO := fun b hb => List.mem_cons_of_mem _ hb
  have kp : Kp (a :: c.avO) s.heap s.heap := (Keeps.refl _).kp _
  refine ⟨k.room, k.gl, k.keep, fun y d e => ?_, trivial, fun b hb => k.live b (sub b hb), k.frame⟩
  rw [List.lookup_cons] at e
  cases hyx : y == x with
  | true =>
    rw [hyx] at e; cases e
    have : y = x := beq_iff_eq.mp hyx
    subst this
    exact ⟨_, h2, a, vs, rfl, h0, ⟨_, h3, rfl, n, rfl⟩, Reps.mono kp sub _ _ h4⟩
  | false =>
    rw [hyx] at e
    obtain ⟨v, r1, r2⟩ := k.vars y d e
    exact ⟨v, r1, Rep.mono kp sub _ _ r2⟩
theorem Exs.freeze {x : Str} {a : Addr} {ds : List D} {sts : List Stmt} {r : Res} (h : Exs prog w fns mg mb c ((x, .lst ds) :: ρ) none sts r) : Exs prog w fns mg mb c ρ (some (x, a, ds)) sts r :=
  ⟨fun s Q E ok hQ => h.of s Q E ok.freeze hQ⟩

mutual
theorem Rep.avoid {h : Heap} {av : List Addr} {a : Addr} (n : h.get? a = none) : ∀ (d : D) (v : Value), Rep h av d v → Rep h (a :: av) d v
  | .none, _, r => r
  | .bool _, _, r => r
  | .int _, _, r => r
  | .flt _, _, r => r
  | .str _, _, r => r
  | .ty _, _, r => r
  | .tup xs, v, r => by
    obtain ⟨b, vs, e, hb, ⟨o, ho, q⟩, hr⟩ := r
    exact ⟨b, vs, e, fun m => by rcases List.mem_cons.mp m with rfl | m; rw [n] at ho; cases ho; exact hb m, ⟨o, ho, q⟩, Reps.avoid n xs vs hr⟩
  | .lst xs, v, r => by
    obtain ⟨b, vs, e, hb, ⟨o, ho, q⟩, hr⟩ := r
    exact ⟨b, vs, e, fun m => by rcases List.mem_cons.mp m with rfl | m; rw [n] at ho; cases ho; exact hb m, ⟨o, ho, q⟩, Reps.avoid n xs vs hr⟩
theorem Reps.avoid {h : Heap} {av : List Addr} {a : Addr} (n : h.get? a = none) : ∀ (ds : List D) (vs : List Value), Reps h av ds vs → Reps h (a :: av) ds vs
  | [], _, r => r
  | d :: ds, vs, r => by
    obtain ⟨v, t, e, h1, h2⟩ := r
    exact ⟨v, t, e, Rep.avoid n d v h1, Reps.avoid n ds t h2⟩
end

/-- the expression gives a new plain list of these data -/
structure EvN (prog : Program) (w : World) (fns : List DefRec) (mg mb : Str → Option Value) (c : Fx) (ρ : PEnv) (e : Expr) (ds : List D) : Prop where
  of : ∀ (s : Shared) (Q : Value → Shared → Prop) (E : Value → Shared → Prop), Ok fns mg mb c s ρ none →
    (∀ a vs n h' tk, Keeps s.heap h' → s.heap.get? a = none → h'.get? a = some { cls := .type "list", data := .seq vs.toArray n } → Reps h' (a :: c.avO) ds vs → Q (.ref a) { s with heap := h', toks := tk }) → wpAny (model prog w) c.A (eval e c.env) Q E s
theorem EvN.nil {p : Pos} : EvN prog w fns mg mb c ρ (.List [] p) [] := by
  refine ⟨fun s Q E ok hQ => ?_⟩
  refine wpAny_List (wpAny_items_nil ⟨by decide, ?_⟩)
  refine hQ _ [] _ _ s.toks (Keeps.push _ _) ?_ (Heap.get?_push_size _ rfl) rfl
  cases e : s.heap.get? s.heap.objs.size with
  | none => rfl
  | some ob => exact absurd (Heap.lt_size e) (Nat.lt_irrefl _)
theorem EvN.ev {e : Expr} {ds : List D} (h : EvN prog w fns mg mb c ρ e ds) : Ev prog w fns mg mb c ρ none e (.lst ds) := by
  refine ⟨fun s Q E ok hQ => ?_⟩
  refine h.of s Q E ok fun a vs n h' tk k hn ha r => hQ _ h' tk k ⟨a, vs, rfl, ?_, ⟨_, ha, rfl, n, rfl⟩, Reps.mono ((Keeps.refl _).kp _) (fun b hb => List.mem_cons_of_mem _ hb) _ _ r⟩
  intro hm
  obtain ⟨ob, e⟩ := ok.live a hm
  rw [hn] at e; cases e

theorem Exs.own {x : Str} {p p' : Pos} {e : Expr} {ds : List D} {sts : List Stmt} {r : Res} (he : EvN prog w fns mg mb c ρ e ds) (hx : Storable c.env x) (hρ : ρ.lookup x = none) (hs : swapsWith e (some (.Name x p)) p'.line c.env = pure false)
    (h : ∀ a, Exs prog w fns mg mb c ρ (some (x, a, ds)) sts r) : Exs prog w fns mg mb c ρ none (.Assign [.Name x p] e p' :: sts) r := by
  refine ⟨fun s Q E ok hQ => ?_⟩
  refine wpAny_execs_cons (wpAny_Assign_Name (he.of s _ E ok fun a vs n h' tk k hn ha rs => ?_) hs)
  have ok1 := ok.keeps k tk
  have hav : a ∉ c.avO := fun hm => by obtain ⟨ob, e⟩ := ok.live a hm; rw [hn] at e; cases e
  have hba : c.base.get? a = none := by
    cases e : c.base.get? a with
    | none => rfl
    | some ob => have := ok.keep a ob e; rw [hn] at this; cases this
  refine store_raw ok1.frame hx fun h'' tk' b hs hb hq hl hvar hvx hF => (h a).of _ _ E ⟨ok1.room, ok1.gl, fun b' ob e => ?_, fun y d e => ?_, ⟨hav, hba, hvx, vs, n, ?_, ?_⟩, fun b' hb' => ?_, hF⟩ fun f h3 tk3 hr => hQ f h3 tk3 hr
  · have : b' ≠ b := fun q => by rw [q, hb] at e; cases e
    exact (hs.2 b' this).trans (ok1.keep b' ob e)
  · obtain ⟨v, r1, r2⟩ := ok.vars y d e
    have hy : y ≠ x := fun q => by rw [q, hρ] at e; cases e
    exact ⟨v, hvar y v hy (r1.keeps k), ((Rep.avoid hn d v r2).keeps k).kp (Kp.of_same hs (.inr hq))⟩
  · have : a ≠ b := fun q => by subst q; exact hq _ _ _ ha rfl
    exact (hs.2 a this).trans ha
  · exact rs.kp (Kp.of_same hs (.inr hq))
  · by_cases q : b' = b
    · subst q; exact hl
    · rcases List.mem_cons.mp hb' with rfl | hb'
      · exact ⟨_, (hs.2 _ q).trans ha⟩
      · obtain ⟨ob, e⟩ := ok1.live b' hb'
        exact ⟨ob, (hs.2 b' q).trans e⟩

/-- x.append(elt) upon the list that the frame is filling -/
theorem Ex.append {x : Str} {a : Addr} {ds : List D} {d : D} {elt : Expr} {xp apos pos pos' : Pos} (he : Ev prog w fns mg mb c ρ (some (x, a, ds)) elt d) (hz : ds.length ≤ 1000) (hd : (x == ("__debug__" : Str)) = false)
    (hi : interactive c.env = false) (hsw : swapsWith (.Call (.Attribute (.Name x xp) "append" apos) [elt] [] pos) none pos'.line c.env = pure false)
    (hbase : attributeBase (.Name x xp) "append" c.env (eval (.Name x xp) c.env) = eval (.Name x xp) c.env)
    (hfew : ((backTo pos (starEach [elt] c.env)).all (fun x => !x.1) && (backToKw pos (keywordEach [] c.env)).all (fun x => x.1.isSome)
      && decide (([elt] : List Expr).length + ([] : List Keyword).length + (if ([] : List Keyword).isEmpty then 0 else 1) < 30)) = true)
    (hline : (apos.endLine == pos.line) = true) (htrees : backTo pos (starEach [elt] c.env) = [(false, eval elt c.env)]) :
    Ex prog w fns mg mb c ρ (some (x, a, ds)) (.Expr (.Call (.Attribute (.Name x xp) "append" apos) [elt] [] pos) pos') (.next ρ (some (x, a, ds ++ [d]))) := by
  refine ⟨fun s Q E ok hQ => ?_⟩
  refine wpAny_Expr (wpAny_Call_append hbase hfew hline htrees ?_) hi hsw
  obtain ⟨h0, h1, h2, vs, n, h3, h4⟩ := ok.own
  refine wpAny_Name (loadVar ok.frame.kind h2 ⟨a, vs.toArray, rfl, ⟨_, n, h3, rfl, rfl, rfl⟩, ?_⟩) hd
  refine he.of s _ E ok fun v h' tk k r => ?_
  have ok' := ok.keeps k tk
  refine append_at (k _ _ h3) (fun h'' hs ha => ?_) (by rw [List.size_toArray, h4.length]; exact Nat.le_trans hz (by decide))
  refine hQ .next h'' tk ⟨rfl, ?_⟩
  have kp : Kp (a :: c.avO) h' h'' := Kp.of_same hs (.inl List.mem_cons_self)
  have neq : ∀ b ob, h'.get? b = some ob → (∀ items n, ob.data ≠ .seq items n) → b ≠ a := fun b ob e q r => by subst r; rw [k _ _ h3] at e; cases e; exact q _ _ rfl
  have nsn : ∀ m, h'.Ns c.env.locals m → h''.Ns c.env.locals m := fun m hm => by
    obtain ⟨o', es, ep, e1, e2, e3⟩ := hm
    exact ⟨o', es, ep, (hs.2 _ (neq _ _ e1 fun items n q => by rw [e2] at q; cases q)).trans e1, e2, e3⟩
  have celln : ∀ ca v', h'.IsCell ca v' → h''.IsCell ca v' := fun ca v' hc => by
    obtain ⟨oc, e, ed⟩ := hc
    exact ⟨oc, (hs.2 _ (neq _ _ e fun items n q => by rw [ed] at q; cases q)).trans e, ed⟩
  have varn : ∀ y v', VarAt c.env h' y v' → VarAt c.env h'' y v' := by
    rintro y v' (⟨e, m, hm, hy⟩ | ⟨e, ca, hc, hv⟩)
    · exact .inl ⟨e, m, nsn m hm, hy⟩
    · exact .inr ⟨e, ca, hc, celln _ _ hv⟩
  refine ⟨ok'.room, ok'.gl, fun b ob e => ?_, fun y d' e => ?_, ⟨h0, h1, varn _ _ (h2.keeps k), vs ++ [v], n + 1, ?_, ?_⟩, fun b hb => ?_, ?_⟩
  · have : b ≠ a := fun q => by rw [q, h1] at e; cases e
    exact (hs.2 b this).trans (ok'.keep b ob e)
  · obtain ⟨v', r1, r2⟩ := ok'.vars y d' e
    exact ⟨v', varn _ _ r1, r2.kp kp⟩
  · rw [ha, List.push_toArray]
  · exact ((h4.keeps k).append (Reps.one r)).kp kp
  · by_cases q : b = a
    · subst q; exact ⟨_, ha⟩
    · obtain ⟨ob, e⟩ := ok'.live b hb
      exact ⟨ob, (hs.2 b q).trans e⟩
  · exact ⟨ok'.frame.kind, ok'.frame.globals, ok'.frame.builtins, let ⟨m, hm⟩ := ok'.frame.ns; ⟨m, nsn m hm⟩, ok'.frame.baseL, fun y ca e => ⟨(ok'.frame.cells y ca e).1, let ⟨v', hv⟩ := (ok'.frame.cells y ca e).2; ⟨v', celln _ _ hv⟩⟩, ok'.frame.inj⟩
end
end Wu
end
section
namespace Wu
open PySem PySem.Spec PySem.Calls PyProof.Rows PySem.W

/-- no dict and no cell -/
noncomputable def Still (ob : Obj) : Prop := (∀ es n, ob.data ≠ .dict es n) ∧ ∀ v, ob.data ≠ .cell v

theorem still_fields {ob : Obj} {vs : Array Value} (hd : ob.data = .fields vs) : Still ob := ⟨fun es n q => (by rw [hd] at q; cases q), fun v q => (by rw [hd] at q; cases q)⟩
theorem still_seq {ob : Obj} {vs : Array Value} {n : Nat} (hd : ob.data = .seq vs n) : Still ob := ⟨fun es n q => (by rw [hd] at q; cases q), fun v q => (by rw [hd] at q; cases q)⟩
structure ItOk (prog : Program) (w : World) (A : Around) (av : List Addr) (old h : Heap) (I : Addr) (fp : List Addr) (n : Nat) (P : Nat → Value → Prop) (St : Nat → Heap → Prop) (xs : List D) : Prop where
  walks : Walks prog w A I fp [I] n P St
  len : n = xs.length
  st : St 0 h
  new : old.get? I = none
  iobj : ∀ i g, St i g → ∃ ob, g.get? I = some ob ∧ Still ob ∧ ∀ items k, ob.data ≠ .seq items k
  fps : ∀ b ∈ fp, b ≠ I → b ∉ av ∧ ∃ ob, h.get? b = some ob ∧ Still ob
  rep : ∀ g, Kp av h g → ∀ i v, P i v → ∃ d, xs[i]? = some d ∧ Rep g av d v

section
variable {prog : Program} {w : World} {fns : List DefRec} {mg mb : Str → Option Value} {c : Fx} {ρ : PEnv} {o : Own}

/-- the expression can be walked: the data -/
structure It (prog : Program) (w : World) (fns : List DefRec) (mg mb : Str → Option Value) (c : Fx) (ρ : PEnv) (o : Own) (e : Expr) (xs : List D) : Prop where
  of : ∀ (s : Shared) (Q : Value → Shared → Prop) (E : Value → Shared → Prop), Ok fns mg mb c s ρ o →
    (∀ I fp n P St h' tk, Keeps s.heap h' → ItOk prog w c.A (avOf c o) s.heap h' I fp n P St xs → Q (.ref I) { s with heap := h', toks := tk }) →
    wpAny (model prog w) c.A (eval e c.env) (fun x s₁ => wpAny (model prog w) c.A (pyIter x) Q E s₁) E s

theorem new_none (h : Heap) {h' : Heap} (k : Keeps h h') : h.get? h'.objs.size = none := by
  cases e : h.get? h'.objs.size with
  | none => rfl
  | some ob => exact absurd (Heap.lt_size (k _ _ e)) (Nat.lt_irrefl _)

theorem It.lst {e : Expr} {xs : List D} (h : Ev prog w fns mg mb c ρ o e (.lst xs)) : It prog w fns mg mb c ρ o e xs := by
  refine ⟨fun s Q E ok hQ => ?_⟩
  refine h.of s _ E ok fun v h' tk k r => ?_
  obtain ⟨a, vs, rfl, ha, hl, rs⟩ := r
  refine wpAny_pyIter_list hl ?_
  have hne : a ≠ h'.objs.size := by obtain ⟨ob, e, _⟩ := hl; exact Nat.ne_of_lt (Heap.lt_size e)
  refine hQ _ _ _ _ _ _ tk (k.trans (Keeps.push _ _)) ⟨Walks.list ok.room.handled _ a hne vs.toArray, ?_, ⟨⟨_, Heap.get?_push_size _ rfl, rfl, rfl⟩, hl.push _⟩, new_none _ k, ?_, ?_, ?_⟩
  · rw [List.size_toArray, rs.length]
  · rintro i g ⟨⟨ob, e, _, hd⟩, _⟩
    exact ⟨ob, e, still_fields hd, fun items n q => (by rw [hd] at q; cases q)⟩
  · intro b hb hbI
    have : b = a := by simpa [hbI] using hb
    subst this
    obtain ⟨ob, e, _, n, hd⟩ := hl
    exact ⟨ha, ob, Heap.get?_push_of_some _ e, still_seq hd⟩
  · intro g kg i v hv
    have hv' : vs[i]? = some v := by simpa using hv
    obtain ⟨d, e, r⟩ := rs.get' hv'
    exact ⟨d, e, (r.keeps (Keeps.push _ _)).kp kg⟩

theorem It.tup {e : Expr} {xs : List D} (h : Ev prog w fns mg mb c ρ o e (.tup xs)) : It prog w fns mg mb c ρ o e xs := by
  refine ⟨fun s Q E ok hQ => ?_⟩
  refine h.of s _ E ok fun v h' tk k r => ?_
  obtain ⟨a, vs, rfl, ha, hl, rs⟩ := r
  refine wpAny_pyIter_tuple hl ?_
  have hne : a ≠ h'.objs.size := by obtain ⟨ob, e, _⟩ := hl; exact Nat.ne_of_lt (Heap.lt_size e)
  refine hQ _ _ _ _ _ _ tk (k.trans (Keeps.push _ _)) ⟨Walks.tuple ok.room.handled _ a hne vs.toArray, ?_, ⟨⟨_, Heap.get?_push_size _ rfl, rfl, rfl⟩, IsTup.push hl _⟩, new_none _ k, ?_, ?_, ?_⟩
  · rw [List.size_toArray, rs.length]
  · rintro i g ⟨⟨ob, e, _, hd⟩, _⟩
    exact ⟨ob, e, still_fields hd, fun items n q => (by rw [hd] at q; cases q)⟩
  · intro b hb hbI
    have : b = a := by simpa [hbI] using hb
    subst this
    obtain ⟨ob, e, _, n, hd⟩ := hl
    exact ⟨ha, ob, Heap.get?_push_of_some _ e, still_seq hd⟩
  · intro g kg i v hv
    have hv' : vs[i]? = some v := by simpa using hv
    obtain ⟨d, e, r⟩ := rs.get' hv'
    exact ⟨d, e, (r.keeps (Keeps.push _ _)).kp kg⟩

/-- the signs of a text -/
noncomputable def signs (x : Str) : List D := x.cps.toList.map fun n => .str ⟨#[n]⟩
theorem It.str {e : Expr} {x : Str} (h : Ev prog w fns mg mb c ρ o e (.str x)) : It prog w fns mg mb c ρ o e (signs x) := by
  refine ⟨fun s Q E ok hQ => ?_⟩
  refine h.of s _ E ok fun v h' tk k r => ?_
  obtain ⟨t, rfl⟩ := r
  have main : ∀ ty (W : Walks prog w c.A h'.objs.size [h'.objs.size] [h'.objs.size] x.cps.size (SignAt x) (fun i h => h.IsStrIter h'.objs.size ty x t i)),
      Q (.ref h'.objs.size) { s with heap := h'.push { cls := .type ty, data := .fields #[.str x t, .int 0 0] }, toks := tk } := by
    intro ty W
    refine hQ _ _ _ _ _ _ tk (k.trans (Keeps.push _ _)) ⟨W, by simp [signs], ⟨_, Heap.get?_push_size _ rfl, rfl, rfl⟩, new_none _ k, ?_, ?_, ?_⟩
    · rintro i g ⟨ob, e, _, hd⟩
      exact ⟨ob, e, still_fields hd, fun items n q => (by rw [hd] at q; cases q)⟩
    · intro b hb hbI
      exact absurd (List.mem_singleton.mp hb) hbI
    · rintro g kg i v ⟨n, u, e, rfl⟩
      refine ⟨.str ⟨#[n]⟩, ?_, u, rfl⟩
      unfold signs
      rw [List.getElem?_map, Array.getElem?_toList, e]; rfl
  cases ha : x.cps.all (· < 128)
  · exact wpAny_pyIter_wide ha (main _ (Walks.strWide ok.room.handled _ x t))
  · exact wpAny_pyIter_ascii ha (main _ (Walks.strAscii ok.room.handled _ x t))

noncomputable def upto (n : Int) : List D := (List.range n.toNat).map fun (i : Nat) => .int (i : Int)
/-- range(e) -/
theorem It.range {x : Str} {xp p : Pos} {e : Expr} {n : Int} (he : Ev prog w fns mg mb c ρ o e (.int n)) (hlo : -(2 ^ 62) ≤ n) (hhi : n < 2 ^ 62)
    (hx : c.env.kindOf x = some .globalImplicit) (hn : mg x = none) (hv : bootBuiltins x = some (.type "range")) (hn1 : x ≠ "__name__") (hd : (x == ("__debug__" : Str)) = false)
    (hse : backTo p (starEach [e] c.env) = [(false, eval e c.env)]) : It prog w fns mg mb c ρ o (.Call (.Name x xp) [e] [] p) (upto n) := by
  refine ⟨fun s Q E ok hQ => ?_⟩
  refine wpAny_Call_NameR (loadB ok hx hn hv hn1 hd ?_)
  rw [hse]
  refine PySem.callWith_type rfl (Calls.evalArgs_plain (Calls.spliced_cons (he.of s _ E ok fun v h' tk k r => Calls.spliced_nil ?_)))
  obtain ⟨t, rfl⟩ := r
  refine call_range_1 ?_
  refine wpAny_pyIter_range (IsRange.new ..) (small_one (by decide) (by decide) hlo hhi) ?_
  have hsz : Builtin.Range.rangeSize 0 n 1 = (n.toNat : Int) := by rw [rangeSize_one]; split <;> omega
  have kk : Keeps h' (h'.push { cls := .type "range", data := .fields #[.int 0 tk, .int n t, .int 1 (tk + 1)] }) := Keeps.push _ _
  refine hQ _ _ _ _ _ _ _ ((k.trans kk).trans (Keeps.push _ _)) ⟨(Walks.range ok.room.handled _ 0 1 n.toNat).bound, by simp [upto], ?_, new_none _ (k.trans kk), ?_, ?_, ?_⟩
  · have e1 : (0 + ((0 : Nat) : Int) * 1) = 0 := by simp
    have e2 : ((n.toNat : Int) - ((0 : Nat) : Int)) = Builtin.Range.rangeSize 0 n 1 := by rw [hsz]; simp
    show IsRangeIter _ _ _ _ _
    rw [e1, e2]
    exact Heap.get?_push_size _ rfl
  · intro i g e
    exact ⟨_, e, still_fields rfl, fun items n q => (by cases q)⟩
  · intro b hb hbI
    exact absurd (List.mem_singleton.mp hb) hbI
  · intro g kg i v hp
    obtain ⟨hi, u, rfl⟩ := hp
    refine ⟨.int i, ?_, u, by simp⟩
    unfold upto
    rw [List.getElem?_map, List.getElem?_range hi]; rfl

/-- the iterator turned: the frame stands -/
theorem Ok.tick {s : Shared} (k : Ok fns mg mb c s ρ o) {I : Addr} {h' : Heap} {tk : Nat} (hb : c.base.get? I = none) (hk : ∀ b ob, b ∉ [I] → s.heap.get? b = some ob → h'.get? b = some ob)
    (hI : ∃ ob, s.heap.get? I = some ob ∧ Still ob ∧ ∀ items n, ob.data ≠ .seq items n) (hI' : I ∉ avOf c o) : Ok fns mg mb c { s with heap := h', toks := tk } ρ o := by
  obtain ⟨oI, eI, sI, nI⟩ := hI
  have up : ∀ b ob, b ≠ I → s.heap.get? b = some ob → h'.get? b = some ob := fun b ob n e => hk b ob (fun m => n (List.mem_singleton.mp m)) e
  have nsn : ∀ m, s.heap.Ns c.env.locals m → h'.Ns c.env.locals m := fun m hm => by
    obtain ⟨o', es, ep, e1, e2, e3⟩ := hm
    exact ⟨o', es, ep, up _ _ (fun q => by rw [q, eI] at e1; cases e1; exact sI.1 _ _ e2) e1, e2, e3⟩
  have celln : ∀ ca v', s.heap.IsCell ca v' → h'.IsCell ca v' := fun ca v' hc => by
    obtain ⟨oc, e, ed⟩ := hc
    exact ⟨oc, up _ _ (fun q => by rw [q, eI] at e; cases e; exact sI.2 _ ed) e, ed⟩
  have varn : ∀ y v', VarAt c.env s.heap y v' → VarAt c.env h' y v' := by
    rintro y v' (⟨e, m, hm, hy⟩ | ⟨e, ca, hc, hv⟩)
    · exact .inl ⟨e, m, nsn m hm, hy⟩
    · exact .inr ⟨e, ca, hc, celln _ _ hv⟩
  have kp : ∀ av, Kp av s.heap h' := fun av b _ ob items n e hd => up b ob (fun q => by rw [q, eI] at e; cases e; exact nI _ _ hd) e
  refine ⟨k.room, k.gl, fun b ob e => up b ob (fun q => by rw [q, hb] at e; cases e) (k.keep b ob e), fun y d e => ?_, ?_, fun b hb' => ?_, ?_⟩
  · obtain ⟨v, r1, r2⟩ := k.vars y d e
    exact ⟨v, varn _ _ r1, r2.kp (kp _)⟩
  · have ho := k.own
    cases o with
    | none => trivial
    | some p =>
      obtain ⟨x, l, ds⟩ := p
      obtain ⟨h0, h1, h2, vs, n, h3, h4⟩ := ho
      exact ⟨h0, h1, varn _ _ h2, vs, n, kp [] l (by simp) _ _ _ h3 rfl, h4.kp (kp _)⟩
  · by_cases q : b = I
    · exact absurd (q ▸ hb') hI'
    · obtain ⟨ob, e⟩ := k.live b hb'
      exact ⟨ob, up b ob q e⟩
  · exact ⟨k.frame.kind, k.frame.globals, k.frame.builtins, let ⟨m, hm⟩ := k.frame.ns; ⟨m, nsn m hm⟩, k.frame.baseL, fun y ca e => ⟨(k.frame.cells y ca e).1, let ⟨v', hv⟩ := (k.frame.cells y ca e).2; ⟨v', celln _ _ hv⟩⟩, k.frame.inj⟩

/-- the frame's own objects -/
noncomputable def hid (c : Fx) (o : Own) : List Addr := c.env.locals :: ((match o with | none => [] | some p => [p.2.1]) ++ c.env.cells.filterMap fun p => c.env.cells.lookup p.1)
noncomputable def Fx.over (c : Fx) (h : Heap) : Fx := { c with base := h }
theorem hid_cell {c : Fx} {o : Own} {x : Str} {a : Addr} (e : c.env.cells.lookup x = some a) : a ∈ hid c o := by
  refine List.mem_cons_of_mem _ (List.mem_append_right _ ?_)
  rw [List.mem_filterMap]
  exact ⟨(x, a), PySem.mem_of_lookup e, e⟩
theorem hid_own {c : Fx} {x : Str} {a : Addr} {ds : List D} : a ∈ hid c (some (x, a, ds)) := List.mem_cons_of_mem _ (List.mem_append_left _ (List.mem_singleton.mpr rfl))
theorem of_hid {c : Fx} {o : Own} {b : Addr} (h : b ∈ hid c o) : b = c.env.locals ∨ (∃ x ds, o = some (x, b, ds)) ∨ ∃ x, c.env.cells.lookup x = some b := by
  rcases List.mem_cons.mp h with rfl | h
  · exact .inl rfl
  · rcases List.mem_append.mp h with h | h
    · right; left
      cases o with
      | none => cases h
      | some p => obtain ⟨x, a, ds⟩ := p; rw [List.mem_singleton.mp h]; exact ⟨x, ds, rfl⟩
    · right; right
      obtain ⟨p, _, e⟩ := List.mem_filterMap.mp h
      exact ⟨p.1, e⟩
theorem Ok.base_hid {s : Shared} (k : Ok fns mg mb c s ρ o) : ∀ b ∈ hid c o, c.base.get? b = none := by
  intro b hb
  rcases of_hid hb with rfl | ⟨x, ds, rfl⟩ | ⟨x, e⟩
  · exact k.frame.baseL
  · exact k.own.2.1
  · exact (k.frame.cells x b e).1
theorem Ok.keeps_hid {s : Shared} (k : Ok fns mg mb c s ρ o) : Keeps c.base (hideAll s.heap (hid c o)) := fun b ob e =>
  hideAll_get _ (k.keep b ob e) fun hb => by rw [k.base_hid b hb] at e; cases e
theorem Ok.over {s : Shared} (k : Ok fns mg mb c s ρ o) : Ok fns mg mb (c.over (hideAll s.heap (hid c o))) s ρ o := by
  refine ⟨k.room, k.gl.keeps k.keeps_hid, fun b ob e => of_hideAll _ e, k.vars, ?_, k.live, ⟨k.frame.kind, k.frame.globals, k.frame.builtins, k.frame.ns, hideAll_none _ (List.mem_cons_self), fun x a e => ⟨hideAll_none _ (hid_cell e), (k.frame.cells x a e).2⟩, k.frame.inj⟩⟩
  have ho := k.own
  cases o with
  | none => trivial
  | some p =>
    obtain ⟨x, l, ds⟩ := p
    exact ⟨ho.1, hideAll_none _ hid_own, ho.2.2⟩
theorem Ok.back {s : Shared} {b' : Heap} (k : Ok fns mg mb (c.over b') s ρ o) (hb : Keeps c.base b') (G : Gl fns mg mb c.base) : Ok fns mg mb c s ρ o := by
  have nn : ∀ b, b'.get? b = none → c.base.get? b = none := fun b e => by
    cases q : c.base.get? b with
    | none => rfl
    | some ob => rw [hb b ob q] at e; cases e
  refine ⟨k.room, G, fun b ob e => k.keep b ob (hb b ob e), k.vars, ?_, k.live, ⟨k.frame.kind, k.frame.globals, k.frame.builtins, k.frame.ns, nn _ k.frame.baseL, fun x a e => ⟨nn _ (k.frame.cells x a e).1, (k.frame.cells x a e).2⟩, k.frame.inj⟩⟩
  have ho := k.own
  cases o with
  | none => trivial
  | some p =>
    obtain ⟨x, l, ds⟩ := p
    exact ⟨ho.1, nn _ ho.2.1, ho.2.2⟩
/-- an object of the iterator's is none of the frame's own -/
theorem not_hid {s : Shared} (k : Ok fns mg mb c s ρ o) {b : Addr} {ob : Obj} (e : s.heap.get? b = some ob) (st : Still ob) (hav : b ∉ avOf c o ∨ ∀ items n, ob.data ≠ .seq items n) : b ∉ hid c o := by
  intro h
  rcases of_hid h with rfl | ⟨x, ds, rfl⟩ | ⟨x, q⟩
  · obtain ⟨m, o', es, ep, e1, e2, _⟩ := k.frame.ns
    rw [e] at e1; cases e1; exact st.1 _ _ e2
  · rcases hav with hav | hav
    · exact hav List.mem_cons_self
    · obtain ⟨_, _, _, vs, n, e3, _⟩ := k.own
      rw [e] at e3; cases e3; exact hav _ _ rfl
  · obtain ⟨v, oc, e1, e2⟩ := (k.frame.cells x b q).2
    rw [e] at e1; cases e1; exact st.2 _ e2

/-- a for over a name: the state behind i turns is st i -/
theorem Ex.for {x : Str} {px p : Pos} {iter : Expr} {body : List Stmt} {xs : List D} (st : Nat → PEnv × Own) (hit : It prog w fns mg mb c ρ o iter xs) (h0 : st 0 = (ρ, o)) (hx : Storable c.env x)
    (hn : ∀ i, (st i).2.map (·.1) ≠ some x) (hav : ∀ i, avOf c (st i).2 = avOf c o)
    (hbody : ∀ (b : Heap) (i : Nat) (d : D), xs[i]? = some d → Exs prog w fns mg mb (c.over b) ((x, d) :: (st i).1) (st i).2 body (.next (st (i + 1)).1 (st (i + 1)).2) ∨ Exs prog w fns mg mb (c.over b) ((x, d) :: (st i).1) (st i).2 body (.cont (st (i + 1)).1 (st (i + 1)).2))
    (hs : ∀ y, foldedSetIterable iter c.env y = pure y) (ht : ∀ it v, letOwnedTupleGo (.Name x px) it v = pure ()) :
    Ex prog w fns mg mb c ρ o (.For (.Name x px) iter body [] p) (.next (st xs.length).1 (st xs.length).2) := by
  refine ⟨fun s Q E ok hQ => ?_⟩
  refine wpAny_For (hit.of s _ E ok fun I fp n P St h' tk k it => ?_) hs
  have ok1 := ok.keeps k tk
  obtain ⟨W, rfl, st0, hnew, iobj, fps, rep⟩ := it
  have hIb : c.base.get? I = none := by
    cases e : c.base.get? I with
    | none => rfl
    | some ob => have := ok.keep I ob e; rw [hnew] at this; cases this
  refine codeAny_forLoop (R := fun r s' => match r with | .ok f => Q f s' | .error e => cameBackBy (model prog w) c.A c.env E e s')
    (fun k s' => ∃ g tg i, s' = { s with heap := g, toks := tg } ∧ i ≤ xs.length ∧ k = xs.length + 1 - i ∧ St i g ∧ Ok fns mg mb c { s with heap := g, toks := tg } (st i).1 (st i).2 ∧ Kp (avOf c o) h' g ∧ (∀ b ∈ fp, b ≠ I → ∀ ob, h'.get? b = some ob → g.get? b = some ob)) ?_ (xs.length + 1)
    ⟨h', tk, 0, rfl, Nat.zero_le _, rfl, st0, by rw [h0]; exact ok1, (Keeps.refl _).kp _, fun _ _ _ _ e => e⟩ (ht _)
  rintro m s' ⟨g, tg, i, rfl, hi, rfl, sti, oki, kpi, fpi⟩
  have tickI : ∃ ob, g.get? I = some ob ∧ Still ob ∧ ∀ items n, ob.data ≠ .seq items n := iobj i g sti
  have hIav : I ∉ avOf c (st i).2 := fun hm => by
    rw [hav i] at hm
    obtain ⟨ob, e⟩ := ok.live I hm
    rw [hnew] at e; cases e
  by_cases hlt : i < xs.length
  · refine W.item i _ _ _ hlt sti fun v g1 tg1 hP st1 hk1 => ?_
    have ok2 : Ok fns mg mb c { s with heap := g1, toks := tg1 } (st i).1 (st i).2 := oki.tick hIb hk1 tickI hIav
    have kp1 : Kp (avOf c o) h' g1 := fun b hb ob items n e hd => by
      have e2 := kpi b hb ob items n e hd
      obtain ⟨oI, eI, _, nI⟩ := tickI
      exact hk1 b ob (fun m => by rw [List.mem_singleton.mp m, eI] at e2; cases e2; exact nI _ _ hd) e2
    have fp1 : ∀ b ∈ fp, b ≠ I → ∀ ob, h'.get? b = some ob → g1.get? b = some ob := fun b hb hbI ob e => hk1 b ob (fun m => hbI (List.mem_singleton.mp m)) (fpi b hb hbI ob e)
    obtain ⟨d, hd, rd⟩ := rep g1 kp1 i v hP
    have okO := ok2.over
    have fpk : ∀ b ∈ fp, ∀ ob, g1.get? b = some ob → (hideAll g1 (hid c (st i).2)).get? b = some ob := fun b hb ob e => by
      refine hideAll_get _ e ?_
      by_cases hbI : b = I
      · subst hbI
        obtain ⟨oI, eI, sI, nI⟩ := iobj _ _ st1
        rw [e] at eI; cases eI
        exact not_hid ok2 e sI (.inr nI)
      · obtain ⟨hbav, ob', e', sb⟩ := fps b hb hbI
        have := fp1 b hb hbI ob' e'
        rw [e] at this; cases this
        exact not_hid ok2 e sb (.inl (by rw [hav i]; exact hbav))
    have kpO : ∀ g3 : Heap, Keeps (hideAll g1 (hid c (st i).2)) g3 → Kp (avOf c o) h' g3 := fun g3 kk b hb ob items n e hd => by
      have e2 := kp1 b hb ob items n e hd
      refine kk b ob (hideAll_get _ e2 (not_hid ok2 e2 (still_seq hd) (.inl (by rw [hav i]; exact hb))))
    refine wpAny_assign_Name (store_ok (c := c.over _) okO hx (d := d) (by show Rep g1 (avOf c (st i).2) d v; rw [hav i]; exact rd) (hn i) fun g2 tg2 ok3 => ?_)
    have fin : ∀ g3 tg3, Ok fns mg mb (c.over (hideAll g1 (hid c (st i).2))) { s with heap := g3, toks := tg3 } (st (i + 1)).1 (st (i + 1)).2 → ∃ m, m < xs.length + 1 - i ∧ ∃ g tg j, ({ s with heap := g3, toks := tg3 } : Shared) = { s with heap := g, toks := tg } ∧ j ≤ xs.length ∧ m = xs.length + 1 - j ∧ St j g ∧
        Ok fns mg mb c { s with heap := g, toks := tg } (st j).1 (st j).2 ∧ Kp (avOf c o) h' g ∧ (∀ b ∈ fp, b ≠ I → ∀ ob, h'.get? b = some ob → g.get? b = some ob) := by
      intro g3 tg3 ok4
      refine ⟨xs.length + 1 - (i + 1), by omega, g3, tg3, i + 1, rfl, hlt, rfl, W.frame _ _ _ st1 fun b hb ob e => ok4.keep b ob (fpk b hb ob e), ok4.back ok2.keeps_hid ok.gl, kpO g3 ok4.keep, fun b hb hbI ob e => ok4.keep b ob (fpk b hb ob (fp1 b hb hbI ob e))⟩
    rcases hbody (hideAll g1 (hid c (st i).2)) i d hd with hb | hb
    · refine hb.of _ _ _ ok3 fun f g3 tg3 hr => ?_
      obtain ⟨rfl, ok4⟩ := hr
      exact fin g3 tg3 ok4
    · refine hb.of _ _ _ ok3 fun f g3 tg3 hr => ?_
      obtain ⟨rfl, ok4⟩ := hr
      exact fin g3 tg3 ok4
  · obtain rfl : i = xs.length := Nat.le_antisymm hi (Nat.not_lt.mp hlt)
    refine W.done _ _ _ sti fun g1 tg1 hk1 => wpAny_execs_nil (hQ .next g1 tg1 ⟨rfl, ?_⟩)
    exact oki.tick hIb hk1 tickI hIav
end
end Wu
end
section
namespace Wu
open PySem PySem.Spec PySem.Calls PyProof.Rows PySem.W

theorem lookup_rev {α : Type} {x : Str} : ∀ {l : List (Str × α)}, (l.map (·.1)).Nodup → l.reverse.lookup x = l.lookup x
  | [], _ => rfl
  | (k, v) :: r, h => by
    rw [List.map_cons, List.nodup_cons] at h
    rw [List.reverse_cons, List.lookup_append, lookup_rev h.2, List.lookup_cons, List.lookup_cons]
    cases hb : x == k with
    | false => simp
    | true =>
      have : x = k := beq_iff_eq.mp hb
      subst this
      cases q : r.lookup x with
      | none => simp
      | some v' => exact absurd (List.mem_map_of_mem (f := (·.1)) (PySem.mem_of_lookup q)) h.1
theorem lookup_zip {h : Heap} {av : List Addr} {x : Str} {d : D} : ∀ {names : List Str} {ds : List D} {vs : List Value}, Reps h av ds vs → (names.zip ds).lookup x = some d → ∃ v, (names.zip vs).lookup x = some v ∧ Rep h av d v
  | [], _, _, _, e => by simp at e
  | _ :: _, [], _, _, e => by simp at e
  | n :: ns, d' :: ds, _, r, e => by
    obtain ⟨v, t, rfl, r1, r2⟩ := r
    rw [List.zip_cons_cons, List.lookup_cons] at e ⊢
    cases hb : x == n with
    | true => rw [hb] at e; cases e; exact ⟨v, rfl, r1⟩
    | false => rw [hb] at e; exact lookup_zip r2 e

section
variable {prog : Program} {w : World} {fns : List DefRec} {mg mb : Str → Option Value}

/-- a def without cells: its word by its body -/
theorem Fn.plain {r : DefRec} {names : List Str} {ds : List D} {d : D} {k : Nat} (hr : r ∈ fns)
    (hb : ∀ pm code doc (vs : List Value), vs.length = ds.length → bindArgs (docDef r.name r.params r.body r.scope pm code doc) ⟨vs, []⟩ = pure (names.zip vs))
    (hln : names.length = ds.length) (hnd : names.Nodup) (hloc : ∀ x ∈ names, r.scope.names.lookup x = some .local) (hcell : ∀ x ∈ r.scope.names, x.2 ≠ .cell)
    (hco : r.scope.isCoroutine = false) (hgen : r.scope.isGenerator = false) (hk : r.scope.kind = .function)
    (body : ∀ (A : Around) (L a : Addr) (code : Value) (base : Heap) (av : List Addr), Exs prog w fns mg mb ⟨A, envOf r.name r.scope L a code, base, av, k⟩ (names.zip ds) none r.body (.ret d)) :
    Fn prog w fns mg mb (k + 1) r.name ds d := by
  intro A a av vs s Q E room G live hn rs hQ
  obtain ⟨a', ob, pm, code, doc, h1, h2, h3, h4⟩ := G.fn r hr
  rw [hn] at h1
  cases h1
  refine wpAny_call ?_
  have keysZ : ∀ {α : Type} (l : List α), l.length = names.length → (names.zip l).map (·.1) = names := fun l hl => by
    rw [List.map_fst_zip]; omega
  have hlv : vs.length = names.length := by rw [rs.length, hln]
  refine call_plain (by have := room.depth; omega) h2 h3 G.nolimit h4 (hb pm code doc vs rs.length) ?_ (fun h₁ F => ?_) hco hgen hk hcell
  · intro x hx
    refine hloc x.1 ?_
    have := List.mem_map_of_mem (f := (·.1)) hx
    rwa [keysZ vs hlv] at this
  · have rm : Room (A.deeper (envOf r.name r.scope s.heap.objs.size a code)) k := ⟨room.handled, by have := room.depth; show A.depth + 1 + k < _; omega, by have := room.units; show A.units + 3 + 10 * k < _; omega⟩
    have ok : Ok fns mg mb ⟨A.deeper (envOf r.name r.scope s.heap.objs.size a code), envOf r.name r.scope s.heap.objs.size a code, s.heap, av, k⟩ { s with heap := h₁, toks := s.toks + (names.zip vs).length } (names.zip ds) none := by
      refine ⟨rm, G, F.keep, fun x d' e => ?_, trivial, live.keeps F.keep, ⟨hk, rfl, rfl, ⟨_, F.ns⟩, Heap.get?_none_of_le (Nat.le_refl _), fun x c e => (by cases e), fun x y c e => (by cases e)⟩⟩
      obtain ⟨v, e1, r1⟩ := lookup_zip rs e
      refine ⟨v, .inl ⟨?_, _, F.ns, ?_⟩, r1.keeps F.keep⟩
      · refine hloc x ?_
        have := List.mem_map_of_mem (f := (·.1)) (PySem.mem_of_lookup e1)
        rwa [keysZ vs hlv] at this
      · rw [lookup_rev (by rw [keysZ vs hlv]; exact hnd)]; exact e1
    refine (body _ _ _ _ _ _).of _ _ _ ok fun f h' tk hr' => ?_
    obtain ⟨v, rfl, kk, rv⟩ := hr'
    exact hQ v h' tk kk rv

variable {c : Fx} {ρ : PEnv} {o : Own}
/-- less is said behind -/
theorem Exs.post {sts : List Stmt} {ρ' ρ'' : PEnv} {o' : Own} (h : Exs prog w fns mg mb c ρ o sts (.next ρ'' o')) (hs : ∀ x d, ρ'.lookup x = some d → ρ''.lookup x = some d) : Exs prog w fns mg mb c ρ o sts (.next ρ' o') :=
  ⟨fun s Q E ok hQ => h.of s Q E ok fun f h' tk hr => hQ f h' tk ⟨hr.1, hr.2.sub hs⟩⟩
theorem Exs.postc {sts : List Stmt} {ρ' ρ'' : PEnv} {o' : Own} (h : Exs prog w fns mg mb c ρ o sts (.cont ρ'' o')) (hs : ∀ x d, ρ'.lookup x = some d → ρ''.lookup x = some d) : Exs prog w fns mg mb c ρ o sts (.cont ρ' o') :=
  ⟨fun s Q E ok hQ => h.of s Q E ok fun f h' tk hr => hQ f h' tk ⟨hr.1, hr.2.sub hs⟩⟩

/-- a name bound at the head of ρ is looked up by text -/
theorem ofs_inj {a b : String} : Str.ofString a = Str.ofString b ↔ a = b := by
  constructor
  · intro h
    rw [Str.ofString_eq_toList, Str.ofString_eq_toList] at h
    have h2 : (a.toList.map Char.toNat) = b.toList.map Char.toNat := by
      have := congrArg (fun x => x.cps.toList) h
      simpa using this
    have inj : ∀ l m : List Char, l.map Char.toNat = m.map Char.toNat → l = m := by
      intro l
      induction l with
      | nil => intro m e; cases m; rfl; cases e
      | cons x l ih =>
        intro m e
        cases m with
        | nil => cases e
        | cons y m =>
          simp only [List.map_cons, List.cons.injEq] at e
          rw [ih m e.2, Char.toNat_inj.mp e.1]
    exact String.toList_inj.mp (inj _ _ h2)
  · rintro rfl; rfl
theorem ofs_beq (a b : String) : (Str.ofString a == Str.ofString b) = decide (a = b) := by
  by_cases h : a = b
  · subst h; simp
  · rw [decide_eq_false h, beq_eq_false_iff_ne]; exact fun q => h (ofs_inj.mp q)
end
end Wu
end
section
namespace Wu
open PySem PySem.Spec PySem.Calls PyProof.Rows PySem.W

noncomputable def dr (i : Nat) : DefRec := match pw.main.body[i]? with
  | some (.FunctionDef n a b _ _ _ sc _ _ pos) => ⟨n, a, b, sc, pos⟩
  | _ => ⟨"", ⟨[], [], none, [], [], none, []⟩, [], ⟨.function, [], false, false, []⟩, ⟨0, 0, 0, 0⟩⟩
noncomputable def fnIdx : List Nat := [4, 5, 6, 7, 9, 10, 12, 13, 14, 15, 16, 19, 21, 23, 25, 27, 28, 29, 30, 31, 32, 33, 34]
noncomputable def fnsW : List DefRec := fnIdx.map dr
theorem dr_mem {i : Nat} (h : fnIdx.contains i = true) : dr i ∈ fnsW := List.mem_map_of_mem (List.contains_iff_mem.mp h)

section
variable {prog : Program} {w : World} {mg mb : Str → Option Value}
theorem Bin.mulI {a b : Int} (h : IntMulOk a b) : Bin prog w .Mult (.int a) (.int b) (.int (a * b)) := by
  intro A va vb av s Q E room live ra rb hQ
  obtain ⟨t, rfl⟩ := ra
  obtain ⟨u, rfl⟩ := rb
  exact PyProof.Rows.mul_int (hQ _ _ _ (Keeps.refl _) ⟨_, rfl⟩) h

theorem fn_mul {a b : Int} (h : IntMulOk a b) : Fn prog w fnsW mg mb 1 "mul" [.int a, .int b] (.int (a * b)) := by
  refine Fn.plain (r := dr 12) (names := ["a", "b"]) (k := 0) (dr_mem rfl) ?hb rfl ?nd ?loc ?cell rfl rfl rfl ?body
  case hb => intro pm code doc vs h; match vs, h with | [x, y], _ => rfl
  case nd => simp [ofs_inj]
  case loc => intro x hx; simp at hx; rcases hx with rfl | rfl <;> rfl
  case cell => decide
  case body =>
    intro A L a code base av
    refine Exs.ret (Ex.ret (Ev.bin (Ev.name ?_ ?_) (Ev.name ?_ ?_) (Bin.mulI h)))
    · rfl
    · rfl
    · rfl
    · rfl
end
end Wu
end
section
namespace Wu
open PySem PySem.Spec PySem.Calls PyProof.Rows PySem.W
section
variable {prog : Program} {w : World}
theorem Bin.addI {a b : Int} : Bin prog w .Add (.int a) (.int b) (.int (a + b)) := by
  rintro A va vb av s Q E room live ⟨t, rfl⟩ ⟨u, rfl⟩ hQ
  exact PyProof.Rows.add_int (hQ _ _ _ (Keeps.refl _) ⟨_, rfl⟩)
theorem Bin.subI {a b : Int} : Bin prog w .Sub (.int a) (.int b) (.int (a - b)) := by
  rintro A va vb av s Q E room live ⟨t, rfl⟩ ⟨u, rfl⟩ hQ
  exact PyProof.Rows.sub_int (hQ _ _ _ (Keeps.refl _) ⟨_, rfl⟩)
theorem Bin.modI {a b : Int} (h : b ≠ 0) : Bin prog w .Mod (.int a) (.int b) (.int (a.fmod b)) := by
  rintro A va vb av s Q E room live ⟨t, rfl⟩ ⟨u, rfl⟩ hQ
  exact PyProof.Rows.mod_int h (hQ _ _ _ (Keeps.refl _) ⟨_, rfl⟩)
theorem Bin.divI {a b : Int} (h : b ≠ 0) (hp : Builtin.divisionGoesByPylong a b = false) : Bin prog w .FloorDiv (.int a) (.int b) (.int (a.fdiv b)) := by
  rintro A va vb av s Q E room live ⟨t, rfl⟩ ⟨u, rfl⟩ hQ
  exact PyProof.Rows.floordiv_int h (hQ _ _ _ (Keeps.refl _) ⟨_, rfl⟩) (.inl hp)
theorem Bin.xorI {a b : Int} : Bin prog w .BitXor (.int a) (.int b) (.int (Builtin.bitXor a b)) := by
  rintro A va vb av s Q E room live ⟨t, rfl⟩ ⟨u, rfl⟩ hQ
  exact PyProof.Rows.xor_int (hQ _ _ _ (Keeps.refl _) ⟨_, rfl⟩)
theorem Bin.powI {a n : Int} (hn : 0 ≤ n) (hn2 : n ≤ 1000000) (ha : a.natAbs < 2 ^ 64) : Bin prog w .Pow (.int a) (.int n) (.int (a ^ n.toNat)) := by
  rintro A va vb av s Q E room live ⟨t, rfl⟩ ⟨u, rfl⟩ hQ
  exact PyProof.Rows.pow_int_small hn hn2 ha (hQ _ _ _ (Keeps.refl _) ⟨_, rfl⟩)
theorem Bin.subB {a b : Bool} : Bin prog w .Sub (.bool a) (.bool b) (.int (b2i a - b2i b)) := by
  rintro A va vb av s Q E room live rfl rfl hQ
  exact PyProof.Rows.sub_bool (hQ _ _ _ (Keeps.refl _) ⟨_, rfl⟩)
theorem Bin.addF {a b : UInt64} : Bin prog w .Add (.flt a) (.flt b) (.flt (Float64.add a b)) := by
  rintro A va vb av s Q E room live ⟨t, rfl⟩ ⟨u, rfl⟩ hQ
  exact PyProof.Rows.add_float (hQ _ _ _ (Keeps.refl _) ⟨_, rfl⟩)
theorem Bin.subF {a b : UInt64} : Bin prog w .Sub (.flt a) (.flt b) (.flt (Float64.sub a b)) := by
  rintro A va vb av s Q E room live ⟨t, rfl⟩ ⟨u, rfl⟩ hQ
  exact PyProof.Rows.sub_float (hQ _ _ _ (Keeps.refl _) ⟨_, rfl⟩)
theorem Bin.mulF {a b : UInt64} : Bin prog w .Mult (.flt a) (.flt b) (.flt (Float64.mul a b)) := by
  rintro A va vb av s Q E room live ⟨t, rfl⟩ ⟨u, rfl⟩ hQ
  exact PyProof.Rows.mul_float (hQ _ _ _ (Keeps.refl _) ⟨_, rfl⟩)
theorem Bin.divF {a b : UInt64} (h : Float64.isZero b = false) : Bin prog w .Div (.flt a) (.flt b) (.flt (Float64.div a b)) := by
  rintro A va vb av s Q E room live ⟨t, rfl⟩ ⟨u, rfl⟩ hQ
  refine PyProof.Rows.truediv_float_or room.handled (fun q => ?_) fun _ => hQ _ _ _ (Keeps.refl _) ⟨_, rfl⟩
  rw [h] at q; cases q
theorem Bin.modF {a b : UInt64} (h : Float64.isZero b = false) : Bin prog w .Mod (.flt a) (.flt b) (.flt (Float64.divmod a b).2) := by
  rintro A va vb av s Q E room live ⟨t, rfl⟩ ⟨u, rfl⟩ hQ
  exact AutoFloatOps.mod_1 (by rw [h]; exact Bool.false_ne_true) (hQ _ _ _ (Keeps.refl _) ⟨_, rfl⟩)
theorem Bin.mulFI {a : UInt64} {b : Int} (h : b.natAbs < 2 ^ 1023) : Bin prog w .Mult (.flt a) (.int b) (.flt (Float64.mul a (Float64.ofInt b))) := by
  rintro A va vb av s Q E room live ⟨t, rfl⟩ ⟨u, rfl⟩ hQ
  exact PyProof.Rows.mul_fi_fits h (hQ _ _ _ (Keeps.refl _) ⟨_, rfl⟩)
theorem Bin.divII {a b : Int} (h : b ≠ 0) (hi : Float64.isInf (Float64.ofFrac (decide (a < 0) != decide (b < 0)) a.natAbs b.natAbs) = false) : Bin prog w .Div (.int a) (.int b) (.flt (Float64.ofFrac (decide (a < 0) != decide (b < 0)) a.natAbs b.natAbs)) := by
  rintro A va vb av s Q E room live ⟨t, rfl⟩ ⟨u, rfl⟩ hQ
  exact AutoIntOps.truediv_2 (by simpa using h) (by rw [hi]; exact Bool.false_ne_true) (hQ _ _ _ (Keeps.refl _) ⟨_, rfl⟩)
theorem Bin.addS {a b : Str} (h : a.length + b.length ≤ sizeLine) : Bin prog w .Add (.str a) (.str b) (.str (a ++ b)) := by
  rintro A va vb av s Q E room live ⟨t, rfl⟩ ⟨u, rfl⟩ hQ
  exact PyProof.Rows.add_str (fun t' tk => hQ _ _ tk (Keeps.refl _) ⟨_, rfl⟩) h

theorem Cmp.eqI {a b : Int} : Cmp prog w .Eq (.int a) (.int b) (a == b) := by
  rintro A va vb av s Q E room live ⟨t, rfl⟩ ⟨u, rfl⟩ hQ
  exact PyProof.Rows.eq_int (hQ s.heap s.toks (Keeps.refl _))
theorem Cmp.neI {a b : Int} : Cmp prog w .NotEq (.int a) (.int b) (a != b) := by
  rintro A va vb av s Q E room live ⟨t, rfl⟩ ⟨u, rfl⟩ hQ
  exact PyProof.Rows.ne_int (hQ s.heap s.toks (Keeps.refl _))
theorem Cmp.ltI {a b : Int} : Cmp prog w .Lt (.int a) (.int b) (decide (a < b)) := by
  rintro A va vb av s Q E room live ⟨t, rfl⟩ ⟨u, rfl⟩ hQ
  exact PyProof.Rows.lt_int (hQ s.heap s.toks (Keeps.refl _))
theorem Cmp.gtI {a b : Int} : Cmp prog w .Gt (.int a) (.int b) (decide (b < a)) := by
  rintro A va vb av s Q E room live ⟨t, rfl⟩ ⟨u, rfl⟩ hQ
  exact PyProof.Rows.gt_int (hQ s.heap s.toks (Keeps.refl _))
theorem Cmp.leI {a b : Int} : Cmp prog w .LtE (.int a) (.int b) (decide (a ≤ b)) := by
  rintro A va vb av s Q E room live ⟨t, rfl⟩ ⟨u, rfl⟩ hQ
  exact PyProof.Rows.le_int (hQ s.heap s.toks (Keeps.refl _))
theorem Cmp.ltS {a b : Str} : Cmp prog w .Lt (.str a) (.str b) (decide (a.cps.toList < b.cps.toList)) := by
  rintro A va vb av s Q E room live ⟨t, rfl⟩ ⟨u, rfl⟩ hQ
  exact PyProof.Rows.lt_str (hQ s.heap s.toks (Keeps.refl _))
theorem Cmp.gtS {a b : Str} : Cmp prog w .Gt (.str a) (.str b) (decide (b.cps.toList < a.cps.toList)) := by
  rintro A va vb av s Q E room live ⟨t, rfl⟩ ⟨u, rfl⟩ hQ
  exact PySem.P.gt_str (hQ s.heap s.toks (Keeps.refl _))
theorem Cmp.eqS {a b : Str} : Cmp prog w .Eq (.str a) (.str b) (a == b) := by
  rintro A va vb av s Q E room live ⟨t, rfl⟩ ⟨u, rfl⟩ hQ
  exact PyProof.Rows.eq_str (hQ s.heap s.toks (Keeps.refl _))
theorem Cmp.eqF {a b : UInt64} : Cmp prog w .Eq (.flt a) (.flt b) (Float64.cmp a b == some Ordering.eq) := by
  rintro A va vb av s Q E room live ⟨t, rfl⟩ ⟨u, rfl⟩ hQ
  exact AutoFloatOps.eq_0 (hQ s.heap s.toks (Keeps.refl _))
theorem Cmp.neF {a b : UInt64} : Cmp prog w .NotEq (.flt a) (.flt b) (Float64.cmp a b != some Ordering.eq) := by
  rintro A va vb av s Q E room live ⟨t, rfl⟩ ⟨u, rfl⟩ hQ
  exact AutoFloatOps.ne_0 (hQ s.heap s.toks (Keeps.refl _))
theorem Cmp.ltF {a b : UInt64} : Cmp prog w .Lt (.flt a) (.flt b) (Float64.cmp a b == some Ordering.lt) := by
  rintro A va vb av s Q E room live ⟨t, rfl⟩ ⟨u, rfl⟩ hQ
  exact AutoFloatOps.lt_0 (hQ s.heap s.toks (Keeps.refl _))
theorem Cmp.leF {a b : UInt64} : Cmp prog w .LtE (.flt a) (.flt b) (Float64.cmp a b == some Ordering.lt || Float64.cmp a b == some Ordering.eq) := by
  rintro A va vb av s Q E room live ⟨t, rfl⟩ ⟨u, rfl⟩ hQ
  exact AutoFloatOps.le_0 (hQ s.heap s.toks (Keeps.refl _))
theorem Cmp.neFI {a : UInt64} {b : Int} : Cmp prog w .NotEq (.flt a) (.int b) (Float64.cmpInt a b != some Ordering.eq) := by
  rintro A va vb av s Q E room live ⟨t, rfl⟩ ⟨u, rfl⟩ hQ
  exact PyProof.Rows.ne_fi (hQ s.heap s.toks (Keeps.refl _))
theorem Cmp.isNotTy {a : String} : Cmp prog w .IsNot (.ty a) (.ty a) false := by
  rintro A va vb av s Q E room live rfl rfl hQ
  exact PyProof.Rows.isnot_type_same (hQ s.heap s.toks (Keeps.refl _))
theorem Cmp.isNotNoneS {a : Str} : Cmp prog w .IsNot (.str a) .none true := by
  rintro A va vb av s Q E room live ⟨t, rfl⟩ rfl hQ
  exact PyProof.Rows.isnot_str_none (hQ s.heap s.toks (Keeps.refl _))
theorem Cmp.isNotNone : Cmp prog w .IsNot .none .none false := by
  rintro A va vb av s Q E room live rfl rfl hQ
  exact PyProof.Rows.isnot_none_none (hQ s.heap s.toks (Keeps.refl _))

/-- augmented: ints, texts -/
noncomputable def Aug (prog : Program) (w : World) (op : Operator) (a b d : D) : Prop := ∀ (A : Around) (va vb : Value) (av : List Addr) (s : Shared) (Q : Value → Shared → Prop) (E : Value → Shared → Prop), Room A 0 → Live av s.heap → Rep s.heap av a va → Rep s.heap av b vb →
      (∀ v h' tk, Keeps s.heap h' → Rep h' av d v → Q v { s with heap := h', toks := tk }) → wpAny (model prog w) A (inplaceOp op va vb) Q E s
theorem Aug.addI {a b : Int} : Aug prog w .Add (.int a) (.int b) (.int (a + b)) := by
  rintro A va vb av s Q E room live ⟨t, rfl⟩ ⟨u, rfl⟩ hQ
  exact PyProof.Rows.iadd_int (hQ _ _ _ (Keeps.refl _) ⟨_, rfl⟩)
theorem Aug.subI {a b : Int} : Aug prog w .Sub (.int a) (.int b) (.int (a - b)) := by
  rintro A va vb av s Q E room live ⟨t, rfl⟩ ⟨u, rfl⟩ hQ
  exact PyProof.Rows.isub_int (hQ _ _ _ (Keeps.refl _) ⟨_, rfl⟩)
theorem Aug.addS {a b : Str} (h : a.length + b.length ≤ sizeLine) : Aug prog w .Add (.str a) (.str b) (.str (a ++ b)) := by
  rintro A va vb av s Q E room live ⟨t, rfl⟩ ⟨u, rfl⟩ hQ
  exact PyProof.Rows.iadd_str (fun t' tk => hQ _ _ tk (Keeps.refl _) ⟨_, rfl⟩) h
end
end Wu
end
section
namespace Wu
open PySem PySem.Spec PySem.Calls PyProof.Rows PySem.W
noncomputable def fgt (x y : UInt64) : Bool := Float64.cmp x y == some Ordering.gt
noncomputable def flt (x y : UInt64) : Bool := Float64.cmp x y == some Ordering.lt
noncomputable def fmax3 (a b c : UInt64) : UInt64 := if fgt b a then (if fgt c b then c else b) else (if fgt c a then c else a)
noncomputable def fmin3 (a b c : UInt64) : UInt64 := if flt b a then (if flt c b then c else b) else (if flt c a then c else a)
section
variable {prog : Program} {w : World}
theorem Bi.ord {n : Nat} : Bi prog w (.builtin "ord") [.str ⟨#[n]⟩] (.int n) := by
  rintro A av vs s Q E room nl live ⟨v, r, rfl, ⟨t, rfl⟩, rfl⟩ hQ
  exact P.ord_of_char (hQ _ _ _ (Keeps.refl _) ⟨_, rfl⟩)
theorem Bi.chr {i : Int} (h : (decide (i < 0) || decide (i > 0x10FFFF)) = false) : Bi prog w (.builtin "chr") [.int i] (.str ⟨#[i.toNat]⟩) := by
  rintro A av vs s Q E room nl live ⟨v, r, rfl, ⟨t, rfl⟩, rfl⟩ hQ
  exact P.chr_of_int h (hQ _ _ _ (Keeps.refl _) ⟨_, rfl⟩)
theorem Bi.int {x : UInt64} {sg : Bool} {m : Nat} {e : Int} (hd : Float64.decode x = .fin sg m e) : Bi prog w (.type "int") [.flt x] (.int (Float64.truncOf sg m e)) := by
  rintro A av vs s Q E room nl live ⟨v, r, rfl, ⟨t, rfl⟩, rfl⟩ hQ
  exact call_int_float hd (hQ _ _ _ (Keeps.refl _) ⟨_, rfl⟩)

theorem three_of {a b c : Value} {P : Nat → Value → Prop} (hP : ∀ i v, P i v → #[a, b, c][i]? = some v) {i : Nat} {v : Value} (h : P i v) : #[a, b, c][i]? = some v := hP i v h
theorem Bi.max3 {a b c : UInt64} : Bi prog w (.builtin "max") [.flt a, .flt b, .flt c] (.flt (fmax3 a b c)) := by
  rintro A av vs s Q E room nl live ⟨v1, r1, rfl, ⟨t, rfl⟩, v2, r2, rfl, ⟨u, rfl⟩, v3, r3, rfl, ⟨x, rfl⟩, rfl⟩ hQ
  have hT : (s.heap.push { cls := .type "tuple", data := .seq #[.float a t, .float b u, .float c x] }).IsTuple s.heap.objs.size #[.float a t, .float b u, .float c x] := ⟨_, Heap.get?_push_size _ rfl, rfl, 0, rfl⟩
  refine call_max_three (wpAny_pyIter_tuple hT ?_)
  have hsz : (s.heap.push { cls := .type "tuple", data := .seq #[.float a t, .float b u, .float c x] }).objs.size = s.heap.objs.size + 1 := Heap.size_push ..
  refine ⟨_, [_, s.heap.objs.size], [_], _, _, _, fun i j => fgt (#[a, b, c][i]?.getD 0) (#[a, b, c][j]?.getD 0), rfl, Walks.tuple (A := A.in1) room.handled _ s.heap.objs.size (by rw [hsz]; exact Nat.ne_of_lt (Nat.lt_succ_self _)) #[.float a t, .float b u, .float c x],
    ⟨⟨_, Heap.get?_push_size _ rfl, rfl, rfl⟩, hT.push _⟩, fun d hd => ?_, by simp, ?_, fun v h' tk hP hk => ?_⟩
  · show d < ((s.heap.push _).push _).objs.size
    rw [Heap.size_push, hsz]
    rcases List.mem_cons.mp hd with rfl | hd
    · rw [hsz]; exact Nat.lt_succ_self _
    · rcases List.mem_cons.mp hd with rfl | hd
      · exact Nat.lt_succ_of_lt (Nat.lt_succ_self _)
      · cases hd
  · intro i j vi vj s' Q' E' hi hj hq
    have f : ∀ (i : Nat) (v : Value), #[Value.float a t, .float b u, .float c x][i]? = some v → ∃ tk, v = .float (#[a, b, c][i]?.getD 0) tk := by
      intro i v e
      match i, e with
      | 0, e => simp at e; exact ⟨t, by simp [← e]⟩
      | 1, e => simp at e; exact ⟨u, by simp [← e]⟩
      | 2, e => simp at e; exact ⟨x, by simp [← e]⟩
      | _ + 3, e => simp at e
    obtain ⟨_, rfl⟩ := f i vi hi
    obtain ⟨_, rfl⟩ := f j vj hj
    exact AutoFloatOps.gt_0 hq
  · have hold : Keeps s.heap h' := fun d o e => by
      refine hk d o (fun hm => ?_) (Heap.get?_push_of_some _ (Heap.get?_push_of_some _ e))
      rcases List.mem_cons.mp hm with e1 | hm
      · have := Heap.lt_size e; rw [e1, hsz] at this; exact Nat.lt_irrefl _ (Nat.lt_of_succ_lt this)
      · cases hm
    refine hQ v h' tk hold ?_
    change #[Value.float a t, .float b u, .float c x][argBest _ 2]? = some v at hP
    unfold fmax3
    simp only [argBest] at hP
    simp at hP
    revert hP
    cases h1 : fgt b a <;> simp <;> (cases h2 : fgt c b <;> cases h3 : fgt c a <;> simp) <;> (intro e; exact ⟨_, e.symm⟩)
theorem Bi.min3 {a b c : UInt64} : Bi prog w (.builtin "min") [.flt a, .flt b, .flt c] (.flt (fmin3 a b c)) := by
  rintro A av vs s Q E room nl live ⟨v1, r1, rfl, ⟨t, rfl⟩, v2, r2, rfl, ⟨u, rfl⟩, v3, r3, rfl, ⟨x, rfl⟩, rfl⟩ hQ
  have hT : (s.heap.push { cls := .type "tuple", data := .seq #[.float a t, .float b u, .float c x] }).IsTuple s.heap.objs.size #[.float a t, .float b u, .float c x] := ⟨_, Heap.get?_push_size _ rfl, rfl, 0, rfl⟩
  refine call_min_three (wpAny_pyIter_tuple hT ?_)
  have hsz : (s.heap.push { cls := .type "tuple", data := .seq #[.float a t, .float b u, .float c x] }).objs.size = s.heap.objs.size + 1 := Heap.size_push ..
  refine ⟨_, [_, s.heap.objs.size], [_], _, _, _, fun i j => flt (#[a, b, c][i]?.getD 0) (#[a, b, c][j]?.getD 0), rfl, Walks.tuple (A := A.in1) room.handled _ s.heap.objs.size (by rw [hsz]; exact Nat.ne_of_lt (Nat.lt_succ_self _)) #[.float a t, .float b u, .float c x],
    ⟨⟨_, Heap.get?_push_size _ rfl, rfl, rfl⟩, hT.push _⟩, fun d hd => ?_, by simp, ?_, fun v h' tk hP hk => ?_⟩
  · show d < ((s.heap.push _).push _).objs.size
    rw [Heap.size_push, hsz]
    rcases List.mem_cons.mp hd with rfl | hd
    · rw [hsz]; exact Nat.lt_succ_self _
    · rcases List.mem_cons.mp hd with rfl | hd
      · exact Nat.lt_succ_of_lt (Nat.lt_succ_self _)
      · cases hd
  · intro i j vi vj s' Q' E' hi hj hq
    have f : ∀ (i : Nat) (v : Value), #[Value.float a t, .float b u, .float c x][i]? = some v → ∃ tk, v = .float (#[a, b, c][i]?.getD 0) tk := by
      intro i v e
      match i, e with
      | 0, e => simp at e; exact ⟨t, by simp [← e]⟩
      | 1, e => simp at e; exact ⟨u, by simp [← e]⟩
      | 2, e => simp at e; exact ⟨x, by simp [← e]⟩
      | _ + 3, e => simp at e
    obtain ⟨_, rfl⟩ := f i vi hi
    obtain ⟨_, rfl⟩ := f j vj hj
    exact AutoFloatOps.lt_0 hq
  · have hold : Keeps s.heap h' := fun d o e => by
      refine hk d o (fun hm => ?_) (Heap.get?_push_of_some _ (Heap.get?_push_of_some _ e))
      rcases List.mem_cons.mp hm with e1 | hm
      · have := Heap.lt_size e; rw [e1, hsz] at this; exact Nat.lt_irrefl _ (Nat.lt_of_succ_lt this)
      · cases hm
    refine hQ v h' tk hold ?_
    change #[Value.float a t, .float b u, .float c x][argBest _ 2]? = some v at hP
    unfold fmin3
    simp only [argBest] at hP
    simp at hP
    revert hP
    cases h1 : flt b a <;> simp <;> (cases h2 : flt c b <;> cases h3 : flt c a <;> simp) <;> (intro e; exact ⟨_, e.symm⟩)
end
end Wu
end
section
namespace Wu
open PySem PySem.Spec PySem.Calls PyProof.Rows PySem.W

theorem Reps.pick {h : Heap} {av : List Addr} {ds : List D} {vs : List Value} (r : Reps h av ds vs) : ∀ ix : List Nat, Reps h av (ix.filterMap (ds[·]?)) (ix.filterMap (vs[·]?))
  | [] => rfl
  | i :: ix => by
    have t := Reps.pick r ix
    rw [List.filterMap_cons, List.filterMap_cons]
    cases hd : ds[i]? with
    | some d =>
      obtain ⟨v, hv, rv⟩ := r.get hd
      rw [hv]
      exact Reps.cons rv t
    | none =>
      have : vs[i]? = none := by
        rw [List.getElem?_eq_none_iff] at hd ⊢
        rw [r.length]; exact hd
      rw [this]
      exact t
noncomputable def pickD (xs : List D) (lo hi st : Option Int) : List D :=
  (sliceRange (sliceBounds lo hi st xs.length).1 (sliceBounds lo hi st xs.length).2.1 (sliceBounds lo hi st xs.length).2.2).filterMap (xs[·]?)

section
variable {prog : Program} {w : World} {fns : List DefRec} {mg mb : Str → Option Value} {c : Fx} {ρ : PEnv} {o : Own}

noncomputable def Itm (prog : Program) (w : World) (a b r : D) : Prop :=
  ∀ (A : Around) (va vb : Value) (av : List Addr) (s : Shared), Room A 0 → Live av s.heap → Rep s.heap av a va → Rep s.heap av b vb →
    ((∃ T id, s.TypeIs va T ∧ typeLookup (.type T) "__getitem__" = pure (some (.builtin id))) ∧
    ∀ (Q : Value → Shared → Prop) (E : Value → Shared → Prop), (∀ v h' tk, Keeps s.heap h' → Rep h' av r v → Q v { s with heap := h', toks := tk }) → wpAny (model prog w) A (getItem va vb) Q E s)
theorem Ev.sub {e i : Expr} {p : Pos} {a b r : D} (h1 : Ev prog w fns mg mb c ρ o e a) (h2 : Ev prog w fns mg mb c ρ o i b) (hi : Itm prog w a b r) (hs : ∀ x y, subscripted i false x y = operate [x, y] (getItem x y)) :
    Ev prog w fns mg mb c ρ o (.Subscript e i p) r := by
  refine ⟨fun s Q E ok hQ => ?_⟩
  refine Subscript_ (h1.of s _ E ok fun v1 g1 t1 k1 r1 => ?_)
  refine h2.of _ _ E (ok.keeps k1 t1) fun v2 g2 t2 k2 r2 => ?_
  obtain ⟨⟨T, id, hT, hl⟩, hg⟩ := hi c.A v1 v2 (avOf c o) { s with heap := g2, toks := t2 } (ok.room.less (Nat.zero_le _)) ((ok.live.keeps k1).keeps k2) (r1.keeps k2) r2
  refine kba_turn (value' := .Name "_" ⟨0, 0, 0, 0⟩) (fun _ => rfl) (subscriptTail_ops hT hl (hg Q E fun v h' tk k r => hQ v h' tk ((k1.trans k2).trans k) r) (hs _ _) fun _ => rfl)
theorem Itm.tup {xs : List D} {k : Int} {j : Nat} {d : D} (hlo : -(2 ^ 63) ≤ k) (hhi : k < 2 ^ 63) (hj : seqIndex? k xs.length = some j) (hx : xs[j]? = some d) : Itm prog w (.tup xs) (.int k) d := by
  rintro A va vb av s room live ⟨a, vs, rfl, ha, ht, rs⟩ ⟨u, rfl⟩
  obtain ⟨v, hv, rv⟩ := rs.get hx
  refine ⟨⟨_, _, ht.typeIs, slot_tuple_getitem.lookup⟩, fun Q E hQ => getItem_tuple ht hlo hhi (by rw [List.size_toArray, rs.length]; exact hj) (by simpa using hv) (hQ v s.heap s.toks (Keeps.refl _) rv)⟩
theorem Itm.lst {xs : List D} {k : Nat} {d : D} (hhi : k < 2 ^ 62) (hx : xs[k]? = some d) : Itm prog w (.lst xs) (.int k) d := by
  rintro A va vb av s room live ⟨a, vs, rfl, ha, ht, rs⟩ ⟨u, rfl⟩
  obtain ⟨v, hv, rv⟩ := rs.get hx
  refine ⟨⟨_, _, ht.typeIs, list_getitem_lookup⟩, fun Q E hQ => wpAny_getItem_list ht (by omega) (by omega) (by simpa using hv) (hQ v s.heap s.toks (Keeps.refl _) rv)⟩
theorem Itm.str {x : Str} {k : Int} {n : Nat} (hlo : -(2 ^ 63) ≤ k) (hhi : k < 2 ^ 63) (hc : (seqIndex? k x.length).bind (x.cps[·]?) = some n) : Itm prog w (.str x) (.int k) (.str ⟨#[n]⟩) := by
  rintro A va vb av s room live ⟨t, rfl⟩ ⟨u, rfl⟩
  refine ⟨⟨_, _, typeIs_str s x t, F.slot_str_getitem.lookup⟩, fun Q E hQ => P.getItem_str ?_ hc (hQ _ _ _ (Keeps.refl _) ⟨_, rfl⟩)⟩
  rw [decide_eq_false (by omega), decide_eq_false (by omega)]; rfl

/-- a part of a slice -/
noncomputable def Pt (prog : Program) (w : World) (fns : List DefRec) (mg mb : Str → Option Value) (c : Fx) (ρ : PEnv) (o : Own) (x : Option Expr) (i : Option Int) : Prop :=
  ∀ (s : Shared) (Q : Value → Shared → Prop) (E : Value → Shared → Prop), Ok fns mg mb c s ρ o → (∀ v h' tk, Keeps s.heap h' → IsPart v i → Q v { s with heap := h', toks := tk }) → wpAny (model prog w) c.A (evalPart x c.env) Q E s
theorem Pt.none : Pt prog w fns mg mb c ρ o none none := fun s _ _ _ hQ => by
  rw [evalPart_none]; exact wpAny_pure (hQ _ s.heap s.toks (Keeps.refl _) .none)
theorem Pt.some {e : Expr} {i : Int} (h : Ev prog w fns mg mb c ρ o e (.int i)) : Pt prog w fns mg mb c ρ o (some e) (some i) := fun s Q E ok hQ => by
  rw [evalPart_some]
  refine h.of s Q E ok fun v h' tk k r => ?_
  obtain ⟨t, rfl⟩ := r
  exact hQ _ h' tk k (.int _ _)
theorem Ev.slcL {e : Expr} {lo hi st : Option Expr} {p pos : Pos} {xs : List D} {l u k : Option Int} (h : Ev prog w fns mg mb c ρ o e (.lst xs)) (hl : Pt prog w fns mg mb c ρ o lo l) (hu : Pt prog w fns mg mb c ρ o hi u) (hk : Pt prog w fns mg mb c ρ o st k)
    (h0 : k ≠ some 0) (hz : xs.length ≤ 1000) (hs : ∀ x y, ∃ ops, subscripted (.Slice lo hi st p) false x y = operate ops (getItem x y)) : Ev prog w fns mg mb c ρ o (.Subscript e (.Slice lo hi st p) pos) (.lst (pickD xs l u k)) := by
  refine ⟨fun s Q E ok hQ => ?_⟩
  refine Subscript_ (h.of s _ E ok fun v g t kk r => ?_)
  obtain ⟨a, vs, rfl, ha, hlst, rs⟩ := r
  refine wpAny_Slice (hl _ _ E (ok.keeps kk t) fun v1 g1 t1 k1 p1 => ?_)
  refine hu _ _ E ((ok.keeps kk t).keeps k1 t1) fun v2 g2 t2 k2 p2 => ?_
  refine hk _ _ E (((ok.keeps kk t).keeps k1 t1).keeps k2 t2) fun v3 g3 t3 k3 p3 => ?_
  have K3 : Keeps g g3 := (k1.trans k2).trans k3
  have hlst3 : g3.IsList a vs.toArray := by obtain ⟨ob, e1, e2⟩ := hlst; exact ⟨ob, K3 _ _ e1, e2⟩
  obtain ⟨ops, hops⟩ := hs (.ref a) (.ref g3.objs.size)
  refine kba_turn (value' := .Name "_" ⟨0, 0, 0, 0⟩) (fun _ => rfl) (subscriptTail_ops (Heap.IsList.typeIs (s := { s with heap := g3.push _, toks := t3 }) (hlst3.push _)) list_getitem_lookup
    (wpAny_getItem_list_slice (hlst3.push _) (Heap.IsSliceOf.new ..) p1 p2 p3 h0 ?_ (by rw [List.size_toArray, rs.length]; exact Nat.le_trans hz (by decide))) hops fun _ => rfl)
  have K4 : Keeps g3 (g3.push { cls := .type "slice", data := .fields #[v1, v2, v3] }) := Keeps.push _ _
  have K5 := Keeps.push (g3.push { cls := .type "slice", data := .fields #[v1, v2, v3] }) { cls := .type "list", data := .seq (slicePick vs.toArray l u k) }
  refine hQ _ _ _ (((kk.trans K3).trans K4).trans K5) ⟨_, (slicePick vs.toArray l u k).toList, rfl, (((ok.live.keeps kk).keeps K3).keeps K4).new, ⟨_, Heap.get?_push_size _ rfl, rfl, _, by rw [Array.toArray_toList]⟩, ?_⟩
  have := rs.pick (sliceRange (sliceBounds l u k xs.length).1 (sliceBounds l u k xs.length).2.1 (sliceBounds l u k xs.length).2.2)
  have e2 : (slicePick vs.toArray l u k).toList = (sliceRange (sliceBounds l u k xs.length).1 (sliceBounds l u k xs.length).2.1 (sliceBounds l u k xs.length).2.2).filterMap (vs[·]?) := by
    unfold slicePick
    rw [List.size_toArray, rs.length]
    simp
  rw [e2]
  exact ((this.keeps K3).keeps K4).keeps K5
noncomputable def revS (x : Str) : Str := ⟨x.cps.toList.reverse.toArray⟩
theorem Ev.rev {e st : Expr} {p pos : Pos} {x : Str} (h : Ev prog w fns mg mb c ρ o e (.str x)) (hk : Ev prog w fns mg mb c ρ o st (.int (-1))) (hz : x.length ≤ 1000) : Ev prog w fns mg mb c ρ o (.Subscript e (.Slice none none (some st) p) pos) (.str (revS x)) := by
  refine ⟨fun s Q E ok hQ => ?_⟩
  refine Subscript_ (h.of s _ E ok fun v g t kk r => ?_)
  obtain ⟨tx, rfl⟩ := r
  refine wpAny_Slice ?_
  rw [evalPart_none]
  refine wpAny_pure ?_
  refine wpAny_pure ?_
  rw [evalPart_some]
  refine hk.of _ _ E (ok.keeps kk t) fun v3 g3 t3 k3 p3 => ?_
  obtain ⟨u, rfl⟩ := p3
  refine kba_turn (value' := .Name "_" ⟨0, 0, 0, 0⟩) (fun _ => rfl) (subscriptTail_ops (ops := [.str x tx, .ref g3.objs.size]) (typeIs_str _ x tx) F.slot_str_getitem.lookup
    (wpAny_getItem_str_slice (l := none) (u := none) (st := some (-1, u)) ⟨_, Heap.get?_push_size _ rfl, rfl, rfl⟩ rfl ?_) rfl fun _ => rfl)
  have e : sliceMade x tx none none (some (-1, u)) = .str (revS x) := by
    unfold sliceMade
    rw [if_neg (show ¬ ((((some ((-1 : Int), u)).map (·.1)).getD 1 == 1 && (slicePicked x none none (some (-1, u))).length == x.length) = true) from fun q => by cases q)]
    congr 1
    unfold slicePicked revS
    show (⟨((Builtin.Str.strSliceIndices none none (-1) x.length).filterMap (x.cps[·]?)).toArray⟩ : Str) = _
    rw [picked_rev, krv_range, List.filterMap_reverse]
    congr 3
    exact krv_all x.cps
  rw [e]
  refine ⟨?_, hQ _ _ _ ((kk.trans k3).trans (Keeps.push _ _)) ⟨_, rfl⟩⟩
  show x.cps.toList.reverse.toArray.size ≤ sizeLine
  rw [List.size_toArray, List.length_reverse, Array.length_toList]
  exact Nat.le_trans hz (by decide)
end
end Wu
end
section
namespace Wu
open PySem PySem.Spec PySem.Calls PyProof.Rows PySem.W

section
variable {prog : Program} {w : World} {fns : List DefRec} {mg mb : Str → Option Value} {c : Fx} {ρ : PEnv} {o : Own}

/-- ord in a set of the top -/
theorem Ev.inset {e : Expr} {x : Str} {xp p : Pos} {i : Int} {S : Int → Bool} (he : Ev prog w fns mg mb c ρ o e (.int i)) (hS : ∀ h, Mo mg h → ∃ a n, mg x = some (.ref a) ∧ h.SetOf (intKind prog w) a S n)
    (hx : c.env.kindOf x = some .globalImplicit) (hd : (x == ("__debug__" : Str)) = false) (hm : behindInMarks .In (.Name x xp) = false) : Ev prog w fns mg mb c ρ o (.Compare e [.In] [.Name x xp] p) (.bool (S i)) := by
  refine ⟨fun s Q E ok hQ => ?_⟩
  refine wpAny_Compare1 (he.of s _ E ok fun v1 g1 t1 k1 r1 => ?_) hm
  obtain ⟨t, rfl⟩ := r1
  obtain ⟨a, n, e1, hs⟩ := hS _ (ok.keeps k1 t1).glh.mo
  refine loadG (ok.keeps k1 t1) hx e1 hd ?_
  exact wpAny_inSet_of (intKind_is prog w i t) rfl hs (hQ _ _ _ k1 rfl)

/-- table B.3's exceptions -/
noncomputable def b3D (i : Int) : D := match b3L.find? (fun p => p.1 == i) with
  | some p => .str p.2
  | none => .none
theorem lookup_b3 (i : Int) : ∀ l : List (Int × Str), (Spec.lookup (.int i) (l.map fun p => (PyData.int p.1, PyData.str p.2))).getD .none = match l.find? (fun p => p.1 == i) with
    | some p => .str p.2
    | none => .none
  | [] => rfl
  | p :: l => by
    have ih := lookup_b3 i l
    simp only [List.map_cons, Spec.lookup, List.find?_cons, Spec.same] at ih ⊢
    by_cases h : p.1 = i
    · subst h; simp
    · have e : (p.1 == i) = false := beq_eq_false_iff_ne.mpr h
      simp only [e, Bool.false_eq_true, if_false]
      exact ih
theorem rep_of_flat {h : Heap} {av : List Addr} {i : Int} {v : Value} (f : PyProof.V.Flat v ((Spec.lookup (.int i) (b3L.map fun p => (PyData.int p.1, PyData.str p.2))).getD .none)) : Rep h av (b3D i) v := by
  rw [lookup_b3] at f
  unfold b3D
  split at f
  · have := f default
    cases this; exact ⟨_, rfl⟩
  · have := f default
    cases this; rfl
theorem Ev.get {e : Expr} {x : Str} {xp apos p : Pos} {i : Int} (he : Ev prog w fns mg mb c ρ o e (.int i)) (hb3 : x = "b3_exceptions")
    (hx : c.env.kindOf x = some .globalImplicit) (hd : (x == ("__debug__" : Str)) = false)
    (hbase : attributeBase (.Name x xp) "get" c.env (eval (.Name x xp) c.env) = eval (.Name x xp) c.env)
    (hfew : ((backTo p (starEach [e] c.env)).all (fun x => !x.1) && (backToKw p (keywordEach [] c.env)).all (fun x => x.1.isSome)
      && decide (([e] : List Expr).length + ([] : List Keyword).length + (if ([] : List Keyword).isEmpty then 0 else 1) < 30)) = true)
    (hline : (apos.endLine == p.line) = true) (htrees : backTo p (starEach [e] c.env) = [(false, eval e c.env)]) :
    Ev prog w fns mg mb c ρ o (.Call (.Attribute (.Name x xp) "get" apos) [e] [] p) (b3D i) := by
  subst hb3
  refine ⟨fun s Q E ok hQ => ?_⟩
  obtain ⟨a, e1, T⟩ := ok.glh.mo.b3 prog w
  refine wpAny_Call_method_lateS hbase hfew hline (loadG ok hx e1 hd ?_)
  refine ⟨"dict", "dict.get", PySem.F.plainAttrs_dict, PySem.F.slot_dict_get, PySem.F.type_dict_get, T.2.choose_spec.1.typeIs, T.2.choose_spec.1.mapOf.noDict, ?_⟩
  rw [htrees]
  refine Calls.callWith_builtin rfl (Calls.evalArgs_plain (Calls.spliced_cons (he.of s _ E ok fun v1 g1 t1 k1 r1 => Calls.spliced_nil ?_)))
  obtain ⟨t, rfl⟩ := r1
  show wpAny (model prog w) c.A (PySem.call (.builtin "dict.get") [.ref a, .int i t]) Q E _
  refine call_get1_intTab (T.keep k1) fun v f => hQ v g1 _ k1 (rep_of_flat f)

theorem Ev.lower {e : Expr} {apos p : Pos} {x : Str} (he : Ev prog w fns mg mb c ρ o e (.str x)) (hz : x.length ≤ 1000)
    (hbase : attributeBase e "lower" c.env (eval e c.env) = eval e c.env) (hline : (apos.endLine == p.line) = true) :
    Ev prog w fns mg mb c ρ o (.Call (.Attribute e "lower" apos) [] [] p) (.str (Txt.lower x)) := by
  refine ⟨fun s Q E ok hQ => ?_⟩
  refine Call_method0 hbase hline (he.of s _ E ok fun v g t k r => ?_)
  obtain ⟨t, rfl⟩ := r
  exact SBL.lower (Nat.le_trans hz (by decide)) fun _ => hQ _ _ _ k ⟨_, rfl⟩

theorem strsAre_of {h : Heap} {av : List Addr} : ∀ {ys : List Str} {vs : List Value}, Reps h av (ys.map .str) vs → StrsAre vs ys
  | [], _, r => by cases r; exact .nil
  | y :: ys, vs, r => by
    obtain ⟨v, t, rfl, ⟨u, rfl⟩, r2⟩ := r
    exact .cons _ _ (strsAre_of r2)
theorem Ev.join {e a : Expr} {apos p : Pos} {x : Str} {ys : List Str} (he : Ev prog w fns mg mb c ρ o e (.str x)) (ha : Ev prog w fns mg mb c ρ o a (.lst (ys.map .str))) (hok : (ys.map (·.length)).sum + ys.length * x.length ≤ 16777216)
    (hbase : attributeBase e "join" c.env (eval e c.env) = eval e c.env) (hs : starEach [a] c.env = [(false, eval a c.env)]) (hline : (apos.endLine == p.line) = true) :
    Ev prog w fns mg mb c ρ o (.Call (.Attribute e "join" apos) [a] [] p) (.str (Txt.join x ys)) := by
  refine ⟨fun s Q E ok hQ => ?_⟩
  refine Call_method1 hbase hs hline (he.of s _ E ok fun v g t k r => ?_)
  obtain ⟨t, rfl⟩ := r
  refine SB.join (ha.of _ _ E (ok.keeps k _) fun v2 g2 t2 k2 r2 => ?_)
  obtain ⟨b, vs, rfl, hb, hl, rs⟩ := r2
  obtain ⟨l, e1, e2⟩ := strsAre_values (strsAre_of rs)
  subst e1
  exact ⟨b, l, rfl, hl, ys, e2, joinOk_of hok, fun t' k' => hQ _ _ _ (k.trans k2) ⟨_, rfl⟩⟩
end
end Wu
end
section
namespace Wu
open PySem PySem.Spec PySem.Calls PyProof.Rows PySem.W

theorem intsAre_of {h : Heap} {av : List Addr} : ∀ {ns : List Int} {vs : List Value}, Reps h av (ns.map .int) vs → IntsAre vs ns
  | [], _, r => by cases r; exact .nil
  | y :: ys, vs, r => by
    obtain ⟨v, t, rfl, ⟨u, rfl⟩, r2⟩ := r
    exact .cons _ _ (intsAre_of r2)
theorem Heap.IsList.kp {h h' : Heap} {a : Addr} {vs : Array Value} (l : h.IsList a vs) (k : Keeps h h') : h'.IsList a vs := let ⟨o, e, q⟩ := l; ⟨o, k _ _ e, q⟩

section
variable {prog : Program} {w : World} {fns : List DefRec} {mg mb : Str → Option Value} {c : Fx} {ρ : PEnv} {o : Own}

theorem Bi.sum {ns : List Int} : Bi prog w (.builtin "sum") [.lst (ns.map .int)] (.int ns.sum) := by
  rintro A av vs s Q E room nl live ⟨v, r, rfl, ⟨a, us, rfl, ha, hl, rs⟩, rfl⟩ hQ
  have hi := intsAre_of rs
  obtain ⟨xs, e⟩ := hi.allInts.items
  have hns : ns = xs.toList.map (·.1) := by
    rw [← hi.numsOf, ← nums_intItems, ← e]
  rw [e] at hl
  refine sum_intListG room.handled hl fun h' tk t' k => ?_
  have e2 : preSum (numAt xs) xs.size = ns.sum := by
    rw [preSum_eq, List.take_of_length_le (by simp), hns]
  rw [e2]
  exact hQ _ h' tk k ⟨_, rfl⟩
theorem Bi.maxL {ns : List Int} {M : Int} (hM : M ∈ ns) (hle : ∀ a ∈ ns, a ≤ M) : Bi prog w (.builtin "max") [.lst (ns.map .int)] (.int M) := by
  rintro A av vs s Q E room nl live ⟨v, r, rfl, ⟨a, us, rfl, ha, hl, rs⟩, rfl⟩ hQ
  have hi := intsAre_of rs
  obtain ⟨xs, e⟩ := hi.allInts.items
  have hns : ns = xs.toList.map (·.1) := by
    rw [← hi.numsOf, ← nums_intItems, ← e]
  have hsz : 0 < xs.size := by
    have := List.length_pos_of_mem hM
    rw [hns, List.length_map, Array.length_toList] at this; exact this
  rw [e] at hl
  refine max_intList room.handled hl hsz fun v h' tk hv hk => ?_
  obtain ⟨t, rfl⟩ := intItems_at hv
  obtain ⟨h1, h2⟩ := argBest_gt (numAt xs) (xs.size - 1)
  have e3 : numAt xs (argBest (fun i j => decide (numAt xs i > numAt xs j)) (xs.size - 1)) = M := by
    apply Int.le_antisymm
    · refine hle _ ?_
      rw [hns, numAt_eq]; exact getD_mem (by rw [List.length_map, Array.length_toList]; omega)
    · rw [hns] at hM
      obtain ⟨j, hj, hjM⟩ := mem_getD hM
      rw [List.length_map, Array.length_toList] at hj
      rw [← hjM, ← numAt_eq]; exact h2 j (by omega)
  rw [e3]
  exact hQ _ h' tk hk ⟨_, rfl⟩
theorem Bi.typeI {i : Int} : Bi prog w (.type "type") [.int i] (.ty "int") := by
  rintro A av vs s Q E room nl live ⟨v, r, rfl, ⟨t, rfl⟩, rfl⟩ hQ
  exact call_type_of (typeIs_int s i t) (by decide) (hQ _ s.heap s.toks (Keeps.refl _) rfl)

theorem Bin.addL {xs ys : List D} (hz : xs.length + ys.length ≤ 1000) : Bin prog w .Add (.lst xs) (.lst ys) (.lst (xs ++ ys)) := by
  rintro A va vb av s Q E room live ⟨a, us, rfl, ha, hl, rs⟩ ⟨b, vs, rfl, hb, hm, ss⟩ hQ
  obtain ⟨⟨cls, dd, data, sl⟩, ho, hc, n, hd⟩ := id hl
  obtain ⟨⟨cls2, dd2, data2, sl2⟩, ho2, hc2, n2, hd2⟩ := id hm
  simp only at hc hd hc2 hd2
  subst hc hd hc2 hd2
  refine concat_meets ⟨_, ho, rfl⟩ ⟨_, ho2, rfl⟩ noFill_list_add seq_list_add PySem.F.slot_list_add PySem.F.entry_list_add (PySem.F.args_list_add_2 _ _) (list_addW a b us.toArray vs.toArray n n2 dd dd2 sl sl2 ?_) ⟨ho, ho2, ?_⟩
  · rw [List.size_toArray, List.size_toArray, rs.length, ss.length]; exact Nat.le_trans hz (by decide)
  · have e : us.toArray ++ vs.toArray = (us ++ vs).toArray := by simp
    rw [e]
    have kp := Keeps.push s.heap { cls := .type "list", data := .seq (us ++ vs).toArray }
    exact hQ _ _ s.toks kp ⟨_, us ++ vs, rfl, live.new, ⟨_, Heap.get?_push_size _ rfl, rfl, _, rfl⟩, (rs.append ss).keeps kp⟩

theorem EvN.lst {es : List Expr} {p : Pos} {ds : List D} (h : Evs prog w fns mg mb c ρ none es ds) (hz : ds.length ≤ 1000) : EvN prog w fns mg mb c ρ (.List es p) ds := by
  refine ⟨fun s Q E ok hQ => ?_⟩
  refine wpAny_List (h.of p s _ E ok fun vs h' tk k rs => ⟨?_, ?_⟩)
  · rw [rs.length]; exact Nat.le_trans hz (by decide)
  · have nn : h'.get? h'.objs.size = none := Heap.get?_none_of_le (Nat.le_refl _)
    refine hQ _ vs _ _ tk (k.trans (Keeps.push _ _)) ?_ (Heap.get?_push_size _ rfl) ((Reps.avoid nn _ _ rs).keeps (Keeps.push _ _))
    exact new_none _ k
theorem fold_rep {α : Type} (xs : Array α) : ∀ n : Nat, List.foldl (fun x1 x2 => x1 ++ x2) #[] (List.replicate n xs) = (List.replicate n xs.toList).flatten.toArray := by
  have g : ∀ (n : Nat) (acc : Array α), List.foldl (fun x1 x2 => x1 ++ x2) acc (List.replicate n xs) = acc ++ (List.replicate n xs.toList).flatten.toArray := by
    intro n
    induction n with
    | zero => intro acc; simp
    | succ n ih =>
      intro acc
      rw [List.replicate_succ, List.foldl_cons, ih, List.replicate_succ, List.flatten_cons]
      apply Array.ext'
      simp
  intro n
  rw [g]; simp
theorem Reps.rep {h : Heap} {av : List Addr} {d : D} {v : Value} (r : Rep h av d v) : ∀ n, Reps h av (List.replicate n d) (List.replicate n v)
  | 0 => rfl
  | n + 1 => by rw [List.replicate_succ, List.replicate_succ]; exact Reps.cons r (Reps.rep r n)
theorem mulL_raw {A : Around} {E : Value → Shared → Prop} {s : Shared} {l : Addr} {items : Array Value} {k : Nat} {x : Int} {u : Tok} {Q : Value → Shared → Prop}
    (hl : s.heap.get? l = some { cls := .type "list", dict := none, data := .seq items k, slots := #[] })
    (hlo : -(2 ^ 63 : Int) ≤ x) (hhi : x < 2 ^ 63) (hsz : items.size * x.toNat ≤ 2 ^ 24)
    (h : Q (.ref s.heap.objs.size) { s with heap := s.heap.push { cls := .type "list", data := .seq (List.foldl (fun x1 x2 => x1 ++ x2) #[] (List.replicate (if items.isEmpty = true then 0 else x.toNat) items)) } }) :
    wpAny (model prog w) A (binaryOp .Mult (.ref l) (.int x u)) Q E s :=
  wpAny_binaryOp_repeat_ref (T := "list") (U := "int") (by decide) ⟨_, hl, rfl⟩ (fun s' => typeIs_int s' x u) noFill_list_mul F.fills_int_mul F.slot_int_rmul repeat_list F.slot_int_index.lookup
    (call_meets F.slot_int_rmul (typeIs_int s x u) F.entry_int_rmul (F.args_int_rmul_2 _ _) (int___rmul___int_list x u l items k)
      ⟨hl, rfl, ⟨_, hl, rfl⟩, call_meets F.slot_list_mul ⟨_, hl, rfl⟩ F.entry_list_mul (F.args_list_mul_2 _ _)
        (AutoListH.list___mul___list_int_3 l items k x u (by simp [Builtin.List.listFitsIndex]; omega) (by omega) (by simp [Builtin.List.listTooLong, sizeLine]; omega))
        ⟨hl, h⟩⟩)
theorem Ev.mulL {l r : Expr} {p : Pos} {d : D} {n : Nat} (h1 : EvN prog w fns mg mb c ρ l [d]) (h2 : Ev prog w fns mg mb c ρ none r (.int n)) (hn : n ≤ 1000) : Ev prog w fns mg mb c ρ none (.BinOp l .Mult r p) (.lst (List.replicate n d)) := by
  refine ⟨fun s Q E ok hQ => ?_⟩
  refine wpAny_BinOp (h1.of s _ E ok fun a vs m g1 t1 k1 hnew ha rs => ?_)
  refine h2.of _ _ E (ok.keeps k1 t1) fun v2 g2 t2 k2 r2 => ?_
  obtain ⟨u, rfl⟩ := r2
  have hav : a ∉ c.avO := fun hm => by obtain ⟨ob, e⟩ := ok.live a hm; rw [hnew] at e; cases e
  have hl : g2.get? a = some { cls := .type "list", dict := none, data := .seq vs.toArray m, slots := #[] } := k2 _ _ ha
  obtain ⟨v, t, rfl, rv, rfl⟩ := rs
  refine mulL_raw hl (by omega) (by omega) (by simp; omega) ?_
  have e1 : (if [v].toArray.isEmpty = true then 0 else ((n : Int)).toNat) = n := by simp
  rw [e1, fold_rep]
  have e2 : (List.replicate n [v].toArray.toList).flatten.toArray = (List.replicate n v).toArray := by simp
  rw [e2]
  have kp := Keeps.push g2 { cls := .type "list", data := .seq (List.replicate n v).toArray }
  have hL : (g2.push { cls := .type "list", data := .seq (List.replicate n v).toArray }).IsList g2.objs.size (List.replicate n v).toArray := ⟨_, Heap.get?_push_size _ rfl, rfl, 0, rfl⟩
  have rv' : Rep g2 c.avO d v := (Rep.mono (k := (Keeps.refl _).kp _) (fun b hb => List.mem_cons_of_mem _ hb) d v rv).keeps k2
  exact hQ _ _ _ ((k1.trans k2).trans kp) ⟨_, List.replicate n v, rfl, ((ok.live.keeps k1).keeps k2).new, hL, Reps.rep (rv'.keeps kp) n⟩

mutual
noncomputable def dP : D → PyData
  | .int i => .int i
  | .str x => .str x
  | .bool b => .bool b
  | .tup xs => .tuple (dPs xs)
  | .lst xs => .list (dPs xs)
  | _ => .none
noncomputable def dPs : List D → List PyData
  | [] => []
  | d :: ds => dP d :: dPs ds
end
mutual
noncomputable def dOk : D → Bool
  | .int _ => true
  | .str x => PyData.strOk x
  | .tup xs => dOks xs
  | .lst xs => dOks xs
  | _ => false
noncomputable def dOks : List D → Bool
  | [] => true
  | d :: ds => dOk d && dOks ds
end
mutual
theorem Rep.reads {h : Heap} {av : List Addr} : ∀ (d : D) (v : Value), dOk d = true → Rep h av d v → ∃ as, Reads h v (dP d) as
  | .int i, _, _, ⟨t, e⟩ => by subst e; exact ⟨_, .int i t⟩
  | .str x, _, _, ⟨t, e⟩ => by subst e; exact ⟨_, .str x t⟩
  | .tup xs, _, k, ⟨a, vs, e, _, ⟨ob, ho, hc, n, hd⟩, rs⟩ => by
    subst e
    obtain ⟨as, r⟩ := Reps.reads xs vs (by simpa [dOk] using k) rs
    rw [dP]
    exact ⟨as, reads_tuple_at ho hc hd (by simpa using r)⟩
  | .lst xs, _, k, ⟨a, vs, e, _, ⟨ob, ho, hc, n, hd⟩, rs⟩ => by
    subst e
    obtain ⟨as, r⟩ := Reps.reads xs vs (by simpa [dOk] using k) rs
    rw [dP]
    exact ⟨_, reads_list_at ho hc hd (by simpa using r)⟩
  | .none, _, k, _ => by cases k
  | .bool _, _, k, _ => by cases k
  | .flt _, _, k, _ => by cases k
  | .ty _, _, k, _ => by cases k
theorem Reps.reads {h : Heap} {av : List Addr} : ∀ (ds : List D) (vs : List Value), dOks ds = true → Reps h av ds vs → ∃ as, ReadsAll h vs (dPs ds) as
  | [], _, _, r => by cases r; exact ⟨_, .nil⟩
  | d :: ds, _, k, ⟨v, t, e, h1, h2⟩ => by
    subst e
    have k' : dOk d = true ∧ dOks ds = true := by simpa [dOks] using k
    obtain ⟨as, q⟩ := Rep.reads d v k'.1 h1
    obtain ⟨bs, r⟩ := Reps.reads ds t k'.2 h2
    rw [dPs]
    exact ⟨_, .cons q r⟩
end
mutual
theorem eqv_dP : ∀ d : D, dOk d = true → PyData.eqv (dP d) (dP d) = true
  | .int i, _ => by simp [dP, PyData.eqv]
  | .str x, _ => by simp [dP, PyData.eqv]
  | .tup xs, k => by rw [dP, PyData.eqv]; exact eqv_dPs xs (by simpa [dOk] using k)
  | .lst xs, k => by rw [dP, PyData.eqv]; exact eqv_dPs xs (by simpa [dOk] using k)
  | .none, k => by cases k
  | .bool _, k => by cases k
  | .flt _, k => by cases k
  | .ty _, k => by cases k
theorem eqv_dPs : ∀ ds : List D, dOks ds = true → PyData.eqvAll (dPs ds) (dPs ds) = true
  | [], _ => by simp [dPs, PyData.eqvAll]
  | d :: ds, k => by
    have k' : dOk d = true ∧ dOks ds = true := by simpa [dOks] using k
    rw [dPs, PyData.eqvAll, eqv_dP d k'.1, eqv_dPs ds k'.2]; rfl
end
theorem Ev.eqSame {op : CmpOp} {l r : Expr} {p : Pos} {d : D} {b : Bool} (hop : (op = .Eq ∧ b = true) ∨ (op = .NotEq ∧ b = false)) (h1 : Ev prog w fns mg mb c ρ o l d) (h2 : Ev prog w fns mg mb c ρ o r d) (hd : dOk d = true) (hs : SeqAt.shaped (dP d) = true) (hk : 7 ≤ c.k)
    (hm : behindInMarks op r = false) : Ev prog w fns mg mb c ρ o (.Compare l [op] [r] p) (.bool b) := by
  refine ⟨fun s Q E ok hQ => ?_⟩
  refine wpAny_Compare1 (h1.of s _ E ok fun v1 g1 t1 k1 r1 => ?_) hm
  refine h2.of _ _ E (ok.keeps k1 t1) fun v2 g2 t2 k2 r2 => ?_
  obtain ⟨as, ra⟩ := (r1.keeps k2).reads _ _ hd
  obtain ⟨bs, rb⟩ := r2.reads _ _ hd
  have hu : c.A.units + 64 < cLine := by have := ok.room.units; omega
  have fin := hQ (.bool b) g2 t2 (k1.trans k2) rfl
  rcases hop with ⟨rfl, rfl⟩ | ⟨rfl, rfl⟩
  · exact eq_dataH ra rb hs hs hu (by rw [eqv_dP d hd]; exact fin)
  · exact ne_dataH ra rb hs hs hu (by rw [eqv_dP d hd]; exact fin)
theorem Tst.eqSame {op : CmpOp} {l r : Expr} {p : Pos} {d : D} {b : Bool} (hop : (op = .Eq ∧ b = true) ∨ (op = .NotEq ∧ b = false)) (h1 : Ev prog w fns mg mb c ρ o l d) (h2 : Ev prog w fns mg mb c ρ o r d) (hd : dOk d = true) (hs : SeqAt.shaped (dP d) = true) (hk : 7 ≤ c.k)
    (hm : behindInMarks op r = false) : Tst prog w fns mg mb c ρ o (.Compare l [op] [r] p) b := by
  refine ⟨fun s Q E ok hQ => ?_⟩
  refine wpAny_isTrue_Compare1 (h1.of s _ E ok fun v1 g1 t1 k1 r1 => ?_) hm
  refine h2.of _ _ E (ok.keeps k1 t1) fun v2 g2 t2 k2 r2 => ?_
  obtain ⟨as, ra⟩ := (r1.keeps k2).reads _ _ hd
  obtain ⟨bs, rb⟩ := r2.reads _ _ hd
  have hu : c.A.units + 64 < cLine := by have := ok.room.units; omega
  have fin := hQ g2 t2 (k1.trans k2)
  rcases hop with ⟨rfl, rfl⟩ | ⟨rfl, rfl⟩
  · exact eq_dataH ra rb hs hs hu (by rw [eqv_dP d hd]; exact wpAny_truthy_bool fin)
  · exact ne_dataH ra rb hs hs hu (by rw [eqv_dP d hd]; exact wpAny_truthy_bool fin)
end
end Wu
end
section
namespace Wu
open PySem PySem.Spec PySem.Calls PyProof.Rows PySem.W

/-- what a comprehension walks -/
structure Src (prog : Program) (w : World) (A : Around) (av : List Addr) (old h : Heap) (I : Addr) (wr sq : List Addr) (tg : Expr) (St : Nat → Heap → Prop) (xs : List D) : Prop where
  st : St 0 h
  wrNew : ∀ b ∈ wr, old.get? b = none
  wrLt : ∀ b ∈ wr, b < h.objs.size
  frame : ∀ i g g', St i g → (∀ b o, b < h.objs.size → g.get? b = some o → g'.get? b = some o) → St i g'
  seqs : ∀ i g, St i g → ∀ b ∈ wr, (∀ ob items n, g.get? b = some ob → ob.data ≠ .seq items n) ∨ b ∈ sq
  sqWr : ∀ b ∈ sq, b ∈ wr
  sqLive : ∀ i g, St i g → ∀ b ∈ sq, ∃ ob, g.get? b = some ob
  turn : ∀ (i : Nat) (s : Shared) (Q : Value → Shared → Prop) (E : Value → Shared → Prop) (Dd : Addr), i < xs.length → St i s.heap → (∀ b o, b ∉ wr → h.get? b = some o → s.heap.get? b = some o) → h.objs.size ≤ Dd → Dd < s.heap.objs.size →
    (∀ v h' tk d, St (i + 1) h' → (∀ b o, b ∉ wr → s.heap.get? b = some o → h'.get? b = some o) → xs[i]? = some d → Rep h' (Dd :: (sq ++ av)) d v → Q v { s with heap := h', toks := tk }) →
    wpAny (model prog w) A (pyNext (.ref I)) (fun r s₁ => ∃ v, r = some v ∧ wpAny (model prog w) A (letOwnedTupleGo tg (.ref I) v) (fun _ s₂ => Q v s₂) E s₁) E s
  done : ∀ (s : Shared) (Q : Shared → Prop) (E : Value → Shared → Prop), St xs.length s.heap →
    (∀ h' tk, (∀ b o, b ∉ wr → s.heap.get? b = some o → h'.get? b = some o) → Q { s with heap := h', toks := tk }) → wpAny (model prog w) A (pyNext (.ref I)) (fun r s₁ => r = none ∧ Q s₁) E s
  self : ∀ (i : Nat) (s : Shared) (Q : Value → Shared → Prop) (E : Value → Shared → Prop), St i s.heap → Q (.ref I) s → wpAny (model prog w) A (pyIter (.ref I)) Q E s

section
variable {prog : Program} {w : World} {fns : List DefRec} {mg mb : Str → Option Value} {c : Fx} {ρ : PEnv} {o : Own}

theorem compLoop_go {A : Around} {R : Result → Shared → Prop} {s : Shared} {elt target iter : Expr} {scope : Scope} {pos : Pos} {it acc : Value} {env : Env} (I : Nat → Shared → Prop)
    (turn : ∀ n s, I n s → wpAny (model prog w) A (pyNext it) (fun r s₁ => match r with
      | none => R (.ok .next) s₁
      | some v => wpAny (model prog w) A (letOwnedTupleGo target it v) (fun _ s₁' => wpAny (model prog w) A (assign target env v) (fun _ s₂ =>
          wpAny (model prog w) A (eval elt env) (fun x s₄ =>
              wpAny (model prog w) A (call (.builtin "list.append") [acc, x]) (fun _ s₅ => ∃ m, m < n ∧ I m s₅) (notedBy (model prog w) A env fun e s' => R (.error e) s') s₄) (notedBy (model prog w) A env fun e s' => R (.error e) s') s₂)
          (notedBy (model prog w) A env fun e s' => R (.error e) s') s₁') (notedBy (model prog w) A env fun e s' => R (.error e) s') s₁) (notedBy (model prog w) A env fun e s' => R (.error e) s') s)
    (n : Nat) (h : I n s) : codeAny (model prog w) A (.compLoop (.ListComp elt [⟨target, iter, [], 0⟩] scope pos) 0 it acc env) R s := by
  refine codeAny_loop rfl I (fun n s hI => ?_) n h
  show wpAny _ A ((compTurn (.ListComp elt [⟨target, iter, [], 0⟩] scope pos) 0 it acc env).onRaise (fun x => do noteFrame x env; theTreesLotGoes x)) _ _ s
  refine wpAny_noted ?_
  rw [compTurn_list1]
  refine wpAny_bind (wpAny_standAt (wpAny_bind (wpAny_mono (turn n s hI) (fun r s₁ h₁ => ?_) fun _ _ h' => h')))
  cases r with
  | none => exact wpAny_pure h₁
  | some v =>
    refine wpAny_bind (wpAny_mono h₁ (fun _ s₁' h₁' => ?_) fun _ _ h' => h')
    refine wpAny_bind (wpAny_mono h₁' (fun _ s₂ h₂ => ?_) fun _ _ h' => h')
    exact wpAny_bind (wpAny_bind (wpAny_mono h₂ (fun x s₄ h₄ => wpAny_bind (wpAny_mono h₄ (fun _ s₅ h₅ => wpAny_pure (wpAny_pure ⟨rfl, h₅⟩)) fun _ _ h' => h')) fun _ _ h' => h'))

/-- a target takes the datum -/
noncomputable def Asg (prog : Program) (w : World) (fns : List DefRec) (mg mb : Str → Option Value) (c : Fx) (ρ : PEnv) (tg : Expr) (d : D) (ρ' : PEnv) : Prop :=
  ∀ (s : Shared) (v : Value) (Q : Unit → Shared → Prop) (E : Value → Shared → Prop), Ok fns mg mb c s ρ none → Rep s.heap c.avO d v →
    (∀ h' tk, Ok fns mg mb c { s with heap := h', toks := tk } ρ' none → (∀ b ob, b ≠ c.env.locals → s.heap.get? b = some ob → h'.get? b = some ob) → Q () { s with heap := h', toks := tk }) → wpAny (model prog w) c.A (assign tg c.env v) Q E s

/-- the frame of a comprehension's turn -/
noncomputable def Fx.comp (c : Fx) (scope : Scope) (cl : List (Str × Addr)) (C Dd : Addr) (sq : List Addr) : Fx := ⟨c.A, compEnvC scope cl C c.env, c.base, Dd :: (sq ++ c.avO), c.k⟩

structure It2 (prog : Program) (w : World) (fns : List DefRec) (mg mb : Str → Option Value) (c : Fx) (ρ : PEnv) (e tg : Expr) (xs : List D) : Prop where
  of : ∀ (s : Shared) (Q : Value → Shared → Prop) (E : Value → Shared → Prop), Ok fns mg mb c s ρ none →
    (∀ I wr sq St h' tk, Keeps s.heap h' → Src prog w c.A c.avO s.heap h' I wr sq tg St xs → Q (.ref I) { s with heap := h', toks := tk }) →
    wpAny (model prog w) c.A (eval e c.env) (fun x s₁ => wpAny (model prog w) c.A (pyIter x) Q E s₁) E s

theorem It.it2 {e : Expr} {xs : List D} {tg : Expr} (h : It prog w fns mg mb c ρ none e xs) (ht : ∀ it v, letOwnedTupleGo tg it v = pure ()) : It2 prog w fns mg mb c ρ e tg xs := by
  refine ⟨fun s Q E ok hQ => ?_⟩
  refine h.of s Q E ok fun I fp n P St h' tk k it => hQ I [I] [] St h' tk k ?_
  obtain ⟨W, rfl, st0, hnew, iobj, fps, rep⟩ := it
  have hlt : ∀ b ∈ fp, b < h'.objs.size := fun b hb => by
    by_cases q : b = I
    · subst q; obtain ⟨ob, e, _⟩ := iobj 0 h' st0; exact Heap.lt_size e
    · obtain ⟨_, ob, e, _⟩ := fps b hb q; exact Heap.lt_size e
  refine ⟨st0, fun b hb => by rw [List.mem_singleton.mp hb]; exact hnew, fun b hb => hlt b (W.sub b hb), fun i g g' hg hk => W.frame i g g' hg fun b hb ob e => hk b ob (hlt b hb) e, fun i g hg b hb => .inl fun ob items n e => ?_, (fun _ m => nomatch m), (fun _ _ _ _ m => nomatch m), ?_, ?_, W.self⟩
  · rw [List.mem_singleton.mp hb] at e
    obtain ⟨oI, eI, _, nI⟩ := iobj i g hg
    rw [e] at eI; cases eI; exact nI _ _
  · intro i s' Q' E' Dd hi hst hkp hDd hDs hQ'
    refine W.item i s' _ _ hi hst fun v g tg' hP hst' hk => ⟨v, rfl, ?_⟩
    rw [ht]
    refine wpAny_pure ?_
    obtain ⟨d, hd, rd⟩ := rep h' ((Keeps.refl _).kp _) i v hP
    refine hQ' v g tg' d hst' hk hd ?_
    have hDn : h'.get? Dd = none := Heap.get?_none_of_le hDd
    have rd2 := Rep.avoid hDn d v rd
    refine rd2.kp fun b hb ob items n e hdat => ?_
    have hbI : b ∉ [I] := fun m => by
      rw [List.mem_singleton.mp m] at e
      obtain ⟨oI, eI, _, nI⟩ := iobj 0 h' st0
      rw [e] at eI; cases eI; exact nI _ _ hdat
    exact hk b ob hbI (hkp b ob hbI e)
  · intro s' Q' E' hst hQ'
    exact W.done s' _ _ hst fun g tg' hk => ⟨rfl, hQ' g tg' hk⟩

theorem Rep.avoids {h : Heap} {av : List Addr} : ∀ {l : List Addr}, (∀ b ∈ l, h.get? b = none) → ∀ (d : D) (v : Value), Rep h av d v → Rep h (l ++ av) d v
  | [], _, _, _, r => r
  | a :: l, n, d, v, r => Rep.avoid (n a List.mem_cons_self) d v (Rep.avoids (fun b hb => n b (List.mem_cons_of_mem _ hb)) d v r)
theorem compEnvC_kind (scope : Scope) (cl : List (Str × Addr)) (C : Addr) (env : Env) : (compEnvC scope cl C env).scope.kind = scope.kind := rfl

theorem comp_run {elt iter tg : Expr} {scope : Scope} {cl : List (Str × Addr)} {pos : Pos} {xs ys : List D} {ρ₀ : PEnv}
    (hit : It2 prog w fns mg mb c ρ iter tg xs) (hlen : ys.length = xs.length) (hsz : xs.length ≤ 1000)
    (hcl : closureFor scope c.env = pure cl) (hs : ∀ y, foldedSetIterable iter c.env y = pure y)
    (hkind : scope.kind = .function) (hcell : ∀ y ∈ scope.names, y.2 ≠ .cell) (hnames : ∀ y ∈ scope.names, y.2 = .local → scope.names.lookup y.1 = some .local)
    (hclo : ∀ x a, cl.lookup x = some a → c.env.cells.lookup x = some a)
    (hρ : ∀ y d, ρ₀.lookup y = some d → ρ.lookup y = some d ∧ c.env.kindOf y = some .cell ∧ (∀ C, (compEnvC scope cl C c.env).kindOf y = some .cell) ∧ cl.lookup y = c.env.cells.lookup y)
    (hbody : ∀ C Dd sq (i : Nat) d, xs[i]? = some d → ∃ e ρi, ys[i]? = some e ∧ Asg prog w fns mg mb (c.comp scope cl C Dd sq) ρ₀ tg d ρi ∧ Ev prog w fns mg mb (c.comp scope cl C Dd sq) ρi none elt e)
    (use : Option (Value → Sem Unit)) (s : Shared) (Q E : Value → Shared → Prop) (pos' : Pos) (ok : Ok fns mg mb c s ρ none)
    (hQ : ∀ a vs n g tk C m, Keeps s.heap g → s.heap.get? a = none → s.heap.get? C = none → a ≠ C → g.get? a = some { cls := .type "list", data := .seq (List.toArray vs) n } → g.Ns C m → Reps g (a :: c.avO) ys vs →
      compPost (model prog w) c.A E use Q (.ref a) C (.ok .next) { s with heap := g, toks := tk }) :
    wpAny (model prog w) c.A (comprehension (.ListComp elt [⟨tg, iter, [], 0⟩] scope pos) scope c.env pos' (newList []) false (eval iter c.env) use) Q E s := by
  refine wpAny_comprehension_free (use := use) rfl hs hcl hkind hnames (hit.of s _ E ok fun I wr sq St g1 tk1 k1 src => ?_)
  refine wpAny_newObj_type (wpAny_newFunctionEnv hcell (by intro y hy; simp at hy) (fun h₁ hns₁ hsb₁ => ?_) hkind)
  dsimp only at hns₁ hsb₁ ⊢
  generalize hH2 : g1.push { cls := .type "list", dict := none, data := .seq ([] : List Value).toArray } = H2 at hns₁ hsb₁ ⊢
  have hC : H2.objs.size = g1.objs.size + 1 := by rw [← hH2, Heap.size_push]
  have hDC : g1.objs.size ≠ H2.objs.size := by rw [hC]; exact Nat.ne_of_lt (Nat.lt_succ_self _)
  have old : ∀ b ob, g1.get? b = some ob → h₁.get? b = some ob := fun b ob e => hsb₁.extBut b ob (by rw [hC]; exact Nat.ne_of_lt (Nat.lt_succ_of_lt (Heap.lt_size e))) (Heap.get?_push_of_some _ (hH2 ▸ Heap.get?_push_of_some _ e))
  have hacc : h₁.get? g1.objs.size = some { cls := .type "list", dict := none, data := .seq ([] : List Value).toArray } := hsb₁.extBut _ _ hDC (Heap.get?_push_of_some _ (hH2 ▸ Heap.get?_push_size _ rfl))
  have hDn : s.heap.get? g1.objs.size = none := new_none _ k1
  have hCn : s.heap.get? H2.objs.size = none := by
    cases e : s.heap.get? H2.objs.size with
    | none => rfl
    | some ob => have := Heap.lt_size (k1 _ _ e); rw [hC] at this; exact absurd this (Nat.not_lt.mpr (Nat.le_succ _))
  have hbn : ∀ a, s.heap.get? a = none → c.base.get? a = none := fun a e => by
    cases q : c.base.get? a with
    | none => rfl
    | some ob => rw [ok.keep a ob q] at e; cases e
  generalize hDd : g1.objs.size = Dd at *
  generalize hCC : H2.objs.size = C at *
  have mkOk : ∀ (g : Heap) (tg' : Nat), Keeps s.heap g → (∃ ob, g.get? Dd = some ob) → (∀ b ∈ sq, ∃ ob, g.get? b = some ob) → (∃ m, g.Ns C m) → Ok fns mg mb (c.comp scope cl C Dd sq) { s with heap := g, toks := tg' } ρ₀ none := by
    intro g tg' kg hDg hsq hCg
    refine ⟨ok.room, ok.gl, ok.keep.trans kg, fun y d e => ?_, trivial, fun b hb => ?_, ⟨hkind, ok.frame.globals, ok.frame.builtins, hCg, hbn C hCn, fun x a e => ?_, fun x y a ex ey => ok.frame.inj x y a (hclo x a ex) (hclo y a ey)⟩⟩
    · obtain ⟨e1, ek, e2, e3⟩ := hρ y d e
      obtain ⟨v, hv, rv⟩ := ok.vars y d e1
      refine ⟨v, ?_, (Rep.avoid hDn d v (Rep.avoids (fun b hb => src.wrNew b (src.sqWr b hb)) d v rv)).keeps kg⟩
      rcases hv with ⟨hl, _⟩ | ⟨_, ca, hca, hcv⟩
      · rw [ek] at hl; cases hl
      · exact .inr ⟨.inl (e2 C), ca, by show cl.lookup y = some ca; rw [e3]; exact hca, hcv.keeps kg⟩
    · rcases List.mem_cons.mp hb with rfl | hb
      · exact hDg
      · rcases List.mem_append.mp hb with hb | hb
        · exact hsq b hb
        obtain ⟨ob, e⟩ := ok.live b hb
        exact ⟨ob, kg _ _ e⟩
    · have e' := hclo x a e
      exact ⟨(ok.frame.cells x a e').1, let ⟨v, hv⟩ := (ok.frame.cells x a e').2; ⟨v, hv.keeps kg⟩⟩
  have wrD : Dd ∉ wr := fun m => by have := src.wrLt _ m; rw [hDd] at this; exact Nat.lt_irrefl _ this
  have wrC : C ∉ wr := fun m => by have := src.wrLt _ m; rw [hDd, hC] at this; exact absurd this (Nat.not_lt.mpr (Nat.le_succ _))
  have oldK : ∀ g : Heap, (∀ b ob, b ∉ wr → g1.get? b = some ob → g.get? b = some ob) → Keeps s.heap g := fun g hg b ob e => hg b ob (fun m => by rw [src.wrNew b m] at e; cases e) (k1 b ob e)
  have st₁ : St 0 h₁ := src.frame 0 g1 h₁ src.st fun b ob _ e => old b ob e
  have loop : codeAny (model prog w) c.A (.compLoop (.ListComp elt [⟨tg, iter, [], 0⟩] scope pos) 0 (.ref I) (.ref Dd) (compEnvC scope cl C c.env))
      (compPost (model prog w) c.A E use Q (.ref Dd) C) { s with heap := h₁, toks := tk1 + ([] : List (Str × Value)).length } := by
    refine compLoop_go (fun k s' => ∃ g tg' i vs n, s' = { s with heap := g, toks := tg' } ∧ i ≤ xs.length ∧ k = xs.length + 1 - i ∧ St i g ∧ (∀ b ob, b ∉ wr → g1.get? b = some ob → g.get? b = some ob) ∧
        g.get? Dd = some { cls := .type "list", data := .seq (List.toArray vs) n } ∧ (∃ m, g.Ns C m) ∧ Reps g (Dd :: (sq ++ c.avO)) (ys.take i) vs) ?_ (xs.length + 1)
      ⟨h₁, _, 0, [], _, rfl, Nat.zero_le _, rfl, st₁, fun b ob _ e => old b ob e, hacc, ⟨_, hns₁⟩, by rw [List.take_zero]; rfl⟩
    rintro k s' ⟨g, tg', i, vs, n, rfl, hi, rfl, sti, kp, hD, ⟨m, hm⟩, rs⟩
    by_cases hlt : i < xs.length
    · refine wpAny_mono (src.turn i _ (fun v s₂ => wpAny (model prog w) c.A (assign tg (compEnvC scope cl C c.env) v) (fun _ s₃ => wpAny (model prog w) c.A (eval elt (compEnvC scope cl C c.env)) (fun x s₄ =>
          wpAny (model prog w) c.A (call (.builtin "list.append") [.ref Dd, x]) (fun _ s₅ => ∃ m, m < xs.length + 1 - i ∧ ∃ g tg' i vs n, s₅ = { s with heap := g, toks := tg' } ∧ i ≤ xs.length ∧ m = xs.length + 1 - i ∧ St i g ∧ (∀ b ob, b ∉ wr → g1.get? b = some ob → g.get? b = some ob) ∧
        g.get? Dd = some { cls := .type "list", data := .seq (List.toArray vs) n } ∧ (∃ m, g.Ns C m) ∧ Reps g (Dd :: (sq ++ c.avO)) (ys.take i) vs) (notedBy (model prog w) c.A (compEnvC scope cl C c.env) fun e s' => compPost (model prog w) c.A E use Q (.ref Dd) C (.error e) s') s₄) (notedBy (model prog w) c.A (compEnvC scope cl C c.env) fun e s' => compPost (model prog w) c.A E use Q (.ref Dd) C (.error e) s') s₃) (notedBy (model prog w) c.A (compEnvC scope cl C c.env) fun e s' => compPost (model prog w) c.A E use Q (.ref Dd) C (.error e) s') s₂) _ Dd hlt sti kp (by rw [hDd]; exact Nat.le_refl _) (Heap.lt_size hD) fun v g2 tg2 d st2 k2 hd rd => ?_) (fun r s₁ ⟨v, e, hv⟩ => by subst e; exact hv) fun _ _ x => x
      obtain ⟨e, ρi, hye, hasg, hev⟩ := hbody C Dd sq i d hd
      have kp2 : ∀ b ob, b ∉ wr → g1.get? b = some ob → g2.get? b = some ob := fun b ob hb e => k2 b ob hb (kp b ob hb e)
      have hD2 := k2 _ _ wrD hD
      have hm2 : g2.Ns C m := hm.at' fun ob e => k2 _ _ wrC e
      have ok2 := mkOk g2 tg2 (oldK g2 kp2) ⟨_, hD2⟩ (src.sqLive _ _ st2) ⟨m, hm2⟩
      have kpw : ∀ (i : Nat) (ga gb : Heap), St i ga → (∀ b ob, b ∉ wr → ga.get? b = some ob → gb.get? b = some ob) → Kp (Dd :: (sq ++ c.avO)) ga gb := by
        intro i ga gb sta hab b hb ob items n e hdat
        refine hab b ob (fun m => ?_) e
        rcases src.seqs i ga sta b m with hq | hq
        · exact hq ob items n e hdat
        · exact hb (List.mem_cons_of_mem _ (List.mem_append_left _ hq))
      have rs2 : Reps g2 (Dd :: (sq ++ c.avO)) (ys.take i) vs := rs.kp (kpw i g g2 sti k2)
      refine hasg _ v _ _ ok2 rd fun g3 tg3 ok3 k3 => ?_
      have hlocC : ((c.comp scope cl C Dd sq).env).locals = C := rfl
      rw [hlocC] at k3
      refine hev.of _ _ _ ok3 fun y g4 tg4 k4 ry => ?_
      have hD3 := k3 _ _ hDC hD2
      have hD4 := k4 _ _ hD3
      have rs4 : Reps g4 (Dd :: (sq ++ c.avO)) (ys.take i) vs := by
        refine (rs2.kp fun b hb ob items n e hdat => ?_ : Reps g3 (Dd :: (sq ++ c.avO)) (ys.take i) vs).keeps k4
        refine k3 b ob (fun q => ?_) e
        subst q
        obtain ⟨o', es, ep, e1, e2, _⟩ := hm2
        rw [e] at e1; cases e1; rw [hdat] at e2; cases e2
      refine append_at hD4 (fun g5 hs5 hD5 => ?_) ?_
      · have c1 : ∀ b ob, b ≠ Dd → b ≠ C → g2.get? b = some ob → g5.get? b = some ob := fun b ob n1 n2 e => (hs5.2 b n1).trans (k4 _ _ (k3 b ob n2 e))
        have lt1 : ∀ b, b < g1.objs.size → b ≠ Dd ∧ b ≠ C := fun b hb => by
          rw [hDd] at hb
          exact ⟨Nat.ne_of_lt hb, by rw [hC]; exact Nat.ne_of_lt (Nat.lt_succ_of_lt hb)⟩
        have kpD : Kp (Dd :: (sq ++ c.avO)) g4 g5 := Kp.of_same hs5 (.inl List.mem_cons_self)
        refine ⟨xs.length + 1 - (i + 1), by omega, g5, tg4, i + 1, vs ++ [y], n + 1, rfl, hlt, rfl, src.frame _ _ _ st2 fun b ob hb e => c1 b ob (lt1 b hb).1 (lt1 b hb).2 e, fun b ob hb e => c1 b ob (lt1 b (Heap.lt_size e)).1 (lt1 b (Heap.lt_size e)).2 (kp2 b ob hb e), ?_, ?_, ?_⟩
        · rw [hD5, List.push_toArray]
        · obtain ⟨m3, hm3⟩ := ok3.frame.ns
          exact ⟨m3, (Heap.Ns.keeps (m := m3) hm3 k4).sameBut hs5 hDC.symm⟩
        · have e1 : ys.take (i + 1) = ys.take i ++ [e] := by
            rw [List.take_add_one, hye]; rfl
          rw [e1]
          exact (rs4.append (Reps.one ry)).kp kpD
      · rw [List.size_toArray, rs4.length]
        exact Nat.le_trans (List.length_take_le ..) (Nat.le_trans (Nat.le_trans (Nat.le_of_lt hlt) hsz) (by decide))
    · obtain rfl : i = xs.length := Nat.le_antisymm hi (Nat.not_lt.mp hlt)
      refine wpAny_mono (src.done _ (fun s₁ => compPost (model prog w) c.A E use Q (.ref Dd) C (.ok .next) s₁) _ sti fun g2 tg2 k2 => ?_) (fun r s₁ ⟨e, hv⟩ => by subst e; exact hv) fun _ _ x => x
      have hm2 : g2.Ns C m := hm.at' fun ob e => k2 _ _ wrC e
      have kp2 : ∀ b ob, b ∉ wr → g1.get? b = some ob → g2.get? b = some ob := fun b ob hb e => k2 b ob hb (kp b ob hb e)
      have e1 : ys.take xs.length = ys := by rw [← hlen, List.take_length]
      rw [e1] at rs
      have rs2 : Reps g2 (Dd :: (sq ++ c.avO)) ys vs := by
        refine rs.kp fun b hb ob items n e hdat => k2 b ob (fun mm => ?_) e
        rcases src.seqs _ g sti b mm with hq | hq
        · exact hq ob items n e hdat
        · exact hb (List.mem_cons_of_mem _ (List.mem_append_left _ hq))
      refine hQ Dd vs n g2 tg2 C m (oldK g2 kp2) hDn hCn hDC (k2 _ _ wrD hD) hm2 (Reps.mono ((Keeps.refl _).kp _) (fun b hb => ?_) _ _ rs2)
      rcases List.mem_cons.mp hb with rfl | hb
      · exact List.mem_cons_self
      · exact List.mem_cons_of_mem _ (List.mem_append_right _ hb)
  exact codeAny_compStart_list loop (src.self 0 _ _ _ st₁ loop)
theorem EvN.comp {elt iter tg : Expr} {scope : Scope} {cl : List (Str × Addr)} {pos : Pos} {xs ys : List D} {ρ₀ : PEnv}
    (hit : It2 prog w fns mg mb c ρ iter tg xs) (hlen : ys.length = xs.length) (hsz : xs.length ≤ 1000)
    (hcl : closureFor scope c.env = pure cl) (hs : ∀ y, foldedSetIterable iter c.env y = pure y)
    (hkind : scope.kind = .function) (hcell : ∀ y ∈ scope.names, y.2 ≠ .cell) (hnames : ∀ y ∈ scope.names, y.2 = .local → scope.names.lookup y.1 = some .local)
    (hclo : ∀ x a, cl.lookup x = some a → c.env.cells.lookup x = some a)
    (hρ : ∀ y d, ρ₀.lookup y = some d → ρ.lookup y = some d ∧ c.env.kindOf y = some .cell ∧ (∀ C, (compEnvC scope cl C c.env).kindOf y = some .cell) ∧ cl.lookup y = c.env.cells.lookup y)
    (hbody : ∀ C Dd sq (i : Nat) d, xs[i]? = some d → ∃ e ρi, ys[i]? = some e ∧ Asg prog w fns mg mb (c.comp scope cl C Dd sq) ρ₀ tg d ρi ∧ Ev prog w fns mg mb (c.comp scope cl C Dd sq) ρi none elt e) :
    EvN prog w fns mg mb c ρ (.ListComp elt [⟨tg, iter, [], 0⟩] scope pos) ys := by
  refine ⟨fun s Q E ok hQ => ?_⟩
  rw [eval_ListComp]
  refine comp_run hit hlen hsz hcl hs hkind hcell hnames hclo hρ hbody none s Q E _ ok fun a vs n g tk C m k ha hC hne hg hm rs => ?_
  refine ⟨m, hm, fun g3 hs3 => ?_⟩
  refine hQ a vs n g3 tk (fun b ob e => (hs3.2 b (fun q => by rw [q, hC] at e; cases e)).trans (k b ob e)) ha ((hs3.2 a hne).trans hg) ?_
  refine rs.kp fun b hb ob items n e hdat => (hs3.2 b (fun q => ?_)).trans e
  subst q
  obtain ⟨o', es, ep, e1, e2, _⟩ := hm
  rw [e] at e1; cases e1; rw [hdat] at e2; cases e2
end
end Wu
end
section
namespace Wu
open PySem PySem.Spec PySem.Calls PyProof.Rows PySem.W

section
variable {prog : Program} {w : World} {A : Around} {E : Value → Shared → Prop} {s : Shared}
theorem draw_list {it t : Addr} {items : Array Value} (hne : t ≠ it) : ∀ (n i : Nat) (s : Shared) (Q : List Value → Shared → Prop), s.heap.IsListIter it t i → s.heap.IsList t items → i + n ≤ items.size →
    (∀ h', h'.IsListIter it t (i + n) → Heap.SameBut it s.heap h' → Q ((items.toList.drop i).take n) { s with heap := h' }) → wpAny (model prog w) A (draw (.ref it) n) Q E s
  | 0, i, s, Q, hit, _, _, hQ => by
    show wpAny _ _ (pure []) Q E s
    exact wpAny_pure (by simpa using hQ s.heap hit (Heap.SameBut.refl ..))
  | n + 1, i, s, Q, hit, ht, hle, hQ => by
    have hlt : i < items.size := by omega
    show wpAny _ _ (pyNext (.ref it) >>= _) Q E s
    refine wpAny_bind (wpAny_pyNext_list_item hit ht (x := items[i]) (by simp [hlt]) fun h₁ hit₁ hs₁ => ?_)
    refine wpAny_bind (wpAny_holding (draw_list hne n (i + 1) _ _ hit₁ (ht.extBut hs₁.extBut hne) (by omega) fun h₂ hit₂ hs₂ => wpAny_pure ?_))
    have hd : items.toList.drop i = items[i] :: items.toList.drop (i + 1) := by simp [List.drop_eq_getElem_cons, hlt]
    have := hQ h₂ (by rw [show i + (n + 1) = i + 1 + n by omega]; exact hit₂) (hs₁.trans hs₂)
    rw [hd, List.take_succ_cons] at this
    exact this
theorem unpackItems_list {t : Addr} {items : Array Value} {Q : List Value → Shared → Prop} (hh : A.handled = none) (ht : s.heap.IsList t items)
    (hQ : ∀ h', Heap.ExtBut s.heap.objs.size s.heap h' → Q items.toList { s with heap := h' }) : wpAny (model prog w) A (unpackItems (.ref t) items.size none) Q E s := by
  have hlt : t ≠ s.heap.objs.size := by obtain ⟨o, ho, _⟩ := ht; exact Nat.ne_of_lt (Heap.lt_size ho)
  unfold unpackItems
  refine wpAny_bind ?_
  · unfold notIterableAtAll
    refine wpAny_bind (wpAny_specialOf ht.typeIs slot_list_iter.lookup ?_)
    refine wpAny_pure ?_
    simp only [Bool.false_eq_true, if_false]
    refine wpAny_bind (wpAny_holding (wpAny_pyIter_list ht ?_))
    refine wpAny_bind (wpAny_holding (draw_list hlt items.size 0 _ _ ⟨_, Heap.get?_push_size _ rfl, rfl, rfl⟩ (ht.push _) (by omega) fun h₁ hit₁ hs₁ => ?_))
    have hall : List.take items.size (List.drop 0 items.toList) = items.toList := by
      rw [List.drop_zero]; exact List.take_of_length_le (by simp)
    rw [hall]
    rw [if_neg (by simp)]
    have ht₁ : h₁.IsList t items := (ht.push _).extBut hs₁.extBut hlt
    refine wpAny_bind (wpAny_holding (wpAny_pyNext_list_end hh hit₁ ht₁ (by simp) fun h₂ he₂ => ?_))
    simp only [Option.isSome_none, Bool.false_eq_true, if_false]
    refine wpAny_pure (hQ h₂ fun b o hb e => he₂ b o hb (hs₁.extBut b o hb (Heap.get?_push_of_some _ e)))
end

section
variable {prog : Program} {w : World} {fns : List DefRec} {mg mb : Str → Option Value} {c : Fx} {ρ : PEnv} {o : Own}

theorem store_loc {A : Around} {s : Shared} (k : Ok fns mg mb c s ρ none) {x : Str} {v : Value} {d : D} (hx : c.env.kindOf x = some .local) (hr : Rep s.heap c.avO d v) {Q : Unit → Shared → Prop} {E : Value → Shared → Prop}
    (h : ∀ h' tk, Ok fns mg mb c { s with heap := h', toks := tk } ((x, d) :: ρ) none → Heap.SameBut c.env.locals s.heap h' → Q () { s with heap := h', toks := tk }) : wpAny (model prog w) A (storeName c.env x v) Q E s := by
  obtain ⟨m, hm⟩ := k.frame.ns
  have hLd : ∀ ob items n, s.heap.get? c.env.locals = some ob → ob.data ≠ .seq items n := by
    obtain ⟨o', es, ep, e1, e2, _⟩ := hm
    intro ob items n e q
    rw [e1] at e; cases e; rw [e2] at q; cases q
  refine wpAny_storeName_local hx hm (fun h' hm' hs => ?_) (by rw [k.frame.kind]; rfl)
  have cellNe : ∀ ca v', s.heap.IsCell ca v' → ca ≠ c.env.locals := by
    intro ca v' hc q
    subst q
    obtain ⟨oc, e, ed⟩ := hc
    obtain ⟨o', es, ep, e1, e2, _⟩ := hm
    rw [e1] at e; cases e; rw [e2] at ed; cases ed
  have hvar : ∀ y v', y ≠ x → VarAt c.env s.heap y v' → VarAt c.env h' y v' := by
    rintro y v' hy (⟨e, m₂, hm₂, hy₂⟩ | ⟨e, ca, hc, hv⟩)
    · exact .inl ⟨e, _, hm', by rw [if_neg hy, ns_same hm hm₂, hy₂]⟩
    · exact .inr ⟨e, ca, hc, hv.sameBut hs (cellNe _ _ hv)⟩
  refine h h' _ (k.change hs k.frame.baseL hLd (by obtain ⟨o', _, _, e1, _⟩ := hm'; exact ⟨o', e1⟩) (fun y v' hy => (by cases hy)) (fun y d' e => ?_) ⟨k.frame.kind, k.frame.globals, k.frame.builtins, ⟨_, hm'⟩, k.frame.baseL, fun y ca e => ⟨(k.frame.cells y ca e).1, let ⟨v', hv⟩ := (k.frame.cells y ca e).2; ⟨v', hv.sameBut hs (cellNe _ _ hv)⟩⟩, k.frame.inj⟩) hs
  rw [List.lookup_cons] at e
  cases hyx : y == x with
  | true =>
    rw [hyx] at e; cases e
    have : y = x := beq_iff_eq.mp hyx
    subst this
    exact ⟨v, .inl ⟨hx, _, hm', by rw [if_pos rfl]⟩, hr⟩
  | false =>
    rw [hyx] at e
    obtain ⟨v', h1, h2⟩ := k.vars y d' e
    exact ⟨v', hvar y v' (fun q => by rw [q, beq_self_eq_true] at hyx; cases hyx) h1, h2⟩

/-- an object that the frame does not hold is another's -/
theorem Ok.drop {s : Shared} (k : Ok fns mg mb c s ρ none) {C : Addr} {h' : Heap} {tk : Nat} (hs : Heap.SameBut C s.heap h') (hb : c.base.get? C = none) (hL : c.env.locals ≠ C) (hcl : ∀ x ca, c.env.cells.lookup x = some ca → ca ≠ C) (hav : C ∉ c.avO)
    (hq : ∀ ob items n, s.heap.get? C = some ob → ob.data ≠ .seq items n) : Ok fns mg mb c { s with heap := h', toks := tk } ρ none := by
  have cellk : ∀ x ca v, c.env.cells.lookup x = some ca → s.heap.IsCell ca v → h'.IsCell ca v := fun x ca v e hc => hc.sameBut hs (hcl x ca e)
  refine ⟨k.room, k.gl, fun b ob e => ?_, fun x d e => ?_, trivial, fun b hb' => ?_, ⟨k.frame.kind, k.frame.globals, k.frame.builtins, let ⟨m, hm⟩ := k.frame.ns; ⟨m, hm.sameBut hs hL⟩, k.frame.baseL, fun x ca e => ⟨(k.frame.cells x ca e).1, let ⟨v, hv⟩ := (k.frame.cells x ca e).2; ⟨v, cellk x ca v e hv⟩⟩, k.frame.inj⟩⟩
  · have : b ≠ C := fun q => by rw [q, hb] at e; cases e
    exact (hs.2 b this).trans (k.keep b ob e)
  · obtain ⟨v, h1, h2⟩ := k.vars x d e
    refine ⟨v, ?_, h2.kp (Kp.of_same hs (.inr hq))⟩
    rcases h1 with ⟨e1, m, hm, hx⟩ | ⟨e1, ca, hca, hv⟩
    · exact .inl ⟨e1, m, hm.sameBut hs hL, hx⟩
    · exact .inr ⟨e1, ca, hca, cellk x ca _ hca hv⟩
  · obtain ⟨ob, e⟩ := k.live b hb'
    exact ⟨ob, (hs.2 b (fun q => hav (q ▸ hb'))).trans e⟩
theorem Ex.compU {y : Str} {py spos : Pos} {elt iter tg : Expr} {scope : Scope} {cl : List (Str × Addr)} {pos : Pos} {xs ys : List D} {ρ₀ : PEnv}
    (hit : It2 prog w fns mg mb c ρ iter tg xs) (hlen : ys.length = xs.length) (hsz : xs.length ≤ 1000)
    (hcl : closureFor scope c.env = pure cl) (hs : ∀ y, foldedSetIterable iter c.env y = pure y)
    (hkind : scope.kind = .function) (hcell : ∀ y ∈ scope.names, y.2 ≠ .cell) (hnames : ∀ y ∈ scope.names, y.2 = .local → scope.names.lookup y.1 = some .local)
    (hclo : ∀ x a, cl.lookup x = some a → c.env.cells.lookup x = some a)
    (hρ : ∀ y d, ρ₀.lookup y = some d → ρ.lookup y = some d ∧ c.env.kindOf y = some .cell ∧ (∀ C, (compEnvC scope cl C c.env).kindOf y = some .cell) ∧ cl.lookup y = c.env.cells.lookup y)
    (hbody : ∀ C Dd sq (i : Nat) d, xs[i]? = some d → ∃ e ρi, ys[i]? = some e ∧ Asg prog w fns mg mb (c.comp scope cl C Dd sq) ρ₀ tg d ρi ∧ Ev prog w fns mg mb (c.comp scope cl C Dd sq) ρi none elt e)
    (hy : c.env.kindOf y = some .local) (hsw : swapsWith (.ListComp elt [⟨tg, iter, [], 0⟩] scope pos) (some (.Name y py)) spos.line c.env = pure true) :
    Ex prog w fns mg mb c ρ none (.Assign [.Name y py] (.ListComp elt [⟨tg, iter, [], 0⟩] scope pos) spos) (.next ((y, .lst ys) :: ρ) none) := by
  refine ⟨fun s Q E ok hQ => ?_⟩
  rw [exec_Assign_Name_used _ _ _ _ hsw]
  refine wpAny_bind (wpAny_standAt (wpAny_bind ?_))
  show wpAny _ c.A (do let _ ← comprehension (.ListComp elt [⟨tg, iter, [], 0⟩] scope pos) scope c.env _ (newList []) false (eval iter c.env) (some (PySem.assign (.Name y py) c.env))) _ _ s
  refine wpAny_bind (wpAny_mono (comp_run hit hlen hsz hcl hs hkind hcell hnames hclo hρ hbody (some (PySem.assign (.Name y py) c.env)) s (fun _ s' => Q .next s') E _ ok fun a vs n g tk C m k ha hC hne hg hm rs => ?_) (fun _ s' hq => wpAny_pure (wpAny_pure hq)) fun _ _ e => e)
  show wpAny _ c.A (PySem.assign (.Name y py) c.env (.ref a)) _ _ _
  have hav : a ∉ c.avO := fun hmm => by obtain ⟨ob, e⟩ := ok.live a hmm; rw [ha] at e; cases e
  have okg := ok.keeps k tk
  have hL : c.env.locals ≠ C := fun q => by
    obtain ⟨m', o', es, ep, e1, _⟩ := ok.frame.ns
    rw [q, hC] at e1; cases e1
  have rl : Rep g c.avO (.lst ys) (.ref a) := ⟨a, vs, rfl, hav, ⟨_, hg, rfl, n, rfl⟩, Reps.mono ((Keeps.refl _).kp _) (fun b hb => List.mem_cons_of_mem _ hb) _ _ rs⟩
  refine wpAny_assign_Name (store_loc okg hy rl fun h' tk' ok' hs => ?_)
  refine ⟨m, hm.sameBut hs hL.symm, fun g3 hs3 => hQ .next g3 tk' ⟨rfl, ?_⟩⟩
  have hbC : c.base.get? C = none := by
    cases q : c.base.get? C with
    | none => rfl
    | some ob => rw [ok.keep C ob q] at hC; cases hC
  have hm' := hm.sameBut hs hL.symm
  refine ok'.drop hs3 hbC hL (fun x ca e q => ?_) (fun q => ?_) fun ob items n e q => ?_
  · obtain ⟨v, oc, e1, _⟩ := (ok.frame.cells x ca e).2
    rw [q, hC] at e1; cases e1
  · obtain ⟨ob, e⟩ := ok.live C q
    rw [hC] at e; cases e
  · obtain ⟨o', es, ep, e1, e2, _⟩ := hm'
    rw [e] at e1; cases e1; rw [q] at e2; cases e2
theorem Asg.name {x : Str} {p : Pos} {d : D} (hx : c.env.kindOf x = some .local) : Asg prog w fns mg mb c ρ (.Name x p) d ((x, d) :: ρ) := by
  intro s v Q E ok hr hQ
  exact wpAny_assign_Name (store_loc ok hx hr fun h' tk ok' hs => hQ h' tk ok' fun b ob hb e => (hs.2 b hb).trans e)

noncomputable def bindsOf : List Str → List D → PEnv → PEnv
  | x :: xs, d :: ds, ρ => bindsOf xs ds ((x, d) :: ρ)
  | _, _, ρ => ρ
noncomputable def nameEs (l : List (Str × Pos)) : List Expr := l.map fun p => .Name p.1 p.2
theorem assign_names : ∀ (l : List (Str × Pos)) (ds : List D) (vs : List Value) (ρ : PEnv) (s : Shared) (Q : Unit → Shared → Prop) (E : Value → Shared → Prop), (∀ p ∈ l, c.env.kindOf p.1 = some .local) → l.length = ds.length → Ok fns mg mb c s ρ none → Reps s.heap c.avO ds vs →
    (∀ h' tk, Ok fns mg mb c { s with heap := h', toks := tk } (bindsOf (l.map (·.1)) ds ρ) none → (∀ b ob, b ≠ c.env.locals → s.heap.get? b = some ob → h'.get? b = some ob) → Q () { s with heap := h', toks := tk }) →
    wpAny (model prog w) c.A (assignInOrder ((assignEach (nameEs l) c.env).map (·.2)) vs) Q E s
  | [], [], vs, ρ, s, Q, E, _, _, ok, r, hQ => by
    cases r
    exact wpAny_pure (hQ s.heap s.toks ok fun _ _ _ e => e)
  | (x, p) :: l, d :: ds, vs, ρ, s, Q, E, hl, hlen, ok, r, hQ => by
    obtain ⟨v, t, rfl, r1, r2⟩ := r
    show wpAny (model prog w) c.A (holding t (assign (.Name x p) c.env v) >>= fun _ => assignInOrder ((assignEach (nameEs l) c.env).map (·.2)) t) Q E s
    refine wpAny_bind (wpAny_holding (wpAny_assign_Name (store_loc ok (hl _ List.mem_cons_self) r1 fun h' tk ok' hs => ?_)))
    have hq : ∀ ob items n, s.heap.get? c.env.locals = some ob → ob.data ≠ .seq items n := by
      obtain ⟨m, o', es, ep, e1, e2, _⟩ := ok.frame.ns
      intro ob items n e q
      rw [e1] at e; cases e; rw [e2] at q; cases q
    refine assign_names l ds t _ _ Q E (fun p hp => hl p (List.mem_cons_of_mem _ hp)) (by simpa using hlen) ok' (r2.kp (Kp.of_same hs (.inr hq))) fun h'' tk' ok'' hs' => ?_
    exact hQ h'' tk' ok'' fun b ob hb e => hs' b ob hb ((hs.2 b hb).trans e)
  | [], _ :: _, _, _, _, _, _, _, h, _, _, _ => by cases h
  | _ :: _, [], _, _, _, _, _, _, h, _, _, _ => by cases h
theorem each_len (l : List (Str × Pos)) (env : Env) : (assignEach (nameEs l) env).length = l.length := by
  induction l with
  | nil => rfl
  | cons p l ih => show (assignEach (nameEs l) env).length + 1 = _; rw [ih]; rfl
theorem each_star (l : List (Str × Pos)) (env : Env) : (assignEach (nameEs l) env).findIdx? (·.1) = none := by
  rw [List.findIdx?_eq_none_iff]
  induction l with
  | nil => intro x hx; cases hx
  | cons p l ih =>
    intro x hx
    rcases List.mem_cons.mp (show x ∈ (false, assign (.Name p.1 p.2) env) :: assignEach (nameEs l) env from hx) with rfl | hx
    · rfl
    · exact ih x hx
theorem Ok.ext {s : Shared} (ok : Ok fns mg mb c s ρ o) {h' : Heap} (he : Heap.ExtBut s.heap.objs.size s.heap h') : Keeps s.heap h' := fun b ob e => he b ob (Nat.ne_of_lt (Heap.lt_size e)) e
theorem Asg.tup {l : List (Str × Pos)} {n : Nat} {p : Pos} {ds : List D} (hl : ∀ p ∈ l, c.env.kindOf p.1 = some .local) (hlen : l.length = ds.length) : Asg prog w fns mg mb c ρ (.Tuple (nameEs l) n p) (.tup ds) (bindsOf (l.map (·.1)) ds ρ) := by
  intro s v Q E ok hr hQ
  obtain ⟨a, vs, rfl, ha, ht, rs⟩ := hr
  refine assign_Tuple_tuple ok.room.handled ht (by rw [each_len, hlen, List.size_toArray, rs.length]) (each_star _ _) fun h' he => ?_
  have kk := ok.ext he
  refine assign_names l ds vs ρ { s with heap := h' } Q E hl hlen (ok.keeps kk s.toks) (rs.keeps kk) fun h'' tk ok' hs => hQ h'' tk ok' fun b ob hb e => hs b ob hb (kk b ob e)
theorem Asg.lst {l : List (Str × Pos)} {n : Nat} {p : Pos} {ds : List D} (hl : ∀ p ∈ l, c.env.kindOf p.1 = some .local) (hlen : l.length = ds.length) : Asg prog w fns mg mb c ρ (.Tuple (nameEs l) n p) (.lst ds) (bindsOf (l.map (·.1)) ds ρ) := by
  intro s v Q E ok hr hQ
  obtain ⟨a, vs, rfl, ha, ht, rs⟩ := hr
  rw [assign_Tuple]
  refine wpAny_bind (wpAny_standAt ?_)
  unfold unpack
  have hn : (assignEach (nameEs l) c.env).length = vs.toArray.size := by rw [each_len, hlen, List.size_toArray, rs.length]
  rw [each_star, hn]
  refine wpAny_bind (wpAny_holding (unpackItems_list ok.room.handled ht fun h' he => ?_))
  have kk := ok.ext he
  refine assign_names l ds vs ρ { s with heap := h' } Q E hl hlen (ok.keeps kk s.toks) (rs.keeps kk) fun h'' tk ok' hs => hQ h'' tk ok' fun b ob hb e => hs b ob hb (kk b ob e)
theorem Ex.unpack {tg e : Expr} {l : List Expr} {n : Nat} {tp p : Pos} {d : D} {ρ' : PEnv} (he : Ev prog w fns mg mb c ρ none e d) (ha : Asg prog w fns mg mb c ρ tg d ρ') (ht : tg = .Tuple l n tp)
    (hs : swapsWithSole [tg] e p.line c.env = pure false) (hw : swappedStores [tg] e c.env = pure none) : Ex prog w fns mg mb c ρ none (.Assign [tg] e p) (.next ρ' none) := by
  subst ht
  refine ⟨fun s Q E ok hQ => ?_⟩
  refine Assign_Tuple (he.of s _ E ok fun v h' tk k r => ?_) hs hw
  exact ha _ v _ E (ok.keeps k tk) r fun h'' tk' ok' _ => hQ .next h'' tk' ⟨rfl, ok'⟩

/-- a list of tuples, taken apart turn by turn -/
theorem It2.pairs {e : Expr} {l : List Expr} {n : Nat} {tp : Pos} {xs : List (List D)} (h : Ev prog w fns mg mb c ρ none e (.lst (xs.map .tup))) : It2 prog w fns mg mb c ρ e (.Tuple l n tp) (xs.map .tup) := by
  refine ⟨fun s Q E ok hQ => ?_⟩
  refine h.of s _ E ok fun v h' tk k r => ?_
  obtain ⟨a, vs, rfl, ha, hl, rs⟩ := r
  refine wpAny_pyIter_list hl ?_
  have hlt : a < h'.objs.size := by obtain ⟨ob, e, _⟩ := hl; exact Heap.lt_size e
  have hne : a ≠ h'.objs.size := Nat.ne_of_lt hlt
  have kp := Keeps.push h' { cls := .type "list_iterator", data := .fields #[.ref a, .int 0 0] }
  have W := Walks.list (prog := prog) (w := w) (A := c.A) ok.room.handled h'.objs.size a hne vs.toArray
  have sz : (h'.push { cls := .type "list_iterator", data := .fields #[.ref a, .int 0 0] }).objs.size = h'.objs.size + 1 := Heap.size_push ..
  refine hQ _ [h'.objs.size] [] (fun i g => g.IsListIter h'.objs.size a i ∧ g.IsList a vs.toArray) _ tk (k.trans kp) ⟨⟨⟨_, Heap.get?_push_size _ rfl, rfl, rfl⟩, hl.push _⟩, fun b hb => ?_, fun b hb => ?_, fun i g g' hg hk => ?_, fun i g hg b hb => .inl fun ob items n e => ?_, (fun _ m => nomatch m), (fun _ _ _ _ m => nomatch m), ?_, ?_, W.self⟩
  · rw [List.mem_singleton.mp hb]; exact new_none _ k
  · rw [List.mem_singleton.mp hb, sz]; exact Nat.lt_succ_self _
  · refine W.frame i g g' hg fun b hb ob e => hk b ob ?_ e
    rw [sz]
    rcases List.mem_cons.mp hb with rfl | hb
    · exact Nat.lt_succ_self _
    · rw [List.mem_singleton.mp hb]; exact Nat.lt_succ_of_lt hlt
  · rw [List.mem_singleton.mp hb] at e
    obtain ⟨ob', e', _, hd⟩ := hg.1
    rw [e] at e'; cases e'
    rw [hd]; intro q; cases q
  · intro i s' Q' E' Dd hi hst hkp hDd hDs hQ'
    refine W.item i s' _ _ (by rw [List.size_toArray, rs.length]; exact hi) hst fun v g tg' hP hst' hk => ⟨v, rfl, ?_⟩
    have hP' : vs[i]? = some v := by simpa using hP
    obtain ⟨d, hd, rd⟩ := rs.get' hP'
    have hDn : (h'.push { cls := .type "list_iterator", data := .fields #[.ref a, .int 0 0] }).get? Dd = none := Heap.get?_none_of_le hDd
    have rd2 := Rep.avoid hDn d v (rd.keeps kp)
    have rd3 : Rep g (Dd :: ([] ++ c.avO)) d v := rd2.kp fun b hb ob items n e hdat => by
      have hbI : b ∉ [h'.objs.size] := fun m => by
        rw [List.mem_singleton.mp m, Heap.get?_push_size _ rfl] at e; cases e; cases hdat
      exact hk b ob hbI (hkp b ob hbI e)
    have hd' := hd
    rw [List.getElem?_map] at hd'
    cases hx : xs[i]? with
    | none => rw [hx] at hd'; cases hd'
    | some x =>
      rw [hx] at hd'
      cases hd'
      obtain ⟨T, us, rfl, q⟩ := rd3
      exact wpAny_letOwnedTupleGo_listiter hst'.1 (hQ' _ g tg' _ hst' hk hd ⟨T, us, rfl, q⟩)
  · intro s' Q' E' hst hQ'
    have hsz' : vs.toArray.size = (xs.map D.tup).length := by rw [List.size_toArray, rs.length]
    refine W.done s' _ _ (by rw [hsz']; exact hst) fun g tg' hk => ⟨rfl, hQ' g tg' hk⟩
end
end Wu
end
section
namespace Wu
open PySem PySem.Spec PySem.Calls PyProof.Rows PySem.W

section
variable {prog : Program} {w : World} {fns : List DefRec} {mg mb : Str → Option Value} {c : Fx} {ρ : PEnv} {o : Own}

noncomputable def zipD : List D → List D → List D
  | x :: xs, y :: ys => .tup [x, y] :: zipD xs ys
  | _, _ => []
theorem zipD_get : ∀ (xs ys : List D) (i : Nat) (x y : D), xs[i]? = some x → ys[i]? = some y → (zipD xs ys)[i]? = some (.tup [x, y])
  | [], _, _, _, _, h, _ => by simp at h
  | _ :: _, [], _, _, _, _, h => by simp at h
  | _ :: xs, _ :: ys, 0, _, _, h, k => by simp at h k; subst h k; rfl
  | _ :: xs, _ :: ys, i + 1, x, y, h, k => by simp at h k; exact zipD_get xs ys i x y h k
theorem zipD_len : ∀ (xs ys : List D), (zipD xs ys).length = min xs.length ys.length
  | [], _ => by simp [zipD]
  | _ :: _, [] => by simp [zipD]
  | _ :: xs, _ :: ys => by
    have := zipD_len xs ys
    simp only [zipD, List.length_cons, this]; omega

theorem It2.zip {x : Str} {xp p : Pos} {e₁ e₂ : Expr} {l : List Expr} {n : Nat} {tp : Pos} {xs ys : List D} (h1 : Ev prog w fns mg mb c ρ none e₁ (.lst xs)) (h2 : Ev prog w fns mg mb c ρ none e₂ (.lst ys))
    (hx : c.env.kindOf x = some .globalImplicit) (hn : mg x = none) (hv : bootBuiltins x = some (.type "zip")) (hn1 : x ≠ "__name__") (hd : (x == ("__debug__" : Str)) = false)
    (hse : backTo p (starEach [e₁, e₂] c.env) = [(false, eval e₁ c.env), (false, eval e₂ c.env)]) : It2 prog w fns mg mb c ρ (.Call (.Name x xp) [e₁, e₂] [] p) (.Tuple l n tp) (zipD xs ys) := by
  refine ⟨fun s Q E ok hQ => ?_⟩
  refine wpAny_Call_NameR (loadB ok hx hn hv hn1 hd ?_)
  rw [hse]
  refine PySem.callWith_type rfl (Calls.evalArgs_plain (Calls.spliced_cons (h1.of s _ E ok fun v1 g1 t1 k1 r1 => Calls.spliced_cons (h2.of _ _ E (ok.keeps k1 t1) fun v2 g2 t2 k2 r2 => Calls.spliced_nil ?_))))
  obtain ⟨l1, us, rfl, ha1, hl1, rs1⟩ := r1
  obtain ⟨l2, vs, rfl, ha2, hl2, rs2⟩ := r2
  have hl1' := Heap.IsList.kp hl1 k2
  have lt1 : l1 < g2.objs.size := by obtain ⟨_, e, _⟩ := hl1'; exact Heap.lt_size e
  have lt2 : l2 < g2.objs.size := by obtain ⟨_, e, _⟩ := hl2; exact Heap.lt_size e
  show wpAny _ _ (PySem.call (.type "zip") [.ref l1, .ref l2]) _ _ _
  refine call_zip_2 hl1' hl2 fun h' hz hTI hTO hi1 hi2 hsz hk => ?_
  dsimp only at hz hTI hTO hi1 hi2 hsz hk
  have Dz := zipApart_new lt1 lt2
  refine wpAny_pyIter_zip hz ?_
  have W := WalksT.zip2 (prog := prog) (w := w) (A := c.A) ok.room.handled _ _ _ _ _ l1 l2 Dz us.toArray vs.toArray
  have K : Keeps g2 h' := fun b ob e => hk b ob e
  have K0 : Keeps s.heap h' := (k1.trans k2).trans K
  have nn : ∀ b, g2.objs.size ≤ b → s.heap.get? b = none := fun b hb => by
    cases e : s.heap.get? b with
    | none => rfl
    | some ob => exact absurd (Heap.lt_size ((k1.trans k2) _ _ e)) (Nat.not_lt.mpr hb)
  have mem4 : ∀ {b : Addr}, b ∈ [g2.objs.size + 4, g2.objs.size + 3, g2.objs.size, g2.objs.size + 1] → b = g2.objs.size + 4 ∨ b = g2.objs.size + 3 ∨ b = g2.objs.size ∨ b = g2.objs.size + 1 := fun hb => by simpa using hb
  refine hQ _ [g2.objs.size + 4, g2.objs.size + 3, g2.objs.size, g2.objs.size + 1] [g2.objs.size + 3] (fun i h => IsZip h (g2.objs.size + 4) (g2.objs.size + 2) (g2.objs.size + 3) .none ∧ IsPair h (g2.objs.size + 2) (.ref g2.objs.size) (.ref (g2.objs.size + 1)) ∧ (∃ a b, IsPair h (g2.objs.size + 3) a b) ∧ h.IsListIter g2.objs.size l1 i ∧ h.IsListIter (g2.objs.size + 1) l2 i ∧ h.IsList l1 us.toArray ∧ h.IsList l2 vs.toArray) h' t2 K0
    ⟨⟨hz, hTI, ⟨_, _, hTO⟩, hi1, hi2, Heap.IsList.kp hl1' K, Heap.IsList.kp hl2 K⟩, fun b hb => ?_, fun b hb => ?_, fun i g g' hg hk' => ?_, fun i g hg b hb => ?_, fun b hb => ?_, fun i g hg b hb => ?_, ?_, ?_, fun i s' Q' E' hst hQ' => W.self i s' Q' E' hst hQ'⟩
  · rcases mem4 hb with rfl | rfl | rfl | rfl <;> exact nn _ (by omega)
  · rw [hsz]; rcases mem4 hb with rfl | rfl | rfl | rfl <;> (show @LT.lt Nat _ _ _; omega)
  · refine W.frame i g g' hg fun b hb ob e => hk' b ob ?_ e
    rw [hsz]
    simp at hb
    rcases hb with rfl | rfl | rfl | rfl | rfl | rfl | rfl
    · omega
    · omega
    · omega
    · omega
    · omega
    · exact Nat.lt_of_lt_of_le lt1 (Nat.le_add_right _ _)
    · exact Nat.lt_of_lt_of_le lt2 (Nat.le_add_right _ _)
  · obtain ⟨z1, z2, z3, z4, z5, _⟩ := hg
    rcases mem4 hb with rfl | rfl | rfl | rfl
    · exact .inl fun ob items n e q => by rw [z1] at e; cases e; cases q
    · exact .inr (by simp)
    · exact .inl fun ob items n e q => by obtain ⟨o', e', _, d'⟩ := z4; rw [e] at e'; cases e'; rw [q] at d'; cases d'
    · exact .inl fun ob items n e q => by obtain ⟨o', e', _, d'⟩ := z5; rw [e] at e'; cases e'; rw [q] at d'; cases d'
  · rw [List.mem_singleton.mp hb]; simp
  · rw [List.mem_singleton.mp hb]
    obtain ⟨_, _, ⟨a, b, z3⟩, _⟩ := hg
    exact ⟨_, z3⟩
  · intro i s' Q' E' Dd hi hst hkp hDd hDs hQ'
    have hmin : i < min us.toArray.size vs.toArray.size := by
      rw [zipD_len] at hi
      rw [List.size_toArray, List.size_toArray, rs1.length, rs2.length]; exact hi
    refine W.item i s' _ _ hmin hst fun T vals h2 tk2 hPt hT hIT hMid hk2 => ⟨_, rfl, ?_⟩
    refine W.go l n tp i T _ _ _ hMid fun h3 hst3 hk3 => ?_
    obtain ⟨x, y, hx', hy', rfl⟩ := hPt
    have hx2 : us[i]? = some x := by simpa using hx'
    have hy2 : vs[i]? = some y := by simpa using hy'
    obtain ⟨dx, hdx, rx⟩ := rs1.get' hx2
    obtain ⟨dy, hdy, ry⟩ := rs2.get' hy2
    have TnW := W.apart i T h2 hMid
    have hT3 : h3.IsTuple T #[x, y] := hIT.at fun o e => hk3 _ _ TnW e
    refine hQ' _ h3 tk2 _ hst3 (fun b ob hb e => hk3 b ob hb (hk2 b ob hb e)) (zipD_get _ _ _ _ _ hdx hdy) ?_
    have toH3 : ∀ (d : D) (v : Value), Rep g2 c.avO d v → Rep h3 (Dd :: ([g2.objs.size + 3] ++ c.avO)) d v := fun d v r => by
      have hg2 : g2.get? Dd = none := Heap.get?_none_of_le (by rw [hsz] at hDd; omega)
      have hg3 : ∀ b ∈ [g2.objs.size + 3], g2.get? b = none := fun b hb => by rw [List.mem_singleton.mp hb]; exact Heap.get?_none_of_le (by omega)
      have r2 : Rep g2 (Dd :: ([g2.objs.size + 3] ++ c.avO)) d v := Rep.avoid hg2 d v (Rep.avoids hg3 d v r)
      refine r2.kp fun b hb ob items n e hdat => ?_
      have hbW : b ∉ [g2.objs.size + 4, g2.objs.size + 3, g2.objs.size, g2.objs.size + 1] := fun m => by
        have := Heap.lt_size e
        rcases mem4 m with rfl | rfl | rfl | rfl <;> first | exact absurd this (Nat.not_lt.mpr (Nat.le_add_right _ _)) | exact absurd this (Nat.lt_irrefl _)
      exact hk3 b ob hbW (hk2 b ob hbW (hkp b ob hbW (K b ob e)))
    obtain ⟨oT, eT, cT, nT, dT⟩ := hT3
    refine ⟨T, [x, y], rfl, fun m => ?_, ⟨oT, eT, cT, nT, dT⟩, Reps.cons (toH3 dx x (rx.keeps k2)) (Reps.cons (toH3 dy y ry) rfl)⟩
    rcases List.mem_cons.mp m with rfl | m
    · exact absurd hT (Nat.not_le.mpr hDs)
    · rcases List.mem_append.mp m with m | m
      · exact TnW (by rw [List.mem_singleton.mp m]; simp)
      · obtain ⟨ob, e⟩ := ok.live T m
        have h5 := Heap.lt_size (K0 _ _ e)
        have h6 : h'.objs.size ≤ s'.heap.objs.size := Nat.le_trans hDd (Nat.le_of_lt hDs)
        exact absurd (Nat.lt_of_lt_of_le h5 h6) (Nat.not_lt.mpr hT)
  · intro s' Q' E' hst hQ'
    have hmin : min us.toArray.size vs.toArray.size = (zipD xs ys).length := by
      rw [zipD_len, List.size_toArray, List.size_toArray, rs1.length, rs2.length]
    refine W.done s' _ _ (by rw [hmin]; exact hst) fun g tg' hk' => ⟨rfl, hQ' g tg' hk'⟩
end
end Wu
end
section
namespace Wu
open PySem PySem.Spec PySem.Calls PyProof.Rows PySem.W

section
variable {prog : Program} {w : World} {fns : List DefRec} {mg mb : Str → Option Value} {c : Fx} {ρ : PEnv} {o : Own}
theorem subN {ρ'' : PEnv} : ∀ (x : Str) (d : D), ([] : PEnv).lookup x = some d → ρ''.lookup x = some d := fun _ _ e => by cases e
theorem subC {ρ ρ'' : PEnv} {k : Str} {d : D} (h : ρ''.lookup k = some d) (hr : ∀ x d, ρ.lookup x = some d → ρ''.lookup x = some d) : ∀ x d', ((k, d) :: ρ).lookup x = some d' → ρ''.lookup x = some d' := fun x d' e => by
  rw [List.lookup_cons] at e
  cases q : x == k with
  | true => rw [q] at e; cases e; rw [beq_iff_eq.mp q]; exact h
  | false => rw [q] at e; exact hr x d' e
noncomputable def bodyAt (sts : List Stmt) (i : Nat) : List Stmt := match sts[i]? with
  | some (.For _ _ b _ _) => b
  | _ => []
/-- both branches set the same name -/
theorem Ex.ifv {t : Expr} {b e : List Stmt} {p : Pos} (x : Str) (d : D) {y : Bool} (ht : Tst prog w fns mg mb c ρ o t y) (h1 : y = true → Exs prog w fns mg mb c ρ o b (.next ((x, d) :: ρ) o)) (h2 : y = false → Exs prog w fns mg mb c ρ o e (.next ((x, d) :: ρ) o)) :
    Ex prog w fns mg mb c ρ o (.If t b e p) (.next ((x, d) :: ρ) o) := Ex.if ht h1 h2
end
section
variable {prog : Program} {w : World} {mg mb : Str → Option Value}

/-- a def without cells, its looks by sight -/
theorem Fn.go {i : Nat} {names : List Str} {ds : List D} {d : D} {k : Nat} (hi : fnIdx.contains i = true)
    (hb : ∀ pm code doc (vs : List Value), vs.length = ds.length → bindArgs (docDef (dr i).name (dr i).params (dr i).body (dr i).scope pm code doc) ⟨vs, []⟩ = pure (names.zip vs))
    (look : (names.length == ds.length && decide names.Nodup && names.all (fun x => (dr i).scope.names.lookup x == some .local) && (dr i).scope.names.all (fun x => x.2 != .cell) && !(dr i).scope.isCoroutine && !(dr i).scope.isGenerator && (dr i).scope.kind == .function) = true)
    (body : ∀ (A : Around) (L a : Addr) (code : Value) (base : Heap) (av : List Addr), Exs prog w fnsW mg mb ⟨A, envOf (dr i).name (dr i).scope L a code, base, av, k⟩ (names.zip ds) none (dr i).body (.ret d)) :
    Fn prog w fnsW mg mb (k + 1) (dr i).name ds d := by
  simp only [Bool.and_eq_true, beq_iff_eq, decide_eq_true_eq, List.all_eq_true, bne_iff_ne, ne_eq, Bool.not_eq_true'] at look
  obtain ⟨⟨⟨⟨⟨⟨h1, h2⟩, h3⟩, h4⟩, h5⟩, h6⟩, h7⟩ := look
  exact Fn.plain (dr_mem hi) hb h1 h2 h3 h4 h5 h6 h7 body

theorem fn_xor {a b : Int} : Fn prog w fnsW mg mb 1 "xor" [.int a, .int b] (.int (Builtin.bitXor a b)) :=
  Fn.go (i := 14) (names := ["a", "b"]) rfl (fun _ _ _ vs h => match vs, h with | [_, _], _ => rfl) rfl fun _ _ _ _ _ _ =>
    Exs.ret (Ex.ret (Ev.bin (Ev.name rfl rfl) (Ev.name rfl rfl) Bin.xorI))
theorem fn_truediv {a b : Int} (h : b ≠ 0) (hi : Float64.isInf (Float64.ofFrac (decide (a < 0) != decide (b < 0)) a.natAbs b.natAbs) = false) : Fn prog w fnsW mg mb 1 "truediv" [.int a, .int b] (.flt (Float64.ofFrac (decide (a < 0) != decide (b < 0)) a.natAbs b.natAbs)) :=
  Fn.go (i := 13) (names := ["a", "b"]) rfl (fun _ _ _ vs h => match vs, h with | [_, _], _ => rfl) rfl fun _ _ _ _ _ _ =>
    Exs.ret (Ex.ret (Ev.bin (Ev.name rfl rfl) (Ev.name rfl rfl) (Bin.divII h hi)))
theorem fn_iadd {a b : Int} : Fn prog w fnsW mg mb 1 "iadd" [.int a, .int b] (.int (a + b)) :=
  Fn.go (i := 15) (names := ["a", "b"]) rfl (fun _ _ _ vs h => match vs, h with | [_, _], _ => rfl) rfl fun _ _ _ _ _ _ =>
    Exs.cons (Ex.aug rfl (Ev.name rfl rfl) Aug.addI (.inl rfl) nofun) (Exs.ret (Ex.ret (Ev.name rfl rfl)))
theorem fn_isub {a b : Int} : Fn prog w fnsW mg mb 1 "isub" [.int a, .int b] (.int (a - b)) :=
  Fn.go (i := 16) (names := ["a", "b"]) rfl (fun _ _ _ vs h => match vs, h with | [_, _], _ => rfl) rfl fun _ _ _ _ _ _ =>
    Exs.cons (Ex.aug rfl (Ev.name rfl rfl) Aug.subI (.inl rfl) nofun) (Exs.ret (Ex.ret (Ev.name rfl rfl)))
theorem fn_strcoll {a b : Str} : Fn prog w fnsW mg mb 1 "_strcoll" [.str a, .str b] (.int (b2i (decide (b.cps.toList < a.cps.toList)) - b2i (decide (a.cps.toList < b.cps.toList)))) :=
  Fn.go (i := 9) (names := ["a", "b"]) rfl (fun _ _ _ vs h => match vs, h with | [_, _], _ => rfl) rfl fun _ _ _ _ _ _ =>
    Exs.ret (Ex.ret (Ev.bin (Ev.cmp (Ev.name rfl rfl) (Ev.name rfl rfl) Cmp.gtS rfl) (Ev.cmp (Ev.name rfl rfl) (Ev.name rfl rfl) Cmp.ltS rfl) Bin.subB))
theorem fn_strxfrm {a : Str} : Fn prog w fnsW mg mb 1 "_strxfrm" [.str a] (.str a) :=
  Fn.go (i := 10) (names := ["s"]) rfl (fun _ _ _ vs h => match vs, h with | [_], _ => rfl) rfl fun _ _ _ _ _ _ =>
    Exs.ret (Ex.ret (Ev.name rfl rfl))
end
end Wu
end
section
namespace Wu
open PySem PySem.Spec PySem.Calls PyProof.Rows PySem.W

noncomputable def feq (x y : UInt64) : Bool := Float64.cmp x y == some Ordering.eq
noncomputable def fle (x y : UInt64) : Bool := Float64.cmp x y == some Ordering.lt || Float64.cmp x y == some Ordering.eq
/-- 0, 1/2, 1, 2, 4, 6 -/
noncomputable abbrev z0 : UInt64 := 0
noncomputable abbrev z05 : UInt64 := 0x3FE0000000000000
noncomputable abbrev z1 : UInt64 := 0x3FF0000000000000
noncomputable abbrev z2 : UInt64 := 0x4000000000000000
noncomputable abbrev z4 : UInt64 := 0x4010000000000000
noncomputable abbrev z6 : UInt64 := 0x4018000000000000
noncomputable abbrev t13 : UInt64 := 0x3FD5555555555555
noncomputable abbrev t16 : UInt64 := 0x3FC5555555555555
noncomputable abbrev t23 : UInt64 := 0x3FE5555555555555
open Float64 in
noncomputable def rawHue (r g b mx rg : UInt64) : UInt64 :=
  if feq r mx then sub (div (sub mx b) rg) (div (sub mx g) rg)
  else if feq g mx then sub (add z2 (div (sub mx r) rg)) (div (sub mx b) rg)
  else sub (add z4 (div (sub mx g) rg)) (div (sub mx r) rg)
open Float64 in
noncomputable def fhue (r g b mx rg : UInt64) : UInt64 := (divmod (div (rawHue r g b mx rg) z6) z1).2
open Float64 in
noncomputable def fsat (mx mn : UInt64) : UInt64 := if fle (div (add mx mn) z2) z05 then div (sub mx mn) (add mx mn) else div (sub mx mn) (sub (sub z2 mx) mn)
open Float64 in
noncomputable def fhls (r g b : UInt64) : List UInt64 :=
  if feq (fmin3 r g b) (fmax3 r g b) then [z0, div (add (fmax3 r g b) (fmin3 r g b)) z2, z0]
  else [fhue r g b (fmax3 r g b) (sub (fmax3 r g b) (fmin3 r g b)), div (add (fmax3 r g b) (fmin3 r g b)) z2, fsat (fmax3 r g b) (fmin3 r g b)]
open Float64 in
noncomputable def fhsv (r g b : UInt64) : List UInt64 :=
  if feq (fmin3 r g b) (fmax3 r g b) then [z0, z0, fmax3 r g b]
  else [fhue r g b (fmax3 r g b) (sub (fmax3 r g b) (fmin3 r g b)), div (sub (fmax3 r g b) (fmin3 r g b)) (fmax3 r g b), fmax3 r g b]
open Float64 in
noncomputable def fv (m1 m2 h0 : UInt64) : UInt64 :=
  let h := (divmod h0 z1).2
  if flt h t16 then add m1 (mul (mul (sub m2 m1) h) z6)
  else if flt h z05 then m2
  else if flt h t23 then add m1 (mul (mul (sub m2 m1) (sub t23 h)) z6)
  else m1
open Float64 in
noncomputable def fm2 (l s : UInt64) : UInt64 := if fle l z05 then mul l (add z1 s) else sub (add l s) (mul l s)
open Float64 in
noncomputable def frgb (h l s : UInt64) : List UInt64 :=
  if feq s z0 then [l, l, l]
  else [fv (sub (mul z2 l) (fm2 l s)) (fm2 l s) (add h t13), fv (sub (mul z2 l) (fm2 l s)) (fm2 l s) h, fv (sub (mul z2 l) (fm2 l s)) (fm2 l s) (sub h t13)]

open Float64 in
structure HlsOk (r g b : UInt64) : Prop where
  rg : isZero (sub (fmax3 r g b) (fmin3 r g b)) = false
  lo : fle (div (add (fmax3 r g b) (fmin3 r g b)) z2) z05 = true → isZero (add (fmax3 r g b) (fmin3 r g b)) = false
  hi : fle (div (add (fmax3 r g b) (fmin3 r g b)) z2) z05 = false → isZero (sub (sub z2 (fmax3 r g b)) (fmin3 r g b)) = false
  mx : isZero (fmax3 r g b) = false

section
variable {prog : Program} {w : World} {mg mb : Str → Option Value}
theorem fn_v {m1 m2 h : UInt64} (f2 : ∃ t, mg "ONE_SIXTH" = some (.float t16 t)) (f3 : ∃ t, mg "TWO_THIRD" = some (.float t23 t)) : Fn prog w fnsW mg mb 1 "_v" [.flt m1, .flt m2, .flt h] (.flt (fv m1 m2 h)) := by
  obtain ⟨u2, f2⟩ := f2
  obtain ⟨u3, f3⟩ := f3
  refine Fn.go (i := 6) (names := ["m1", "m2", "hue"]) rfl (fun _ _ _ vs h => match vs, h with | [_, _, _], _ => rfl) rfl fun A L a code base av => ?_
  refine Exs.cons (Ex.assign (d := .flt ((Float64.divmod h z1).2)) (Ev.bin (Ev.name rfl rfl) Ev.cflt (Bin.modF (by decide +kernel))) (.inl rfl) nofun rfl) ?_
  unfold fv
  dsimp only
  generalize (Float64.divmod h z1).2 = h'
  cases c1 : flt h' t16 with
  | true =>
    refine Exs.ret (Ex.if (x := true) (c1 ▸ Tst.cmp (Ev.name rfl rfl) (Ev.gflt rfl f2 rfl) Cmp.ltF rfl) (fun _ => ?_) nofun)
    exact Exs.ret (Ex.ret (Ev.bin (Ev.name rfl rfl) (Ev.bin (Ev.bin (Ev.bin (Ev.name rfl rfl) (Ev.name rfl rfl) Bin.subF) (Ev.name rfl rfl) Bin.mulF) Ev.cflt Bin.mulF) Bin.addF))
  | false =>
    refine Exs.cons (Ex.if (x := false) (c1 ▸ Tst.cmp (Ev.name rfl rfl) (Ev.gflt rfl f2 rfl) Cmp.ltF rfl) nofun (fun _ => Exs.nil)) ?_
    cases c2 : flt h' z05 with
    | true =>
      refine Exs.ret (Ex.if (x := true) (c2 ▸ Tst.cmp (Ev.name rfl rfl) Ev.cflt Cmp.ltF rfl) (fun _ => ?_) nofun)
      exact Exs.ret (Ex.ret (Ev.name rfl rfl))
    | false =>
      refine Exs.cons (Ex.if (x := false) (c2 ▸ Tst.cmp (Ev.name rfl rfl) Ev.cflt Cmp.ltF rfl) nofun (fun _ => Exs.nil)) ?_
      cases c3 : flt h' t23 with
      | true =>
        refine Exs.ret (Ex.if (x := true) (c3 ▸ Tst.cmp (Ev.name rfl rfl) (Ev.gflt rfl f3 rfl) Cmp.ltF rfl) (fun _ => ?_) nofun)
        exact Exs.ret (Ex.ret (Ev.bin (Ev.name rfl rfl) (Ev.bin (Ev.bin (Ev.bin (Ev.name rfl rfl) (Ev.name rfl rfl) Bin.subF) (Ev.bin (Ev.gflt rfl f3 rfl) (Ev.name rfl rfl) Bin.subF) Bin.mulF) Ev.cflt Bin.mulF) Bin.addF))
      | false =>
        refine Exs.cons (Ex.if (x := false) (c3 ▸ Tst.cmp (Ev.name rfl rfl) (Ev.gflt rfl f3 rfl) Cmp.ltF rfl) nofun (fun _ => Exs.nil)) ?_
        exact Exs.ret (Ex.ret (Ev.name rfl rfl))
end
end Wu
end
section
namespace Wu
open PySem PySem.Spec PySem.Calls PyProof.Rows PySem.W

section
variable {prog : Program} {w : World} {mg mb : Str → Option Value}
theorem fn_hls_to_rgb {h l s : UInt64} (f1 : ∃ t, mg "ONE_THIRD" = some (.float t13 t)) (f2 : ∃ t, mg "ONE_SIXTH" = some (.float t16 t)) (f3 : ∃ t, mg "TWO_THIRD" = some (.float t23 t)) :
    Fn prog w fnsW mg mb 2 "hls_to_rgb" [.flt h, .flt l, .flt s] (.tup ((frgb h l s).map .flt)) := by
  have fv' : ∀ {m1 m2 h : UInt64}, Fn prog w fnsW mg mb 1 "_v" [.flt m1, .flt m2, .flt h] (.flt (fv m1 m2 h)) := fn_v f2 f3
  obtain ⟨u1, f1⟩ := f1
  refine Fn.go (i := 5) (names := ["h", "l", "s"]) (k := 1) rfl (fun _ _ _ vs h => match vs, h with | [_, _, _], _ => rfl) rfl fun A L a code base av => ?_
  unfold frgb
  cases c1 : feq s z0 with
  | true =>
    refine Exs.ret (Ex.if (x := true) (c1 ▸ Tst.cmp (Ev.name rfl rfl) Ev.cflt Cmp.eqF rfl) (fun _ => ?_) nofun)
    exact Exs.ret (Ex.ret (Ev.tup (Evs.cons (Ev.name rfl rfl) (Evs.cons (Ev.name rfl rfl) (Evs.cons (Ev.name rfl rfl) Evs.nil (fun _ => rfl)) (fun _ => rfl)) (fun _ => rfl)) (Nat.le_of_ble_eq_true rfl)))
  | false =>
    refine Exs.cons (Ex.if (x := false) (c1 ▸ Tst.cmp (Ev.name rfl rfl) Ev.cflt Cmp.eqF rfl) nofun (fun _ => Exs.nil)) ?_
    refine Exs.cons (Ex.if (x := fle l z05) (ρ := _) (r := .next (("m2", .flt (fm2 l s)) :: [("h", .flt h), ("l", .flt l), ("s", .flt s)]) none) (Tst.cmp (Ev.name rfl rfl) Ev.cflt Cmp.leF rfl) (fun c => ?_) (fun c => ?_)) ?_
    · unfold fm2; rw [if_pos c]
      exact Exs.cons (Ex.assign (Ev.bin (Ev.name rfl rfl) (Ev.bin Ev.cflt (Ev.name rfl rfl) Bin.addF) Bin.mulF) (.inl rfl) nofun rfl) Exs.nil
    · unfold fm2; rw [if_neg (by rw [c]; exact Bool.false_ne_true)]
      exact Exs.cons (Ex.assign (Ev.bin (Ev.bin (Ev.name rfl rfl) (Ev.name rfl rfl) Bin.addF) (Ev.bin (Ev.name rfl rfl) (Ev.name rfl rfl) Bin.mulF) Bin.subF) (.inl rfl) nofun rfl) Exs.nil
    refine Exs.cons (Ex.assign (Ev.bin (Ev.bin Ev.cflt (Ev.name rfl rfl) Bin.mulF) (Ev.name rfl rfl) Bin.subF) (.inl rfl) nofun rfl) ?_
    refine Exs.ret (Ex.ret (Ev.tup (Evs.cons ?_ (Evs.cons ?_ (Evs.cons ?_ Evs.nil (fun _ => rfl)) (fun _ => rfl)) (fun _ => rfl)) (Nat.le_of_ble_eq_true rfl)))
    · exact Ev.call (Evs.cons (Ev.name rfl rfl) (Evs.cons (Ev.name rfl rfl) (Evs.cons (Ev.bin (Ev.name rfl rfl) (Ev.gflt rfl f1 rfl) Bin.addF) Evs.nil (fun _ => rfl)) (fun _ => rfl)) (fun _ => rfl)) fv' ⟨dr 6, dr_mem rfl, rfl⟩ (Nat.le_refl _) rfl rfl (fun _ => rfl)
    · exact Ev.call (Evs.cons (Ev.name rfl rfl) (Evs.cons (Ev.name rfl rfl) (Evs.cons (Ev.name rfl rfl) Evs.nil (fun _ => rfl)) (fun _ => rfl)) (fun _ => rfl)) fv' ⟨dr 6, dr_mem rfl, rfl⟩ (Nat.le_refl _) rfl rfl (fun _ => rfl)
    · exact Ev.call (Evs.cons (Ev.name rfl rfl) (Evs.cons (Ev.name rfl rfl) (Evs.cons (Ev.bin (Ev.name rfl rfl) (Ev.gflt rfl f1 rfl) Bin.subF) Evs.nil (fun _ => rfl)) (fun _ => rfl)) (fun _ => rfl)) fv' ⟨dr 6, dr_mem rfl, rfl⟩ (Nat.le_refl _) rfl rfl (fun _ => rfl)

open Float64 in
theorem fn_hls {r g b : UInt64} (nmax : mg "max" = none) (nmin : mg "min" = none) (ok : feq (fmin3 r g b) (fmax3 r g b) = false → HlsOk r g b) :
    Fn prog w fnsW mg mb 2 "rgb_to_hls" [.flt r, .flt g, .flt b] (.tup ((fhls r g b).map .flt)) := by
  refine Fn.go (i := 4) (names := ["r", "g", "b"]) (k := 1) rfl (fun _ _ _ vs h => match vs, h with | [_, _, _], _ => rfl) rfl fun A L a code base av => ?_
  refine Exs.cons (Ex.assign (Ev.bi (Evs.cons (Ev.name rfl rfl) (Evs.cons (Ev.name rfl rfl) (Evs.cons (Ev.name rfl rfl) Evs.nil (fun _ => rfl)) (fun _ => rfl)) (fun _ => rfl)) Bi.max3 (Nat.le_refl _) rfl nmax rfl (by decide) rfl (fun _ => rfl) rfl) (.inl rfl) nofun rfl) ?_
  refine Exs.cons (Ex.assign (Ev.bi (Evs.cons (Ev.name rfl rfl) (Evs.cons (Ev.name rfl rfl) (Evs.cons (Ev.name rfl rfl) Evs.nil (fun _ => rfl)) (fun _ => rfl)) (fun _ => rfl)) Bi.min3 (Nat.le_refl _) rfl nmin rfl (by decide) rfl (fun _ => rfl) rfl) (.inl rfl) nofun rfl) ?_
  unfold fhls fhue fsat rawHue
  revert ok
  intro ok0
  have ok1 : feq (fmin3 r g b) (fmax3 r g b) = false → isZero (sub (fmax3 r g b) (fmin3 r g b)) = false := fun e => (ok0 e).rg
  have ok2 : feq (fmin3 r g b) (fmax3 r g b) = false → fle (div (add (fmax3 r g b) (fmin3 r g b)) z2) z05 = true → isZero (add (fmax3 r g b) (fmin3 r g b)) = false := fun e => (ok0 e).lo
  have ok3 : feq (fmin3 r g b) (fmax3 r g b) = false → fle (div (add (fmax3 r g b) (fmin3 r g b)) z2) z05 = false → isZero (sub (sub z2 (fmax3 r g b)) (fmin3 r g b)) = false := fun e => (ok0 e).hi
  clear ok0
  generalize fmax3 r g b = mx at *
  generalize fmin3 r g b = mn at *
  refine Exs.cons (Ex.assign (Ev.bin (Ev.name rfl rfl) (Ev.name rfl rfl) Bin.addF) (.inl rfl) nofun rfl) ?_
  refine Exs.cons (Ex.assign (Ev.bin (Ev.name rfl rfl) (Ev.name rfl rfl) Bin.subF) (.inl rfl) nofun rfl) ?_
  refine Exs.cons (Ex.assign (Ev.bin (Ev.name rfl rfl) Ev.cflt (Bin.divF (by decide +kernel))) (.inl rfl) nofun rfl) ?_
  cases c1 : feq mn mx with
  | true =>
    refine Exs.ret (Ex.if (x := true) (c1 ▸ Tst.cmp (Ev.name rfl rfl) (Ev.name rfl rfl) Cmp.eqF rfl) (fun _ => ?_) nofun)
    exact Exs.ret (Ex.ret (Ev.tup (Evs.cons Ev.cflt (Evs.cons (Ev.name rfl rfl) (Evs.cons Ev.cflt Evs.nil (fun _ => rfl)) (fun _ => rfl)) (fun _ => rfl)) (Nat.le_of_ble_eq_true rfl)))
  | false =>
    have nz := ok1 c1
    have lo := ok2 c1
    have hi := ok3 c1
    refine Exs.cons (Ex.if (x := false) (c1 ▸ Tst.cmp (Ev.name rfl rfl) (Ev.name rfl rfl) Cmp.eqF rfl) nofun (fun _ => Exs.nil)) ?_
    refine Exs.cons (Ex.ifv (y := fle (div (add mx mn) z2) z05) "s" (.flt (if fle (div (add mx mn) z2) z05 = true then div (sub mx mn) (add mx mn) else div (sub mx mn) (sub (sub z2 mx) mn))) (Tst.cmp (Ev.name rfl rfl) Ev.cflt Cmp.leF rfl) (fun c => ?_) (fun c => ?_)) ?_
    · rw [if_pos c]
      exact Exs.cons (Ex.assign (Ev.bin (Ev.name rfl rfl) (Ev.name rfl rfl) (Bin.divF (lo c))) (.inl rfl) nofun rfl) Exs.nil
    · rw [if_neg (by rw [c]; exact Bool.false_ne_true)]
      exact Exs.cons (Ex.assign (Ev.bin (Ev.name rfl rfl) (Ev.bin (Ev.bin Ev.cflt (Ev.name rfl rfl) Bin.subF) (Ev.name rfl rfl) Bin.subF) (Bin.divF (hi c))) (.inl rfl) nofun rfl) Exs.nil
    generalize (if fle (div (add mx mn) z2) z05 = true then div (sub mx mn) (add mx mn) else div (sub mx mn) (sub (sub z2 mx) mn)) = sv
    refine Exs.cons (Ex.assign (Ev.bin (Ev.bin (Ev.name rfl rfl) (Ev.name rfl rfl) Bin.subF) (Ev.name rfl rfl) (Bin.divF nz)) (.inl rfl) nofun rfl) ?_
    refine Exs.cons (Ex.assign (Ev.bin (Ev.bin (Ev.name rfl rfl) (Ev.name rfl rfl) Bin.subF) (Ev.name rfl rfl) (Bin.divF nz)) (.inl rfl) nofun rfl) ?_
    refine Exs.cons (Ex.assign (Ev.bin (Ev.bin (Ev.name rfl rfl) (Ev.name rfl rfl) Bin.subF) (Ev.name rfl rfl) (Bin.divF nz)) (.inl rfl) nofun rfl) ?_
    refine Exs.cons (Ex.ifv (y := feq r mx) "h" (.flt (if feq r mx = true then sub (div (sub mx b) (sub mx mn)) (div (sub mx g) (sub mx mn))
  else if feq g mx = true then sub (add z2 (div (sub mx r) (sub mx mn))) (div (sub mx b) (sub mx mn))
  else sub (add z4 (div (sub mx g) (sub mx mn))) (div (sub mx r) (sub mx mn)))) (Tst.cmp (Ev.name rfl rfl) (Ev.name rfl rfl) Cmp.eqF rfl) (fun c => ?_) (fun c => ?_)) ?_
    · rw [if_pos c]
      exact Exs.cons (Ex.assign (Ev.bin (Ev.name rfl rfl) (Ev.name rfl rfl) Bin.subF) (.inl rfl) nofun rfl) Exs.nil
    · rw [if_neg (by rw [c]; exact Bool.false_ne_true)]
      refine Exs.cons (Ex.if (x := feq g mx) (Tst.cmp (Ev.name rfl rfl) (Ev.name rfl rfl) Cmp.eqF rfl) (fun c => ?_) (fun c => ?_)) Exs.nil
      · rw [if_pos c]
        exact Exs.cons (Ex.assign (Ev.bin (Ev.bin Ev.cflt (Ev.name rfl rfl) Bin.addF) (Ev.name rfl rfl) Bin.subF) (.inl rfl) nofun rfl) Exs.nil
      · rw [if_neg (by rw [c]; exact Bool.false_ne_true)]
        exact Exs.cons (Ex.assign (Ev.bin (Ev.bin Ev.cflt (Ev.name rfl rfl) Bin.addF) (Ev.name rfl rfl) Bin.subF) (.inl rfl) nofun rfl) Exs.nil
    refine Exs.cons (Ex.assign (Ev.bin (Ev.bin (Ev.name rfl rfl) Ev.cflt (Bin.divF (by decide +kernel))) Ev.cflt (Bin.modF (by decide +kernel))) (.inl rfl) nofun rfl) ?_
    exact Exs.ret (Ex.ret (Ev.tup (Evs.cons (Ev.name rfl rfl) (Evs.cons (Ev.name rfl rfl) (Evs.cons (Ev.name rfl rfl) Evs.nil (fun _ => rfl)) (fun _ => rfl)) (fun _ => rfl)) (Nat.le_of_ble_eq_true rfl)))
open Float64 in
theorem fn_hsv {r g b : UInt64} (nmax : mg "max" = none) (nmin : mg "min" = none) (ok : feq (fmin3 r g b) (fmax3 r g b) = false → HlsOk r g b) :
    Fn prog w fnsW mg mb 2 "rgb_to_hsv" [.flt r, .flt g, .flt b] (.tup ((fhsv r g b).map .flt)) := by
  refine Fn.go (i := 7) (names := ["r", "g", "b"]) (k := 1) rfl (fun _ _ _ vs h => match vs, h with | [_, _, _], _ => rfl) rfl fun A L a code base av => ?_
  refine Exs.cons (Ex.assign (Ev.bi (Evs.cons (Ev.name rfl rfl) (Evs.cons (Ev.name rfl rfl) (Evs.cons (Ev.name rfl rfl) Evs.nil (fun _ => rfl)) (fun _ => rfl)) (fun _ => rfl)) Bi.max3 (Nat.le_refl _) rfl nmax rfl (by decide) rfl (fun _ => rfl) rfl) (.inl rfl) nofun rfl) ?_
  refine Exs.cons (Ex.assign (Ev.bi (Evs.cons (Ev.name rfl rfl) (Evs.cons (Ev.name rfl rfl) (Evs.cons (Ev.name rfl rfl) Evs.nil (fun _ => rfl)) (fun _ => rfl)) (fun _ => rfl)) Bi.min3 (Nat.le_refl _) rfl nmin rfl (by decide) rfl (fun _ => rfl) rfl) (.inl rfl) nofun rfl) ?_
  unfold fhsv fhue rawHue
  revert ok
  intro ok0
  have ok1 : feq (fmin3 r g b) (fmax3 r g b) = false → isZero (sub (fmax3 r g b) (fmin3 r g b)) = false := fun e => (ok0 e).rg
  have ok2 : feq (fmin3 r g b) (fmax3 r g b) = false → isZero (fmax3 r g b) = false := fun e => (ok0 e).mx
  clear ok0
  generalize fmax3 r g b = mx at *
  generalize fmin3 r g b = mn at *
  refine Exs.cons (Ex.assign (Ev.bin (Ev.name rfl rfl) (Ev.name rfl rfl) Bin.subF) (.inl rfl) nofun rfl) ?_
  refine Exs.cons (Ex.assign (Ev.name rfl rfl) (.inl rfl) nofun rfl) ?_
  cases c1 : feq mn mx with
  | true =>
    refine Exs.ret (Ex.if (x := true) (c1 ▸ Tst.cmp (Ev.name rfl rfl) (Ev.name rfl rfl) Cmp.eqF rfl) (fun _ => ?_) nofun)
    exact Exs.ret (Ex.ret (Ev.tup (Evs.cons Ev.cflt (Evs.cons Ev.cflt (Evs.cons (Ev.name rfl rfl) Evs.nil (fun _ => rfl)) (fun _ => rfl)) (fun _ => rfl)) (Nat.le_of_ble_eq_true rfl)))
  | false =>
    have nz := ok1 c1
    have lo := ok2 c1
    refine Exs.cons (Ex.if (x := false) (c1 ▸ Tst.cmp (Ev.name rfl rfl) (Ev.name rfl rfl) Cmp.eqF rfl) nofun (fun _ => Exs.nil)) ?_
    refine Exs.cons (Ex.assign (Ev.bin (Ev.name rfl rfl) (Ev.name rfl rfl) (Bin.divF lo)) (.inl rfl) nofun rfl) ?_
    refine Exs.cons (Ex.assign (Ev.bin (Ev.bin (Ev.name rfl rfl) (Ev.name rfl rfl) Bin.subF) (Ev.name rfl rfl) (Bin.divF nz)) (.inl rfl) nofun rfl) ?_
    refine Exs.cons (Ex.assign (Ev.bin (Ev.bin (Ev.name rfl rfl) (Ev.name rfl rfl) Bin.subF) (Ev.name rfl rfl) (Bin.divF nz)) (.inl rfl) nofun rfl) ?_
    refine Exs.cons (Ex.assign (Ev.bin (Ev.bin (Ev.name rfl rfl) (Ev.name rfl rfl) Bin.subF) (Ev.name rfl rfl) (Bin.divF nz)) (.inl rfl) nofun rfl) ?_
    refine Exs.cons (Ex.ifv (y := feq r mx) "h" (.flt (if feq r mx = true then sub (div (sub mx b) (sub mx mn)) (div (sub mx g) (sub mx mn))
  else if feq g mx = true then sub (add z2 (div (sub mx r) (sub mx mn))) (div (sub mx b) (sub mx mn))
  else sub (add z4 (div (sub mx g) (sub mx mn))) (div (sub mx r) (sub mx mn)))) (Tst.cmp (Ev.name rfl rfl) (Ev.name rfl rfl) Cmp.eqF rfl) (fun c => ?_) (fun c => ?_)) ?_
    · rw [if_pos c]
      exact Exs.cons (Ex.assign (Ev.bin (Ev.name rfl rfl) (Ev.name rfl rfl) Bin.subF) (.inl rfl) nofun rfl) Exs.nil
    · rw [if_neg (by rw [c]; exact Bool.false_ne_true)]
      refine Exs.cons (Ex.if (x := feq g mx) (Tst.cmp (Ev.name rfl rfl) (Ev.name rfl rfl) Cmp.eqF rfl) (fun c => ?_) (fun c => ?_)) Exs.nil
      · rw [if_pos c]
        exact Exs.cons (Ex.assign (Ev.bin (Ev.bin Ev.cflt (Ev.name rfl rfl) Bin.addF) (Ev.name rfl rfl) Bin.subF) (.inl rfl) nofun rfl) Exs.nil
      · rw [if_neg (by rw [c]; exact Bool.false_ne_true)]
        exact Exs.cons (Ex.assign (Ev.bin (Ev.bin Ev.cflt (Ev.name rfl rfl) Bin.addF) (Ev.name rfl rfl) Bin.subF) (.inl rfl) nofun rfl) Exs.nil
    refine Exs.cons (Ex.assign (Ev.bin (Ev.bin (Ev.name rfl rfl) Ev.cflt (Bin.divF (by decide +kernel))) Ev.cflt (Bin.modF (by decide +kernel))) (.inl rfl) nofun rfl) ?_
    exact Exs.ret (Ex.ret (Ev.tup (Evs.cons (Ev.name rfl rfl) (Evs.cons (Ev.name rfl rfl) (Evs.cons (Ev.name rfl rfl) Evs.nil (fun _ => rfl)) (fun _ => rfl)) (fun _ => rfl)) (Nat.le_of_ble_eq_true rfl)))
end
end Wu
end
section
namespace Wu
open PySem PySem.Spec PySem.Calls PyProof.Rows PySem.W

/-- a point: its upper and its lower number -/
noncomputable def tI (a b : Int) : D := .tup [.int a, .int b]

section
variable {prog : Program} {w : World} {mg mb : Str → Option Value}

theorem fn_in_b1 {n : Nat} (no : mg "ord" = none) : Fn prog w fnsW mg mb 2 "in_table_b1" [.str ⟨#[n]⟩] (.bool (decide ((n : Int) ∈ b1L))) :=
  Fn.go (i := 19) (names := ["code"]) (k := 1) rfl (fun _ _ _ vs h => match vs, h with | [_], _ => rfl) rfl fun _ _ _ _ _ _ =>
    Exs.ret (Ex.ret (Ev.inset (S := fun i => decide (i ∈ b1L)) (Ev.bi (Evs.cons (Ev.name rfl rfl) Evs.nil (fun _ => rfl)) Bi.ord (Nat.le_refl _) rfl no rfl (by decide) rfl (fun _ => rfl) rfl) (fun _ m => m.b1 prog w) rfl rfl rfl))
theorem fn_in_c7 {n : Nat} (no : mg "ord" = none) : Fn prog w fnsW mg mb 2 "in_table_c7" [.str ⟨#[n]⟩] (.bool (decide ((n : Int) ∈ c7L))) :=
  Fn.go (i := 23) (names := ["code"]) (k := 1) rfl (fun _ _ _ vs h => match vs, h with | [_], _ => rfl) rfl fun _ _ _ _ _ _ =>
    Exs.ret (Ex.ret (Ev.inset (S := fun i => decide (i ∈ c7L)) (Ev.bi (Evs.cons (Ev.name rfl rfl) Evs.nil (fun _ => rfl)) Bi.ord (Nat.le_refl _) rfl no rfl (by decide) rfl (fun _ => rfl) rfl) (fun _ m => m.c7 prog w) rfl rfl rfl))
theorem fn_in_c9 {n : Nat} (no : mg "ord" = none) : Fn prog w fnsW mg mb 2 "in_table_c9" [.str ⟨#[n]⟩] (.bool (decide ((n : Int) ∈ c9L))) :=
  Fn.go (i := 25) (names := ["code"]) (k := 1) rfl (fun _ _ _ vs h => match vs, h with | [_], _ => rfl) rfl fun _ _ _ _ _ _ =>
    Exs.ret (Ex.ret (Ev.inset (S := fun i => decide (i ∈ c9L)) (Ev.bi (Evs.cons (Ev.name rfl rfl) Evs.nil (fun _ => rfl)) Bi.ord (Nat.le_refl _) rfl no rfl (by decide) rfl (fun _ => rfl) rfl) (fun _ m => m.c9 prog w) rfl rfl rfl))
/-- table B.3: an exception, or lower -/
noncomputable def b3S (n : Nat) : Str := match b3L.find? (fun p => p.1 == (n : Int)) with
  | some p => p.2
  | none => Txt.lower ⟨#[n]⟩
theorem fn_b3 {n : Nat} (no : mg "ord" = none) : Fn prog w fnsW mg mb 2 "map_table_b3" [.str ⟨#[n]⟩] (.str (b3S n)) := by
  refine Fn.go (i := 21) (names := ["code"]) (k := 1) rfl (fun _ _ _ vs h => match vs, h with | [_], _ => rfl) rfl fun A L a code base av => ?_
  refine Exs.cons (Ex.assign (Ev.get (Ev.bi (Evs.cons (Ev.name rfl rfl) Evs.nil (fun _ => rfl)) Bi.ord (Nat.le_refl _) rfl no rfl (by decide) rfl (fun _ => rfl) rfl) rfl rfl rfl rfl rfl rfl rfl) (.inl rfl) nofun rfl) ?_
  unfold b3S b3D
  cases b3L.find? (fun p => p.1 == (n : Int)) with
  | some p =>
    refine Exs.ret (Ex.if (x := true) (Tst.cmp (Ev.name rfl rfl) Ev.cnone Cmp.isNotNoneS rfl) (fun _ => ?_) nofun)
    exact Exs.ret (Ex.ret (Ev.name rfl rfl))
  | none =>
    refine Exs.cons (Ex.if (x := false) (Tst.cmp (Ev.name rfl rfl) Ev.cnone Cmp.isNotNone rfl) nofun (fun _ => Exs.nil)) ?_
    exact Exs.ret (Ex.ret (Ev.lower (Ev.name rfl rfl) (Nat.le_of_ble_eq_true rfl) rfl rfl))

theorem mulOk {a b : Int} (h : a.natAbs < 2 ^ 62) : IntMulOk a b :=
  IntMulOk.of_left (intBits_le_64 (by omega) (by omega))
theorem fn_gap {a b c d : Int} (h1 : c.natAbs < 2 ^ 62) (h2 : a.natAbs < 2 ^ 62) : Fn prog w fnsW mg mb 1 "_law_gap" [tI a b, tI c d] (.int (c * b - a * d)) :=
  Fn.go (i := 31) (names := ["one", "other"]) rfl (fun _ _ _ vs h => match vs, h with | [_, _], _ => rfl) rfl fun _ _ _ _ _ _ =>
    Exs.ret (Ex.ret (Ev.bin
      (Ev.bin (Ev.sub (Ev.name rfl rfl) Ev.cint (Itm.tup (by decide) (by decide) rfl rfl) fun _ _ => rfl) (Ev.sub (Ev.name rfl rfl) Ev.cint (Itm.tup (by decide) (by decide) rfl rfl) fun _ _ => rfl) (Bin.mulI (mulOk h1)))
      (Ev.bin (Ev.sub (Ev.name rfl rfl) Ev.cint (Itm.tup (by decide) (by decide) rfl rfl) fun _ _ => rfl) (Ev.sub (Ev.name rfl rfl) Ev.cint (Itm.tup (by decide) (by decide) rfl rfl) fun _ _ => rfl) (Bin.mulI (mulOk h2)))
      Bin.subI))

/-- the three lights of four points -/
noncomputable def light (p q r s : Int × Int) : Int := p.1 * q.1 * (r.2 * s.2) + p.2 * q.2 * (r.1 * s.1)
noncomputable def lightsOf (p0 p1 p2 p3 : Int × Int) : List Int := [light p0 p1 p2 p3, light p0 p2 p1 p3, light p0 p3 p1 p2]
noncomputable def small (p : Int × Int) : Prop := p.1.natAbs < 2 ^ 30 ∧ p.2.natAbs < 2 ^ 30
theorem small_mul {a b : Int} (ha : a.natAbs < 2 ^ 30) (hb : b.natAbs < 2 ^ 30) : (a * b).natAbs < 2 ^ 62 := by
  rw [Int.natAbs_mul]
  have : a.natAbs * b.natAbs ≤ 2 ^ 30 * 2 ^ 30 := Nat.mul_le_mul (Nat.le_of_lt ha) (Nat.le_of_lt hb)
  omega
noncomputable def pD (p : Int × Int) : D := tI p.1 p.2
theorem fn_lights {p0 p1 p2 p3 : Int × Int} (h0 : small p0) (h1 : small p1) (h2 : small p2) (h3 : small p3) : Fn prog w fnsW mg mb 2 "_law_lights" [.lst [pD p0, pD p1, pD p2, pD p3]] (.lst ((lightsOf p0 p1 p2 p3).map .int)) := by
  refine Fn.go (i := 32) (names := ["points"]) (k := 1) rfl (fun _ _ _ vs h => match vs, h with | [_], _ => rfl) rfl fun A L a code base av => ?_
  refine Exs.own EvN.nil (.inl rfl) rfl rfl fun la => ?_
  have turn : ∀ (b : Heap) (k i j : Nat) (pk pi pj : Int × Int) (done : List D), [pD p0, pD p1, pD p2, pD p3][k]? = some (pD pk) → [pD p0, pD p1, pD p2, pD p3][i]? = some (pD pi) → [pD p0, pD p1, pD p2, pD p3][j]? = some (pD pj) →
      small pk → small pi → small pj → (if (k : Int) == 1 then (2 : Int) else 1) = i → Builtin.bitXor (i : Int) k = j → done.length ≤ 3 → k < 4 → i < 4 → j < 4 →
      Exs prog w fnsW mg mb (Fx.over ⟨A, envOf (dr 32).name (dr 32).scope L a code, base, av, 1⟩ b) (("k", .int k) :: [("points", .lst [pD p0, pD p1, pD p2, pD p3])]) (some ("lights", la, done)) (bodyAt (dr 32).body 1) (.next [("points", .lst [pD p0, pD p1, pD p2, pD p3])] (some ("lights", la, done ++ [.int (light p0 pk pi pj)]))) := by
    intro b k i j pk pi pj done hk hi hj sk si sj e1 e2 hdn lk li lj
    refine Exs.post (ρ'' := ("downs", .int (p0.2 * pk.2 * (pi.1 * pj.1))) :: ("ups", .int (p0.1 * pk.1 * (pi.2 * pj.2))) :: ("j", .int j) :: ("i", .int i) :: ("k", .int k) :: [("points", .lst [pD p0, pD p1, pD p2, pD p3])]) ?_ ?_
    · refine Exs.cons (Ex.assign (d := .int i) (Ev.ifexp (x := (k : Int) == 1) (Tst.cmp (Ev.name rfl rfl) Ev.cint Cmp.eqI rfl) (fun q => ?_) (fun q => ?_)) (.inl rfl) nofun rfl) ?_
      · rw [if_pos q] at e1; rw [← e1]; exact Ev.cint
      · rw [if_neg (by rw [q]; exact Bool.false_ne_true)] at e1; rw [← e1]; exact Ev.cint
      refine Exs.cons (Ex.assign (d := .int j) (e2 ▸ Ev.call (Evs.cons (Ev.name rfl rfl) (Evs.cons (Ev.name rfl rfl) Evs.nil (fun _ => rfl)) (fun _ => rfl)) fn_xor ⟨dr 14, dr_mem rfl, rfl⟩ (Nat.le_refl _) rfl rfl (fun _ => rfl)) (.inl rfl) nofun rfl) ?_
      have pt : ∀ {c : Fx} {ρ : PEnv} {o : Own} {x : Str} {xp pp : Pos} {n : Nat} {p : Int × Int} {t : Nat} {d : D} {cc : Nat} {tp : Pos} (_ : ρ.lookup x = some (.int n)) (_ : (x == ("__debug__" : Str)) = false) (_ : ρ.lookup ("points" : Str) = some (.lst [pD p0, pD p1, pD p2, pD p3])) (_ : n < 4) (_ : [pD p0, pD p1, pD p2, pD p3][n]? = some (pD p)) (_ : [D.int p.1, .int p.2][t]? = some d) (_ : t < 2) {q1 q2 : Pos},
          Ev prog w fnsW mg mb c ρ o (.Subscript (.Subscript (.Name "points" xp) (.Name x pp) tp) (.Constant (.int t) cc q1) q2) d := by
        intro c ρ o x xp pp n p t d cc tp a1 a2 a3 a4 a5 a6 a7 q1 q2
        refine Ev.sub (Ev.sub (Ev.name a3 rfl) (Ev.name a1 a2) (Itm.lst (by omega) a5) fun _ _ => rfl) Ev.cint (Itm.tup (by omega) (by omega) ?_ a6) fun _ _ => rfl
        have : t = 0 ∨ t = 1 := by omega
        rcases this with rfl | rfl <;> rfl
      have p0t : ∀ {c : Fx} {ρ : PEnv} {o : Own} {xp : Pos} {t : Nat} {d : D} {c0 cc : Nat} {tp : Pos} (_ : ρ.lookup ("points" : Str) = some (.lst [pD p0, pD p1, pD p2, pD p3])) (_ : [D.int p0.1, .int p0.2][t]? = some d) (_ : t < 2) {q0 q1 q2 : Pos},
          Ev prog w fnsW mg mb c ρ o (.Subscript (.Subscript (.Name "points" xp) (.Constant (.int 0) c0 q0) tp) (.Constant (.int t) cc q1) q2) d := by
        intro c ρ o xp t d c0 cc tp a3 a6 a7 q0 q1 q2
        refine Ev.sub (Ev.sub (Ev.name a3 rfl) Ev.cint (Itm.lst (k := 0) (by omega) rfl) fun _ _ => rfl) Ev.cint (Itm.tup (by omega) (by omega) ?_ a6) fun _ _ => rfl
        have : t = 0 ∨ t = 1 := by omega
        rcases this with rfl | rfl <;> rfl
      have ml : ∀ {c : Fx} {ρ : PEnv} {o : Own} {xp p : Pos} {e₁ e₂ : Expr} {x y : Int} (_ : Ev prog w fnsW mg mb c ρ o e₁ (.int x)) (_ : Ev prog w fnsW mg mb c ρ o e₂ (.int y)) (_ : x.natAbs < 2 ^ 62) (_ : 1 ≤ c.k) (_ : c.env.kindOf ("mul" : Str) = some .globalImplicit) (_ : ∀ env, starEach [e₁, e₂] env = (false, eval e₁ env) :: starEach [e₂] env) (_ : ∀ env, starEach [e₂] env = (false, eval e₂ env) :: starEach [] env),
          Ev prog w fnsW mg mb c ρ o (.Call (.Name "mul" xp) [e₁, e₂] [] p) (.int (x * y)) := by
        intro c ρ o xp p e₁ e₂ x y a1 a2 a3 a4 a5 a6 a7
        exact Ev.call (Evs.cons a1 (Evs.cons a2 Evs.nil a7) a6) (fn_mul (mulOk a3)) ⟨dr 12, dr_mem rfl, rfl⟩ a4 a5 rfl a6
      have s30 : ∀ {x : Int}, x.natAbs < 2 ^ 30 → x.natAbs < 2 ^ 62 := fun h => Nat.lt_of_lt_of_le h (by decide)
      refine Exs.cons (Ex.assign (ml (ml (p0t (t := 0) rfl rfl (by omega)) (pt (t := 0) rfl rfl rfl lk hk rfl (by omega)) (s30 h0.1) (Nat.le_refl _) rfl (fun _ => rfl) (fun _ => rfl)) (ml (pt (t := 1) rfl rfl rfl li hi rfl (by omega)) (pt (t := 1) rfl rfl rfl lj hj rfl (by omega)) (s30 si.2) (Nat.le_refl _) rfl (fun _ => rfl) (fun _ => rfl)) (small_mul h0.1 sk.1) (Nat.le_refl _) rfl (fun _ => rfl) (fun _ => rfl)) (.inl rfl) nofun rfl) ?_
      refine Exs.cons (Ex.assign (ml (ml (p0t (t := 1) rfl rfl (by omega)) (pt (t := 1) rfl rfl rfl lk hk rfl (by omega)) (s30 h0.2) (Nat.le_refl _) rfl (fun _ => rfl) (fun _ => rfl)) (ml (pt (t := 0) rfl rfl rfl li hi rfl (by omega)) (pt (t := 0) rfl rfl rfl lj hj rfl (by omega)) (s30 si.1) (Nat.le_refl _) rfl (fun _ => rfl) (fun _ => rfl)) (small_mul h0.2 sk.2) (Nat.le_refl _) rfl (fun _ => rfl) (fun _ => rfl)) (.inl rfl) nofun rfl) ?_
      exact Exs.cons (Ex.append (Ev.call (Evs.cons (Ev.name rfl rfl) (Evs.cons (Ev.name rfl rfl) Evs.nil (fun _ => rfl)) (fun _ => rfl)) fn_iadd ⟨dr 15, dr_mem rfl, rfl⟩ (Nat.le_refl _) rfl rfl (fun _ => rfl)) (by omega) rfl rfl rfl rfl rfl rfl rfl) Exs.nil
    · exact subC rfl subN
  refine Exs.cons (Ex.for (fun i => ([("points", .lst [pD p0, pD p1, pD p2, pD p3])], some ("lights", la, ((lightsOf p0 p1 p2 p3).map D.int).take i))) (It.tup (Ev.tup (Evs.cons Ev.cint (Evs.cons Ev.cint (Evs.cons Ev.cint Evs.nil (fun _ => rfl)) (fun _ => rfl)) (fun _ => rfl)) (by decide))) rfl (.inl rfl) nofun (fun _ => rfl) (fun b i d hd => .inl ?_) (fun _ => rfl) (fun _ _ => rfl)) ?_
  · match i, hd with
    | 0, hd => cases hd; exact turn b 1 2 3 p1 p2 p3 [] rfl rfl rfl h1 h2 h3 rfl rfl (by decide) (by decide) (by decide) (by decide)
    | 1, hd => cases hd; exact turn b 2 1 3 p2 p1 p3 [_] rfl rfl rfl h2 h1 h3 rfl rfl (by simp) (by decide) (by decide) (by decide)
    | 2, hd => cases hd; exact turn b 3 1 2 p3 p1 p2 [_, _] rfl rfl rfl h3 h1 h2 rfl rfl (by simp) (by decide) (by decide) (by decide)
    | n + 3, hd => cases hd
  · exact Exs.freeze (Exs.ret (Ex.ret (Ev.name rfl rfl)))
end
end Wu
end
section
namespace Wu
open PySem PySem.Spec PySem.Calls PyProof.Rows PySem.W

/-- a 1048576th -/
noncomputable def q20 (n : Int) : UInt64 := Float64.ofFrac (decide (n < 0) != decide ((1048576 : Int) < 0)) n.natAbs (1048576 : Int).natAbs

section
variable {prog : Program} {w : World} {mg mb : Str → Option Value}

theorem fn_parts {ns : List Int} (hi : ∀ n ∈ ns, Float64.isInf (q20 n) = false) (hz : ns.length ≤ 1000) : Fn prog w fnsW mg mb 2 "_law_parts" [.lst (ns.map .int)] (.lst (ns.map fun n => .flt (q20 n))) := by
  refine Fn.go (i := 33) (names := ["lights"]) (k := 1) rfl (fun _ _ _ vs h => match vs, h with | [_], _ => rfl) rfl fun A L a code base av => ?_
  refine Exs.ret (Ex.ret (EvN.ev (EvN.comp (cl := []) (ρ₀ := []) (It.it2 (It.lst (Ev.name rfl rfl)) (fun _ _ => rfl)) (by simp) (by simpa using hz) rfl (fun _ => rfl) rfl (by decide) (by decide) (fun _ _ e => by cases e) (fun _ _ e => by cases e) fun C Dd sq i d hd => ?_)))
  rw [List.getElem?_map] at hd
  cases hn : ns[i]? with
  | none => rw [hn] at hd; cases hd
  | some n =>
    rw [hn] at hd
    cases hd
    refine ⟨.flt (q20 n), [("light", .int n)], by rw [List.getElem?_map, hn]; rfl, Asg.name rfl, ?_⟩
    exact Ev.call (Evs.cons (Ev.name rfl rfl) (Evs.cons Ev.cint Evs.nil (fun _ => rfl)) (fun _ => rfl)) (fn_truediv (by decide) (hi n (List.mem_of_getElem? hn))) ⟨dr 13, dr_mem rfl, rfl⟩ (Nat.le_refl _) rfl rfl (fun _ => rfl)

/-- a word of l and r: r is true -/
noncomputable def sgn (b : Bool) : Nat := if b then 114 else 108
noncomputable def wS (bs : List Bool) : Str := ⟨(bs.map sgn).toArray⟩
noncomputable def pointGo : List Bool → Int × Int → Int × Int
  | [], p => p
  | true :: bs, (u, l) => pointGo bs (u + l, l)
  | false :: bs, (u, l) => pointGo bs (u, l + u)
noncomputable def point (bs : List Bool) : Int × Int := pointGo bs.reverse (1, 1)
theorem pointGo_snoc : ∀ (bs : List Bool) (b : Bool) (p : Int × Int), pointGo (bs ++ [b]) p = if b then ((pointGo bs p).1 + (pointGo bs p).2, (pointGo bs p).2) else ((pointGo bs p).1, (pointGo bs p).2 + (pointGo bs p).1)
  | [], b, (u, l) => by cases b <;> rfl
  | true :: bs, b, (u, l) => pointGo_snoc bs b _
  | false :: bs, b, (u, l) => pointGo_snoc bs b _
theorem revS_w (bs : List Bool) : revS (wS bs) = wS bs.reverse := by
  unfold revS wS
  simp [List.map_reverse]
theorem signs_w (bs : List Bool) : signs (wS bs) = bs.map fun b => .str ⟨#[sgn b]⟩ := by
  unfold signs wS
  simp [List.map_map]
theorem sgn_eq (b : Bool) : (((⟨#[sgn b]⟩ : Str)) == ("r" : Str)) = b := by cases b <;> decide +kernel
theorem cmp_r (x : Bool) : Cmp prog w .Eq (.str ⟨#[sgn x]⟩) (.str "r") x := by
  have h := Cmp.eqS (prog := prog) (w := w) (a := ⟨#[sgn x]⟩) (b := "r")
  rw [sgn_eq] at h
  exact h
theorem fn_point {bs : List Bool} (hz : bs.length ≤ 1000) : Fn prog w fnsW mg mb 2 "_law_point" [.str (wS bs)] (tI (point bs).1 (point bs).2) := by
  refine Fn.go (i := 29) (names := ["word"]) (k := 1) rfl (fun _ _ _ vs h => match vs, h with | [_], _ => rfl) rfl fun A L a code base av => ?_
  refine Exs.cons (Ex.assign Ev.cint (.inl rfl) nofun rfl) (Exs.cons (Ex.assign Ev.cint (.inl rfl) nofun rfl) ?_)
  have hwz : (wS bs).length ≤ 1000 := by unfold wS Str.length; simpa using hz
  refine Exs.cons (Ex.for (xs := signs (revS (wS bs))) (fun i => ([("lower", .int (pointGo (bs.reverse.take i) (1, 1)).2), ("upper", .int (pointGo (bs.reverse.take i) (1, 1)).1), ("word", .str (wS bs))], none))
    (It.str (Ev.rev (Ev.name rfl rfl) (Ev.neg Ev.cint) hwz)) rfl (.inl rfl) nofun (fun _ => rfl) (fun b i d hd => .inl ?_) (fun _ => rfl) (fun _ _ => rfl)) ?_
  · rw [revS_w, signs_w, List.getElem?_map] at hd
    cases hb : bs.reverse[i]? with
    | none => rw [hb] at hd; cases hd
    | some x =>
      rw [hb] at hd
      cases hd
      have e1 : bs.reverse.take (i + 1) = bs.reverse.take i ++ [x] := by rw [List.take_add_one, hb]; rfl
      dsimp only
      rw [e1, pointGo_snoc]
      generalize pointGo (bs.reverse.take i) (1, 1) = p
      refine Exs.cons (Ex.if (x := x) (Tst.cmp (Ev.name rfl rfl) Ev.cstr (cmp_r x) rfl) (fun q => ?_) (fun q => ?_)) Exs.nil
      · subst q
        refine Exs.post (Exs.cons (Ex.assign (Ev.call (Evs.cons (Ev.name rfl rfl) (Evs.cons (Ev.name rfl rfl) Evs.nil (fun _ => rfl)) (fun _ => rfl)) fn_iadd ⟨dr 15, dr_mem rfl, rfl⟩ (Nat.le_refl _) rfl rfl (fun _ => rfl)) (.inl rfl) nofun rfl) Exs.nil) ?_
        exact subC rfl (subC rfl (subC rfl subN))
      · subst q
        refine Exs.post (Exs.cons (Ex.assign (Ev.call (Evs.cons (Ev.name rfl rfl) (Evs.cons (Ev.name rfl rfl) Evs.nil (fun _ => rfl)) (fun _ => rfl)) fn_iadd ⟨dr 15, dr_mem rfl, rfl⟩ (Nat.le_refl _) rfl rfl (fun _ => rfl)) (.inl rfl) nofun rfl) Exs.nil) ?_
        exact subC rfl (subC rfl (subC rfl subN))
  · have e2 : (signs (revS (wS bs))).length = bs.reverse.length := by rw [revS_w, signs_w]; simp
    rw [e2, List.take_length]
    exact Exs.ret (Ex.ret (Ev.tup (Evs.cons (Ev.name rfl rfl) (Evs.cons (Ev.name rfl rfl) Evs.nil (fun _ => rfl)) (fun _ => rfl)) (Nat.le_of_ble_eq_true rfl)))
end
end Wu
end
section
namespace Wu
open PySem PySem.Spec PySem.Calls PyProof.Rows PySem.W

noncomputable def nodeGo : List Bool → (Int × Int) × (Int × Int) → (Int × Int) × (Int × Int)
  | [], p => p
  | true :: bs, (l, r) => nodeGo bs ((l.1 + r.1, l.2 + r.2), r)
  | false :: bs, (l, r) => nodeGo bs (l, (l.1 + r.1, l.2 + r.2))
noncomputable def node (bs : List Bool) : Int × Int := ((nodeGo bs ((0, 1), (1, 0))).1.1 + (nodeGo bs ((0, 1), (1, 0))).2.1, (nodeGo bs ((0, 1), (1, 0))).1.2 + (nodeGo bs ((0, 1), (1, 0))).2.2)
theorem nodeGo_snoc : ∀ (bs : List Bool) (b : Bool) (p : (Int × Int) × (Int × Int)), nodeGo (bs ++ [b]) p = if b then (((nodeGo bs p).1.1 + (nodeGo bs p).2.1, (nodeGo bs p).1.2 + (nodeGo bs p).2.2), (nodeGo bs p).2) else ((nodeGo bs p).1, ((nodeGo bs p).1.1 + (nodeGo bs p).2.1, (nodeGo bs p).1.2 + (nodeGo bs p).2.2))
  | [], b, (u, l) => by cases b <;> rfl
  | true :: bs, b, (u, l) => nodeGo_snoc bs b _
  | false :: bs, b, (u, l) => nodeGo_snoc bs b _
section
variable {prog : Program} {w : World} {fns : List DefRec} {mg mb : Str → Option Value} {c : Fx} {ρ : PEnv} {o : Own}
theorem Ev.fst {x : Str} {xp q1 q2 : Pos} {cc : Nat} {a b : Int} (h : ρ.lookup x = some (tI a b)) (hd : (x == ("__debug__" : Str)) = false) : Ev prog w fns mg mb c ρ o (.Subscript (.Name x xp) (.Constant (.int 0) cc q1) q2) (.int a) :=
  Ev.sub (Ev.name h hd) Ev.cint (Itm.tup (by decide) (by decide) rfl rfl) fun _ _ => rfl
theorem Ev.snd {x : Str} {xp q1 q2 : Pos} {cc : Nat} {a b : Int} (h : ρ.lookup x = some (tI a b)) (hd : (x == ("__debug__" : Str)) = false) : Ev prog w fns mg mb c ρ o (.Subscript (.Name x xp) (.Constant (.int 1) cc q1) q2) (.int b) :=
  Ev.sub (Ev.name h hd) Ev.cint (Itm.tup (by decide) (by decide) rfl rfl) fun _ _ => rfl
end
section
variable {prog : Program} {w : World} {mg mb : Str → Option Value}
theorem fn_node {bs : List Bool} : Fn prog w fnsW mg mb 2 "_law_node" [.str (wS bs)] (tI (node bs).1 (node bs).2) := by
  refine Fn.go (i := 30) (names := ["word"]) (k := 1) rfl (fun _ _ _ vs h => match vs, h with | [_], _ => rfl) rfl fun A L a code base av => ?_
  refine Exs.cons (Ex.assign (d := tI 0 1) (Ev.tup (Evs.cons Ev.cint (Evs.cons Ev.cint Evs.nil (fun _ => rfl)) (fun _ => rfl)) (by decide)) (.inl rfl) nofun rfl) ?_
  refine Exs.cons (Ex.assign (d := tI 1 0) (Ev.tup (Evs.cons Ev.cint (Evs.cons Ev.cint Evs.nil (fun _ => rfl)) (fun _ => rfl)) (by decide)) (.inl rfl) nofun rfl) ?_
  refine Exs.cons (Ex.for (xs := signs (wS bs)) (fun i => ([("right", pD (nodeGo (bs.take i) ((0, 1), (1, 0))).2), ("left", pD (nodeGo (bs.take i) ((0, 1), (1, 0))).1), ("word", .str (wS bs))], none))
    (It.str (Ev.name rfl rfl)) rfl (.inl rfl) nofun (fun _ => rfl) (fun b i d hd => .inl ?_) (fun _ => rfl) (fun _ _ => rfl)) ?_
  · rw [signs_w, List.getElem?_map] at hd
    cases hb : bs[i]? with
    | none => rw [hb] at hd; cases hd
    | some x =>
      rw [hb] at hd
      cases hd
      have e1 : bs.take (i + 1) = bs.take i ++ [x] := by rw [List.take_add_one, hb]; rfl
      dsimp only
      rw [e1, nodeGo_snoc]
      generalize nodeGo (bs.take i) ((0, 1), (1, 0)) = p
      obtain ⟨⟨l1, l2⟩, ⟨r1, r2⟩⟩ := p
      refine Exs.cons (Ex.assign (d := tI (l1 + r1) (l2 + r2)) (Ev.tup (Evs.cons (Ev.bin (Ev.fst (a := l1) (b := l2) rfl rfl) (Ev.fst (a := r1) (b := r2) rfl rfl) Bin.addI) (Evs.cons (Ev.bin (Ev.snd (a := l1) (b := l2) rfl rfl) (Ev.snd (a := r1) (b := r2) rfl rfl) Bin.addI) Evs.nil (fun _ => rfl)) (fun _ => rfl)) (Nat.le_of_ble_eq_true rfl)) (.inl rfl) nofun rfl) ?_
      refine Exs.cons (Ex.if (x := x) (Tst.cmp (Ev.name rfl rfl) Ev.cstr (cmp_r x) rfl) (fun q => ?_) (fun q => ?_)) Exs.nil
      · subst q
        exact Exs.post (Exs.cons (Ex.assign (Ev.name rfl rfl) (.inl rfl) nofun rfl) Exs.nil) (subC rfl (subC rfl (subC rfl subN)))
      · subst q
        exact Exs.post (Exs.cons (Ex.assign (Ev.name rfl rfl) (.inl rfl) nofun rfl) Exs.nil) (subC rfl (subC rfl (subC rfl subN)))
  · have e2 : (signs (wS bs)).length = bs.length := by rw [signs_w]; simp
    rw [e2, List.take_length]
    unfold node
    generalize nodeGo bs ((0, 1), (1, 0)) = p
    obtain ⟨⟨l1, l2⟩, ⟨r1, r2⟩⟩ := p
    exact Exs.ret (Ex.ret (Ev.tup (Evs.cons (Ev.bin (Ev.fst (a := l1) (b := l2) rfl rfl) (Ev.fst (a := r1) (b := r2) rfl rfl) Bin.addI) (Evs.cons (Ev.bin (Ev.snd (a := l1) (b := l2) rfl rfl) (Ev.snd (a := r1) (b := r2) rfl rfl) Bin.addI) Evs.nil (fun _ => rfl)) (fun _ => rfl)) (Nat.le_of_ble_eq_true rfl)))

end
end Wu
end
section
namespace Wu
open PySem PySem.Spec PySem.Calls PyProof.Rows PySem.W

noncomputable def hidL : List Nat := [173, 847, 6150, 6155, 6156, 6157, 8203, 8204, 8205, 8288, 65279]
noncomputable def matL : List Nat := [0, 1, 2, 4, 7, 8, 9, 10, 11, 12]
/-- the sign of table B.1 ahead of a letter, or none -/
noncomputable def hidCps (h : Nat) : List Nat := if h < 11 then [hidL.getD h 0] else if h < 27 then [65013 + h] else []
/-- how a letter is typed -/
noncomputable def wayCp (y c : Nat) : Nat := if y = 0 then c else if y = 1 then c - 32 else if y < 12 then 119808 + 52 * matL.getD (y - 2) 0 + c - 97 else 917504 + c - 32 * (y - 12)
noncomputable def bitOf (n : Nat) : Bool := n % 2 == 1
noncomputable def tCps (n : Nat) : List Nat := hidCps (n / 28 % 28) ++ [wayCp (n / 2 % 14) (sgn (bitOf n))]
noncomputable def tSigns (k n : Nat) : List Nat := (List.range k).flatMap fun j => tCps (n / 784 ^ j)
noncomputable def tBits (k n : Nat) : List Bool := (List.range k).map fun j => bitOf (n / 784 ^ j)
theorem tSigns_succ (k n : Nat) : tSigns (k + 1) n = tSigns k n ++ tCps (n / 784 ^ k) := by
  unfold tSigns; rw [List.range_succ, List.flatMap_append]; simp
theorem tBits_succ (k n : Nat) : tBits (k + 1) n = tBits k n ++ [bitOf (n / 784 ^ k)] := by
  unfold tBits; rw [List.range_succ, List.map_append]; rfl
noncomputable def cS (l : List Nat) : Str := ⟨l.toArray⟩
theorem cS_append (l m : List Nat) : cS l ++ cS m = cS (l ++ m) := by
  show (⟨_⟩ : Str) = _
  unfold cS
  congr 1
  simp [Str.append]
theorem cS_len (l : List Nat) : (cS l).length = l.length := by unfold cS Str.length; simp
theorem wS_cS (bs : List Bool) : wS bs = cS (bs.map sgn) := rfl
theorem sgn_lt (b : Bool) : sgn b = 108 ∨ sgn b = 114 := by cases b <;> simp [sgn]
theorem tCps_len (n : Nat) : (tCps n).length ≤ 2 := by
  unfold tCps hidCps
  split
  · simp
  · split <;> simp
theorem tSigns_len (k n : Nat) : (tSigns k n).length ≤ 2 * k := by
  induction k with
  | zero => simp [tSigns]
  | succ k ih =>
    rw [tSigns_succ, List.length_append]
    have := tCps_len (n / 784 ^ k)
    omega

section
variable {prog : Program} {w : World} {fns : List DefRec} {mg mb : Str → Option Value} {c : Fx} {ρ : PEnv} {o : Own}
theorem Bin.modN {a b : Nat} (h : b ≠ 0) : Bin prog w .Mod (.int a) (.int b) (.int ((a % b : Nat) : Int)) := by
  have := Bin.modI (prog := prog) (w := w) (a := a) (b := b) (by omega)
  rw [Int.fmod_eq_emod_of_nonneg _ (by omega), ← Int.natCast_emod] at this
  exact this
theorem Bin.divN {a b : Nat} (h : b ≠ 0) (hp : Builtin.divisionGoesByPylong a b = false) : Bin prog w .FloorDiv (.int a) (.int b) (.int ((a / b : Nat) : Int)) := by
  have := Bin.divI (prog := prog) (w := w) (a := a) (b := b) (by omega) hp
  rw [Int.fdiv_eq_ediv_of_nonneg _ (by omega), ← Int.natCast_ediv] at this
  exact this
theorem Ev.modC {e : Expr} {p q : Pos} {a b cc : Nat} (he : Ev prog w fns mg mb c ρ o e (.int a)) (h : b ≠ 0) : Ev prog w fns mg mb c ρ o (.BinOp e .Mod (.Constant (.int b) cc q) p) (.int ((a % b : Nat) : Int)) :=
  Ev.bin he Ev.cint (Bin.modN h)
theorem Ev.divC {e : Expr} {p q : Pos} {a b cc : Nat} (he : Ev prog w fns mg mb c ρ o e (.int a)) (h : b ≠ 0) (hp : Builtin.divisionGoesByPylong a b = false) : Ev prog w fns mg mb c ρ o (.BinOp e .FloorDiv (.Constant (.int b) cc q) p) (.int ((a / b : Nat) : Int)) :=
  Ev.bin he Ev.cint (Bin.divN h hp)
theorem Aug.addC {l : List Nat} {u : Nat} {v : Int} (e : v = u) (hl : l.length ≤ 2000) : Aug prog w .Add (.str (cS l)) (.str ⟨#[v.toNat]⟩) (.str (cS (l ++ [u]))) := by
  have h := Aug.addS (prog := prog) (w := w) (a := cS l) (b := ⟨#[v.toNat]⟩) (by rw [cS_len]; exact Nat.le_trans (Nat.add_le_add hl (Nat.le_refl 1)) (by decide))
  rw [show cS l ++ ⟨#[v.toNat]⟩ = cS (l ++ [u]) by rw [e, Int.toNat_natCast]; exact cS_append l [u]] at h
  exact h
theorem Aug.addU {l : List Nat} {u : Nat} (hl : l.length ≤ 2000) : Aug prog w .Add (.str (cS l)) (.str ⟨#[u]⟩) (.str (cS (l ++ [u]))) := Aug.addC (v := (u : Int)) rfl hl
theorem Aug.addW {l : List Bool} {u : Bool} (hl : l.length ≤ 2000) : Aug prog w .Add (.str (wS l)) (.str ⟨#[sgn u]⟩) (.str (wS (l ++ [u]))) := by
  rw [wS_cS, wS_cS, List.map_append]
  exact Aug.addU (by simpa using hl)
theorem starC {a : Const} {b : Nat} {p : Pos} {es : List Expr} {env : Env} : starEach (.Constant a b p :: es) env = (false, eval (.Constant a b p) env) :: starEach es env := rfl
theorem seqIndex_nat {k n : Nat} (h : k < n) : seqIndex? (k : Int) n = some k := by
  unfold seqIndex?
  have h0 : ¬ ((k : Int) < 0) := by omega
  have h1 : (decide ((0 : Int) ≤ (k : Int)) && decide ((k : Int) < (n : Int))) = true := by
    rw [decide_eq_true (by omega : (0 : Int) ≤ k), decide_eq_true (by omega : (k : Int) < n)]; rfl
  simp only [if_neg h0, h1, if_true, Int.toNat_natCast]
end
section
variable {prog : Program} {w : World} {mg mb : Str → Option Value}
set_option maxHeartbeats 2000000 in
theorem fn_typed {n k : Nat} (hk : k ≤ 100) (no : mg "ord" = none) (nc : mg "chr" = none) (nr : mg "range" = none) :
    Fn prog w fnsW mg mb 2 "_law_typed" [.int n, .int k] (.tup [.str (cS (tSigns k n)), .str (wS (tBits k n))]) := by
  refine Fn.go (i := 27) (names := ["number", "count"]) (k := 1) rfl (fun _ _ _ vs h => match vs, h with | [_, _], _ => rfl) rfl fun A L a code base av => ?_
  refine Exs.cons (Ex.assign (d := .str (cS [])) Ev.cstr (.inl rfl) nofun rfl) (Exs.cons (Ex.assign (d := .str (wS [])) Ev.cstr (.inl rfl) nofun rfl) ?_)
  refine Exs.sub (ρ' := [("signs", .str (cS (tSigns 0 n))), ("plain", .str (wS (tBits 0 n))), ("number", .int (n / 784 ^ 0 : Nat)), ("count", .int k)]) (subC rfl (subC rfl (subC (by rw [Nat.pow_zero, Nat.div_one]; rfl) (subC rfl subN)))) ?_
  refine Exs.cons (Ex.for (xs := upto k) (fun i => ([("signs", .str (cS (tSigns i n))), ("plain", .str (wS (tBits i n))), ("number", .int (n / 784 ^ i : Nat)), ("count", .int k)], none))
    (It.range (Ev.name rfl rfl) (by omega) (by omega) rfl nr rfl (by decide) rfl rfl) rfl (.inl rfl) nofun (fun _ => rfl) (fun b i d hd => .inl ?_) (fun _ => rfl) (fun _ _ => rfl)) ?_
  · have hi : i < k := by
      have := (List.getElem?_eq_some_iff.mp hd).1
      simpa [upto] using this
    dsimp only
    rw [tSigns_succ, tBits_succ]
    have hsl := tSigns_len i n
    have hbl : (tBits i n).length = i := by simp [tBits]
    rw [Nat.pow_succ, ← Nat.div_div_eq_div_mul]
    generalize tSigns i n = sg at *
    generalize tBits i n = bs at *
    generalize n / 784 ^ i = m
    refine Exs.cons (Ex.assign (d := .str ⟨#[sgn (bitOf m)]⟩) (Ev.sub Ev.cstr (Ev.modC (b := 2) (Ev.name rfl rfl) (by decide)) (Itm.str (by omega) (by omega) ?_) fun _ _ => rfl) (.inl rfl) nofun rfl) ?_
    · have hm : m % 2 = 0 ∨ m % 2 = 1 := by omega
      unfold bitOf
      rcases hm with e | e <;> rw [e] <;> rfl
    refine Exs.cons (Ex.assign (Ev.modC (b := 14) (Ev.divC (b := 2) (Ev.name rfl rfl) (by decide) rfl) (by decide)) (.inl rfl) nofun rfl) ?_
    refine Exs.cons (Ex.assign (Ev.modC (b := 28) (Ev.divC (b := 28) (Ev.name rfl rfl) (by decide) rfl) (by decide)) (.inl rfl) nofun rfl) ?_
    refine Exs.cons (Ex.assign (Ev.divC (b := 784) (Ev.name rfl rfl) (by decide) rfl) (.inl rfl) nofun rfl) ?_
    unfold tCps
    have h14 : m / 2 % 14 < 14 := Nat.mod_lt _ (by decide)
    generalize m / 28 % 28 = h
    generalize m / 2 % 14 = y at *
    generalize m / 784 = m'
    have hcs := sgn_lt (bitOf m)
    generalize bitOf m = x at *
    refine Exs.cons (Ex.ifv (y := decide ((h : Int) < 11)) "signs" (.str (cS (sg ++ hidCps h))) (Tst.cmp (Ev.name rfl rfl) Ev.cint Cmp.ltI rfl) (fun q => ?_) (fun q => ?_)) ?_
    · have hq : h < 11 := by have := of_decide_eq_true q; omega
      unfold hidCps
      rw [if_pos hq]
      have hv : hidL.getD h 0 < 0x110000 := by
        have : ∀ j < 11, hidL.getD j 0 < 0x110000 := by decide
        exact this h hq
      have hel : [D.int 173, .int 847, .int 6150, .int 6155, .int 6156, .int 6157, .int 8203, .int 8204, .int 8205, .int 8288, .int 65279][h]? = some (.int (hidL.getD h 0 : Nat)) := by
        have : ∀ j < 11, [D.int 173, .int 847, .int 6150, .int 6155, .int 6156, .int 6157, .int 8203, .int 8204, .int 8205, .int 8288, .int 65279][j]? = some (.int (hidL.getD j 0 : Nat)) := by
          intro j hj
          match j, hj with
          | 0, _ => rfl
          | 1, _ => rfl
          | 2, _ => rfl
          | 3, _ => rfl
          | 4, _ => rfl
          | 5, _ => rfl
          | 6, _ => rfl
          | 7, _ => rfl
          | 8, _ => rfl
          | 9, _ => rfl
          | 10, _ => rfl
        exact this h hq
      have itm : Itm prog w (.tup [D.int 173, .int 847, .int 6150, .int 6155, .int 6156, .int 6157, .int 8203, .int 8204, .int 8205, .int 8288, .int 65279]) (.int h) (.int (hidL.getD h 0 : Nat)) := Itm.tup (by omega) (by omega) (seqIndex_nat (n := 11) hq) hel
      generalize hidL.getD h 0 = hv0 at *
      refine Exs.cons (Ex.aug (d := .str (cS (sg ++ [hv0]))) rfl (b := .str ⟨#[((hv0 : Nat) : Int).toNat]⟩) ?e0 (Aug.addC (u := hv0) rfl (by omega)) (.inl rfl) nofun) Exs.nil
      refine Ev.bi (ds := [.int hv0]) ?e1 (Bi.chr ?e2) (Nat.le_refl _) rfl nc rfl (by decide) rfl ?e3 ?e4
      · refine Evs.cons ?_ ?_ ?_
        · refine @Ev.sub prog w fnsW mg mb _ _ _ _ _ _ (.tup [D.int 173, .int 847, .int 6150, .int 6155, .int 6156, .int 6157, .int 8203, .int 8204, .int 8205, .int 8288, .int 65279]) (.int h) (.int hv0) ?_ ?_ itm ?_
          · refine Ev.tup ?_ (by decide)
            refine Evs.cons Ev.cint ?_ (fun _ => starC)
            refine Evs.cons Ev.cint ?_ (fun _ => starC)
            refine Evs.cons Ev.cint ?_ (fun _ => starC)
            refine Evs.cons Ev.cint ?_ (fun _ => starC)
            refine Evs.cons Ev.cint ?_ (fun _ => starC)
            refine Evs.cons Ev.cint ?_ (fun _ => starC)
            refine Evs.cons Ev.cint ?_ (fun _ => starC)
            refine Evs.cons Ev.cint ?_ (fun _ => starC)
            refine Evs.cons Ev.cint ?_ (fun _ => starC)
            refine Evs.cons Ev.cint ?_ (fun _ => starC)
            refine Evs.cons Ev.cint ?_ (fun _ => starC)
            exact Evs.nil
          · exact Ev.name rfl rfl
          · exact fun _ _ => rfl
        · exact Evs.nil
        · exact fun _ => rfl
      · rw [decide_eq_false (by omega), decide_eq_false (by omega)]; rfl
      · exact fun _ => rfl
      · rfl
    · have hq : ¬ h < 11 := fun z => by rw [decide_eq_true (by omega)] at q; cases q
      refine Exs.cons (Ex.ifv (y := decide ((h : Int) < 27)) "signs" (.str (cS (sg ++ hidCps h))) (Tst.cmp (Ev.name rfl rfl) Ev.cint Cmp.ltI rfl) (fun q2 => ?_) (fun q2 => ?_)) Exs.nil
      · have hq2 : h < 27 := by have := of_decide_eq_true q2; omega
        unfold hidCps
        rw [if_neg hq, if_pos hq2]
        refine Exs.cons (Ex.aug rfl (Ev.bi (Evs.cons (Ev.bin Ev.cint (Ev.name rfl rfl) Bin.addI) Evs.nil (fun _ => rfl)) (Bi.chr ?_) (Nat.le_refl _) rfl nc rfl (by decide) rfl (fun _ => rfl) rfl) (Aug.addC (u := 65013 + h) (by omega) (by omega)) (.inl rfl) nofun) Exs.nil
        rw [decide_eq_false (by omega), decide_eq_false (by omega)]; rfl
      · have hq2 : ¬ h < 27 := fun z => by rw [decide_eq_true (by omega)] at q2; cases q2
        unfold hidCps
        rw [if_neg hq, if_neg hq2, List.append_nil]
        exact Exs.post Exs.nil (subC rfl fun _ _ e => e)
    have hsl2 : (sg ++ hidCps h).length ≤ 2 * i + 1 := by
      have : (hidCps h).length ≤ 1 := by unfold hidCps; split; simp; split <;> simp
      rw [List.length_append]; omega
    rw [← List.append_assoc]
    generalize sg ++ hidCps h = sg2 at *
    refine Exs.cons (Ex.ifv (y := (y : Int) == 0) "signs" (.str (cS (sg2 ++ [wayCp y (sgn x)]))) (Tst.cmp (Ev.name rfl rfl) Ev.cint Cmp.eqI rfl) (fun q => ?_) (fun q => ?_)) ?_
    · have hq : y = 0 := by have := eq_of_beq q; omega
      unfold wayCp
      rw [if_pos hq]
      exact Exs.cons (Ex.aug rfl (Ev.name rfl rfl) (Aug.addU (by omega)) (.inl rfl) nofun) Exs.nil
    · have hq : ¬ y = 0 := fun z => by subst z; cases q
      refine Exs.cons (Ex.ifv (y := (y : Int) == 1) "signs" (.str (cS (sg2 ++ [wayCp y (sgn x)]))) (Tst.cmp (Ev.name rfl rfl) Ev.cint Cmp.eqI rfl) (fun q1 => ?_) (fun q1 => ?_)) Exs.nil
      · have hq1 : y = 1 := by have := eq_of_beq q1; omega
        unfold wayCp
        rw [if_neg hq, if_pos hq1]
        refine Exs.cons (Ex.aug rfl (Ev.bi (Evs.cons (Ev.bin (Ev.bi (Evs.cons (Ev.name rfl rfl) Evs.nil (fun _ => rfl)) Bi.ord (Nat.le_refl _) rfl no rfl (by decide) rfl (fun _ => rfl) rfl) Ev.cint Bin.subI) Evs.nil (fun _ => rfl)) (Bi.chr ?_) (Nat.le_refl _) rfl nc rfl (by decide) rfl (fun _ => rfl) rfl) (Aug.addC (u := sgn x - 32) (by omega) (by omega)) (.inl rfl) nofun) Exs.nil
        rw [decide_eq_false (by omega), decide_eq_false (by omega)]; rfl
      · have hq1 : ¬ y = 1 := fun z => by subst z; cases q1
        refine Exs.cons (Ex.ifv (y := decide ((y : Int) < 12)) "signs" (.str (cS (sg2 ++ [wayCp y (sgn x)]))) (Tst.cmp (Ev.name rfl rfl) Ev.cint Cmp.ltI rfl) (fun q2 => ?_) (fun q2 => ?_)) Exs.nil
        · have hq2 : y < 12 := by have := of_decide_eq_true q2; omega
          have hel : [D.int 0, .int 1, .int 2, .int 4, .int 7, .int 8, .int 9, .int 10, .int 11, .int 12][y - 2]? = some (.int (matL.getD (y - 2) 0 : Nat)) := by
            have : ∀ j < 10, [D.int 0, .int 1, .int 2, .int 4, .int 7, .int 8, .int 9, .int 10, .int 11, .int 12][j]? = some (.int (matL.getD j 0 : Nat)) := by
              intro j hj
              match j, hj with
              | 0, _ => rfl
              | 1, _ => rfl
              | 2, _ => rfl
              | 3, _ => rfl
              | 4, _ => rfl
              | 5, _ => rfl
              | 6, _ => rfl
              | 7, _ => rfl
              | 8, _ => rfl
              | 9, _ => rfl
            exact this _ (by omega)
          have hml : matL.getD (y - 2) 0 ≤ 12 := by
            have : ∀ j < 10, matL.getD j 0 ≤ 12 := by decide
            exact this _ (by omega)
          have hidx : ((y : Int) - 2) = ((y - 2 : Nat) : Int) := by omega
          unfold wayCp
          rw [if_neg hq, if_neg hq1, if_pos hq2]
          generalize matL.getD (y - 2) 0 = ml at *
          have itm : Itm prog w (.tup [D.int 0, .int 1, .int 2, .int 4, .int 7, .int 8, .int 9, .int 10, .int 11, .int 12]) (.int ((y : Int) - 2)) (.int ml) := Itm.tup (j := y - 2) (by omega) (by omega) (by rw [hidx]; exact seqIndex_nat (n := 10) (by omega)) hel
          refine Exs.cons (Ex.aug (d := .str (cS (sg2 ++ [119808 + 52 * ml + sgn x - 97]))) rfl (b := .str ⟨#[(119808 + 52 * (ml : Int) + sgn x - 97).toNat]⟩) ?u0 (Aug.addC (by omega) (by omega)) (.inl rfl) nofun) Exs.nil
          refine Ev.bi (ds := [.int (119808 + 52 * (ml : Int) + sgn x - 97)]) ?u1 (Bi.chr ?u2) (Nat.le_refl _) rfl nc rfl (by decide) rfl ?u3 ?u4
          · refine Evs.cons ?_ ?_ ?_
            · refine Ev.bin (Ev.bin (Ev.bin Ev.cint (Ev.bin Ev.cint ?_ (Bin.mulI (mulOk (by decide)))) Bin.addI) ?_ Bin.addI) Ev.cint Bin.subI
              · refine @Ev.sub prog w fnsW mg mb _ _ _ _ _ _ (.tup [D.int 0, .int 1, .int 2, .int 4, .int 7, .int 8, .int 9, .int 10, .int 11, .int 12]) (.int ((y : Int) - 2)) (.int ml) ?_ ?_ itm ?_
                · refine Ev.tup ?_ (by decide)
                  refine Evs.cons Ev.cint ?_ (fun _ => starC)
                  refine Evs.cons Ev.cint ?_ (fun _ => starC)
                  refine Evs.cons Ev.cint ?_ (fun _ => starC)
                  refine Evs.cons Ev.cint ?_ (fun _ => starC)
                  refine Evs.cons Ev.cint ?_ (fun _ => starC)
                  refine Evs.cons Ev.cint ?_ (fun _ => starC)
                  refine Evs.cons Ev.cint ?_ (fun _ => starC)
                  refine Evs.cons Ev.cint ?_ (fun _ => starC)
                  refine Evs.cons Ev.cint ?_ (fun _ => starC)
                  refine Evs.cons Ev.cint ?_ (fun _ => starC)
                  exact Evs.nil
                · exact Ev.bin (Ev.name rfl rfl) Ev.cint Bin.subI
                · exact fun _ _ => rfl
              · exact Ev.bi (Evs.cons (Ev.name rfl rfl) Evs.nil (fun _ => rfl)) Bi.ord (Nat.le_refl _) rfl no rfl (by decide) rfl (fun _ => rfl) rfl
            · exact Evs.nil
            · exact fun _ => rfl
          · rw [decide_eq_false (by omega), decide_eq_false (by omega)]; rfl
          · exact fun _ => rfl
          · rfl
        · have hq2 : ¬ y < 12 := fun z => by rw [decide_eq_true (by omega)] at q2; cases q2
          unfold wayCp
          rw [if_neg hq, if_neg hq1, if_neg hq2]
          refine Exs.cons (Ex.aug rfl (Ev.bi (Evs.cons (Ev.bin (Ev.bin Ev.cint (Ev.bi (Evs.cons (Ev.name rfl rfl) Evs.nil (fun _ => rfl)) Bi.ord (Nat.le_refl _) rfl no rfl (by decide) rfl (fun _ => rfl) rfl) Bin.addI) (Ev.bin Ev.cint (Ev.bin (Ev.name rfl rfl) Ev.cint Bin.subI) (Bin.mulI (mulOk (by decide)))) Bin.subI) Evs.nil (fun _ => rfl)) (Bi.chr ?_) (Nat.le_refl _) rfl nc rfl (by decide) rfl (fun _ => rfl) rfl) (Aug.addC (u := 917504 + sgn x - 32 * (y - 12)) (by omega) (by omega)) (.inl rfl) nofun) Exs.nil
          rw [decide_eq_false (by omega), decide_eq_false (by omega)]; rfl
    exact Exs.post (Exs.cons (Ex.aug rfl (Ev.name rfl rfl) (Aug.addW (by omega)) (.inl rfl) nofun) Exs.nil) (subC rfl (subC rfl (subC rfl (subC rfl subN))))
  · have e2 : (upto (k : Int)).length = k := by simp [upto]
    rw [e2]
    exact Exs.ret (Ex.ret (Ev.tup (Evs.cons (Ev.name rfl rfl) (Evs.cons (Ev.name rfl rfl) Evs.nil (fun _ => rfl)) (fun _ => rfl)) (Nat.le_of_ble_eq_true rfl)))
end
end Wu
end
section
namespace Wu
open PySem PySem.Spec PySem.Calls PyProof.Rows PySem.W

theorem signs_c (l : List Nat) : signs (cS l) = l.map fun n => .str ⟨#[n]⟩ := by
  unfold signs cS; simp
noncomputable def rStep (p : List Str × Str) (n : Nat) : List Str × Str :=
  if decide ((n : Int) ∈ b1L) = true then p
  else if decide ((n : Int) ∈ c7L) = true then (p.1 ++ [p.2], cS [])
  else if decide ((n : Int) ∈ c9L) = true then (p.1, p.2 ++ b3S (n - 917504))
  else (p.1, p.2 ++ b3S n)
noncomputable def readS (l : List Nat) : List Str × Str := l.foldl rStep ([], cS [])
theorem readS_snoc (l : List Nat) (n : Nat) : readS (l ++ [n]) = rStep (readS l) n := by
  unfold readS; rw [List.foldl_append]; rfl
theorem b3L_len : (b3L.all fun p => decide (p.2.length ≤ 20)) = true := by decide +kernel
theorem b3S_len (n : Nat) : (b3S n).length ≤ 20 := by
  unfold b3S
  cases h : b3L.find? (fun p => p.1 == (n : Int)) with
  | some p => exact of_decide_eq_true (List.all_eq_true.mp b3L_len p (List.mem_of_find?_eq_some h))
  | none =>
    have := len_lower ⟨#[n]⟩
    exact Nat.le_trans this (show 3 * 1 ≤ 20 by decide)
theorem sApp_len (a b : Str) : (a ++ b).length = a.length + b.length := Str.length_append a b
theorem rStep_len (p : List Str × Str) (n : Nat) : (rStep p n).1.length ≤ p.1.length + 1 ∧ (rStep p n).2.length ≤ p.2.length + 20 := by
  unfold rStep
  split
  · omega
  · split
    · refine ⟨?_, ?_⟩
      · rw [List.length_append, List.length_singleton]; omega
      · show (cS []).length ≤ _
        rw [cS_len]; exact Nat.zero_le _
    · split
      · have := b3S_len (n - 917504)
        refine ⟨by dsimp only; omega, ?_⟩
        dsimp only; rw [sApp_len]; omega
      · have := b3S_len n
        refine ⟨by dsimp only; omega, ?_⟩
        dsimp only; rw [sApp_len]; omega
theorem foldS_len : ∀ (l : List Nat) (p : List Str × Str), (l.foldl rStep p).1.length ≤ p.1.length + l.length ∧ (l.foldl rStep p).2.length ≤ p.2.length + 20 * l.length
  | [], p => ⟨Nat.le_refl _, Nat.le_refl _⟩
  | n :: l, p => by
    have h1 := rStep_len p n
    have h2 := foldS_len l (rStep p n)
    rw [List.foldl_cons, List.length_cons]
    omega
theorem readS_len (l : List Nat) : (readS l).1.length ≤ l.length ∧ (readS l).2.length ≤ 20 * l.length := by
  have h := foldS_len l ([], cS [])
  rw [cS_len] at h
  unfold readS
  simpa using h
theorem c9_ge {n : Nat} (h : (n : Int) ∈ c9L) : 917505 ≤ n ∧ n < 917632 := by
  unfold c9L at h
  rcases List.mem_cons.mp h with h | h
  · omega
  · obtain ⟨k, hk, e⟩ := List.mem_map.mp h
    have := List.mem_range.mp hk
    omega

section
variable {prog : Program} {w : World} {mg mb : Str → Option Value}
set_option maxHeartbeats 2000000 in
theorem fn_read {l : List Nat} (hz : l.length ≤ 500) (no : mg "ord" = none) (nc : mg "chr" = none) : Fn prog w fnsW mg mb 3 "_law_read" [.str (cS l)] (.lst (((readS l).1 ++ [(readS l).2]).map .str)) := by
  refine Fn.go (i := 28) (names := ["line"]) (k := 2) rfl (fun _ _ _ vs h => match vs, h with | [_], _ => rfl) rfl fun A L a code base av => ?_
  refine Exs.own EvN.nil (.inl rfl) rfl rfl fun la => ?_
  refine Exs.cons (Ex.assign (d := .str (cS [])) Ev.cstr (.inl rfl) nofun rfl) ?_
  refine Exs.cons (Ex.for (xs := signs (cS l)) (fun i => ([("word", .str (readS (l.take i)).2), ("line", .str (cS l))], some ("words", la, (readS (l.take i)).1.map .str)))
    (It.str (Ev.name rfl rfl)) rfl (.inl rfl) nofun (fun _ => rfl) (fun b i d hd => ?_) (fun _ => rfl) (fun _ _ => rfl)) ?_
  · rw [signs_c, List.getElem?_map] at hd
    cases hb : l[i]? with
    | none => rw [hb] at hd; cases hd
    | some n =>
      rw [hb] at hd
      cases hd
      have e1 : l.take (i + 1) = l.take i ++ [n] := by rw [List.take_add_one, hb]; rfl
      have hlen := readS_len (l.take i)
      have hli : (l.take i).length ≤ 500 := Nat.le_trans (List.length_take_le ..) (by
        have := (List.getElem?_eq_some_iff.mp hb).1; omega)
      dsimp only
      rw [e1, readS_snoc]
      obtain ⟨hl1, hl2⟩ := hlen
      generalize readS (l.take i) = p at *
      obtain ⟨ws, wd⟩ := p
      dsimp only at hl1 hl2 ⊢
      have cb1 : ∀ {c : Fx} {ρ : PEnv} {o : Own} {xp pp q : Pos} (_ : ρ.lookup ("sign" : Str) = some (.str ⟨#[n]⟩)) (_ : 2 ≤ c.k) (_ : c.env.kindOf ("in_table_b1" : Str) = some .globalImplicit), Tst prog w fnsW mg mb c ρ o (.Call (.Name "in_table_b1" xp) [.Name "sign" pp] [] q) (decide ((n : Int) ∈ b1L)) := by
        intro c ρ o xp pp q a1 a2 a3
        exact Tst.ev (Ev.call (Evs.cons (Ev.name a1 rfl) Evs.nil (fun _ => rfl)) (fn_in_b1 no) ⟨dr 19, dr_mem rfl, rfl⟩ a2 a3 rfl (fun _ => rfl)) (fun _ _ => rfl)
      have cc7 : ∀ {c : Fx} {ρ : PEnv} {o : Own} {xp pp q : Pos} (_ : ρ.lookup ("sign" : Str) = some (.str ⟨#[n]⟩)) (_ : 2 ≤ c.k) (_ : c.env.kindOf ("in_table_c7" : Str) = some .globalImplicit), Tst prog w fnsW mg mb c ρ o (.Call (.Name "in_table_c7" xp) [.Name "sign" pp] [] q) (decide ((n : Int) ∈ c7L)) := by
        intro c ρ o xp pp q a1 a2 a3
        exact Tst.ev (Ev.call (Evs.cons (Ev.name a1 rfl) Evs.nil (fun _ => rfl)) (fn_in_c7 no) ⟨dr 23, dr_mem rfl, rfl⟩ a2 a3 rfl (fun _ => rfl)) (fun _ _ => rfl)
      have cc9 : ∀ {c : Fx} {ρ : PEnv} {o : Own} {xp pp q : Pos} (_ : ρ.lookup ("sign" : Str) = some (.str ⟨#[n]⟩)) (_ : 2 ≤ c.k) (_ : c.env.kindOf ("in_table_c9" : Str) = some .globalImplicit), Tst prog w fnsW mg mb c ρ o (.Call (.Name "in_table_c9" xp) [.Name "sign" pp] [] q) (decide ((n : Int) ∈ c9L)) := by
        intro c ρ o xp pp q a1 a2 a3
        exact Tst.ev (Ev.call (Evs.cons (Ev.name a1 rfl) Evs.nil (fun _ => rfl)) (fn_in_c9 no) ⟨dr 25, dr_mem rfl, rfl⟩ a2 a3 rfl (fun _ => rfl)) (fun _ _ => rfl)
      have add : ∀ m, wd.length + (b3S m).length ≤ sizeLine := fun m => by
        have := b3S_len m
        exact Nat.le_trans (Nat.add_le_add (show wd.length ≤ 10000 by omega) this) (by decide)
      unfold rStep
      cases h1 : decide ((n : Int) ∈ b1L) with
      | true =>
        right
        rw [if_pos rfl]
        refine Exs.cont (Ex.if (x := true) (h1 ▸ cb1 rfl (Nat.le_refl _) rfl) (fun _ => Exs.sub ?_ (Exs.cont Ex.cont)) nofun)
        exact subC rfl (subC rfl subN)
      | false =>
        left
        rw [if_neg Bool.false_ne_true]
        refine Exs.cons (Ex.if (x := false) (h1 ▸ cb1 rfl (Nat.le_refl _) rfl) nofun (fun _ => Exs.nil)) ?_
        refine Exs.cons (Ex.if (x := decide ((n : Int) ∈ c7L)) (cc7 rfl (Nat.le_refl _) rfl) (fun q => ?_) (fun q => ?_)) Exs.nil
        · rw [if_pos q, List.map_append]
          refine Exs.cons (Ex.append (Ev.name rfl rfl) (by rw [List.length_map]; omega) rfl rfl rfl rfl rfl rfl rfl) ?_
          exact Exs.post (Exs.cons (Ex.assign (d := .str (cS [])) Ev.cstr (.inl rfl) nofun rfl) Exs.nil) (subC rfl (subC rfl subN))
        · rw [if_neg (by rw [q]; exact Bool.false_ne_true)]
          refine Exs.cons (Ex.if (x := decide ((n : Int) ∈ c9L)) (cc9 rfl (Nat.le_refl _) rfl) (fun q => ?_) (fun q => ?_)) Exs.nil
          · rw [if_pos q]
            have hc9 := c9_ge (of_decide_eq_true q)
            have hch : Bi prog w (.builtin "chr") [.int ((n : Int) - 917504)] (.str ⟨#[n - 917504]⟩) := by
              have := Bi.chr (prog := prog) (w := w) (i := (n : Int) - 917504) (by rw [decide_eq_false (by omega), decide_eq_false (by omega)]; rfl)
              rw [show ((n : Int) - 917504).toNat = n - 917504 by omega] at this
              exact this
            refine Exs.post (Exs.cons (Ex.aug rfl (Ev.call (Evs.cons (Ev.bi (Evs.cons (Ev.bin (Ev.bi (Evs.cons (Ev.name rfl rfl) Evs.nil (fun _ => rfl)) Bi.ord (Nat.le_succ 1) rfl no rfl (by decide) rfl (fun _ => rfl) rfl) Ev.cint Bin.subI) Evs.nil (fun _ => rfl)) hch (Nat.le_succ 1) rfl nc rfl (by decide) rfl (fun _ => rfl) rfl) Evs.nil (fun _ => rfl)) (fn_b3 no) ⟨dr 21, dr_mem rfl, rfl⟩ (Nat.le_refl _) rfl rfl (fun _ => rfl)) (Aug.addS (add _)) (.inl rfl) nofun) Exs.nil) ?_
            exact subC rfl (subC rfl subN)
          · rw [if_neg (by rw [q]; exact Bool.false_ne_true)]
            refine Exs.post (Exs.cons (Ex.aug rfl (Ev.call (Evs.cons (Ev.name rfl rfl) Evs.nil (fun _ => rfl)) (fn_b3 no) ⟨dr 21, dr_mem rfl, rfl⟩ (Nat.le_refl _) rfl rfl (fun _ => rfl)) (Aug.addS (add _)) (.inl rfl) nofun) Exs.nil) ?_
            exact subC rfl (subC rfl subN)
  · have e2 : (signs (cS l)).length = l.length := by rw [signs_c]; simp
    rw [e2, List.take_length, List.map_append]
    have hlen := readS_len l
    refine Exs.freeze (Exs.ret (Ex.ret (Ev.bin (Ev.name rfl rfl) (Ev.lst (Evs.cons (Ev.name rfl rfl) Evs.nil (fun _ => rfl)) (Nat.le_of_ble_eq_true rfl)) (Bin.addL ?_))))
    rw [List.length_map]; exact Nat.add_le_add (show _ ≤ 500 by omega) (show _ ≤ 500 from Nat.le_of_ble_eq_true rfl)
end
end Wu
end
section
namespace Wu
open PySem PySem.Spec PySem.Calls PyProof.Rows PySem.W

/-- the law's statements -/
noncomputable def lawS (i : Nat) : Stmt := match (dr 34).body[i]? with
  | some s => s
  | none => .Pass ⟨0, 0, 0, 0⟩
theorem law_body : (dr 34).body = [lawS 0, lawS 1, lawS 2, lawS 3, lawS 4, lawS 5, lawS 6, lawS 7, lawS 8, lawS 9, lawS 10, lawS 11, lawS 12, lawS 13, lawS 14, lawS 15, lawS 16, lawS 17, lawS 18, lawS 19, lawS 20, lawS 21, lawS 22, lawS 23, lawS 24, lawS 25, lawS 26, lawS 27, lawS 28, lawS 29, lawS 30, lawS 31, lawS 32, lawS 33, lawS 34, lawS 35, lawS 36, lawS 37, lawS 38] := rfl
/-- the law's frame -/
noncomputable abbrev lawC (A : Around) (L a : Addr) (code : Value) (base : Heap) (av : List Addr) : Fx := ⟨A, envOfC (dr 34).name (dr 34).scope L a code, base, av, 20⟩

theorem lkC {α : Type} {P : Str → α → Prop} {ρ : List (Str × α)} {k : Str} {d : α} (h : P k d) (hr : ∀ y d, ρ.lookup y = some d → P y d) : ∀ y d', ((k, d) :: ρ).lookup y = some d' → P y d' := fun y d' e => by
  rw [List.lookup_cons] at e
  cases q : y == k with
  | true => rw [q] at e; cases e; rw [beq_iff_eq.mp q]; exact h
  | false => rw [q] at e; exact hr y d' e
theorem lkN {α : Type} {P : Str → α → Prop} : ∀ (y : Str) (d : α), ([] : List (Str × α)).lookup y = some d → P y d := fun _ _ e => by cases e

noncomputable def ownL : List Int := [2456074, 1357, 2370914, 297766, 1779022]
noncomputable def pickI (xs : List Int) (lo hi st : Option Int) : List Int := (sliceRange (sliceBounds lo hi st xs.length).1 (sliceBounds lo hi st xs.length).2.1 (sliceBounds lo hi st xs.length).2.2).filterMap (xs[·]?)
theorem pickD_map (xs : List Int) (lo hi st : Option Int) : pickD (xs.map .int) lo hi st = (pickI xs lo hi st).map .int := by
  unfold pickD pickI
  rw [List.length_map, List.map_filterMap]
  congr 1
  funext i
  rw [List.getElem?_map]
noncomputable def lawN (script : List Int) (k : Nat) : Nat := ((ownL.getD k 0 + (pickI script (some (k : Int)) (some 60) (some 5)).sum).fmod 1000000000000).toNat

section
variable {prog : Program} {w : World} {fns : List DefRec} {mg mb : Str → Option Value} {c : Fx} {ρ : PEnv} {o : Own}
theorem Ev.slcI {e : Expr} {lo hi st : Option Expr} {p pos : Pos} {xs : List Int} {l u k : Option Int} (h : Ev prog w fns mg mb c ρ o e (.lst (xs.map .int))) (hl : Pt prog w fns mg mb c ρ o lo l) (hu : Pt prog w fns mg mb c ρ o hi u) (hk : Pt prog w fns mg mb c ρ o st k)
    (h0 : k ≠ some 0) (hz : xs.length ≤ 1000) (hs : ∀ x y, ∃ ops, subscripted (.Slice lo hi st p) false x y = operate ops (getItem x y)) : Ev prog w fns mg mb c ρ o (.Subscript e (.Slice lo hi st p) pos) (.lst ((pickI xs l u k).map .int)) := by
  rw [← pickD_map]
  exact Ev.slcL h hl hu hk h0 (by simpa using hz) hs
theorem Bin.modT {a : Int} {b : Nat} (hb : b ≠ 0) : Bin prog w .Mod (.int a) (.int b) (.int ((a.fmod b).toNat : Nat)) := by
  have h := Bin.modI (prog := prog) (w := w) (a := a) (b := b) (by omega)
  have e : ((a.fmod b).toNat : Int) = a.fmod b := Int.toNat_of_nonneg (Int.fmod_nonneg_of_pos a (by omega))
  rw [e]; exact h
theorem Bin.addN {a b : Nat} : Bin prog w .Add (.int a) (.int b) (.int ((a + b : Nat) : Int)) := by
  have := Bin.addI (prog := prog) (w := w) (a := a) (b := b)
  rw [← Int.natCast_add] at this
  exact this
theorem pow12 : (10 : Int) ^ (12 : Int).toNat = ((1000000000000 : Nat) : Int) := by decide
theorem Bin.pow12 : Bin prog w .Pow (.int 10) (.int 12) (.int ((1000000000000 : Nat) : Int)) := by
  have h := Bin.powI (prog := prog) (w := w) (a := 10) (n := 12) (by decide) (by decide) (by decide)
  rw [Wu.pow12] at h; exact h
end

section
variable {prog : Program} {w : World} {mg mb : Str → Option Value} {A : Around} {L a : Addr} {code : Value} {base : Heap} {av : List Addr} {ρ : PEnv}
theorem cellL {x : Str} (h : (envOfC (dr 34).name (dr 34).scope L a code).kindOf x = some .cell) (h2 : ((cellsFrom (L + 1) (dr 34).scope.names []).lookup x).isSome = true) : Storable (lawC A L a code base av).env x :=
  .inr ⟨h, Option.isSome_iff_exists.mp h2⟩
theorem law0 : Ex prog w fnsW mg mb (lawC A L a code base av) ρ none (lawS 0) (.next (("own", .tup (ownL.map .int)) :: ρ) none) := by
  refine Ex.assign (Ev.tup ?_ (Nat.le_of_ble_eq_true rfl)) (cellL rfl rfl) nofun rfl
  exact Evs.cons Ev.cint (Evs.cons Ev.cint (Evs.cons Ev.cint (Evs.cons Ev.cint (Evs.cons Ev.cint Evs.nil (fun _ => starC)) (fun _ => starC)) (fun _ => starC)) (fun _ => starC)) (fun _ => starC)
theorem own_get {i : Nat} (h : i < 5) : (ownL.map D.int)[i]? = some (.int (ownL.getD i 0)) := by
  rw [List.getElem?_map, List.getD_eq_getElem?_getD]
  have : i < ownL.length := h
  rw [List.getElem?_eq_getElem this]; rfl
noncomputable def nums (script : List Int) : List D := (List.range 5).map fun k => .int (lawN script k : Nat)
theorem law1 {script : List Int} (hz : script.length ≤ 1000) (nr : mg "range" = none) (ns : mg "sum" = none) (h1 : ρ.lookup ("own" : Str) = some (.tup (ownL.map .int))) (h2 : ρ.lookup ("script" : Str) = some (.lst (script.map .int))) :
    Ex prog w fnsW mg mb (lawC A L a code base av) ρ none (lawS 1) (.next (("numbers", .lst (nums script)) :: ρ) none) := by
  refine Ex.assign (EvN.ev (EvN.comp (ρ₀ := [("own", .tup (ownL.map .int)), ("script", .lst (script.map .int))]) (It.it2 (It.range Ev.cint (by decide) (by decide) rfl nr rfl (by decide) rfl rfl) (fun _ _ => rfl)) rfl (Nat.le_of_ble_eq_true rfl) rfl (fun _ => rfl) rfl (by decide) (by decide)
    (lkC rfl (lkC rfl lkN)) (lkC ⟨h1, rfl, fun _ => rfl, rfl⟩ (lkC ⟨h2, rfl, fun _ => rfl, rfl⟩ lkN)) fun C Dd sq i d hd => ?_)) (cellL rfl rfl) nofun rfl
  have hi : i < 5 := (List.getElem?_eq_some_iff.mp hd).1
  have hd' : d = .int (i : Nat) := by
    unfold upto at hd
    rw [List.getElem?_map, List.getElem?_range (by exact hi)] at hd
    cases hd; rfl
  subst hd'
  refine ⟨.int (lawN script i : Nat), _, ?_, Asg.name rfl, ?_⟩
  · unfold nums; rw [List.getElem?_map, List.getElem?_range hi]; rfl
  · unfold lawN
    refine Ev.bin (Ev.bin (Ev.sub (a := .tup (ownL.map .int)) (b := .int (i : Nat)) (Ev.name rfl rfl) (Ev.name rfl rfl) (Itm.tup (by omega) (by omega) (seqIndex_nat hi) (own_get hi)) fun _ _ => rfl) ?_ Bin.addI) (Ev.bin Ev.cint Ev.cint Bin.pow12) (Bin.modT (b := 1000000000000) (by decide))
    exact Ev.bi (Evs.cons (Ev.slcI (xs := script) (Ev.name rfl rfl) (Pt.some (Ev.name rfl rfl)) (Pt.some Ev.cint) (Pt.some Ev.cint) (by decide) hz (fun _ _ => ⟨_, rfl⟩)) Evs.nil (fun _ => rfl)) Bi.sum (Nat.le_of_ble_eq_true rfl) rfl ns rfl (by decide) rfl (fun _ => rfl) rfl

/-- a word as it is typed -/
noncomputable def tyD (S : List Nat) (W : List Bool) : D := .tup [.str (cS S), .str (wS W)]
/-- the letters' number of a word, and what they are told by -/
noncomputable def lenOf (n k : Nat) : Nat := if k < 4 then n % 4 else 1 + n % 3
noncomputable def pathOf (n k : Nat) : Nat := if k < 4 then n / 4 else n / 3
noncomputable def wordOf (script : List Int) (k : Nat) : List Bool := tBits (lenOf (lawN script k) k) (pathOf (lawN script k) k)
noncomputable def signsOf (script : List Int) (k : Nat) : List Nat := tSigns (lenOf (lawN script k) k) (pathOf (lawN script k) k)
noncomputable def typedD (script : List Int) (n : Nat) : List D := (List.range n).map fun k => tyD (signsOf script k) (wordOf script k)

theorem law23 {script : List Int} {rest : List Stmt} {r : Res} (no : mg "ord" = none) (nc : mg "chr" = none) (nr : mg "range" = none) (h1 : ρ.lookup ("numbers" : Str) = some (.lst (nums script))) (h0 : ρ.lookup ("typed" : Str) = none)
    (h : Exs prog w fnsW mg mb (lawC A L a code base av) (("typed", .lst (typedD script 5)) :: ρ) none rest r) :
    Exs prog w fnsW mg mb (lawC A L a code base av) ρ none (lawS 2 :: lawS 3 :: rest) r := by
  refine Exs.own (ds := typedD script 4) (EvN.comp (ρ₀ := []) (It.it2 (It.lst (Ev.slcL (l := none) (u := some 4) (k := none) (Ev.name h1 rfl) Pt.none (Pt.some Ev.cint) Pt.none (by decide) (Nat.le_of_ble_eq_true rfl) (fun _ _ => ⟨_, rfl⟩))) (fun _ _ => rfl)) rfl (Nat.le_of_ble_eq_true rfl) rfl (fun _ => rfl) rfl (by decide) (by decide)
    lkN lkN fun C Dd sq i d hd => ?_) (cellL rfl rfl) h0 rfl fun ta => ?_
  · have hp : pickD (nums script) none (some 4) none = (List.range 4).map fun k => .int (lawN script k : Nat) := rfl
    rw [hp, List.getElem?_map] at hd
    have hi : i < 4 := by
      cases q : (List.range 4)[i]? with
      | none => rw [q] at hd; cases hd
      | some j => have := (List.getElem?_eq_some_iff.mp q).1; simpa using this
    rw [List.getElem?_range hi] at hd
    cases hd
    refine ⟨tyD (signsOf script i) (wordOf script i), _, ?_, Asg.name rfl, ?_⟩
    · unfold typedD; rw [List.getElem?_map, List.getElem?_range hi]; rfl
    · unfold signsOf wordOf lenOf pathOf
      rw [if_pos hi, if_pos hi]
      have hm := Nat.mod_lt (lawN script i) (show 4 > 0 by decide)
      exact Ev.call (Evs.cons (Ev.divC (b := 4) (Ev.name rfl rfl) (by decide) rfl) (Evs.cons (Ev.modC (b := 4) (Ev.name rfl rfl) (by decide)) Evs.nil (fun _ => rfl)) (fun _ => rfl)) (fn_typed (by omega) no nc nr) ⟨dr 27, dr_mem rfl, rfl⟩ (Nat.le_of_ble_eq_true rfl) rfl rfl (fun _ => rfl)
  · have e5 : typedD script 5 = typedD script 4 ++ [tyD (signsOf script 4) (wordOf script 4)] := rfl
    rw [e5] at h
    have n4 : ∀ {p q : Pos} {cc : Nat} {o : Own}, Ev prog w fnsW mg mb (lawC A L a code base av) ρ o (.Subscript (.Name "numbers" p) (.Constant (.int 4) cc q) q) (.int (lawN script 4 : Nat)) := by
      intro p q cc o
      exact Ev.sub (Ev.name h1 rfl) Ev.cint (Itm.lst (k := 4) (by decide) rfl) fun _ _ => rfl
    refine Exs.cons (Ex.append (d := tyD (signsOf script 4) (wordOf script 4)) ?_ (Nat.le_of_ble_eq_true rfl) rfl rfl rfl rfl rfl rfl rfl) (Exs.freeze h)
    unfold signsOf wordOf
    have e1 : lenOf (lawN script 4) 4 = 1 + lawN script 4 % 3 := rfl
    have e2 : pathOf (lawN script 4) 4 = lawN script 4 / 3 := rfl
    rw [e1, e2]
    have hm := Nat.mod_lt (lawN script 4) (show 3 > 0 by decide)
    refine Ev.call (Evs.cons (Ev.divC (b := 3) (Ev.sub (Ev.name h1 rfl) Ev.cint (Itm.lst (k := 4) (by decide) rfl) fun _ _ => rfl) (by decide) rfl) (Evs.cons (Ev.bin Ev.cint (Ev.modC (b := 3) (Ev.sub (Ev.name h1 rfl) Ev.cint (Itm.lst (k := 4) (by decide) rfl) fun _ _ => rfl) (by decide)) (Bin.addN (a := 1))) Evs.nil (fun _ => rfl)) (fun _ => rfl)) (fn_typed (by omega) no nc nr) ⟨dr 27, dr_mem rfl, rfl⟩ (Nat.le_of_ble_eq_true rfl) rfl rfl (fun _ => rfl)
end
end Wu
end
section
namespace Wu
open PySem PySem.Spec PySem.Calls PyProof.Rows PySem.W

noncomputable def partCps (script : List Int) (k : Nat) : List Nat := (12272 + lawN script k % 12) :: signsOf script k
noncomputable def lineCps (script : List Int) : List Nat := partCps script 0 ++ (partCps script 1 ++ (partCps script 2 ++ (partCps script 3 ++ partCps script 4)))
theorem all2 {α : Type} {P : α → Prop} {x y : α} (h1 : P x) (h2 : P y) : ∀ p ∈ [x, y], P p := fun p hp => by
  rcases List.mem_cons.mp hp with rfl | hp
  · exact h1
  · rw [List.mem_singleton.mp hp]; exact h2
theorem cS_inj {x y : Str} (h : x.cps.toList = y.cps.toList) : x = y := by
  obtain ⟨⟨a⟩⟩ := x
  obtain ⟨⟨b⟩⟩ := y
  have : a = b := h
  rw [this]
theorem join5 (a b c d e : List Nat) : Txt.join "" [cS a, cS b, cS c, cS d, cS e] = cS (a ++ (b ++ (c ++ (d ++ e)))) := by
  have hs : (("" : String) : Str) = ⟨#[]⟩ := by decide +kernel
  rw [hs]
  apply cS_inj
  simp [Txt.join, Builtin.Str.glued, cS]
theorem signsOf_len (script : List Int) (k : Nat) : (signsOf script k).length ≤ 6 := by
  unfold signsOf
  have h := tSigns_len (lenOf (lawN script k) k) (pathOf (lawN script k) k)
  have h2 : lenOf (lawN script k) k ≤ 3 := by
    unfold lenOf; split <;> omega
  omega
theorem wordOf_len (script : List Int) (k : Nat) : (wordOf script k).length ≤ 3 := by
  unfold wordOf tBits
  rw [List.length_map, List.length_range]
  unfold lenOf; split <;> omega
theorem partCps_len (script : List Int) (k : Nat) : (partCps script k).length ≤ 7 := by
  unfold partCps; rw [List.length_cons]; have := signsOf_len script k; omega
theorem lineCps_len (script : List Int) : (lineCps script).length ≤ 35 := by
  unfold lineCps
  simp only [List.length_append]
  have h0 := partCps_len script 0
  have h1 := partCps_len script 1
  have h2 := partCps_len script 2
  have h3 := partCps_len script 3
  have h4 := partCps_len script 4
  omega

section
variable {prog : Program} {w : World} {mg mb : Str → Option Value} {A : Around} {L a : Addr} {code : Value} {base : Heap} {av : List Addr} {ρ : PEnv}
theorem nums_get {script : List Int} {i : Nat} (h : i < 5) : (nums script)[i]? = some (.int (lawN script i : Nat)) := by
  unfold nums; rw [List.getElem?_map, List.getElem?_range h]; rfl
theorem typed_get {script : List Int} {n i : Nat} (h : i < n) : (typedD script n)[i]? = some (tyD (signsOf script i) (wordOf script i)) := by
  unfold typedD; rw [List.getElem?_map, List.getElem?_range h]; rfl
theorem law4 {script : List Int} (nc : mg "chr" = none) (nr : mg "range" = none) (h1 : ρ.lookup ("numbers" : Str) = some (.lst (nums script))) (h2 : ρ.lookup ("typed" : Str) = some (.lst (typedD script 5))) :
    Ex prog w fnsW mg mb (lawC A L a code base av) ρ none (lawS 4) (.next (("line", .str (cS (lineCps script))) :: ρ) none) := by
  have e : cS (lineCps script) = Txt.join "" ((List.range 5).map fun k => cS (partCps script k)) := (join5 _ _ _ _ _).symm
  rw [e]
  refine Ex.assign (Ev.join (x := "") (ys := (List.range 5).map fun k => cS (partCps script k)) Ev.cstr (EvN.ev (EvN.comp (ρ₀ := [("numbers", .lst (nums script)), ("typed", .lst (typedD script 5))]) (It.it2 (It.range Ev.cint (by decide) (by decide) rfl nr rfl (by decide) rfl rfl) (fun _ _ => rfl)) rfl (Nat.le_of_ble_eq_true rfl) rfl (fun _ => rfl) rfl (by decide) (by decide)
    (lkC rfl (lkC rfl lkN)) (lkC ⟨h1, rfl, fun _ => rfl, rfl⟩ (lkC ⟨h2, rfl, fun _ => rfl, rfl⟩ lkN)) fun C Dd sq i d hd => ?_)) ?_ rfl rfl rfl) (.inl rfl) nofun rfl
  · have hi : i < 5 := (List.getElem?_eq_some_iff.mp hd).1
    have hd' : d = .int (i : Nat) := by
      unfold upto at hd
      rw [List.getElem?_map, List.getElem?_range (by exact hi)] at hd
      cases hd; rfl
    subst hd'
    refine ⟨.str (cS (partCps script i)), _, ?_, Asg.name rfl, ?_⟩
    · rw [List.getElem?_map, List.getElem?_map, List.getElem?_range hi]; rfl
    · unfold partCps
      have hm := Nat.mod_lt (lawN script i) (show 12 > 0 by decide)
      have hadd : Bin prog w .Add (.str ⟨#[((12272 : Int) + (lawN script i % 12 : Nat)).toNat]⟩) (.str (cS (signsOf script i))) (.str (cS ((12272 + lawN script i % 12) :: signsOf script i))) := by
        have h := Bin.addS (prog := prog) (w := w) (a := ⟨#[((12272 : Int) + (lawN script i % 12 : Nat)).toNat]⟩) (b := cS (signsOf script i)) (by
          rw [cS_len]; exact Nat.le_trans (Nat.add_le_add (Nat.le_refl 1) (signsOf_len script i)) (by decide))
        have e : (⟨#[((12272 : Int) + (lawN script i % 12 : Nat)).toNat]⟩ : Str) = cS [12272 + lawN script i % 12] := by
          rw [show ((12272 : Int) + (lawN script i % 12 : Nat)).toNat = 12272 + lawN script i % 12 by omega]; rfl
        rw [e, cS_append] at h
        rw [e]
        exact h
      refine Ev.bin (Ev.bi (Evs.cons (Ev.bin Ev.cint (Ev.modC (b := 12) (Ev.sub (Ev.name rfl rfl) (Ev.name rfl rfl) (Itm.lst (k := i) (by omega) (nums_get hi)) fun _ _ => rfl) (by decide)) Bin.addI) Evs.nil (fun _ => rfl)) (Bi.chr ?_) (Nat.le_of_ble_eq_true rfl) rfl nc rfl (by decide) rfl (fun _ => rfl) rfl)
        (Ev.sub (Ev.sub (Ev.name rfl rfl) (Ev.name rfl rfl) (Itm.lst (k := i) (by omega) (typed_get hi)) fun _ _ => rfl) Ev.cint (Itm.tup (by decide) (by decide) rfl rfl) fun _ _ => rfl) hadd
      rw [decide_eq_false (by omega), decide_eq_false (by omega)]; rfl
  · have h0 := partCps_len script 0
    have h1 := partCps_len script 1
    have h2 := partCps_len script 2
    have h3 := partCps_len script 3
    have h4 := partCps_len script 4
    have e2 : (((List.range 5).map fun k => cS (partCps script k)).map (·.length)).sum = (partCps script 0).length + ((partCps script 1).length + ((partCps script 2).length + ((partCps script 3).length + ((partCps script 4).length + 0)))) := by
      rw [← cS_len, ← cS_len, ← cS_len, ← cS_len, ← cS_len]; rfl
    rw [e2]
    have e3 : ((List.range 5).map fun k => cS (partCps script k)).length * ((("" : String) : Str)).length = 0 := by
      have : ((("" : String) : Str)).length = 0 := by decide +kernel
      rw [this, Nat.mul_zero]
    rw [e3]
    omega

/-- the words that are read -/
noncomputable def wordsD (script : List Int) : List D := .str (cS []) :: (List.range 5).map fun k => .str (wS (wordOf script k))
theorem law5 {script : List Int} (no : mg "ord" = none) (nc : mg "chr" = none) (h1 : ρ.lookup ("line" : Str) = some (.str (cS (lineCps script))))
    (hread : (readS (lineCps script)).1 ++ [(readS (lineCps script)).2] = cS [] :: (List.range 5).map fun k => wS (wordOf script k)) :
    Ex prog w fnsW mg mb (lawC A L a code base av) ρ none (lawS 5) (.next (("words", .lst (wordsD script)) :: ρ) none) := by
  have hf := fn_read (prog := prog) (w := w) (mg := mg) (mb := mb) (l := lineCps script) (Nat.le_trans (lineCps_len script) (by decide)) no nc
  rw [hread] at hf
  exact Ex.assign (Ev.call (Evs.cons (Ev.name h1 rfl) Evs.nil (fun _ => rfl)) hf ⟨dr 28, dr_mem rfl, rfl⟩ (Nat.le_of_ble_eq_true rfl) rfl rfl (fun _ => rfl)) (cellL rfl rfl) nofun rfl

theorem strOk_w (bs : List Bool) : PyData.strOk (wS bs) = true := by
  unfold PyData.strOk wS
  rw [← Array.all_toList]
  simp only [List.all_map]
  rw [List.all_eq_true]
  intro b _
  cases b <;> decide
theorem wordsOk (script : List Int) : dOk (.lst (wordsD script)) = true ∧ SeqAt.shaped (dP (.lst (wordsD script))) = true := by
  have e : PyData.strOk (cS []) = true := by decide +kernel
  refine ⟨?_, ?_⟩
  · show (PyData.strOk (cS []) && (PyData.strOk (wS (wordOf script 0)) && (PyData.strOk (wS (wordOf script 1)) && (PyData.strOk (wS (wordOf script 2)) && (PyData.strOk (wS (wordOf script 3)) && (PyData.strOk (wS (wordOf script 4)) && true)))))) = true
    rw [e, strOk_w, strOk_w, strOk_w, strOk_w, strOk_w]; rfl
  · show (((PyData.strOk (cS []) && (PyData.strOk (wS (wordOf script 0)) && (PyData.strOk (wS (wordOf script 1)) && (PyData.strOk (wS (wordOf script 2)) && (PyData.strOk (wS (wordOf script 3)) && (PyData.strOk (wS (wordOf script 4)) && true)))))) : Bool) && _) = true
    rw [e, strOk_w, strOk_w, strOk_w, strOk_w, strOk_w]; rfl
theorem law6 {script : List Int} (h1 : ρ.lookup ("words" : Str) = some (.lst (wordsD script))) (h2 : ρ.lookup ("typed" : Str) = some (.lst (typedD script 5))) :
    Ex prog w fnsW mg mb (lawC A L a code base av) ρ none (lawS 6) (.next ρ none) := by
  refine Ex.if (x := false) (Tst.eqSame (.inr ⟨rfl, rfl⟩) (Ev.name h1 rfl) (Ev.bin (a := .lst [.str (cS [])]) (b := .lst ((List.range 5).map fun k => .str (wS (wordOf script k)))) (Ev.lst (Evs.cons Ev.cstr Evs.nil (fun _ => rfl)) (Nat.le_of_ble_eq_true rfl)) (EvN.ev (EvN.comp (ρ₀ := []) (xs := (List.map D.tup ((List.range 5).map fun k => [.str (cS (signsOf script k)), .str (wS (wordOf script k))]))) (It2.pairs (Ev.name h2 rfl)) rfl (Nat.le_of_ble_eq_true rfl) rfl (fun _ => rfl) rfl (by decide) (by decide)
    lkN lkN fun C Dd sq i d hd => ?_)) (Bin.addL (Nat.le_of_ble_eq_true rfl))) (wordsOk script).1 (wordsOk script).2 (Nat.le_of_ble_eq_true rfl) rfl) nofun (fun _ => Exs.nil)
  · rw [List.getElem?_map, List.getElem?_map] at hd
    cases q : (List.range 5)[i]? with
    | none => rw [q] at hd; cases hd
    | some j =>
      rw [q] at hd
      cases hd
      refine ⟨.str (wS (wordOf script j)), _, by rw [List.getElem?_map, q]; rfl, Asg.tup (l := [("signs", _), ("plain", _)]) (all2 rfl rfl) rfl, Ev.name rfl rfl⟩
end
end Wu
end
section
namespace Wu
open PySem PySem.Spec PySem.Calls PyProof.Rows PySem.W

theorem subD {ρ : PEnv} {k : Str} {v : D} (h : ρ.lookup k = none) : ∀ x d, ρ.lookup x = some d → ((k, v) :: ρ).lookup x = some d := fun x d e => by
  rw [List.lookup_cons]
  cases q : x == k with
  | true => rw [beq_iff_eq.mp q, h] at e; cases e
  | false => exact e
theorem all1 {α : Type} {P : α → Prop} {x : α} (h1 : P x) : ∀ p ∈ [x], P p := fun p hp => by rw [List.mem_singleton.mp hp]; exact h1
theorem allC {α : Type} {P : α → Prop} {x : α} {l : List α} (h1 : P x) (h2 : ∀ p ∈ l, P p) : ∀ p ∈ x :: l, P p := fun p hp => by
  rcases List.mem_cons.mp hp with rfl | hp
  · exact h1
  · exact h2 p hp
noncomputable def bareD (script : List Int) : List D := (List.range 4).map fun k => .str (wS (wordOf script k))
noncomputable def wholeOf (script : List Int) (k : Nat) : List Bool := wordOf script 4 ++ wordOf script k
noncomputable def wholeD (script : List Int) : List D := (List.range 4).map fun k => .str (wS (wholeOf script k))
noncomputable def nodesD (script : List Int) : List D := (List.range 4).map fun k => pD (node (wordOf script k))
/-- a word with an m behind -/
noncomputable def kS (bs : List Bool) : Str := cS (bs.map sgn ++ [109])
noncomputable def gapI (p q : Int × Int) : Int := q.1 * p.2 - p.1 * q.2
noncomputable def toldI (v w : List Bool) : Int := b2i (decide ((kS w).cps.toList < (kS v).cps.toList)) - b2i (decide ((kS v).cps.toList < (kS w).cps.toList))
section
variable {prog : Program} {w : World} {fns : List DefRec} {mg mb : Str → Option Value} {c : Fx} {ρ : PEnv} {o : Own}
theorem Bin.addM {bs : List Bool} (h : bs.length ≤ 1000) : Bin prog w .Add (.str (wS bs)) (.str "m") (.str (kS bs)) := by
  have h2 := Bin.addS (prog := prog) (w := w) (a := wS bs) (b := "m") (by
    rw [wS_cS, cS_len, List.length_map]; exact Nat.le_trans (Nat.add_le_add h (show ((("m" : String) : Str)).length ≤ 1 by decide +kernel)) (by decide))
  have e : (("m" : String) : Str) = cS [109] := by decide +kernel
  rw [wS_cS] at h2 ⊢
  unfold kS
  rw [← cS_append, ← e]
  exact h2
theorem Bin.addW {bs cs : List Bool} (h : bs.length + cs.length ≤ 1000) : Bin prog w .Add (.str (wS bs)) (.str (wS cs)) (.str (wS (bs ++ cs))) := by
  have h2 := Bin.addS (prog := prog) (w := w) (a := wS bs) (b := wS cs) (by
    rw [wS_cS, wS_cS, cS_len, cS_len, List.length_map, List.length_map]; exact Nat.le_trans h (by decide))
  rw [wS_cS, wS_cS] at h2 ⊢
  rw [wS_cS, List.map_append, ← cS_append]
  exact h2
/-- the name of a type -/
theorem Ev.bty {x : Str} {xp : Pos} {n : String} (hx : c.env.kindOf x = some .globalImplicit) (hn : mg x = none) (hv : bootBuiltins x = some (.type n)) (hn1 : x ≠ "__name__") (hd : (x == ("__debug__" : Str)) = false) : Ev prog w fns mg mb c ρ o (.Name x xp) (.ty n) :=
  ⟨fun s _ _ ok hQ => loadB ok hx hn hv hn1 hd (hQ _ s.heap s.toks (Keeps.refl _) rfl)⟩
end
section
variable {prog : Program} {w : World} {mg mb : Str → Option Value} {A : Around} {L a : Addr} {code : Value} {base : Heap} {av : List Addr} {ρ : PEnv}
theorem law7 {script : List Int} (h1 : ρ.lookup ("words" : Str) = some (.lst (wordsD script))) :
    Ex prog w fnsW mg mb (lawC A L a code base av) ρ none (lawS 7) (.next (("bare", .lst (bareD script)) :: ρ) none) :=
  Ex.assign (d := .lst (bareD script)) (Ev.slcL (l := some 1) (u := some 5) (k := none) (Ev.name h1 rfl) (Pt.some Ev.cint) (Pt.some Ev.cint) Pt.none (by decide) (Nat.le_of_ble_eq_true rfl) (fun _ _ => ⟨_, rfl⟩)) (cellL rfl rfl) nofun rfl
theorem rng_get {n i : Nat} {d : D} {f : Nat → D} (h : ((List.range n).map f)[i]? = some d) : i < n ∧ d = f i := by
  rw [List.getElem?_map] at h
  cases q : (List.range n)[i]? with
  | none => rw [q] at h; cases h
  | some j =>
    have hj := (List.getElem?_eq_some_iff.mp q)
    have hi : i < n := by have := hj.1; simpa using this
    rw [List.getElem?_range hi] at h
    cases h
    exact ⟨hi, rfl⟩
theorem rng_put {n i : Nat} {f : Nat → D} (h : i < n) : ((List.range n).map f)[i]? = some (f i) := by
  rw [List.getElem?_map, List.getElem?_range h]; rfl
theorem law8 {script : List Int} (h1 : ρ.lookup ("words" : Str) = some (.lst (wordsD script))) (h2 : ρ.lookup ("bare" : Str) = some (.lst (bareD script))) :
    Ex prog w fnsW mg mb (lawC A L a code base av) ρ none (lawS 8) (.next (("whole", .lst (wholeD script)) :: ρ) none) := by
  refine Ex.compU (ρ₀ := [("words", .lst (wordsD script))]) (It.it2 (It.lst (Ev.name h2 rfl)) (fun _ _ => rfl)) rfl (Nat.le_of_ble_eq_true rfl) rfl (fun _ => rfl) rfl (by decide) (by decide)
    (lkC rfl lkN) (lkC ⟨h1, rfl, fun _ => rfl, rfl⟩ lkN) (fun C Dd sq i d hd => ?_) rfl rfl
  obtain ⟨hi, rfl⟩ := rng_get hd
  refine ⟨.str (wS (wholeOf script i)), _, rng_put hi, Asg.name rfl, ?_⟩
  have l4 := wordOf_len script 4
  have li := wordOf_len script i
  exact Ev.bin (Ev.sub (Ev.name rfl rfl) Ev.cint (Itm.lst (k := 5) (by decide) rfl) fun _ _ => rfl) (Ev.name rfl rfl) (Bin.addW (bs := wordOf script 4) (cs := wordOf script i) (by omega))
theorem law9 {script : List Int} (h1 : ρ.lookup ("typed" : Str) = some (.lst (typedD script 5))) :
    Ex prog w fnsW mg mb (lawC A L a code base av) ρ none (lawS 9) (.next (("nodes", .lst (nodesD script)) :: ρ) none) := by
  refine Ex.assign (EvN.ev (EvN.comp (ρ₀ := []) (xs := (List.map D.tup ((List.range 4).map fun k => [.str (cS (signsOf script k)), .str (wS (wordOf script k))]))) (It2.pairs (Ev.slcL (l := none) (u := some 4) (k := none) (Ev.name h1 rfl) Pt.none (Pt.some Ev.cint) Pt.none (by decide) (Nat.le_of_ble_eq_true rfl) (fun _ _ => ⟨_, rfl⟩))) rfl (Nat.le_of_ble_eq_true rfl) rfl (fun _ => rfl) rfl (by decide) (by decide)
    lkN lkN fun C Dd sq i d hd => ?_)) (cellL rfl rfl) nofun rfl
  rw [List.map_map] at hd
  obtain ⟨hi, rfl⟩ := rng_get hd
  refine ⟨pD (node (wordOf script i)), _, rng_put hi, Asg.tup (l := [("signs", _), ("plain", _)]) (all2 rfl rfl) rfl, ?_⟩
  exact Ev.call (Evs.cons (Ev.name rfl rfl) Evs.nil (fun _ => rfl)) fn_node ⟨dr 30, dr_mem rfl, rfl⟩ (Nat.le_of_ble_eq_true rfl) rfl rfl (fun _ => rfl)
theorem law10 {script : List Int} (h2 : ρ.lookup ("bare" : Str) = some (.lst (bareD script))) (hpn : ∀ k < 4, point (wordOf script k) = node (wordOf script k)) :
    Ex prog w fnsW mg mb (lawC A L a code base av) ρ none (lawS 10) (.next (("points", .lst (nodesD script)) :: ρ) none) := by
  refine Ex.compU (ρ₀ := []) (It.it2 (It.lst (Ev.name h2 rfl)) (fun _ _ => rfl)) rfl (Nat.le_of_ble_eq_true rfl) rfl (fun _ => rfl) rfl (by decide) (by decide)
    lkN lkN (fun C Dd sq i d hd => ?_) rfl rfl
  obtain ⟨hi, rfl⟩ := rng_get hd
  refine ⟨pD (node (wordOf script i)), _, rng_put hi, Asg.name rfl, ?_⟩
  rw [← hpn i hi]
  have li := wordOf_len script i
  exact Ev.call (Evs.cons (Ev.name rfl rfl) Evs.nil (fun _ => rfl)) (fn_point (by omega)) ⟨dr 29, dr_mem rfl, rfl⟩ (Nat.le_of_ble_eq_true rfl) rfl rfl (fun _ => rfl)
theorem law11 {script : List Int} (h1 : ρ.lookup ("points" : Str) = some (.lst (nodesD script))) (h2 : ρ.lookup ("nodes" : Str) = some (.lst (nodesD script))) :
    Ex prog w fnsW mg mb (lawC A L a code base av) ρ none (lawS 11) (.next ρ none) :=
  Ex.if (x := false) (Tst.eqSame (.inr ⟨rfl, rfl⟩) (Ev.name h1 rfl) (Ev.name h2 rfl) rfl rfl (Nat.le_of_ble_eq_true rfl) rfl) nofun (fun _ => Exs.nil)
theorem upto_get {n i : Nat} {d : D} (h : (upto n)[i]? = some d) : i < n ∧ d = .int (i : Nat) := by
  unfold upto at h
  rw [Int.toNat_natCast] at h
  exact rng_get h
set_option maxHeartbeats 1000000 in
theorem law12 {script : List Int} (nr : mg "range" = none) (nt : mg "type" = none) (ni : mg "int" = none) (h1 : ρ.lookup ("nodes" : Str) = some (.lst (nodesD script))) (h2 : ρ.lookup ("whole" : Str) = some (.lst (wholeD script)))
    (n1 : ρ.lookup ("i" : Str) = none) (n2 : ρ.lookup ("j" : Str) = none) (n3 : ρ.lookup ("gap" : Str) = none) (n4 : ρ.lookup ("told" : Str) = none)
    (hs : ∀ k < 4, small (node (wordOf script k)))
    (ht : ∀ i < 4, ∀ j < 4, toldI (wholeOf script i) (wholeOf script j) = b2i (decide (gapI (node (wordOf script i)) (node (wordOf script j)) < 0)) - b2i (decide (0 < gapI (node (wordOf script i)) (node (wordOf script j))))) :
    Ex prog w fnsW mg mb (lawC A L a code base av) ρ none (lawS 12) (.next ρ none) := by
  refine Ex.for (xs := upto (4 : Nat)) (fun _ => (ρ, none)) (It.range Ev.cint (by decide) (by decide) rfl nr rfl (by decide) rfl rfl) rfl (.inl rfl) nofun (fun _ => rfl) (fun b i d hd => .inl ?_) (fun _ => rfl) (fun _ _ => rfl)
  obtain ⟨hi, rfl⟩ := upto_get hd
  refine Exs.post (ρ'' := ("i", .int (i : Nat)) :: ρ) (Exs.cons (Ex.for (xs := upto (4 : Nat)) (fun _ => (("i", .int (i : Nat)) :: ρ, none)) (It.range Ev.cint (by decide) (by decide) rfl nr rfl (by decide) rfl rfl) rfl (.inl rfl) nofun (fun _ => rfl) (fun b j d hd => .inl ?_) (fun _ => rfl) (fun _ _ => rfl)) Exs.nil) (subD n1)
  obtain ⟨hj, rfl⟩ := upto_get hd
  have lw : ∀ k, (wholeOf script k).length ≤ 1000 := fun k => by
    unfold wholeOf
    rw [List.length_append]
    have l4 := wordOf_len script 4
    have li := wordOf_len script k
    omega
  have s62 : ∀ k < 4, (node (wordOf script k)).1.natAbs < 2 ^ 62 := fun k hk => Nat.lt_of_lt_of_le (hs k hk).1 (by decide)
  refine Exs.post (ρ'' := ("told", .int (toldI (wholeOf script i) (wholeOf script j))) :: ("gap", .int (gapI (node (wordOf script i)) (node (wordOf script j)))) :: ("j", .int (j : Nat)) :: ("i", .int (i : Nat)) :: ρ) ?_ ?_
  · refine Exs.cons (Ex.assign (d := .int (gapI (node (wordOf script i)) (node (wordOf script j)))) (Ev.call (Evs.cons (Ev.sub (Ev.name (d := .lst (nodesD script)) (by simpa [List.lookup_cons, ofs_beq] using h1) rfl) (Ev.name (d := .int (i : Nat)) rfl rfl) (Itm.lst (k := i) (by omega) (rng_put hi)) fun _ _ => rfl) (Evs.cons (Ev.sub (Ev.name (d := .lst (nodesD script)) (by simpa [List.lookup_cons, ofs_beq] using h1) rfl) (Ev.name (d := .int (j : Nat)) rfl rfl) (Itm.lst (k := j) (by omega) (rng_put hj)) fun _ _ => rfl) Evs.nil (fun _ => rfl)) (fun _ => rfl)) (fn_gap (s62 j hj) (s62 i hi)) ⟨dr 31, dr_mem rfl, rfl⟩ (Nat.le_of_ble_eq_true rfl) rfl rfl (fun _ => rfl)) (.inl rfl) nofun rfl) ?_
    refine Exs.cons (Ex.assign (d := .int (toldI (wholeOf script i) (wholeOf script j))) (Ev.call (Evs.cons (Ev.bin (Ev.sub (Ev.name (d := .lst (wholeD script)) (by simpa [List.lookup_cons, ofs_beq] using h2) rfl) (Ev.name (d := .int (i : Nat)) rfl rfl) (Itm.lst (k := i) (by omega) (rng_put hi)) fun _ _ => rfl) Ev.cstr (Bin.addM (lw i))) (Evs.cons (Ev.bin (Ev.sub (Ev.name (d := .lst (wholeD script)) (by simpa [List.lookup_cons, ofs_beq] using h2) rfl) (Ev.name (d := .int (j : Nat)) rfl rfl) (Itm.lst (k := j) (by omega) (rng_put hj)) fun _ _ => rfl) Ev.cstr (Bin.addM (lw j))) Evs.nil (fun _ => rfl)) (fun _ => rfl)) fn_strcoll ⟨dr 9, dr_mem rfl, rfl⟩ (Nat.le_of_ble_eq_true rfl) rfl rfl (fun _ => rfl)) (.inl rfl) nofun rfl) ?_
    refine Exs.cons (Ex.if (x := false || (false || false)) (Tst.or (Tst.cmp (Ev.bt (Evs.cons (Ev.name rfl rfl) Evs.nil (fun _ => rfl)) Bi.typeI (Nat.le_of_ble_eq_true rfl) rfl nt rfl (by decide) rfl (fun _ => rfl) rfl) (Ev.bty rfl ni rfl (by decide) rfl) Cmp.isNotTy rfl) fun _ => Tst.or ?_ fun _ => Tst.or_nil) nofun (fun _ => Exs.nil)) Exs.nil
    have e : (toldI (wholeOf script i) (wholeOf script j) != (b2i (decide (gapI (node (wordOf script i)) (node (wordOf script j)) < 0)) - b2i (decide (0 < gapI (node (wordOf script i)) (node (wordOf script j)))))) = false := by
      rw [ht i hi j hj]; simp
    have hc := Cmp.neI (prog := prog) (w := w) (a := toldI (wholeOf script i) (wholeOf script j)) (b := (b2i (decide (gapI (node (wordOf script i)) (node (wordOf script j)) < 0)) - b2i (decide (0 < gapI (node (wordOf script i)) (node (wordOf script j))))))
    rw [e] at hc
    exact Tst.cmp (Ev.name rfl rfl) (Ev.bin (Ev.cmp (Ev.name rfl rfl) Ev.cint Cmp.ltI rfl) (Ev.cmp (Ev.name rfl rfl) Ev.cint Cmp.gtI rfl) Bin.subB) hc rfl
  · intro x d e
    refine subD ?_ x d (subD ?_ x d (subD ?_ x d e))
    · simpa [List.lookup_cons, ofs_beq] using n4
    · simpa [List.lookup_cons, ofs_beq] using n3
    · simpa [List.lookup_cons, ofs_beq] using n2
end
end Wu
end
section
namespace Wu
open PySem PySem.Spec PySem.Calls PyProof.Rows PySem.W

/-- int(x) is i -/
noncomputable def IntAt (x : UInt64) (i : Int) : Prop := ∃ sg m e, Float64.decode x = .fin sg m e ∧ Float64.truncOf sg m e = i
theorem Bi.intAt {prog : Program} {w : World} {x : UInt64} {i : Int} (h : IntAt x i) : Bi prog w (.type "int") [.flt x] (.int i) := by
  obtain ⟨sg, m, e, hd, rfl⟩ := h
  exact Bi.int hd
/-- hue * 6 * spread + 0.5 -/
noncomputable def turnF (h : UInt64) (s : Int) : UInt64 := Float64.add (Float64.mul (Float64.mul h (Float64.ofInt 6)) (Float64.ofInt s)) z05
noncomputable def orderD (o : Nat → Nat) : List D := (List.range 4).map fun i => .int (o i : Nat)
noncomputable def placeI (top mid spread share : Int) : Int := 2 * (top - 1) * spread + (if ((mid - top).fmod 3 == 1) = true then share else -share)
theorem fhls3 (r g b : UInt64) : fhls r g b = [(fhls r g b).getD 0 0, (fhls r g b).getD 1 0, (fhls r g b).getD 2 0] := by
  unfold fhls; split <;> rfl
theorem fhsv3 (r g b : UInt64) : fhsv r g b = [(fhsv r g b).getD 0 0, (fhsv r g b).getD 1 0, (fhsv r g b).getD 2 0] := by
  unfold fhsv; split <;> rfl
theorem frgb3 (h l s : UInt64) : frgb h l s = [(frgb h l s).getD 0 0, (frgb h l s).getD 1 0, (frgb h l s).getD 2 0] := by
  unfold frgb; split <;> rfl
theorem gap_small {p q : Int × Int} (hp : small p) (hq : small q) : (gapI p q).natAbs < 2 ^ 62 := by
  unfold gapI
  have h1 : (q.1 * p.2).natAbs ≤ 2 ^ 30 * 2 ^ 30 := by rw [Int.natAbs_mul]; exact Nat.mul_le_mul (Nat.le_of_lt hq.1) (Nat.le_of_lt hp.2)
  have h2 : (p.1 * q.2).natAbs ≤ 2 ^ 30 * 2 ^ 30 := by rw [Int.natAbs_mul]; exact Nat.mul_le_mul (Nat.le_of_lt hp.1) (Nat.le_of_lt hq.2)
  omega
section
variable {prog : Program} {w : World} {mg mb : Str → Option Value} {A : Around} {L a : Addr} {code : Value} {base : Heap} {av : List Addr} {ρ : PEnv}
theorem law14 {n : Nat → Int × Int} {o : Nat → Nat} (ho : ∀ i < 4, o i < 4) (h1 : ρ.lookup ("nodes" : Str) = some (.lst ((List.range 4).map fun k => pD (n k)))) (h2 : ρ.lookup ("order" : Str) = some (.lst (orderD o))) :
    Ex prog w fnsW mg mb (lawC A L a code base av) ρ none (lawS 14) (.next (("u", pD (n (o 3))) :: ("z", pD (n (o 2))) :: ("y", pD (n (o 1))) :: ("x", pD (n (o 0))) :: ρ) none) := by
  refine Ex.unpack (EvN.ev (EvN.comp (ys := (List.range 4).map fun i => pD (n (o i))) (ρ₀ := [("nodes", .lst ((List.range 4).map fun k => pD (n k)))]) (It.it2 (It.lst (Ev.name h2 rfl)) (fun _ _ => rfl)) rfl (Nat.le_of_ble_eq_true rfl) rfl (fun _ => rfl) rfl (by decide) (by decide)
    (lkC rfl lkN) (lkC ⟨h1, rfl, fun _ => rfl, rfl⟩ lkN) (fun C Dd sq i d hd => ?_))) (Asg.lst (l := [("x", _), ("y", _), ("z", _), ("u", _)]) (allC rfl (allC rfl (all2 rfl rfl))) rfl) rfl rfl rfl
  obtain ⟨hi, rfl⟩ := rng_get hd
  exact ⟨pD (n (o i)), _, rng_put hi, Asg.name rfl, Ev.sub (Ev.name rfl rfl) (Ev.name rfl rfl) (Itm.lst (k := o i) (by have := ho i hi; omega) (rng_put (ho i hi))) fun _ _ => rfl⟩
theorem gapc {p q : Int × Int} {x y : Str} {xp yp fp cp : Pos} {k : Nat} (c : Fx) (o : Own) (ρ : PEnv) (h1 : ρ.lookup x = some (pD p)) (h2 : ρ.lookup y = some (pD q)) (d1 : (x == ("__debug__" : Str)) = false) (d2 : (y == ("__debug__" : Str)) = false) (hp : small p) (hq : small q) (hk : 1 ≤ c.k)
    (hf : c.env.kindOf ("_law_gap" : Str) = some .globalImplicit) : Ev prog w fnsW mg mb c ρ o (.Call (.Name "_law_gap" fp) [.Name x xp, .Name y yp] [] cp) (.int (gapI p q)) :=
  Ev.call (Evs.cons (Ev.name h1 d1) (Evs.cons (Ev.name h2 d2) Evs.nil (fun _ => rfl)) (fun _ => rfl)) (fn_gap (Nat.lt_of_lt_of_le hq.1 (by decide)) (Nat.lt_of_lt_of_le hp.1 (by decide))) ⟨dr 31, dr_mem rfl, rfl⟩ hk hf rfl (fun _ => rfl)
theorem law15 {p q r s : Int × Int} (sp : small p) (sq : small q) (sr : small r) (ss : small s) (h1 : ρ.lookup ("x" : Str) = some (pD p)) (h2 : ρ.lookup ("y" : Str) = some (pD q)) (h3 : ρ.lookup ("z" : Str) = some (pD r)) (h4 : ρ.lookup ("u" : Str) = some (pD s)) :
    Ex prog w fnsW mg mb (lawC A L a code base av) ρ none (lawS 15) (.next (("spread", .int (gapI p r * gapI q s)) :: ρ) none) :=
  Ex.assign (Ev.bin (gapc (k := 0) _ _ _ h1 h3 rfl rfl sp sr (Nat.le_of_ble_eq_true rfl) rfl) (gapc (k := 0) _ _ _ h2 h4 rfl rfl sq ss (Nat.le_of_ble_eq_true rfl) rfl) (Bin.mulI (mulOk (gap_small sp sr)))) (.inl rfl) nofun rfl
theorem law16 {p q r s : Int × Int} (sp : small p) (sq : small q) (sr : small r) (ss : small s) (h1 : ρ.lookup ("x" : Str) = some (pD p)) (h2 : ρ.lookup ("y" : Str) = some (pD q)) (h3 : ρ.lookup ("z" : Str) = some (pD r)) (h4 : ρ.lookup ("u" : Str) = some (pD s)) :
    Ex prog w fnsW mg mb (lawC A L a code base av) ρ none (lawS 16) (.next (("share", .int (gapI p q * gapI r s)) :: ρ) none) :=
  Ex.assign (Ev.bin (gapc (k := 0) _ _ _ h1 h2 rfl rfl sp sq (Nat.le_of_ble_eq_true rfl) rfl) (gapc (k := 0) _ _ _ h3 h4 rfl rfl sr ss (Nat.le_of_ble_eq_true rfl) rfl) (Bin.mulI (mulOk (gap_small sp sq)))) (.inl rfl) nofun rfl
theorem law17 {o : Nat → Nat} (h2 : ρ.lookup ("order" : Str) = some (.lst (orderD o))) :
    Ex prog w fnsW mg mb (lawC A L a code base av) ρ none (lawS 17) (.next (("top", .int (Builtin.bitXor (o 0 : Nat) (o 1 : Nat))) :: ρ) none) :=
  Ex.assign (Ev.bin (Ev.sub (Ev.name h2 rfl) Ev.cint (Itm.lst (k := 0) (by decide) rfl) fun _ _ => rfl) (Ev.sub (Ev.name h2 rfl) Ev.cint (Itm.lst (k := 1) (by decide) rfl) fun _ _ => rfl) Bin.xorI) (.inl rfl) nofun rfl
theorem law18 {o : Nat → Nat} (h2 : ρ.lookup ("order" : Str) = some (.lst (orderD o))) :
    Ex prog w fnsW mg mb (lawC A L a code base av) ρ none (lawS 18) (.next (("middle", .int (Builtin.bitXor (o 0 : Nat) (o 2 : Nat))) :: ρ) none) :=
  Ex.assign (Ev.bin (Ev.sub (Ev.name h2 rfl) Ev.cint (Itm.lst (k := 0) (by decide) rfl) fun _ _ => rfl) (Ev.sub (Ev.name h2 rfl) Ev.cint (Itm.lst (k := 2) (by decide) rfl) fun _ _ => rfl) Bin.xorI) (.inl rfl) nofun rfl
theorem law19 {top mid spread share : Int} (ht : top.natAbs < 2 ^ 20) (h1 : ρ.lookup ("top" : Str) = some (.int top)) (h2 : ρ.lookup ("middle" : Str) = some (.int mid)) (h3 : ρ.lookup ("spread" : Str) = some (.int spread)) (h4 : ρ.lookup ("share" : Str) = some (.int share)) :
    Ex prog w fnsW mg mb (lawC A L a code base av) ρ none (lawS 19) (.next (("place", .int (placeI top mid spread share)) :: ρ) none) := by
  refine Ex.assign (Ev.bin (Ev.bin (Ev.bin Ev.cint (Ev.bin (Ev.name h1 rfl) Ev.cint Bin.subI) (Bin.mulI (mulOk (by decide)))) (Ev.name h3 rfl) (Bin.mulI (mulOk (by omega)))) (Ev.ifexp (x := (mid - top).fmod 3 == 1) (d := .int (if ((mid - top).fmod 3 == 1) = true then share else -share)) (Tst.cmp (Ev.bin (Ev.bin (Ev.name h2 rfl) (Ev.name h1 rfl) Bin.subI) Ev.cint (Bin.modI (by decide))) Ev.cint Cmp.eqI rfl) (fun q => ?_) (fun q => ?_)) Bin.addI) (.inl rfl) nofun rfl
  · rw [if_pos q]; exact Ev.name h4 rfl
  · rw [if_neg (by rw [q]; exact Bool.false_ne_true)]; exact Ev.neg (Ev.name h4 rfl)
theorem law20 {n : Nat → Int × Int} (hs : ∀ k < 4, small (n k)) (h1 : ρ.lookup ("points" : Str) = some (.lst ((List.range 4).map fun k => pD (n k)))) :
    Ex prog w fnsW mg mb (lawC A L a code base av) ρ none (lawS 20) (.next (("lights", .lst ((lightsOf (n 0) (n 1) (n 2) (n 3)).map .int)) :: ρ) none) :=
  Ex.assign (Ev.call (Evs.cons (Ev.name h1 rfl) Evs.nil (fun _ => rfl)) (fn_lights (hs 0 (by decide)) (hs 1 (by decide)) (hs 2 (by decide)) (hs 3 (by decide))) ⟨dr 32, dr_mem rfl, rfl⟩ (Nat.le_of_ble_eq_true rfl) rfl rfl (fun _ => rfl)) (.inl rfl) nofun rfl
theorem law21 {a b c : Int} (hi : ∀ n ∈ [a, b, c], Float64.isInf (q20 n) = false) (h1 : ρ.lookup ("lights" : Str) = some (.lst ([a, b, c].map .int))) :
    Ex prog w fnsW mg mb (lawC A L a' code base av) ρ none (lawS 21) (.next (("parts", .lst ([a, b, c].map fun n => .flt (q20 n))) :: ρ) none) :=
  Ex.assign (Ev.call (Evs.cons (Ev.name h1 rfl) Evs.nil (fun _ => rfl)) (fn_parts hi (Nat.le_of_ble_eq_true rfl)) ⟨dr 33, dr_mem rfl, rfl⟩ (Nat.le_of_ble_eq_true rfl) rfl rfl (fun _ => rfl)) (.inl rfl) nofun rfl
theorem args3 {a b c : UInt64} {x : Str} {p0 p1 p2 q0 q1 q2 r0 r1 r2 : Pos} {k0 k1 k2 : Nat} (cc : Fx) (o : Own) (ρ : PEnv) (h : ρ.lookup x = some (.lst ([.flt a, .flt b, .flt c]))) (hd : (x == ("__debug__" : Str)) = false) :
    Evs prog w fnsW mg mb cc ρ o [.Subscript (.Name x p0) (.Constant (.int 0) k0 q0) r0, .Subscript (.Name x p1) (.Constant (.int 1) k1 q1) r1, .Subscript (.Name x p2) (.Constant (.int 2) k2 q2) r2] [.flt a, .flt b, .flt c] :=
  Evs.cons (Ev.sub (Ev.name h hd) Ev.cint (Itm.lst (k := 0) (by decide) rfl) fun _ _ => rfl) (Evs.cons (Ev.sub (Ev.name h hd) Ev.cint (Itm.lst (k := 1) (by decide) rfl) fun _ _ => rfl) (Evs.cons (Ev.sub (Ev.name h hd) Ev.cint (Itm.lst (k := 2) (by decide) rfl) fun _ _ => rfl) Evs.nil (fun _ => rfl)) (fun _ => rfl)) (fun _ => rfl)
theorem law22 {r g b : UInt64} (nmax : mg "max" = none) (nmin : mg "min" = none) (ok : feq (fmin3 r g b) (fmax3 r g b) = false → HlsOk r g b) (h1 : ρ.lookup ("parts" : Str) = some (.lst ([.flt r, .flt g, .flt b]))) :
    Ex prog w fnsW mg mb (lawC A L a code base av) ρ none (lawS 22) (.next (("saturation", .flt ((fhls r g b).getD 2 0)) :: ("lightness", .flt ((fhls r g b).getD 1 0)) :: ("hue", .flt ((fhls r g b).getD 0 0)) :: ρ) none) := by
  have hf := fn_hls (prog := prog) (w := w) (mb := mb) nmax nmin ok
  rw [fhls3] at hf
  exact Ex.unpack (Ev.call (args3 _ _ _ h1 rfl) hf ⟨dr 4, dr_mem rfl, rfl⟩ (Nat.le_of_ble_eq_true rfl) rfl rfl (fun _ => rfl)) (Asg.tup (l := [("hue", _), ("lightness", _), ("saturation", _)]) (allC rfl (all2 rfl rfl)) rfl) rfl rfl rfl
theorem lawS23 {h s : UInt64} {spread place : Int} (ni : mg "int" = none) (hb : spread.natAbs < 2 ^ 1000) (h1 : ρ.lookup ("hue" : Str) = some (.flt h)) (h2 : ρ.lookup ("saturation" : Str) = some (.flt s)) (h3 : ρ.lookup ("spread" : Str) = some (.int spread)) (h4 : ρ.lookup ("place" : Str) = some (.int place))
    (f0 : spread = 0 → feq h z0 = true ∧ feq s z0 = true) (f1 : spread ≠ 0 → IntAt (turnF h spread) (place.fmod (6 * spread))) :
    Ex prog w fnsW mg mb (lawC A L a code base av) ρ none (lawS 23) (.next ρ none) := by
  refine Ex.if (x := spread == 0) (Tst.cmp (Ev.name h3 rfl) Ev.cint Cmp.eqI rfl) (fun q => ?_) (fun q => ?_)
  · have hq := f0 (eq_of_beq q)
    have c1 := Cmp.neF (prog := prog) (w := w) (a := h) (b := z0)
    have c2 := Cmp.neF (prog := prog) (w := w) (a := s) (b := z0)
    have e1 : (Float64.cmp h z0 != some Ordering.eq) = false := by have := hq.1; unfold feq at this; simp at this; simp [this]
    have e2 : (Float64.cmp s z0 != some Ordering.eq) = false := by have := hq.2; unfold feq at this; simp at this; simp [this]
    rw [e1] at c1
    rw [e2] at c2
    exact Exs.cons (Ex.if (x := false || (false || false)) (Tst.or (Tst.cmp (Ev.name h1 rfl) Ev.cflt c1 rfl) fun _ => Tst.or (Tst.cmp (Ev.name h2 rfl) Ev.cflt c2 rfl) fun _ => Tst.or_nil) nofun (fun _ => Exs.nil)) Exs.nil
  · have hq := f1 (fun z => by rw [z] at q; cases q)
    have hne : (6 * spread) ≠ 0 := fun z => by
      have : spread = 0 := by omega
      rw [this] at q; cases q
    have c1 := Cmp.neI (prog := prog) (w := w) (a := place.fmod (6 * spread)) (b := place.fmod (6 * spread))
    have e1 : (place.fmod (6 * spread) != place.fmod (6 * spread)) = false := by simp
    rw [e1] at c1
    refine Exs.cons (Ex.if (x := false) (Tst.cmp (Ev.bt (Evs.cons (Ev.bin (Ev.bin (Ev.bin (Ev.name h1 rfl) Ev.cint (Bin.mulFI (by decide))) (Ev.name h3 rfl) (Bin.mulFI (Nat.lt_of_lt_of_le hb (Nat.pow_le_pow_right (by decide) (by decide))))) Ev.cflt Bin.addF) Evs.nil (fun _ => rfl)) (Bi.intAt hq) (Nat.le_of_ble_eq_true rfl) rfl ni rfl (by decide) rfl (fun _ => rfl) rfl)
      (Ev.bin (Ev.name h4 rfl) (Ev.bin Ev.cint (Ev.name h3 rfl) (Bin.mulI (mulOk (by decide)))) (Bin.modI hne)) c1 rfl) nofun (fun _ => Exs.nil)) Exs.nil
end
end Wu
end
section
namespace Wu
open PySem PySem.Spec PySem.Calls PyProof.Rows PySem.W

/-- int(part * 1048576 + 0.5) -/
noncomputable def paintF (x : UInt64) : UInt64 := Float64.add (Float64.mul x (Float64.ofInt 1048576)) z05
section
variable {prog : Program} {w : World} {mg mb : Str → Option Value} {A : Around} {L a : Addr} {code : Value} {base : Heap} {av : List Addr} {ρ : PEnv}
theorem law24 {script : List Int} (hs : ∀ k < 4, small (point (wholeOf script k))) (h1 : ρ.lookup ("whole" : Str) = some (.lst (wholeD script))) :
    Ex prog w fnsW mg mb (lawC A L a code base av) ρ none (lawS 24) (.next (("whiter", .lst ((lightsOf (point (wholeOf script 0)) (point (wholeOf script 1)) (point (wholeOf script 2)) (point (wholeOf script 3))).map .int)) :: ρ) none) := by
  refine Ex.assign (Ev.call (Evs.cons (EvN.ev (EvN.comp (ys := (List.range 4).map fun k => pD (point (wholeOf script k))) (ρ₀ := []) (It.it2 (It.lst (Ev.name h1 rfl)) (fun _ _ => rfl)) rfl (Nat.le_of_ble_eq_true rfl) rfl (fun _ => rfl) rfl (by decide) (by decide) lkN lkN (fun C Dd sq i d hd => ?_))) Evs.nil (fun _ => rfl)) (fn_lights (hs 0 (by decide)) (hs 1 (by decide)) (hs 2 (by decide)) (hs 3 (by decide))) ⟨dr 32, dr_mem rfl, rfl⟩ (Nat.le_of_ble_eq_true rfl) rfl rfl (fun _ => rfl)) (.inl rfl) nofun rfl
  obtain ⟨hi, rfl⟩ := rng_get hd
  have l4 := wordOf_len script 4
  have li := wordOf_len script i
  exact ⟨pD (point (wholeOf script i)), _, rng_put hi, Asg.name rfl, Ev.call (Evs.cons (Ev.name rfl rfl) Evs.nil (fun _ => rfl)) (fn_point (by unfold wholeOf; rw [List.length_append]; omega)) ⟨dr 29, dr_mem rfl, rfl⟩ (Nat.le_of_ble_eq_true rfl) rfl rfl (fun _ => rfl)⟩
theorem law25 {x y z p q r : Int} (nz : mg "zip" = none) (h1 : ρ.lookup ("whiter" : Str) = some (.lst ([p, q, r].map .int))) (h2 : ρ.lookup ("lights" : Str) = some (.lst ([x, y, z].map .int))) :
    Ex prog w fnsW mg mb (lawC A L a code base av) ρ none (lawS 25) (.next (("white", .lst ([p - x, q - y, r - z].map .int)) :: ρ) none) := by
  refine Ex.compU (ρ₀ := []) (xs := zipD ([p, q, r].map D.int) ([x, y, z].map D.int)) (ys := [p - x, q - y, r - z].map D.int) (It2.zip (Ev.name h1 rfl) (Ev.name h2 rfl) rfl nz rfl (by decide) rfl rfl) rfl (Nat.le_of_ble_eq_true rfl) rfl (fun _ => rfl) rfl (by decide) (by decide) lkN lkN (fun C Dd sq i d hd => ?_) rfl rfl
  match i, hd with
  | 0, hd => cases hd; exact ⟨_, _, rfl, Asg.tup (l := [("after", _), ("before", _)]) (all2 rfl rfl) rfl, Ev.call (Evs.cons (Ev.name rfl rfl) (Evs.cons (Ev.name rfl rfl) Evs.nil (fun _ => rfl)) (fun _ => rfl)) fn_isub ⟨dr 16, dr_mem rfl, rfl⟩ (Nat.le_of_ble_eq_true rfl) rfl rfl (fun _ => rfl)⟩
  | 1, hd => cases hd; exact ⟨_, _, rfl, Asg.tup (l := [("after", _), ("before", _)]) (all2 rfl rfl) rfl, Ev.call (Evs.cons (Ev.name rfl rfl) (Evs.cons (Ev.name rfl rfl) Evs.nil (fun _ => rfl)) (fun _ => rfl)) fn_isub ⟨dr 16, dr_mem rfl, rfl⟩ (Nat.le_of_ble_eq_true rfl) rfl rfl (fun _ => rfl)⟩
  | 2, hd => cases hd; exact ⟨_, _, rfl, Asg.tup (l := [("after", _), ("before", _)]) (all2 rfl rfl) rfl, Ev.call (Evs.cons (Ev.name rfl rfl) (Evs.cons (Ev.name rfl rfl) Evs.nil (fun _ => rfl)) (fun _ => rfl)) fn_isub ⟨dr 16, dr_mem rfl, rfl⟩ (Nat.le_of_ble_eq_true rfl) rfl rfl (fun _ => rfl)⟩
  | n + 3, hd => cases hd
theorem law26 {d : Int} (hd : 0 < d) (h1 : ρ.lookup ("white" : Str) = some (.lst ([d, d, d].map .int))) :
    Ex prog w fnsW mg mb (lawC A L a code base av) ρ none (lawS 26) (.next ρ none) := by
  have c1 := Cmp.leI (prog := prog) (w := w) (a := d) (b := 0)
  rw [decide_eq_false (by omega)] at c1
  have hw : ∀ {p q r : Pos} {k : Nat}, Ev prog w fnsW mg mb (lawC A L a code base av) ρ none (.Subscript (.Name "white" p) (.Constant (.int 0) k q) r) (.int d) := fun {p q r k} =>
    Ev.sub (Ev.name h1 rfl) Ev.cint (Itm.lst (k := 0) (by decide) rfl) fun _ _ => rfl
  refine Ex.if (x := false || (false || false)) (Tst.or (Tst.cmp hw Ev.cint c1 rfl) fun _ => Tst.or (Tst.eqSame (.inr ⟨rfl, rfl⟩) (Ev.name h1 rfl) (Ev.mulL (n := 3) (EvN.lst (Evs.cons hw Evs.nil (fun _ => rfl)) (Nat.le_of_ble_eq_true rfl)) Ev.cint (by decide)) rfl rfl (Nat.le_of_ble_eq_true rfl) rfl) fun _ => Tst.or_nil) nofun (fun _ => Exs.nil)
theorem law27 {a' b c : Int} (hi : ∀ n ∈ [a', b, c], Float64.isInf (q20 n) = false) (h1 : ρ.lookup ("whiter" : Str) = some (.lst ([a', b, c].map .int))) :
    Ex prog w fnsW mg mb (lawC A L a code base av) ρ none (lawS 27) (.next (("shares", .lst ([a', b, c].map fun n => .flt (q20 n))) :: ρ) none) :=
  Ex.assign (Ev.call (Evs.cons (Ev.name h1 rfl) Evs.nil (fun _ => rfl)) (fn_parts hi (Nat.le_of_ble_eq_true rfl)) ⟨dr 33, dr_mem rfl, rfl⟩ (Nat.le_of_ble_eq_true rfl) rfl rfl (fun _ => rfl)) (.inl rfl) nofun rfl
theorem law28 {r g b : UInt64} (nmax : mg "max" = none) (nmin : mg "min" = none) (ok : feq (fmin3 r g b) (fmax3 r g b) = false → HlsOk r g b) (h1 : ρ.lookup ("shares" : Str) = some (.lst ([.flt r, .flt g, .flt b]))) :
    Ex prog w fnsW mg mb (lawC A L a code base av) ρ none (lawS 28) (.next (("by_hls", .tup ((fhls r g b).map .flt)) :: ρ) none) :=
  Ex.assign (Ev.call (args3 _ _ _ h1 rfl) (fn_hls (prog := prog) (w := w) (mb := mb) nmax nmin ok) ⟨dr 4, dr_mem rfl, rfl⟩ (Nat.le_of_ble_eq_true rfl) rfl rfl (fun _ => rfl)) (.inl rfl) nofun rfl
theorem law29 {r g b : UInt64} (nmax : mg "max" = none) (nmin : mg "min" = none) (ok : feq (fmin3 r g b) (fmax3 r g b) = false → HlsOk r g b) (h1 : ρ.lookup ("shares" : Str) = some (.lst ([.flt r, .flt g, .flt b]))) :
    Ex prog w fnsW mg mb (lawC A L a code base av) ρ none (lawS 29) (.next (("by_hsv", .tup ((fhsv r g b).map .flt)) :: ρ) none) :=
  Ex.assign (Ev.call (args3 _ _ _ h1 rfl) (fn_hsv (prog := prog) (w := w) (mb := mb) nmax nmin ok) ⟨dr 7, dr_mem rfl, rfl⟩ (Nat.le_of_ble_eq_true rfl) rfl rfl (fun _ => rfl)) (.inl rfl) nofun rfl
theorem tup3 {x : Str} {l : List UInt64} {i : Nat} (hl : l.length = 3) (hi : i < 3) (cc : Fx) (o : Own) (ρ : PEnv) (h : ρ.lookup x = some (.tup (l.map .flt))) (hd : (x == ("__debug__" : Str)) = false) {p q r : Pos} {k : Nat} :
    Ev prog w fnsW mg mb cc ρ o (.Subscript (.Name x p) (.Constant (.int (i : Nat)) k q) r) (.flt (l.getD i 0)) := by
  refine Ev.sub (Ev.name h hd) Ev.cint (Itm.tup (by omega) (by omega) (seqIndex_nat (by rw [List.length_map, hl]; exact hi)) ?_) fun _ _ => rfl
  rw [List.getElem?_map, List.getD_eq_getElem?_getD, List.getElem?_eq_getElem (by omega)]; rfl
theorem fhls_len (r g b : UInt64) : (fhls r g b).length = 3 := by rw [fhls3]; rfl
theorem fhsv_len (r g b : UInt64) : (fhsv r g b).length = 3 := by rw [fhsv3]; rfl
theorem frgb_len (r g b : UInt64) : (frgb r g b).length = 3 := by rw [frgb3]; rfl
theorem law30 {h : UInt64} {l v : List UInt64} {ns : List Int} {M : Int} (ll : l.length = 3) (lv : v.length = 3) (nmax : mg "max" = none) (h1 : ρ.lookup ("by_hls" : Str) = some (.tup (l.map .flt))) (h2 : ρ.lookup ("by_hsv" : Str) = some (.tup (v.map .flt))) (h3 : ρ.lookup ("hue" : Str) = some (.flt h)) (h4 : ρ.lookup ("whiter" : Str) = some (.lst (ns.map .int)))
    (f1 : feq (l.getD 0 0) h = true) (f2 : feq (v.getD 0 0) h = true) (hM : M ∈ ns) (hle : ∀ a ∈ ns, a ≤ M) (f3 : Float64.cmpInt (Float64.mul (v.getD 2 0) (Float64.ofInt 1048576)) M = some Ordering.eq) :
    Ex prog w fnsW mg mb (lawC A L a code base av) ρ none (lawS 30) (.next ρ none) := by
  have c1 := Cmp.neF (prog := prog) (w := w) (a := l.getD 0 0) (b := h)
  have c2 := Cmp.neF (prog := prog) (w := w) (a := v.getD 0 0) (b := h)
  have c3 := Cmp.neFI (prog := prog) (w := w) (a := Float64.mul (v.getD 2 0) (Float64.ofInt 1048576)) (b := M)
  have e1 : (Float64.cmp (l.getD 0 0) h != some Ordering.eq) = false := by unfold feq at f1; simp only [beq_iff_eq] at f1; rw [f1]; rfl
  have e2 : (Float64.cmp (v.getD 0 0) h != some Ordering.eq) = false := by unfold feq at f2; simp only [beq_iff_eq] at f2; rw [f2]; rfl
  rw [e1] at c1
  rw [e2] at c2
  rw [f3] at c3
  exact Ex.if (x := false || (false || (false || false))) (Tst.or (Tst.cmp (tup3 (i := 0) ll (by decide) _ _ _ h1 rfl) (Ev.name h3 rfl) c1 rfl) fun _ => Tst.or (Tst.cmp (tup3 (i := 0) lv (by decide) _ _ _ h2 rfl) (Ev.name h3 rfl) c2 rfl) fun _ => Tst.or (Tst.cmp (Ev.bin (tup3 (i := 2) lv (by decide) _ _ _ h2 rfl) Ev.cint (Bin.mulFI (by decide))) (Ev.bi (Evs.cons (Ev.name h4 rfl) Evs.nil (fun _ => rfl)) (Bi.maxL hM hle) (Nat.le_of_ble_eq_true rfl) rfl nmax rfl (by decide) rfl (fun _ => rfl) rfl) c3 rfl) fun _ => Tst.or_nil) nofun (fun _ => Exs.nil)
theorem law31 {h : UInt64} {l : List UInt64} (ll : l.length = 3) (f : Mo mg base) (h1 : ρ.lookup ("by_hls" : Str) = some (.tup (l.map .flt))) (h3 : ρ.lookup ("hue" : Str) = some (.flt h)) :
    Ex prog w fnsW mg mb (lawC A L a code base av) ρ none (lawS 31) (.next (("painted", .tup ((frgb h (l.getD 1 0) (l.getD 2 0)).map .flt)) :: ρ) none) :=
  Ex.assign (Ev.call (Evs.cons (Ev.name h3 rfl) (Evs.cons (tup3 (i := 1) ll (by decide) _ _ _ h1 rfl) (Evs.cons (tup3 (i := 2) ll (by decide) _ _ _ h1 rfl) Evs.nil (fun _ => rfl)) (fun _ => rfl)) (fun _ => rfl)) (fn_hls_to_rgb f.f1 f.f2 f.f3) ⟨dr 5, dr_mem rfl, rfl⟩ (Nat.le_of_ble_eq_true rfl) rfl rfl (fun _ => rfl)) (.inl rfl) nofun rfl
theorem ints3 (p q r : Int) : dOk (.lst ([p, q, r].map .int)) = true ∧ SeqAt.shaped (dP (.lst ([p, q, r].map .int))) = true := ⟨rfl, rfl⟩
theorem law32 {l : List UInt64} {p q r : Int} (ni : mg "int" = none) (ll : l.length = 3) (h1 : ρ.lookup ("painted" : Str) = some (.tup (l.map .flt))) (h2 : ρ.lookup ("whiter" : Str) = some (.lst ([p, q, r].map .int)))
    (f : ∀ i < 3, IntAt (paintF (l.getD i 0)) ([p, q, r].getD i 0)) : Ex prog w fnsW mg mb (lawC A L a code base av) ρ none (lawS 32) (.next ρ none) := by
  refine Ex.if (x := false) (Tst.eqSame (.inr ⟨rfl, rfl⟩) (EvN.ev (EvN.comp (ρ₀ := []) (It.it2 (It.tup (Ev.name h1 rfl)) (fun _ _ => rfl)) (by simp [ll]) (by simp [ll]) rfl (fun _ => rfl) rfl (by decide) (by decide) lkN lkN (fun C Dd sq i d hd => ?_))) (Ev.name h2 rfl) (ints3 p q r).1 (ints3 p q r).2 (Nat.le_of_ble_eq_true rfl) rfl) nofun (fun _ => Exs.nil)
  have hi : i < 3 := by have := (List.getElem?_eq_some_iff.mp hd).1; rw [List.length_map, ll] at this; exact this
  have hd' : d = .flt (l.getD i 0) := by
    rw [List.getElem?_map, List.getElem?_eq_getElem (by omega)] at hd
    cases hd
    rw [List.getD_eq_getElem?_getD, List.getElem?_eq_getElem (by omega)]; rfl
  subst hd'
  refine ⟨.int ([p, q, r].getD i 0), _, ?_, Asg.name rfl, Ev.bt (Evs.cons (Ev.bin (Ev.bin (Ev.name rfl rfl) Ev.cint (Bin.mulFI (by decide))) Ev.cflt Bin.addF) Evs.nil (fun _ => rfl)) (Bi.intAt (f i hi)) (Nat.le_of_ble_eq_true rfl) rfl ni rfl (by decide) rfl (fun _ => rfl) rfl⟩
  match i, hi with
  | 0, _ => rfl
  | 1, _ => rfl
  | 2, _ => rfl
theorem law33 {p q r : Int} (h2 : ρ.lookup ("whiter" : Str) = some (.lst ([p, q, r].map .int))) :
    Ex prog w fnsW mg mb (lawC A L a code base av) ρ none (lawS 33) (.next (("negative", .lst ([1048576 - p, 1048576 - q, 1048576 - r].map .int)) :: ρ) none) := by
  refine Ex.compU (ρ₀ := []) (ys := [1048576 - p, 1048576 - q, 1048576 - r].map D.int) (It.it2 (It.lst (Ev.name h2 rfl)) (fun _ _ => rfl)) rfl (Nat.le_of_ble_eq_true rfl) rfl (fun _ => rfl) rfl (by decide) (by decide) lkN lkN (fun C Dd sq i d hd => ?_) rfl rfl
  match i, hd with
  | 0, hd => cases hd; exact ⟨_, _, rfl, Asg.name rfl, Ev.bin Ev.cint (Ev.name rfl rfl) Bin.subI⟩
  | 1, hd => cases hd; exact ⟨_, _, rfl, Asg.name rfl, Ev.bin Ev.cint (Ev.name rfl rfl) Bin.subI⟩
  | 2, hd => cases hd; exact ⟨_, _, rfl, Asg.name rfl, Ev.bin Ev.cint (Ev.name rfl rfl) Bin.subI⟩
  | n + 3, hd => cases hd
theorem law34 {a' b c : Int} (hi : ∀ n ∈ [a', b, c], Float64.isInf (q20 n) = false) (h1 : ρ.lookup ("negative" : Str) = some (.lst ([a', b, c].map .int))) :
    Ex prog w fnsW mg mb (lawC A L a code base av) ρ none (lawS 34) (.next (("lacks", .lst ([a', b, c].map fun n => .flt (q20 n))) :: ρ) none) :=
  Ex.assign (Ev.call (Evs.cons (Ev.name h1 rfl) Evs.nil (fun _ => rfl)) (fn_parts hi (Nat.le_of_ble_eq_true rfl)) ⟨dr 33, dr_mem rfl, rfl⟩ (Nat.le_of_ble_eq_true rfl) rfl rfl (fun _ => rfl)) (.inl rfl) nofun rfl
theorem law35 {r g b : UInt64} (nmax : mg "max" = none) (nmin : mg "min" = none) (ok : feq (fmin3 r g b) (fmax3 r g b) = false → HlsOk r g b) (h1 : ρ.lookup ("lacks" : Str) = some (.lst ([.flt r, .flt g, .flt b]))) :
    Ex prog w fnsW mg mb (lawC A L a code base av) ρ none (lawS 35) (.next (("across", .tup ((fhls r g b).map .flt)) :: ρ) none) :=
  Ex.assign (Ev.call (args3 _ _ _ h1 rfl) (fn_hls (prog := prog) (w := w) (mb := mb) nmax nmin ok) ⟨dr 4, dr_mem rfl, rfl⟩ (Nat.le_of_ble_eq_true rfl) rfl rfl (fun _ => rfl)) (.inl rfl) nofun rfl
theorem law36 {l : List UInt64} {spread place : Int} (ll : l.length = 3) (ni : mg "int" = none) (hb : spread.natAbs < 2 ^ 1000) (h1 : ρ.lookup ("across" : Str) = some (.tup (l.map .flt))) (h3 : ρ.lookup ("spread" : Str) = some (.int spread)) (h4 : ρ.lookup ("place" : Str) = some (.int place))
    (f1 : 0 < spread → IntAt (turnF (l.getD 0 0) spread) ((place + 3 * spread).fmod (6 * spread))) :
    Ex prog w fnsW mg mb (lawC A L a code base av) ρ none (lawS 36) (.next ρ none) := by
  have c0 := Cmp.gtI (prog := prog) (w := w) (a := spread) (b := 0)
  by_cases hq : 0 < spread
  · have hf := f1 hq
    rw [decide_eq_true hq] at c0
    have c1 := Cmp.neI (prog := prog) (w := w) (a := (place + 3 * spread).fmod (6 * spread)) (b := (place + 3 * spread).fmod (6 * spread))
    have e1 : ((place + 3 * spread).fmod (6 * spread) != (place + 3 * spread).fmod (6 * spread)) = false := by simp
    rw [e1] at c1
    exact Ex.if (x := true && (false && true)) (Tst.and (Tst.cmp (Ev.name h3 rfl) Ev.cint c0 rfl) fun _ => Tst.and (Tst.cmp (Ev.bt (Evs.cons (Ev.bin (Ev.bin (Ev.bin (tup3 (i := 0) ll (by decide) _ _ _ h1 rfl) Ev.cint (Bin.mulFI (by decide))) (Ev.name h3 rfl) (Bin.mulFI (Nat.lt_of_lt_of_le hb (Nat.pow_le_pow_right (by decide) (by decide))))) Ev.cflt Bin.addF) Evs.nil (fun _ => rfl)) (Bi.intAt hf) (Nat.le_of_ble_eq_true rfl) rfl ni rfl (by decide) rfl (fun _ => rfl) rfl)
      (Ev.bin (Ev.bin (Ev.name h4 rfl) (Ev.bin Ev.cint (Ev.name h3 rfl) (Bin.mulI (mulOk (by decide)))) Bin.addI) (Ev.bin Ev.cint (Ev.name h3 rfl) (Bin.mulI (mulOk (by decide)))) (Bin.modI (by omega))) c1 rfl) fun _ => Tst.and_nil) nofun (fun _ => Exs.nil)
  · rw [decide_eq_false hq] at c0
    exact Ex.if (x := false && true) (Tst.and (Tst.cmp (Ev.name h3 rfl) Ev.cint c0 rfl) nofun) nofun (fun _ => Exs.nil)
theorem law37 {l : List UInt64} (ll : l.length = 3) (f : Mo mg base) (h1 : ρ.lookup ("across" : Str) = some (.tup (l.map .flt))) :
    Ex prog w fnsW mg mb (lawC A L a code base av) ρ none (lawS 37) (.next (("shown", .tup ((frgb (l.getD 0 0) (l.getD 1 0) (l.getD 2 0)).map .flt)) :: ρ) none) :=
  Ex.assign (Ev.call (Evs.cons (tup3 (i := 0) ll (by decide) _ _ _ h1 rfl) (Evs.cons (tup3 (i := 1) ll (by decide) _ _ _ h1 rfl) (Evs.cons (tup3 (i := 2) ll (by decide) _ _ _ h1 rfl) Evs.nil (fun _ => rfl)) (fun _ => rfl)) (fun _ => rfl)) (fn_hls_to_rgb f.f1 f.f2 f.f3) ⟨dr 5, dr_mem rfl, rfl⟩ (Nat.le_of_ble_eq_true rfl) rfl rfl (fun _ => rfl)) (.inl rfl) nofun rfl
theorem law38 {l : List UInt64} {p q r : Int} (ni : mg "int" = none) (ll : l.length = 3) (h1 : ρ.lookup ("shown" : Str) = some (.tup (l.map .flt))) (h2 : ρ.lookup ("negative" : Str) = some (.lst ([p, q, r].map .int)))
    (f : ∀ i < 3, IntAt (paintF (l.getD i 0)) ([p, q, r].getD i 0)) : Ex prog w fnsW mg mb (lawC A L a code base av) ρ none (lawS 38) (.ret (.bool true)) := by
  refine Ex.ret (Ev.eqSame (.inl ⟨rfl, rfl⟩) (EvN.ev (EvN.comp (ρ₀ := []) (It.it2 (It.tup (Ev.name h1 rfl)) (fun _ _ => rfl)) (by simp [ll]) (by simp [ll]) rfl (fun _ => rfl) rfl (by decide) (by decide) lkN lkN (fun C Dd sq i d hd => ?_))) (Ev.name h2 rfl) (ints3 p q r).1 (ints3 p q r).2 (Nat.le_of_ble_eq_true rfl) rfl)
  have hi : i < 3 := by have := (List.getElem?_eq_some_iff.mp hd).1; rw [List.length_map, ll] at this; exact this
  have hd' : d = .flt (l.getD i 0) := by
    rw [List.getElem?_map, List.getElem?_eq_getElem (by omega)] at hd
    cases hd
    rw [List.getD_eq_getElem?_getD, List.getElem?_eq_getElem (by omega)]; rfl
  subst hd'
  refine ⟨.int ([p, q, r].getD i 0), _, ?_, Asg.name rfl, Ev.bt (Evs.cons (Ev.bin (Ev.bin (Ev.name rfl rfl) Ev.cint (Bin.mulFI (by decide))) Ev.cflt Bin.addF) Evs.nil (fun _ => rfl)) (Bi.intAt (f i hi)) (Nat.le_of_ble_eq_true rfl) rfl ni rfl (by decide) rfl (fun _ => rfl) rfl⟩
  match i, hi with
  | 0, _ => rfl
  | 1, _ => rfl
  | 2, _ => rfl
end
end Wu
end
section
namespace Wu
open PySem PySem.Spec PySem.Calls PyProof.Rows PySem.W

/-- the sort's questions, answered -/
noncomputable def runK {α : Type} (lt : Nat → Nat → Bool) : KasT α → α
  | .ret a => a
  | .ask i j k => runK lt (k (lt i j))
noncomputable def inK {α : Type} (n : Nat) : KasT α → Bool
  | .ret _ => true
  | .ask i j k => decide (i < n) && decide (j < n) && inK n (k true) && inK n (k false)
theorem inK_sort4 : inK 4 (kas_sort 4) = true := by decide +kernel
theorem runK_wp {α : Type} {n : Nat} {lt : Nat → Nat → Bool} {cmp : Nat → Nat → (Bool → Shared → Prop) → Shared → Prop} {s : Shared} (hc : ∀ i j C, i < n → j < n → C (lt i j) s → cmp i j C s) {Q : α → Shared → Prop} :
    ∀ t : KasT α, inK n t = true → Q (runK lt t) s → t.kasWp cmp Q s
  | .ret _, _, h => h
  | .ask i j k, hi, h => by
    simp only [inK, Bool.and_eq_true, decide_eq_true_eq] at hi
    obtain ⟨⟨⟨h1, h2⟩, h3⟩, h4⟩ := hi
    refine hc i j _ h1 h2 ?_
    have : inK n (k (lt i j)) = true := by cases lt i j <;> assumption
    exact runK_wp hc (k (lt i j)) this h
noncomputable def ltK (key : Nat → Str) (i j : Nat) : Bool := decide ((key i).cps.toList < (key j).cps.toList)
/-- the places 0 to 3, laid in the order of their keys -/
noncomputable def sort4 (key : Nat → Str) : List Nat := (runK (ltK key) (kas_sort 4)).toList

noncomputable def objsOf (h : Heap) (L : Addr) : List (Addr × Obj) := (List.range h.objs.size).filterMap fun b => if b = L then none else (h.get? b).map fun o => (b, o)
theorem mem_objs {h : Heap} {L : Addr} {p : Addr × Obj} : p ∈ objsOf h L ↔ p.1 ≠ L ∧ h.get? p.1 = some p.2 := by
  unfold objsOf
  rw [List.mem_filterMap]
  constructor
  · rintro ⟨b, _, e⟩
    by_cases hb : b = L
    · rw [if_pos hb] at e; cases e
    · rw [if_neg hb] at e
      cases q : h.get? b with
      | none => rw [q] at e; cases e
      | some o => rw [q] at e; cases e; exact ⟨hb, q⟩
  · rintro ⟨h1, h2⟩
    exact ⟨p.1, List.mem_range.mpr (Heap.lt_size h2), by rw [if_neg h1, h2]; rfl⟩

section
variable {prog : Program} {w : World}
theorem collect_range {A : Around} {E : Value → Shared → Prop} {s : Shared} {R : List Value → Shared → Prop} {r : Addr} {a b c : Int} {t u v : Tok} {n : Nat} (hh : A.handled = none) (hr : IsRange s.heap r a b c t u v) (hsmall : Builtin.Range.small a b c = true)
    (hn : Builtin.Range.rangeSize a b c = n) (hlen : n ≤ 2 ^ 24)
    (h : ∀ (h' : Heap) (tk : Nat) (acc : Array Value), (∀ b o, s.heap.get? b = some o → h'.get? b = some o) → ItemsOf (fun i v => ∃ t, v = .int (a + i * c) t) acc n → R acc.toList { s with heap := h', toks := tk }) :
    wpAny (model prog w) A (collect (.ref r)) R E s := by
  unfold collect
  refine wpAny_bind (wpAny_runValue (codeAny_builtin entry_proto_collect' ?_))
  rw [Around.under_plainId PySem.F.plain_proto_collect _]
  show wpAny _ A.in1 (newList [] >>= fun l => again (.builtin "list.__iadd__" ⟨[l, .ref r], []⟩)) _ _ s
  refine wpAny_bind (wpAny_newObj_type ?_)
  refine wpAny_pure ⟨plainId_quiet PySem.F.plain_list_iadd _, codeAny_builtin entry_list_iadd' ?_⟩
  rw [Around.under_plainId PySem.F.plain_list_iadd _]
  have hS₁ : (s.heap.push { cls := .type "list", data := .seq ([] : List Value).toArray }).get? s.heap.objs.size = some { cls := .type "list", data := .seq #[] } := Heap.get?_push_size _ rfl
  show wpAny _ A.in1 (Builtin.List.listExtendWith (.ref s.heap.objs.size) (.ref r) (.ref s.heap.objs.size)) _ _ _
  have key := wpAny_extend_range (prog := prog) (w := w) (A := A) (s := { s with heap := s.heap.push { cls := .type "list", data := .seq ([] : List Value).toArray } })
    (R := fun (q : Result) (s' : Shared) => ∃ (h' : Heap) (tk : Nat) (acc' : Array Value) (c' : Nat), q = .ok (.ret (.ref s.heap.objs.size)) ∧ s' = { s with heap := h', toks := tk } ∧
      (∀ b o, s.heap.get? b = some o → h'.get? b = some o) ∧ h'.get? s.heap.objs.size = some { cls := .type "list", dict := none, data := .seq acc' c', slots := #[] } ∧ ItemsOf (fun i v => ∃ t, v = .int (a + i * c) t) acc' n)
    hh (Heap.get?_push_of_some _ hr) hsmall hn hlen s.heap.objs.size (.ref s.heap.objs.size) 0 hS₁
    (fun h' tk acc' c' hk hS' hacc => ⟨h', tk, acc', c', rfl, rfl, fun b o e => hk b o (Nat.ne_of_lt (Heap.lt_size e)) (Heap.get?_push_of_some _ e), hS', hacc⟩)
  refine wpAny_mono key (fun fin s' x => ?_) fun e s' x => ?_
  · cases fin with
    | done f =>
      obtain ⟨h', tk, acc', c', e, rfl, hk, hS', hacc⟩ := x
      cases e
      show wpAny _ A (load s.heap.objs.size >>= _) _ _ _
      refine wpAny_bind (wpAny_load hS' ?_)
      exact wpAny_pure (h h' tk acc' hk hacc)
    | again c₁ =>
      refine ⟨x.1, codeAny_mono x.2 fun q s₂ y => ?_⟩
      obtain ⟨h', tk, acc', c', rfl, rfl, hk, hS', hacc⟩ := y
      show wpAny _ A (load s.heap.objs.size >>= _) _ _ _
      refine wpAny_bind (wpAny_load hS' ?_)
      exact wpAny_pure (h h' tk acc' hk hacc)
  · obtain ⟨_, _, _, _, e', _⟩ := x
    cases e'

theorem keys_run {A : Around} {h₀ : Heap} {L kS : Addr} {m : Str → Option Value} {f : Addr} {rest : List (Addr × Obj)} {s₀ : Shared} {key : Nat → Str} {Fin : List Value → Nat → Shared → Prop} (hk : ∀ p ∈ rest, p.1 ≠ kS)
    (hf : ∀ (i : Nat) (t : Tok) (g : Heap) (tk : Nat) (Q : Value → Shared → Prop) (E : Value → Shared → Prop), i < 4 → Fr h₀ L g m → News h₀ L g rest →
      (∀ h' tk' t', Keeps g h' → Q (.str (key i) t') { s₀ with heap := h', toks := tk' }) → wpAny (model prog w) A (call (.ref f) [.int i t]) Q E { s₀ with heap := g, toks := tk }) :
    ∀ (r : List Value) (is js : List Nat) (ks : List Value) (e : Nat) (g : Heap) (tk : Nat), IntsAre r (is.map fun (i : Nat) => (i : Int)) → (∀ i ∈ is, i < 4) → StrsAre ks (js.map key) → Fr h₀ L g m → News h₀ L g ((kS, seqObj "list" (List.toArray ks) e) :: rest) →
      (∀ ks' e' g' tk', StrsAre ks' ((js ++ is).map key) → Fr h₀ L g' m → News h₀ L g' ((kS, seqObj "list" (List.toArray ks') e') :: rest) → Fin ks' e' { s₀ with heap := g', toks := tk' }) →
      KatKeys prog w A h₀ L m kS (.ref f) Fin r ks e { s₀ with heap := g, toks := tk }
  | [], is, js, ks, e, g, tk, hi, _, hs, F, N, hfin => by
    have : is = [] := by cases is with | nil => rfl | cons _ _ => cases hi
    subst this
    exact KatKeys.nil (hfin ks e g tk (by rw [List.append_nil]; exact hs) F N)
  | v :: r, is, js, ks, e, g, tk, hi, hlt, hs, F, N, hfin => by
    match is, hi, hlt with
    | i :: is, hi, hlt =>
      obtain ⟨t, rfl, hi'⟩ : ∃ t, v = .int (i : Int) t ∧ IntsAre r (is.map fun (i : Nat) => (i : Int)) := by cases hi with | cons _ t h => exact ⟨t, rfl, h⟩
      refine KatKeys.cons (hf i t g tk _ _ (hlt i List.mem_cons_self) F (fun p hp => N p (List.mem_cons_of_mem _ hp)) fun h' tk' t' kp => ?_)
      refine KatBack.intro (F.keeps kp) (N.grown kp) (UpdF.head hk) fun h2 c F2 N2 => ?_
      refine keys_run hk hf r is (js ++ [i]) (ks ++ [.str (key i) t']) c h2 tk' hi' (fun j hj => hlt j (List.mem_cons_of_mem _ hj)) ?_ F2 N2 fun ks' e' g' tk2 hs' F' N' => hfin ks' e' g' tk2 (by simpa [List.append_assoc] using hs') F' N'
      rw [List.map_append]
      exact StrsAre.append' hs (.cons _ _ .nil)
end
end Wu
end
section
namespace Wu
open PySem PySem.Spec PySem.Calls PyProof.Rows PySem.W

theorem getD_strs {ks : List Value} {ss : List Str} (h : StrsAre ks ss) {i : Nat} (hi : i < ss.length) : ∃ t, ks.getD i Value.none = .str (ss.getD i Str.empty) t := by
  induction h generalizing i with
  | nil => cases hi
  | cons y t r ih =>
    cases i with
    | zero => exact ⟨t, rfl⟩
    | succ i =>
      obtain ⟨t', e⟩ := ih (i := i) (by simpa using hi)
      exact ⟨t', by simpa using e⟩
theorem map_getD {vs : List Value} {n : Nat} (hl : vs.length = n) (hv : ∀ i < n, ∃ t, vs.getD i Value.none = .int (i : Int) t) : ∀ l : List Nat, (∀ i ∈ l, i < n) → IntsAre (l.map fun i => vs.getD i Value.none) (l.map fun (i : Nat) => (i : Int))
  | [], _ => .nil
  | i :: l, h => by
    obtain ⟨t, e⟩ := hv i (h i List.mem_cons_self)
    rw [List.map_cons, List.map_cons, e]
    exact .cons _ t (map_getD hl hv l fun j hj => h j (List.mem_cons_of_mem _ hj))
section
variable {prog : Program} {w : World}
theorem sorted_range {A : Around} {E : Value → Shared → Prop} {s : Shared} {Q : Value → Shared → Prop} {L r f : Addr} {m : Str → Option Value} {t u v : Tok} (hh : A.handled = none) (hns : s.heap.Ns L m) (hr : IsRange s.heap r 0 4 1 t u v) (key : Nat → Str)
    (hlt : ∀ i ∈ sort4 key, i < 4)
    (hf : ∀ (i : Nat) (t : Tok) (g : Heap) (tk : Nat) (Q : Value → Shared → Prop) (E : Value → Shared → Prop), i < 4 → (∀ b o, b ≠ L → s.heap.get? b = some o → g.get? b = some o) → g.Ns L m →
      (∀ h' tk' t', Keeps g h' → Q (.str (key i) t') { s with heap := h', toks := tk' }) → wpAny (model prog w) A.in1.in1 (call (.ref f) [.int i t]) Q E { s with heap := g, toks := tk })
    (hQ : ∀ D vs h' tk n, (∀ b o, b ≠ L → s.heap.get? b = some o → h'.get? b = some o) → h'.Ns L m → s.heap.get? D = none → h'.get? D = some { cls := .type "list", data := .seq (List.toArray vs) n } → IntsAre vs ((sort4 key).map fun (i : Nat) => (i : Int)) → Q (.ref D) { s with heap := h', toks := tk }) :
    wpAny (model prog w) A (call (.builtin "sorted") [.ref r] [(Str.ofString "key", .ref f)]) Q E s := by
  refine call_function_entry_kw kind_sorted plain_sorted entry_sorted (ksk_s1 _ _) ?_
  unfold Builtin.«sorted»
  refine wpAny_bind (m := checkCount "sorted" 1 1 _) (wpAny_pure ?_)
  refine wpAny_bind (collect_range (A := A.in1) (n := 4) hh hr (by decide) (by decide) (by decide) fun g tk acc kg hacc => ?_)
  have hlen : acc.toList.length = 4 := by rw [Array.length_toList]; exact hacc.1
  refine wpAny_bind (wpAny_newList ?_ (by rw [hlen]; decide))
  generalize hvs : acc.toList = vs at *
  have hvi : ∀ i < 4, ∃ t, vs.getD i Value.none = .int (i : Int) t := fun i hi => by
    have hi' : i < acc.size := by rw [← Array.length_toList, hvs, hlen]; exact hi
    have e : acc[i]? = some acc[i] := Array.getElem?_eq_getElem hi'
    obtain ⟨t, et⟩ := hacc.2 i _ e
    refine ⟨t, ?_⟩
    rw [← hvs, List.getD_eq_getElem?_getD, Array.getElem?_toList, e, Option.getD_some, et]
    simp
  have kp0 : ∀ b o, s.heap.get? b = some o → (g.push (seqObj "list" vs.toArray 0)).get? b = some o := fun b o e => Heap.get?_push_of_some _ (kg b o e)
  have hDn : s.heap.get? g.objs.size = none := by
    cases e : s.heap.get? g.objs.size with
    | none => rfl
    | some o => exact absurd (Heap.lt_size (kg _ _ e)) (Nat.lt_irrefl _)
  have hLl : L < g.objs.size := by obtain ⟨o, _, _, e, _⟩ := hns; exact Heap.lt_size (kg _ _ e)
  have hDL : g.objs.size ≠ L := Nat.ne_of_gt hLl
  have hE : ∀ b, ({ objs := #[] } : Heap).get? b = none := fun b => Heap.get?_none_of_le (Nat.zero_le _)
  have F0 : Fr { objs := #[] } L (g.push (seqObj "list" vs.toArray 0)) m := ⟨hns.at' fun o e => kp0 L o e, (fun b o e => by rw [hE b] at e; cases e), Nat.zero_le _⟩
  have N0 : News { objs := #[] } L (g.push (seqObj "list" vs.toArray 0)) (objsOf s.heap L) := fun p hp => by
    obtain ⟨h1, h2⟩ := mem_objs.mp hp
    exact ⟨kp0 _ _ h2, h1, hE _⟩
  have nD : ∀ p ∈ objsOf s.heap L, p.1 ≠ g.objs.size := fun p hp q => by
    obtain ⟨_, h2⟩ := mem_objs.mp hp
    rw [q, hDn] at h2; cases h2
  have toK : ∀ (g' : Heap), News { objs := #[] } L g' (objsOf s.heap L) → ∀ b o, b ≠ L → s.heap.get? b = some o → g'.get? b = some o := fun g' N b o hb e => (N (b, o) (mem_objs.mpr ⟨hb, e⟩)).1
  have hsz : (g.push (seqObj "list" vs.toArray 0)).objs.size = g.objs.size + 1 := Heap.size_push ..
  show wpAny _ _ _ _ _ { s with heap := g.push (seqObj "list" vs.toArray 0), toks := tk }
  refine wpAny_bind (wpAny_holding (wpAny_call_entry_kw slot_list_sort ⟨_, Heap.get?_push_size _ rfl, rfl⟩ entry_list_sort ?body (ksk_l1 _ _)))
  case body =>
    show wpAny (model prog w) A.in1.in1 (Builtin.«list.sort» ⟨[.ref g.objs.size], [(Str.ofString "key", .ref f)]⟩) _ _ _
    rw [ksk_t1]
    refine kat_keyed (s := { s with heap := g.push (seqObj "list" vs.toArray 0), toks := tk }) F0 N0 (Heap.get?_push_size _ rfl) hDL (hE _) nD (by rw [hlen]; decide) (by rw [hlen]; decide) fun kS e1 h' F1 N1 l0 l1 => ?_
    have hkS : ∀ p ∈ (g.objs.size, seqObj "list" #[] e1) :: objsOf s.heap L, p.1 ≠ kS := fun p hp => by
      rcases List.mem_cons.mp hp with rfl | hp
      · exact Nat.ne_of_lt l0
      · exact Nat.ne_of_lt (l1 p hp)
    have hiv : IntsAre vs ([0, 1, 2, 3].map fun (i : Nat) => (i : Int)) := by
      have := map_getD hlen hvi [0, 1, 2, 3] (by decide)
      have e : ([0, 1, 2, 3].map fun i => vs.getD i Value.none) = vs := by
        match vs, hlen with
        | [_, _, _, _], _ => rfl
      rw [e] at this; exact this
    refine keys_run (s₀ := s) (key := key) hkS (fun i t g' tk' Q' E' hi F N hQ' => hf i t g' tk' Q' E' hi (toK g' fun p hp => N p (List.mem_cons_of_mem _ hp)) F.ns hQ') vs [0, 1, 2, 3] [] [] 0 h' tk hiv (by decide) .nil F1 N1 fun ks e' g' tk' hs F2 N2 => ?_
    have hs' : StrsAre ks [key 0, key 1, key 2, key 3] := hs
    have hks : ks.length = 4 := by rw [hs'.length]; rfl
    have kind : keyKind' (List.toArray ks) = pure oneType' := by
      match ks, hks, hs' with
      | [_, _, _, _], _, h => exact keyKind_strs h
    rw [kind]
    refine wpAny_pure ?_
    have e4 : vs.length = 4 := hlen
    rw [e4]
    refine runK_wp (n := 4) (lt := ltK key) (fun i j C hi hj hC => ?_) _ inK_sort4 ?_
    · obtain ⟨ti, ei⟩ := getD_strs hs' (i := i) hi
      obtain ⟨tj, ej⟩ := getD_strs hs' (i := j) hj
      have kk : ∀ i < 4, [key 0, key 1, key 2, key 3].getD i Str.empty = key i := fun i hi => by
        match i, hi with
        | 0, _ => rfl
        | 1, _ => rfl
        | 2, _ => rfl
        | 3, _ => rfl
      rw [kk i hi] at ei
      rw [kk j hj] at ej
      show wpAny _ _ (keyLt' oneType' (ks.getD i Value.none) (ks.getD j Value.none)) C _ _
      rw [ei, ej]
      exact kas_lt_str hC
    · have hkD : kS ≠ g.objs.size := Nat.ne_of_gt l0
      refine KatFin.intro F2 N2 (UpdF.head hkS) fun h2 c2 F3 N3 => ?_
      refine KasFin.intro F3 N3 (UpdF.tail hkD (UpdF.head nD)) fun h3 c3 F4 N4 => ?_
      refine ⟨_, rfl, wpAny_pure ⟨_, rfl, ?_⟩⟩
      have hout := map_getD hlen hvi (sort4 key) hlt
      exact hQ g.objs.size _ h3 tk' c3 (toK h3 fun p hp => N4 p (List.mem_cons_of_mem _ (List.mem_cons_of_mem _ hp))) F4.ns hDn (N4 (g.objs.size, _) (List.mem_cons_of_mem _ List.mem_cons_self)).1 hout
end
end Wu
end
section
namespace Wu
open PySem PySem.Spec PySem.Calls PyProof.Rows PySem.W

/-- the lambda of the sort: parameters, body, scope -/
noncomputable def lamX : Arguments × Expr × Scope × Pos := match lawS 13 with
  | .Assign _ (.Call _ _ [⟨_, .Lambda p b sc pos, _⟩] _) _ => (p, b, sc, pos)
  | _ => (⟨[], [], none, [], [], none, []⟩, .Constant .none 0 ⟨0, 0, 0, 0⟩, ⟨.function, [], false, false, []⟩, ⟨0, 0, 0, 0⟩)
noncomputable def orderOf (script : List Int) : List Nat := sort4 fun i => kS (wordOf script i)
theorem Call_NameK {M : Model} {A : Around} {E : Value → Shared → Prop} {s : Shared} {env : Env} {id : Str} {p pos : Pos} {args : List Expr} {kws : List Keyword} {Q : Value → Shared → Prop}
    (h : wpAny M A (eval (.Name id p) env) (fun f s₁ => wpAny M A (callWith pos f [] (backTo pos (starEach args env)) (backToKw pos (keywordEach kws env))) Q E s₁) E s) :
    wpAny M A (eval (.Call (.Name id p) args kws pos) env) Q E s := by
  show wpAny M A (do callWith pos (← eval (.Name id p) env) [] (backTo pos (starEach args env)) (backToKw pos (keywordEach kws env))) Q E s
  exact wpAny_bind h
noncomputable abbrev lamCl (L : Addr) : List (Str × Addr) := [("bare", ((cellsFrom (L + 1) (dr 34).scope.names []).lookup ("bare" : Str)).getD 0)]
section
variable {prog : Program} {w : World} {mg mb : Str → Option Value} {A : Around} {L a c P : Addr} {base : Heap} {ρ : PEnv}

/-- a call of the lambda -/
theorem lam_call {script : List Int} {f c' : Addr} {qual : Str} {pm ctv : Value} {A' : Around} {i : Nat} {t : Tok} {g : Heap} {s₀ : Shared} {tk : Nat} {b2 : Heap} {Q : Value → Shared → Prop} {E : Value → Shared → Prop} (hi : i < 4)
    (room : Room A' 15) (G : Gl fnsW mg mb b2) (kb : Keeps b2 g) (ho : g.get? f = some (kla_obj "<lambda>" qual lamX.1 lamX.2.1 lamX.2.2.1 (lamCl L) pm c' ctv)) (hcd : g.CodeRec (.ref c') qual)
    (hc : ∃ v, g.IsCell ((lamCl L).lookup ("bare" : Str) |>.getD 0) (some v) ∧ Rep g [] (.lst (bareD script)) v) (hcb : b2.get? ((lamCl L).lookup ("bare" : Str) |>.getD 0) = none)
    (hQ : ∀ h' tk' t', Keeps g h' → Q (.str (kS (wordOf script i)) t') { s₀ with heap := h', toks := tk' }) :
    wpAny (model prog w) A' (call (.ref f) [.int i t]) Q E { s₀ with heap := g, toks := tk } := by
  refine wpAny_call (kla_callFunE (fd := kla_fn "<lambda>" qual lamX.1 lamX.2.1 lamX.2.2.1 (lamCl L) pm (.ref c') ctv) (body := lamX.2.1) (by have := room.depth; omega) ho rfl rfl rfl rfl hcd ?_)
  have hb : bindArgs (kla_fn "<lambda>" qual lamX.1 lamX.2.1 lamX.2.2.1 (lamCl L) pm (.ref c') ctv) ⟨[.int i t], []⟩ = pure [((Str.ofString "k"), Value.int (i : Int) t)] := rfl
  rw [hb]
  refine wpAny_pure (wpAny_newFunctionEnv (show ∀ x ∈ lamX.2.2.1.names, x.2 ≠ .cell by decide) (by intro y hy; rw [List.mem_singleton.mp hy]; rfl) (fun h₁ hns hsb => ⟨?_, ?_⟩) rfl)
  · exact (G.nolimit.keeps kb).fresh _ hsb
  · have hk₁ : Keeps g h₁ := fun b o e => hsb.extBut b o (Nat.ne_of_lt (Heap.lt_size e)) (Heap.get?_push_of_some _ e)
    refine kla_codeExpr ?_
    obtain ⟨v, hcv, rv⟩ := hc
    let env' : Env := newEnv lamX.2.2.1 g.objs.size mainGlobals (lamCl L) (qual ++ ".<locals>.") (some f) (.ref c') none builtinsNs
    let cx : Fx := ⟨A'.deeper env', env', b2, [], 10⟩
    have ok : Ok fnsW mg mb cx { s₀ with heap := h₁, toks := tk + [((Str.ofString "k"), Value.int i t)].length } [("k", .int i), ("bare", .lst (bareD script))] none := by
      refine ⟨⟨room.handled, by have := room.depth; show A'.depth + 1 + 10 < _; omega, by have := room.units; show A'.units + 3 + 10 * 10 < _; omega⟩, G, kb.trans hk₁, lkC ⟨_, .inl ⟨rfl, _, hns, rfl⟩, ⟨t, rfl⟩⟩ (lkC ⟨v, .inr ⟨.inr ⟨rfl, rfl⟩, _, rfl, hcv.keeps hk₁⟩, rv.keeps hk₁⟩ lkN), trivial, (fun _ hm => nomatch hm),
        ⟨rfl, rfl, rfl, ⟨_, hns⟩, ?_, lkC ⟨hcb, v, hcv.keeps hk₁⟩ lkN, fun x y ca e1 e2 => ?_⟩⟩
      · cases e : b2.get? g.objs.size with
        | none => exact e
        | some o => exact absurd (Heap.lt_size (kb _ _ e)) (Nat.lt_irrefl _)
      · have one : ∀ x ca, (lamCl L).lookup x = some ca → x = "bare" := lkC rfl lkN
        rw [one x ca e1, one y ca e2]
    have lw := wordOf_len script i
    have ev : Ev prog w fnsW mg mb cx [("k", .int i), ("bare", .lst (bareD script))] none lamX.2.1 (.str (kS (wordOf script i))) :=
      Ev.call (Evs.cons (Ev.bin (Ev.sub (Ev.name (d := .lst (bareD script)) rfl rfl) (Ev.name (d := .int (i : Nat)) rfl rfl) (Itm.lst (k := i) (by omega) (rng_put hi)) fun _ _ => rfl) Ev.cstr (Bin.addM (bs := wordOf script i) (by omega))) Evs.nil (fun _ => rfl)) fn_strxfrm ⟨dr 10, dr_mem rfl, rfl⟩ (Nat.le_of_ble_eq_true rfl) rfl rfl (fun _ => rfl)
    refine ev.of _ _ _ ok fun v' h' tk' kk r => ?_
    obtain ⟨t', rfl⟩ := r
    exact hQ h' tk' t' (hk₁.trans kk)
end
end Wu
end
section
namespace Wu
open PySem PySem.Spec PySem.Calls PyProof.Rows PySem.W
/-- the heap with another table at P -/
noncomputable def setP (h : Heap) (P : Addr) (ps : Array Value) : Heap := h.update P fun _ => tabObj ps
theorem setP_self {h : Heap} {P : Addr} {o : Obj} {ps : Array Value} (e : h.get? P = some o) : (setP h P ps).get? P = some (tabObj ps) := Heap.get?_update_self (fun _ => tabObj ps) e rfl
theorem setP_ne {h : Heap} {P b : Addr} {ps : Array Value} (hb : b ≠ P) : (setP h P ps).get? b = h.get? b := Heap.get?_update_other h _ (Ne.symm hb)
theorem Reps.of_ints {h : Heap} {av : List Addr} : ∀ {vs : List Value} {ns : List Int}, IntsAre vs ns → Reps h av (ns.map .int) vs
  | _, _, .nil => rfl
  | _, _, .cons _ t r => Reps.cons ⟨t, rfl⟩ (Reps.of_ints r)
section
variable {prog : Program} {w : World} {fns : List DefRec} {mg mb : Str → Option Value} {c : Fx} {ρ : PEnv} {o : Own}
theorem range_call {x : Str} {xp p : Pos} {e : Expr} {n : Int} (he : Ev prog w fns mg mb c ρ o e (.int n)) (hx : c.env.kindOf x = some .globalImplicit) (hn : mg x = none) (hv : bootBuiltins x = some (.type "range")) (hn1 : x ≠ "__name__") (hd : (x == ("__debug__" : Str)) = false)
    (hse : backTo p (starEach [e] c.env) = [(false, eval e c.env)]) (s : Shared) (Q E : Value → Shared → Prop) (ok : Ok fns mg mb c s ρ o)
    (hQ : ∀ r h' tk t u v, Keeps s.heap h' → s.heap.get? r = none → IsRange h' r 0 n 1 t u v → Q (.ref r) { s with heap := h', toks := tk }) : wpAny (model prog w) c.A (eval (.Call (.Name x xp) [e] [] p) c.env) Q E s := by
  refine wpAny_Call_NameR (loadB ok hx hn hv hn1 hd ?_)
  rw [hse]
  refine PySem.callWith_type rfl (Calls.evalArgs_plain (Calls.spliced_cons (he.of s _ E ok fun v h' tk k r => Calls.spliced_nil ?_)))
  obtain ⟨t, rfl⟩ := r
  refine call_range_1 ?_
  exact hQ _ _ _ _ _ _ (k.trans (Keeps.push _ _)) (new_none _ k) (IsRange.new ..)
end
section
variable {prog : Program} {w : World} {mg mb : Str → Option Value} {A : Around} {L a c P : Addr} {base : Heap} {ρ : PEnv}
set_option maxHeartbeats 2000000 in
theorem law13 {script : List Int} {rest : List Stmt} {r : Res} (nr : mg "range" = none) (ns : mg "sorted" = none) (h1 : ρ.lookup ("bare" : Str) = some (.lst (bareD script)))
    (hord : ∀ i ∈ orderOf script, i < 4) (C : CodeHd base c P) (hP : base.get? P = some (tabObj #[])) (hB : base.BuiltinsAt mg P) (G2 : ∀ ps, Gl fnsW mg mb (setP base P ps))
    (hrest : ∀ ps, Exs prog w fnsW mg mb (lawC A L a (.ref c) (setP base P ps) []) (("order", .lst ((orderOf script).map fun i => .int (i : Nat))) :: ρ) none rest r)
    (s : Shared) (Q : Flow → Shared → Prop) (E : Value → Shared → Prop) (ok : Ok fnsW mg mb (lawC A L a (.ref c) base []) s ρ none)
    (hQ : ∀ ps f h' tk, ResOk fnsW mg mb (lawC A L a (.ref c) (setP base P ps) []) { s with heap := h', toks := tk } r f → Q f { s with heap := h', toks := tk }) :
    wpAny (model prog w) A (execs (lawS 13 :: rest) (lawC A L a (.ref c) base []).env) Q E s := by
  obtain ⟨mL, hmL⟩ := ok.frame.ns
  have hmL0 := hmL
  have hL0 : base.get? L = none := ok.frame.baseL
  have hPs : s.heap.get? P = some (tabObj #[]) := ok.keep _ _ hP
  have hLP : L ≠ P := fun q => by rw [q, hP] at hL0; cases hL0
  refine wpAny_execs_cons (wpAny_Assign_Name (Call_NameK (loadB ok rfl ns rfl (by decide) rfl (callWith_kw ?_ rfl rfl rfl rfl))) rfl)
  refine Calls.spliced_cons (range_call (n := 4) Ev.cint rfl nr rfl (by decide) rfl rfl s _ E ok fun rg H1 tk1 t1 u1 v1 k1 hrn hr1 => ?_)
  refine Calls.spliced_nil ?_
  have hrP : rg ≠ P := fun q => by rw [q, hPs] at hrn; cases hrn
  have hB1 : H1.BuiltinsAt mg P := by
    obtain ⟨bm, o, b1, b2, b3, b4, b5, b6⟩ := hB
    exact ⟨bm, o, b1, b2, b3, b4, k1 _ _ (ok.keep _ _ b5), b6⟩
  have hg1 : H1.Ns mainGlobals mg := ok.glh.g.keeps k1
  have hgP : mainGlobals ≠ P := fun q => by
    obtain ⟨o, es, ep, e, hd, _⟩ := ok.glh.g
    rw [q, hPs] at e; cases e; cases hd
  refine kws_cons (kla_eval rfl (kla_makeFunction (mg := mg) (clos := lamCl L) rfl rfl hg1 rfl (C.keeps fun b o e => k1 _ _ (ok.keep _ _ e)) (k1 _ _ hPs) True.intro rfl hgP hB1 fun c' ctv g2 tk2 hx hge hlt hrec htb => kws_nil ?_))
  refine (?_ : ∀ fo, fo = kla_obj "<lambda>" ((lawC A L a (.ref c) base []).env.qual ++ "<lambda>") lamX.1 lamX.2.1 lamX.2.2.1 (lamCl L) ((mg "__name__").getD .none) c' ctv → wpAny (model prog w) A (PySem.call (.builtin "sorted") [.ref rg] [(Str.ofString "key", .ref g2.objs.size)]) _ E { s with heap := g2.push fo, toks := tk2 }) _ rfl
  intro fo hfo
  have k2 : ∀ b o, b ≠ P → s.heap.get? b = some o → (g2.push fo).get? b = some o := fun b o hb e => Heap.get?_push_of_some _ (hx b o hb (k1 b o e))
  obtain ⟨ps, hps⟩ : ∃ ps, (g2.push fo).get? P = some (tabObj ps) := ⟨_, Heap.get?_push_of_some _ htb⟩
  have noneP : ∀ b, base.get? b = none → (setP base P ps).get? b = none := fun b e => by
    have hb : b ≠ P := fun q => by rw [q, hP] at e; cases e
    rw [setP_ne hb]; exact e
  have hLs : ∃ o, s.heap.get? L = some o := by obtain ⟨o, _, _, e, _⟩ := hmL0; exact ⟨o, e⟩
  have dictL : ∀ o, s.heap.get? L = some o → (∀ items n, o.data ≠ .seq items n) ∧ ∀ v, o.data ≠ .cell v := fun o e => by
    obtain ⟨o', es, ep, e1, e2, _⟩ := hmL0
    have e1' : s.heap.get? L = some o' := e1
    rw [e] at e1'; cases e1'
    exact ⟨(fun items n q => by rw [e2] at q; cases q), (fun v q => by rw [e2] at q; cases q)⟩
  have hL2 : (g2.push fo).Ns L mL := Heap.Ns.at' (h := s.heap) hmL0 fun o e => k2 L o hLP e
  have hr2 : IsRange (g2.push fo) rg 0 4 1 t1 u1 v1 := Heap.get?_push_of_some _ (hx rg _ hrP hr1)
  have hf2 : (g2.push fo).get? g2.objs.size = some fo := Heap.get?_push_size _ (by rw [hfo]; rfl)
  have hLf : g2.objs.size ≠ L := by
    obtain ⟨o, e⟩ := hLs
    exact Nat.ne_of_gt (Heap.lt_size (hx L o hLP (k1 _ _ e)))
  have hc2 : (g2.push fo).CodeRec (.ref c') ((lawC A L a (.ref c) base []).env.qual ++ "<lambda>") := hrec.push _
  -- the cell of bare
  obtain ⟨vb, hvb, rvb⟩ := ok.vars "bare" _ h1
  have hcellb : s.heap.IsCell (((lamCl L).lookup ("bare" : Str)).getD 0) (some vb) := by
    rcases hvb with ⟨e, _⟩ | ⟨_, ca, hca, hcv⟩
    · cases e
    · have e : (cellsFrom (L + 1) (dr 34).scope.names []).lookup ("bare" : Str) = some ca := hca
      have e2 : ((lamCl L).lookup ("bare" : Str)).getD 0 = ca := by
        show ((cellsFrom (L + 1) (dr 34).scope.names []).lookup ("bare" : Str)).getD 0 = ca
        rw [e]; rfl
      rw [e2]; exact hcv
  have hbaseb : (setP base P ps).get? (((lamCl L).lookup ("bare" : Str)).getD 0) = none :=
    noneP _ (ok.frame.cells "bare" (((lamCl L).lookup ("bare" : Str)).getD 0) rfl).1
  have keepG : ∀ g : Heap, (∀ b o, b ≠ L → (g2.push fo).get? b = some o → g.get? b = some o) → Keeps (setP base P ps) g := fun g hg b o e => by
    by_cases hbP : b = P
    · subst hbP
      rw [setP_self hP] at e; cases e
      exact hg _ _ (Ne.symm hLP) hps
    · rw [setP_ne hbP] at e
      have hbL : b ≠ L := fun q => by rw [q, hL0] at e; cases e
      exact hg b o hbL (k2 b o hbP (ok.keep _ _ e))
  have kpS : ∀ g : Heap, (∀ b o, b ≠ L → (g2.push fo).get? b = some o → g.get? b = some o) → Kp [] s.heap g := fun g hg b _ o items n e hd => by
    have hbP : b ≠ P := fun q => by rw [q, hPs] at e; cases e; cases hd
    have hbL : b ≠ L := fun q => by subst q; exact (dictL o e).1 _ _ hd
    exact hg b o hbL (k2 b o hbP e)
  have cellS : ∀ g : Heap, (∀ b o, b ≠ L → (g2.push fo).get? b = some o → g.get? b = some o) → ∀ ca v, s.heap.IsCell ca v → g.IsCell ca v := fun g hg ca v hcv => by
    obtain ⟨o, e, hd⟩ := hcv
    have hbP : ca ≠ P := fun q => by rw [q, hPs] at e; cases e; cases hd
    have hbL : ca ≠ L := fun q => by subst q; exact (dictL o e).2 _ hd
    exact ⟨o, hg ca o hbL (k2 ca o hbP e), hd⟩
  refine sorted_range (L := L) (m := mL) ok.room.handled hL2 hr2 (fun i => kS (wordOf script i)) hord (fun i t g tk Q' E' hi hg hns' hQ' => ?_) fun D vs h5 tk5 n5 kb5 hns5 hDn hD5 hints => ?_
  · refine lam_call (script := script) (s₀ := { s with heap := g2.push fo, toks := tk2 }) hi ⟨ok.room.handled, by have := ok.room.depth; show A.depth + 15 < _; have h2 : A.depth + 20 < recursionLimit := this; omega, by have h2 : A.units + 10 * 20 < cLine := ok.room.units; show A.units + 1 + 1 + 10 * 15 < _; omega⟩ (G2 ps) (keepG g hg) (f := g2.objs.size) (by rw [← hfo]; exact hg _ _ hLf hf2) ?_ ⟨vb, cellS g hg _ _ hcellb, rvb.kp (kpS g hg)⟩ hbaseb hQ'
    exact hc2.keepsBut (a := L) (fun b o hb e => hg b o hb e) (oa := (hLs.choose)) (k2 L _ hLP hLs.choose_spec) (fun vs q => by
      obtain ⟨o', es, ep, e1, e2, _⟩ := hmL0
      have e1' : s.heap.get? L = some o' := e1
      have := hLs.choose_spec
      rw [this] at e1'
      cases e1'
      rw [e2] at q; cases q)
  · have ok5 : Ok fnsW mg mb (lawC A L a (.ref c) (setP base P ps) []) { s with heap := h5, toks := tk5 } ρ none := by
      refine ⟨ok.room, G2 ps, keepG h5 kb5, fun x d e => ?_, trivial, (fun _ hm => nomatch hm), ⟨ok.frame.kind, ok.frame.globals, ok.frame.builtins, ⟨_, hns5⟩, ?_, fun x ca e => ?_, ok.frame.inj⟩⟩
      · obtain ⟨v, hv, rv⟩ := ok.vars x d e
        refine ⟨v, ?_, rv.kp (kpS h5 kb5)⟩
        rcases hv with ⟨e1, m, hm, hxv⟩ | ⟨e1, ca, hca, hcv⟩
        · exact .inl ⟨e1, mL, hns5, by rw [ns_same hmL0 hm]; exact hxv⟩
        · exact .inr ⟨e1, ca, hca, cellS h5 kb5 _ _ hcv⟩
      · exact noneP _ hL0
      · obtain ⟨h1, v, hv⟩ := ok.frame.cells x ca e
        exact ⟨noneP _ h1, v, cellS h5 kb5 _ _ hv⟩
    refine store_ok (c := lawC A L a (.ref c) (setP base P ps) []) (x := "order") (d := .lst ((orderOf script).map fun i => .int (i : Nat))) ok5 (.inl rfl) ⟨D, vs, rfl, (fun hm => nomatch hm), ⟨_, hD5, rfl, n5, rfl⟩, ?_⟩ nofun fun h6 tk6 ok6 => (hrest ps).of _ _ E ok6 fun f h' tk hr => hQ ps f h' tk hr
    have := Reps.of_ints (h := h5) (av := []) hints
    rw [List.map_map] at this
    exact this
end
end Wu
end
section
namespace Wu
open PySem PySem.Spec PySem.Calls PyProof.Rows PySem.W

/-- what is asked of numbers: lights a b c, with white p q r -/
structure Num (a b c p q r spread place : Int) : Prop where
  inf1 : ∀ n ∈ [a, b, c], Float64.isInf (q20 n) = false
  inf2 : ∀ n ∈ [p, q, r], Float64.isInf (q20 n) = false
  inf3 : ∀ n ∈ [1048576 - p, 1048576 - q, 1048576 - r], Float64.isInf (q20 n) = false
  ok1 : feq (fmin3 (q20 a) (q20 b) (q20 c)) (fmax3 (q20 a) (q20 b) (q20 c)) = false → HlsOk (q20 a) (q20 b) (q20 c)
  ok2 : feq (fmin3 (q20 p) (q20 q) (q20 r)) (fmax3 (q20 p) (q20 q) (q20 r)) = false → HlsOk (q20 p) (q20 q) (q20 r)
  ok3 : feq (fmin3 (q20 (1048576 - p)) (q20 (1048576 - q)) (q20 (1048576 - r))) (fmax3 (q20 (1048576 - p)) (q20 (1048576 - q)) (q20 (1048576 - r))) = false → HlsOk (q20 (1048576 - p)) (q20 (1048576 - q)) (q20 (1048576 - r))
  h0 : spread = 0 → feq ((fhls (q20 a) (q20 b) (q20 c)).getD 0 0) z0 = true ∧ feq ((fhls (q20 a) (q20 b) (q20 c)).getD 2 0) z0 = true
  h1 : spread ≠ 0 → IntAt (turnF ((fhls (q20 a) (q20 b) (q20 c)).getD 0 0) spread) (place.fmod (6 * spread))
  white : ∃ d, 0 < d ∧ p - a = d ∧ q - b = d ∧ r - c = d
  hls : feq ((fhls (q20 p) (q20 q) (q20 r)).getD 0 0) ((fhls (q20 a) (q20 b) (q20 c)).getD 0 0) = true
  hsv : feq ((fhsv (q20 p) (q20 q) (q20 r)).getD 0 0) ((fhls (q20 a) (q20 b) (q20 c)).getD 0 0) = true
  val : ∃ M, M ∈ [p, q, r] ∧ (∀ n ∈ [p, q, r], n ≤ M) ∧ Float64.cmpInt (Float64.mul ((fhsv (q20 p) (q20 q) (q20 r)).getD 2 0) (Float64.ofInt 1048576)) M = some Ordering.eq
  paint : ∀ i < 3, IntAt (paintF ((frgb ((fhls (q20 a) (q20 b) (q20 c)).getD 0 0) ((fhls (q20 p) (q20 q) (q20 r)).getD 1 0) ((fhls (q20 p) (q20 q) (q20 r)).getD 2 0)).getD i 0)) ([p, q, r].getD i 0)
  neg : 0 < spread → IntAt (turnF ((fhls (q20 (1048576 - p)) (q20 (1048576 - q)) (q20 (1048576 - r))).getD 0 0) spread) ((place + 3 * spread).fmod (6 * spread))
  paintN : ∀ i < 3, IntAt (paintF ((frgb ((fhls (q20 (1048576 - p)) (q20 (1048576 - q)) (q20 (1048576 - r))).getD 0 0) ((fhls (q20 (1048576 - p)) (q20 (1048576 - q)) (q20 (1048576 - r))).getD 1 0) ((fhls (q20 (1048576 - p)) (q20 (1048576 - q)) (q20 (1048576 - r))).getD 2 0)).getD i 0)) ([1048576 - p, 1048576 - q, 1048576 - r].getD i 0)

noncomputable def ordI (script : List Int) (i : Nat) : Nat := (orderOf script).getD i 0
noncomputable def nodeI (script : List Int) (k : Nat) : Int × Int := node (wordOf script k)
noncomputable def spreadI (script : List Int) : Int := gapI (nodeI script (ordI script 0)) (nodeI script (ordI script 2)) * gapI (nodeI script (ordI script 1)) (nodeI script (ordI script 3))
noncomputable def shareI (script : List Int) : Int := gapI (nodeI script (ordI script 0)) (nodeI script (ordI script 1)) * gapI (nodeI script (ordI script 2)) (nodeI script (ordI script 3))
noncomputable def topI (script : List Int) : Int := Builtin.bitXor (ordI script 0 : Nat) (ordI script 1 : Nat)
noncomputable def midI (script : List Int) : Int := Builtin.bitXor (ordI script 0 : Nat) (ordI script 2 : Nat)
/-- what is asked of the words -/
structure Plain (script : List Int) : Prop where
  read : (readS (lineCps script)).1 ++ [(readS (lineCps script)).2] = cS [] :: (List.range 5).map fun k => wS (wordOf script k)
  pts : ∀ k < 4, point (wordOf script k) = node (wordOf script k)
  sm : ∀ k < 4, small (node (wordOf script k))
  smw : ∀ k < 4, small (point (wholeOf script k))
  told : ∀ i < 4, ∀ j < 4, toldI (wholeOf script i) (wholeOf script j) = b2i (decide (gapI (node (wordOf script i)) (node (wordOf script j)) < 0)) - b2i (decide (0 < gapI (node (wordOf script i)) (node (wordOf script j))))
  ord : ∀ i ∈ orderOf script, i < 4
  ord4 : (orderOf script).length = 4
  top : (topI script).natAbs < 2 ^ 20
  num : Num (light (nodeI script 0) (nodeI script 1) (nodeI script 2) (nodeI script 3)) (light (nodeI script 0) (nodeI script 2) (nodeI script 1) (nodeI script 3)) (light (nodeI script 0) (nodeI script 3) (nodeI script 1) (nodeI script 2))
    (light (point (wholeOf script 0)) (point (wholeOf script 1)) (point (wholeOf script 2)) (point (wholeOf script 3))) (light (point (wholeOf script 0)) (point (wholeOf script 2)) (point (wholeOf script 1)) (point (wholeOf script 3))) (light (point (wholeOf script 0)) (point (wholeOf script 3)) (point (wholeOf script 1)) (point (wholeOf script 2)))
    (spreadI script) (placeI (topI script) (midI script) (spreadI script) (shareI script))
/-- the names that the law takes from the builtins are not rebound -/
structure Free (mg : Str → Option Value) : Prop where
  ord : mg "ord" = none
  chr : mg "chr" = none
  range : mg "range" = none
  sum : mg "sum" = none
  type : mg "type" = none
  int : mg "int" = none
  sorted : mg "sorted" = none
  zip : mg "zip" = none
  max : mg "max" = none
  min : mg "min" = none
section
variable {prog : Program} {w : World} {mg mb : Str → Option Value} {A : Around} {L a c P : Addr} {base : Heap} {ρ : PEnv}
theorem ord_map {script : List Int} (h4 : (orderOf script).length = 4) : (orderOf script).map (fun i => D.int (i : Nat)) = orderD (ordI script) := by
  unfold ordI orderD
  match orderOf script, h4 with
  | [_, _, _, _], _ => rfl
theorem ord_lt {script : List Int} (p : Plain script) : ∀ i < 4, ordI script i < 4 := by
  intro i hi
  unfold ordI
  rw [List.getD_eq_getElem?_getD, List.getElem?_eq_getElem (by rw [p.ord4]; exact hi)]
  exact p.ord _ (List.getElem_mem _)
theorem law25d {x y z p q r d : Int} {code : Value} {av : List Addr} (nz : mg "zip" = none) (e1 : p - x = d) (e2 : q - y = d) (e3 : r - z = d) (h1 : ρ.lookup ("whiter" : Str) = some (.lst ([p, q, r].map .int))) (h2 : ρ.lookup ("lights" : Str) = some (.lst ([x, y, z].map .int))) :
    Ex prog w fnsW mg mb (lawC A L a code base av) ρ none (lawS 25) (.next (("white", .lst ([d, d, d].map .int)) :: ρ) none) := by
  have h := law25 (prog := prog) (w := w) (mb := mb) (A := A) (L := L) (a := a) (code := code) (base := base) (av := av) nz h1 h2
  rw [e1, e2, e3] at h
  exact h
set_option maxHeartbeats 4000000 in
/-- the law behind the sort -/
theorem law_late {script : List Int} (f : Free mg) (mo : Mo mg base) (p : Plain script) :
    Exs prog w fnsW mg mb (lawC A L a (.ref c) base []) [("order", .lst (orderD (ordI script))), ("points", .lst (nodesD script)), ("nodes", .lst (nodesD script)), ("whole", .lst (wholeD script))] none
      [lawS 14, lawS 15, lawS 16, lawS 17, lawS 18, lawS 19, lawS 20, lawS 21, lawS 22, lawS 23, lawS 24, lawS 25, lawS 26, lawS 27, lawS 28, lawS 29, lawS 30, lawS 31, lawS 32, lawS 33, lawS 34, lawS 35, lawS 36, lawS 37, lawS 38] (.ret (.bool true)) := by
  have ho := ord_lt p
  have sm : ∀ k < 4, small (nodeI script k) := p.sm
  have so : ∀ i < 4, small (nodeI script (ordI script i)) := fun i hi => sm _ (ho i hi)
  have hb : (spreadI script).natAbs < 2 ^ 1000 := by
    unfold spreadI
    rw [Int.natAbs_mul]
    have h1 := gap_small (so 0 (by decide)) (so 2 (by decide))
    have h2 := gap_small (so 1 (by decide)) (so 3 (by decide))
    exact Nat.lt_of_le_of_lt (Nat.mul_le_mul (Nat.le_of_lt h1) (Nat.le_of_lt h2)) (by decide)
  obtain ⟨d, hd, w1, w2, w3⟩ := p.num.white
  obtain ⟨M, hM, hle, hval⟩ := p.num.val
  refine Exs.cons (law14 (n := nodeI script) (o := ordI script) ho rfl rfl) ?_
  refine Exs.cons (law15 (so 0 (by decide)) (so 1 (by decide)) (so 2 (by decide)) (so 3 (by decide)) rfl rfl rfl rfl) ?_
  refine Exs.cons (law16 (so 0 (by decide)) (so 1 (by decide)) (so 2 (by decide)) (so 3 (by decide)) rfl rfl rfl rfl) ?_
  refine Exs.cons (law17 (o := ordI script) rfl) (Exs.cons (law18 (o := ordI script) rfl) ?_)
  refine Exs.cons (law19 (top := topI script) (mid := midI script) (spread := spreadI script) (share := shareI script) p.top rfl rfl rfl rfl) ?_
  refine Exs.cons (law20 (n := nodeI script) sm rfl) ?_
  refine Exs.cons (law21 (a' := a) p.num.inf1 rfl) ?_
  refine Exs.cons (law22 f.max f.min p.num.ok1 rfl) ?_
  refine Exs.cons (lawS23 f.int hb rfl rfl rfl rfl p.num.h0 p.num.h1) ?_
  refine Exs.cons (law24 p.smw rfl) ?_
  refine Exs.cons (law25d f.zip w1 w2 w3 rfl rfl) ?_
  refine Exs.cons (law26 (d := d) hd rfl) ?_
  refine Exs.cons (law27 p.num.inf2 rfl) ?_
  refine Exs.cons (law28 f.max f.min p.num.ok2 rfl) ?_
  refine Exs.cons (law29 f.max f.min p.num.ok2 rfl) ?_
  refine Exs.cons (law30 (fhls_len _ _ _) (fhsv_len _ _ _) f.max rfl rfl rfl rfl p.num.hls p.num.hsv hM hle hval) ?_
  refine Exs.cons (law31 (fhls_len _ _ _) mo rfl rfl) ?_
  refine Exs.cons (law32 f.int (frgb_len _ _ _) rfl rfl p.num.paint) ?_
  refine Exs.cons (law33 rfl) ?_
  refine Exs.cons (law34 p.num.inf3 rfl) ?_
  refine Exs.cons (law35 f.max f.min p.num.ok3 rfl) ?_
  refine Exs.cons (law36 (fhls_len _ _ _) f.int hb rfl rfl rfl p.num.neg) ?_
  refine Exs.cons (law37 (fhls_len _ _ _) mo rfl) ?_
  exact Exs.ret (law38 f.int (frgb_len _ _ _) rfl rfl p.num.paintN)
end
end Wu
end
section
namespace Wu
open PySem PySem.Spec PySem.Calls PyProof.Rows PySem.W

/-- statements, with any word behind -/
structure ExsK (prog : Program) (w : World) (fns : List DefRec) (mg mb : Str → Option Value) (c : Fx) (ρ : PEnv) (o : Own) (sts : List Stmt) (R : Shared → Flow → Prop) : Prop where
  of : ∀ (s : Shared) (Q : Flow → Shared → Prop) (E : Value → Shared → Prop), Ok fns mg mb c s ρ o → (∀ f h' tk, R { s with heap := h', toks := tk } f → Q f { s with heap := h', toks := tk }) → wpAny (model prog w) c.A (execs sts c.env) Q E s
section
variable {prog : Program} {w : World} {fns : List DefRec} {mg mb : Str → Option Value} {c : Fx} {ρ : PEnv} {o : Own}
theorem ExsK.cons {st : Stmt} {sts : List Stmt} {ρ' : PEnv} {o' : Own} {R : Shared → Flow → Prop} (h1 : Ex prog w fns mg mb c ρ o st (.next ρ' o')) (h2 : ExsK prog w fns mg mb c ρ' o' sts R) : ExsK prog w fns mg mb c ρ o (st :: sts) R := by
  refine ⟨fun s Q E ok hQ => ?_⟩
  refine wpAny_execs_cons (h1.of s _ E ok fun f h' tk hr => ?_)
  obtain ⟨rfl, ok'⟩ := hr
  exact h2.of _ _ E ok' fun f h'' tk' hr => hQ f h'' tk' hr
theorem ExsK.freeze {x : Str} {a : Addr} {ds : List D} {sts : List Stmt} {R : Shared → Flow → Prop} (h : ExsK prog w fns mg mb c ((x, .lst ds) :: ρ) none sts R) : ExsK prog w fns mg mb c ρ (some (x, a, ds)) sts R :=
  ⟨fun s Q E ok hQ => h.of s Q E ok.freeze hQ⟩
theorem Exs.subF {ρ' : PEnv} {sts : List Stmt} {r : Res} (h : ∀ x d, ρ'.lookup x = some d → ρ.lookup x = some d) (h1 : Exs prog w fns mg mb c ρ' o sts r) : Exs prog w fns mg mb c ρ o sts r := Exs.sub h h1
theorem ExsK.own {x : Str} {p p' : Pos} {e : Expr} {ds : List D} {sts : List Stmt} {r : Shared → Flow → Prop} (he : EvN prog w fns mg mb c ρ e ds) (hx : Storable c.env x) (hρ : ρ.lookup x = none) (hs : swapsWith e (some (.Name x p)) p'.line c.env = pure false)
    (h : ∀ a, ExsK prog w fns mg mb c ρ (some (x, a, ds)) sts r) : ExsK prog w fns mg mb c ρ none (.Assign [.Name x p] e p' :: sts) r := by
  refine ⟨fun s Q E ok hQ => ?_⟩
  refine wpAny_execs_cons (wpAny_Assign_Name (he.of s _ E ok fun a vs n h' tk k hn ha rs => ?_) hs)
  have ok1 := ok.keeps k tk
  have hav : a ∉ c.avO := fun hm => by obtain ⟨ob, e⟩ := ok.live a hm; rw [hn] at e; cases e
  have hba : c.base.get? a = none := by
    cases e : c.base.get? a with
    | none => rfl
    | some ob => have := ok.keep a ob e; rw [hn] at this; cases this
  refine store_raw ok1.frame hx fun h'' tk' b hs hb hq hl hvar hvx hF => (h a).of _ _ E ⟨ok1.room, ok1.gl, fun b' ob e => ?_, fun y d e => ?_, ⟨hav, hba, hvx, vs, n, ?_, ?_⟩, fun b' hb' => ?_, hF⟩ fun f h3 tk3 hr => hQ f h3 tk3 hr
  · have : b' ≠ b := fun q => by rw [q, hb] at e; cases e
    exact (hs.2 b' this).trans (ok1.keep b' ob e)
  · obtain ⟨v, r1, r2⟩ := ok.vars y d e
    have hy : y ≠ x := fun q => by rw [q, hρ] at e; cases e
    exact ⟨v, hvar y v hy (r1.keeps k), ((Rep.avoid hn d v r2).keeps k).kp (Kp.of_same hs (.inr hq))⟩
  · have : a ≠ b := fun q => by subst q; exact hq _ _ _ ha rfl
    exact (hs.2 a this).trans ha
  · exact rs.kp (Kp.of_same hs (.inr hq))
  · by_cases q : b' = b
    · subst q; exact hl
    · rcases List.mem_cons.mp hb' with rfl | hb'
      · exact ⟨_, (hs.2 _ q).trans ha⟩
      · obtain ⟨ob, e⟩ := ok1.live b' hb'
        exact ⟨ob, (hs.2 b' q).trans e⟩

end
section
variable {prog : Program} {w : World} {mg mb : Str → Option Value} {A : Around} {L a : Addr} {code : Value} {base : Heap} {av : List Addr} {ρ : PEnv}
theorem law23K {script : List Int} {rest : List Stmt} {r : Shared → Flow → Prop} (no : mg "ord" = none) (nc : mg "chr" = none) (nr : mg "range" = none) (h1 : ρ.lookup ("numbers" : Str) = some (.lst (nums script))) (h0 : ρ.lookup ("typed" : Str) = none)
    (h : ExsK prog w fnsW mg mb (lawC A L a code base av) (("typed", .lst (typedD script 5)) :: ρ) none rest r) :
    ExsK prog w fnsW mg mb (lawC A L a code base av) ρ none (lawS 2 :: lawS 3 :: rest) r := by
  refine ExsK.own (ds := typedD script 4) (EvN.comp (ρ₀ := []) (It.it2 (It.lst (Ev.slcL (l := none) (u := some 4) (k := none) (Ev.name h1 rfl) Pt.none (Pt.some Ev.cint) Pt.none (by decide) (Nat.le_of_ble_eq_true rfl) (fun _ _ => ⟨_, rfl⟩))) (fun _ _ => rfl)) rfl (Nat.le_of_ble_eq_true rfl) rfl (fun _ => rfl) rfl (by decide) (by decide)
    lkN lkN fun C Dd sq i d hd => ?_) (cellL rfl rfl) h0 rfl fun ta => ?_
  · have hp : pickD (nums script) none (some 4) none = (List.range 4).map fun k => .int (lawN script k : Nat) := rfl
    rw [hp, List.getElem?_map] at hd
    have hi : i < 4 := by
      cases q : (List.range 4)[i]? with
      | none => rw [q] at hd; cases hd
      | some j => have := (List.getElem?_eq_some_iff.mp q).1; simpa using this
    rw [List.getElem?_range hi] at hd
    cases hd
    refine ⟨tyD (signsOf script i) (wordOf script i), _, ?_, Asg.name rfl, ?_⟩
    · unfold typedD; rw [List.getElem?_map, List.getElem?_range hi]; rfl
    · unfold signsOf wordOf lenOf pathOf
      rw [if_pos hi, if_pos hi]
      have hm := Nat.mod_lt (lawN script i) (show 4 > 0 by decide)
      exact Ev.call (Evs.cons (Ev.divC (b := 4) (Ev.name rfl rfl) (by decide) rfl) (Evs.cons (Ev.modC (b := 4) (Ev.name rfl rfl) (by decide)) Evs.nil (fun _ => rfl)) (fun _ => rfl)) (fn_typed (by omega) no nc nr) ⟨dr 27, dr_mem rfl, rfl⟩ (Nat.le_of_ble_eq_true rfl) rfl rfl (fun _ => rfl)
  · have e5 : typedD script 5 = typedD script 4 ++ [tyD (signsOf script 4) (wordOf script 4)] := rfl
    rw [e5] at h
    have n4 : ∀ {p q : Pos} {cc : Nat} {o : Own}, Ev prog w fnsW mg mb (lawC A L a code base av) ρ o (.Subscript (.Name "numbers" p) (.Constant (.int 4) cc q) q) (.int (lawN script 4 : Nat)) := by
      intro p q cc o
      exact Ev.sub (Ev.name h1 rfl) Ev.cint (Itm.lst (k := 4) (by decide) rfl) fun _ _ => rfl
    refine ExsK.cons (Ex.append (d := tyD (signsOf script 4) (wordOf script 4)) ?_ (Nat.le_of_ble_eq_true rfl) rfl rfl rfl rfl rfl rfl rfl) (ExsK.freeze h)
    unfold signsOf wordOf
    have e1 : lenOf (lawN script 4) 4 = 1 + lawN script 4 % 3 := rfl
    have e2 : pathOf (lawN script 4) 4 = lawN script 4 / 3 := rfl
    rw [e1, e2]
    have hm := Nat.mod_lt (lawN script 4) (show 3 > 0 by decide)
    refine Ev.call (Evs.cons (Ev.divC (b := 3) (Ev.sub (Ev.name h1 rfl) Ev.cint (Itm.lst (k := 4) (by decide) rfl) fun _ _ => rfl) (by decide) rfl) (Evs.cons (Ev.bin Ev.cint (Ev.modC (b := 3) (Ev.sub (Ev.name h1 rfl) Ev.cint (Itm.lst (k := 4) (by decide) rfl) fun _ _ => rfl) (by decide)) (Bin.addN (a := 1))) Evs.nil (fun _ => rfl)) (fun _ => rfl)) (fn_typed (by omega) no nc nr) ⟨dr 27, dr_mem rfl, rfl⟩ (Nat.le_of_ble_eq_true rfl) rfl rfl (fun _ => rfl)
end
section
variable {prog : Program} {w : World} {mg mb : Str → Option Value} {A : Around} {L a c P : Addr} {base : Heap} {ρ : PEnv}
set_option maxHeartbeats 4000000 in
/-- the law's body gives True -/
theorem law_run {script : List Int} (hz : script.length ≤ 1000) (f : Free mg) (p : Plain script) (C : CodeHd base c P) (hP : base.get? P = some (tabObj #[])) (hB : base.BuiltinsAt mg P) (G2 : ∀ ps, Gl fnsW mg mb (setP base P ps)) :
    ExsK prog w fnsW mg mb (lawC A L a (.ref c) base []) [("script", .lst (script.map .int))] none (dr 34).body (fun s' f => f = .ret (.bool true) ∧ ∃ ps, Keeps (setP base P ps) s'.heap) := by
  rw [law_body]
  refine ExsK.cons law0 (ExsK.cons (law1 hz f.range f.sum rfl rfl) ?_)
  refine law23K f.ord f.chr f.range rfl rfl ?_
  refine ExsK.cons (law4 f.chr f.range rfl rfl) ?_
  refine ExsK.cons (law5 f.ord f.chr rfl p.read) ?_
  refine ExsK.cons (law6 rfl rfl) (ExsK.cons (law7 rfl) (ExsK.cons (law8 rfl rfl) (ExsK.cons (law9 rfl) (ExsK.cons (law10 rfl p.pts) (ExsK.cons (law11 rfl rfl) ?_)))))
  refine ExsK.cons (law12 f.range f.type f.int rfl rfl rfl rfl rfl rfl p.sm p.told) ?_
  refine ⟨fun s Q E ok hQ => ?_⟩
  refine law13 f.range f.sorted rfl p.ord C hP hB G2 (fun ps => Exs.sub ?_ (law_late (prog := prog) (w := w) (mb := mb) (A := A) (L := L) (a := a) (c := c) (base := setP base P ps) f (G2 ps).mo p)) s Q E ok fun ps fl h' tk hr => hQ fl h' tk ?_
  · rw [ord_map p.ord4]
    exact subC rfl (subC rfl (subC rfl (subC rfl subN)))
  · obtain ⟨v, rfl, kk, rv⟩ := hr
    cases rv
    exact ⟨rfl, ps, kk⟩
end
end Wu
end
section
namespace Wu
open PySem PySem.Spec PySem.Calls PyProof.Rows PySem.W

theorem ns_hide {h : Heap} {P a : Addr} {m : Str → Option Value} (hP : h.get? P = some (tabObj #[])) (n : h.Ns a m) : (hideAll h [P]).Ns a m := by
  obtain ⟨o, es, ep, e, hd, r⟩ := n
  refine ⟨o, es, ep, hideAll_get [P] e (fun q => ?_), hd, r⟩
  rw [List.mem_singleton.mp q, hP] at e; cases e; cases hd
theorem set_hide {prog : Program} {w : World} {h : Heap} {P a : Addr} {S : Int → Bool} {n : Nat} (hP : h.get? P = some (tabObj #[])) (x : h.SetOf (intKind prog w) a S n) : (hideAll h [P]).SetOf (intKind prog w) a S n := by
  obtain ⟨o, es, ep, t, e, h1, hd, r⟩ := x
  refine ⟨o, es, ep, t, hideAll_get [P] e (fun q => ?_), h1, hd, r⟩
  rw [List.mem_singleton.mp q, hP] at e; cases e; cases hd
theorem tab_hide {prog : Program} {w : World} {h : Heap} {P a : Addr} {D : List (PyData × PyData)} (hP : h.get? P = some (tabObj #[])) (x : IntTab prog w h a D) : IntTab prog w (hideAll h [P]) a D := by
  obtain ⟨lo, kvs, hd, hf⟩ := x
  obtain ⟨o, e, hi⟩ := Heap.dictOf_iff.mp hd
  refine TabAt.ofObj lo (hideAll_get [P] e (fun q => ?_)) hi hf
  have hm := hd.mapOf
  obtain ⟨o', es, ep, e', _, hdat, _⟩ := hm
  rw [List.mem_singleton.mp q, hP] at e'; cases e'; cases hdat
theorem Gl.hide {fns : List DefRec} {mg mb : Str → Option Value} {h : Heap} {P : Addr} (G : Gl fns mg mb h) (hP : h.get? P = some (tabObj #[])) : Gl fns mg mb (hideAll h [P]) where
  g := ns_hide hP G.g
  b := ns_hide hP G.b
  nolimit := let ⟨mc, n, q⟩ := G.nolimit; ⟨mc, ns_hide hP n, q⟩
  bb := G.bb
  mo := ⟨fun p w => let ⟨a, n, e, r⟩ := G.mo.b1 p w; ⟨a, n, e, set_hide hP r⟩, fun p w => let ⟨a, n, e, r⟩ := G.mo.c7 p w; ⟨a, n, e, set_hide hP r⟩, fun p w => let ⟨a, n, e, r⟩ := G.mo.c9 p w; ⟨a, n, e, set_hide hP r⟩, fun p w => let ⟨a, e, r⟩ := G.mo.b3 p w; ⟨a, e, tab_hide hP r⟩, G.mo.f1, G.mo.f2, G.mo.f3⟩
  fn := fun d hd => by
    obtain ⟨a, o, pm, code, doc, h1, h2, h3, c, oc, vs, t, e1, e2, e3, e4⟩ := G.fn d hd
    refine ⟨a, o, pm, code, doc, h1, hideAll_get [P] h2 (fun q => ?_), h3, c, oc, vs, t, e1, hideAll_get [P] e2 (fun q => ?_), e3, e4⟩
    · rw [List.mem_singleton.mp q, hP] at h2; cases h2; cases h3
    · rw [List.mem_singleton.mp q, hP] at e2; cases e2; cases e3; cases e4
theorem Gl.setP {fns : List DefRec} {mg mb : Str → Option Value} {h : Heap} {P : Addr} (G : Gl fns mg mb h) (hP : h.get? P = some (tabObj #[])) (ps : Array Value) : Gl fns mg mb (Wu.setP h P ps) :=
  (G.hide hP).keeps fun b o e => by
    have hb : b ≠ P := fun q => by rw [q, hideAll_none [P] (List.mem_singleton.mpr rfl)] at e; cases e
    rw [setP_ne hb]; exact of_hideAll _ e
end Wu
end
section
namespace Wu
open PySem PySem.Spec PySem.Calls PyProof.Rows PySem.W

noncomputable def nmC (k : Nat) : Str := ([("script" : Str), "own", "numbers", "typed", "words", "nodes", "bare"] : List Str).getD k Str.empty
theorem cellsL (L : Addr) : cellsFrom (L + 1) (dr 34).scope.names [] = [((Str.ofString "bare"), L + 1 + 1 + 1 + 1 + 1 + 1 + 1), ((Str.ofString "nodes"), L + 1 + 1 + 1 + 1 + 1 + 1), ((Str.ofString "words"), L + 1 + 1 + 1 + 1 + 1), ((Str.ofString "typed"), L + 1 + 1 + 1 + 1), ((Str.ofString "numbers"), L + 1 + 1 + 1), ((Str.ofString "own"), L + 1 + 1), ((Str.ofString "script"), L + 1)] := rfl
theorem cells_inj {L : Addr} : ∀ x y c, (cellsFrom (L + 1) (dr 34).scope.names []).lookup x = some c → (cellsFrom (L + 1) (dr 34).scope.names []).lookup y = some c → x = y := by
  have one : ∀ x c, (cellsFrom (L + 1) (dr 34).scope.names []).lookup x = some c → x = nmC (c - (L + 1)) := by
    rw [cellsL]
    have e : ∀ k : Nat, (L + 1 + k) - (L + 1) = k := fun k => Nat.add_sub_cancel_left ..
    refine lkC ?_ (lkC ?_ (lkC ?_ (lkC ?_ (lkC ?_ (lkC ?_ (lkC ?_ lkN))))))
    · show ("bare" : Str) = nmC ((L + 1 + 6) - (L + 1)); rw [e]; rfl
    · show ("nodes" : Str) = nmC ((L + 1 + 5) - (L + 1)); rw [e]; rfl
    · show ("words" : Str) = nmC ((L + 1 + 4) - (L + 1)); rw [e]; rfl
    · show ("typed" : Str) = nmC ((L + 1 + 3) - (L + 1)); rw [e]; rfl
    · show ("numbers" : Str) = nmC ((L + 1 + 2) - (L + 1)); rw [e]; rfl
    · show ("own" : Str) = nmC ((L + 1 + 1) - (L + 1)); rw [e]; rfl
    · show ("script" : Str) = nmC ((L + 1 + 0) - (L + 1)); rw [e]; rfl
  intro x y c h1 h2
  rw [one x c h1, one y c h2]
section
variable {prog : Program} {w : World} {mg mb : Str → Option Value} {A : Around} {a c P : Addr}
theorem law_call {script : List Int} {s : Shared} {Q : Value → Shared → Prop} {E : Value → Shared → Prop} {o : Obj} {pm doc v : Value} (hz : script.length ≤ 1000) (f : Free mg) (p : Plain script) (room : Room A 30) (G : Gl fnsW mg mb s.heap)
    (ho : s.heap.get? a = some o) (hd : o.data = .func (docDef (dr 34).name (dr 34).params (dr 34).body (dr 34).scope pm (.ref c) doc)) (hcd : s.heap.CodeRec (.ref c) (dr 34).name) (C : CodeHd s.heap c P) (hP : s.heap.get? P = some (tabObj #[])) (hB : s.heap.BuiltinsAt mg P)
    (hv : Rep s.heap [] (.lst (script.map .int)) v) (hQ : ∀ h' tk, (∃ ps, Keeps (setP s.heap P ps) h') → Q (.bool true) { s with heap := h', toks := tk }) : wpAny (model prog w) A (PySem.call (.ref a) [v]) Q E s := by
  refine wpAny_call (codeAny_call_function (body := (dr 34).body) (by have := room.depth; omega) ho hd rfl rfl rfl hcd ?_)
  have hb : bindArgs (docDef (dr 34).name (dr 34).params (dr 34).body (dr 34).scope pm (.ref c) doc) ⟨[v], []⟩ = pure [(("script" : Str), v)] := rfl
  rw [hb]
  refine wpAny_pure (wpAny_newFunctionEnv_cells rfl (by intro y hy; rw [List.mem_singleton.mp hy]; exact .inr ⟨rfl, rfl⟩) fun env' he s' x => ?_)
  subst he
  refine ⟨G.nolimit.keeps x.toInCall.keep, codeAny_func ?_⟩
  obtain ⟨h₁, tk, rfl, _⟩ := x.toInCall.done
  have k₁ : Keeps s.heap h₁ := fun b o e => x.toInCall.keep b o e
  have run := law_run (prog := prog) (w := w) (mb := mb) (A := A.deeper (envOfC (dr 34).name (dr 34).scope s.heap.objs.size a (.ref c))) (L := s.heap.objs.size) (a := a) hz f p C hP hB fun ps => G.setP hP ps
  refine run.of _ _ _ ⟨⟨room.handled, by have := room.depth; show A.depth + 1 + 20 < _; omega, by have := room.units; show A.units + 3 + 10 * 20 < _; omega⟩, G, k₁, lkC ⟨v, .inr ⟨.inl rfl, _, rfl, ?_⟩, hv.keeps k₁⟩ lkN, trivial, (fun _ hm => nomatch hm), ⟨rfl, rfl, rfl, ⟨_, x.toInCall.ns⟩, Heap.get?_none_of_le (Nat.le_refl _), fun y ca e => ⟨?_, _, x.cell y ca e⟩, cells_inj⟩⟩ fun fl h' tk' hr => ?_
  · exact x.cell "script" _ rfl
  · have hab := x.above y ca (PySem.mem_of_lookup e)
    exact Heap.get?_none_of_le (Nat.le_of_lt hab)
  · obtain ⟨rfl, kk⟩ := hr
    exact hQ h' tk' kk
end
end Wu
end
section
namespace Wu
open PySem PySem.Spec PySem.Calls PyProof.Rows PySem.W

/-- what the head gives beyond the library's ground -/
noncomputable def HeadX (mg : Str → Option Value) (h : Heap) : Prop := Mo mg h ∧ Free mg
theorem HeadX.keeps : ∀ (mg : Str → Option Value) (h h' : Heap), HeadX mg h → (∀ b o, h.get? b = some o → h'.get? b = some o) → HeadX mg h' := fun _ _ _ x k => ⟨x.1.keeps k, x.2⟩
noncomputable abbrev rowL : OpenRow := PySem.Challenge.rw_wu0091_01.row
theorem rep_ints {h : Heap} {cl : Str → Option Addr} : ∀ {ns : List Int} {vs : List Value} {as : List Addr}, ReadsAllW [] cl h vs (ns.map .int) as → Reps h [] (ns.map .int) vs
  | [], _, _, r => by cases r; rfl
  | n :: ns, _, _, r => by
    cases r with
    | cons h1 h2 =>
      cases h1
      exact Reps.cons ⟨_, rfl⟩ (rep_ints h2)
theorem fns_recs : (fnsW.all fun d => (recsOf pw).any fun e => e.name == d.name) = true := by decide +kernel
theorem the_walk {q : Program} {loose : List Str} (plain : ∀ script : List Int, script.length ≤ 63 → Plain script) (hrec : ∀ d ∈ fnsW, d ∈ recsOf q) (h34 : dr 34 ∈ recsOf q) : WalkO q loose HeadX (fun _ _ => True) rowL.toRowW (dr 34) [] fun f vs => PySem.call f vs := by
  intro w s₀ s₁ mg mb G _ a o pm cd doc dV kV ho hd hcd hdf hmg hgens args vals as hpre hlay hrd hwell hlow
  obtain ⟨hsh, hp⟩ := pre_splitW hpre
  obtain ⟨d, r, rfl, hd1, hr⟩ := hasAllW_cons hsh
  have hr' := hasAllW_nil hr
  subst hr'
  obtain ⟨xs, rfl, hall⟩ := hasW_list hd1
  obtain ⟨script, rfl⟩ := items_int hall
  have hlen : script.length ≤ 63 := by
    have hv : (rowL.toRowW.pre).value rowL.toRowW.records { args := [.list (script.map .int)] } = some (.bool (!(decide ((63 : Int) < (script.map WData.int).length)) && true)) := by
      show WTm.value _ (.and (.not (.lt (.lit (.int 63)) (.len (.arg 0)))) (.lit (.bool true))) _ = _
      simp only [WTm.value, List.getElem?_cons_zero, W.less?, Num.less?, Option.map]
      cases decide ((63 : Int) < (script.map WData.int).length) <;> rfl
    unfold WTm.holds at hp
    rw [hv] at hp
    cases q : decide ((63 : Int) < (script.map WData.int).length) with
    | true => rw [q] at hp; cases hp
    | false =>
      have := of_decide_eq_false q
      rw [List.length_map] at this
      omega
  obtain ⟨v, rfl, hvd⟩ : ∃ v, vals = [v] ∧ ∃ bs, ReadsW [] (classAt s₀.heap) s₁.heap v (.list (script.map .int)) bs := by
    cases hrd with
    | cons h1 h2 => cases h2; exact ⟨_, rfl, _, h1⟩
  obtain ⟨bs, hvd⟩ := hvd
  have hrep : Rep s₁.heap [] (.lst (script.map .int)) v := by
    rw [show (script.map D.int) = script.map D.int from rfl]
    cases hvd with
    | @list a o vs n _ as h1 h2 h3 h4 => exact ⟨_, vs.toList, rfl, (fun q => nomatch q), ⟨o, h1, h2, n, by rw [h3]⟩, rep_ints h4⟩
  obtain ⟨a', o', pm', cd', doc', t1, t2, t3, t4⟩ := G.T.fn _ h34
  obtain ⟨a2, o2, fd, c, P, u1, u2, u3, u4, u5, u6⟩ := G.T.tab _ h34
  rw [hmg] at t1 u1
  cases t1
  cases u1
  rw [t2] at u2
  cases u2
  rw [t3] at u3
  cases u3
  cases u4
  have C := CodeHd.of u5 u6
  have hP := u6.2
  have hPt := u6.isCodeTable
  obtain ⟨bm, ob, b1, b2, b3, b4, b5, b6⟩ := G.T.bmain
  have hbP : bm ≠ P := fun q => by
    rw [q, hP] at b3; cases b3; cases b4
  have hbG : bm ≠ mainGlobals := fun q => by
    obtain ⟨o, es, ep, e, hd, _⟩ := G.T.g
    rw [q, e] at b3; cases b3; rw [hd] at b6; cases b6
  refine law_call (script := script) (by omega) G.X.2 (plain script hlen) ⟨rfl, by decide, by decide⟩ ⟨G.T.g, G.T.b, G.T.nolimit, G.T.builtins, G.X.1, fun d hd => G.T.fn d (hrec d hd)⟩
    t2 t3 t4 C hP ⟨bm, ob, b1, b2, hbG, hbP, b3, b4, b5, b6⟩ hrep ?_
  rintro h' tk ⟨ps, k⟩
  have keepB : ∀ b o, b ≠ P → s₁.heap.get? b = some o → h'.get? b = some o := fun b o hb e => k b o (by rw [setP_ne hb]; exact e)
  have keepP : h'.get? P = some (tabObj ps) := k _ _ (setP_self hP)
  refine ⟨.inl ⟨_, .bool true, [], rfl, fun _ => rfl, .bool true, ?_, fun _ => ⟨List.nodup_nil, fun _ q => nomatch q⟩⟩, ⟨fun b o e => ?_, fun b o e => ?_⟩, rfl, .of_eq hgens⟩
  · show (true && WTm.holds [] (.eq .res (.lit (.bool true))) _) = true
    unfold WTm.holds
    simp [WTm.value, W.same]
  · by_cases q : b = P
    · subst q
      rw [hP] at e
      cases e
      exact .inr (.inl ⟨hPt, rfl, [].toArray, ps, rfl, by rw [keepP]; simp [tabObj]⟩)
    · exact .inl (keepB b o q e)
  · by_cases q : b = P
    · subst q
      exact ⟨_, keepP⟩
    · exact ⟨o, keepB b o q e⟩
end Wu
end
section
namespace Wu
open PySem PySem.Spec PySem.Calls PyProof.Rows PySem.W

/-- what a way sign gives -/
noncomputable def wayS (n : Nat) : Str := if decide ((n : Int) ∈ c9L) = true then b3S (n - 917504) else b3S n
theorem hid_ok : ((List.range 28).all fun h => (hidCps h).all fun n => decide ((n : Int) ∈ b1L)) = true := by decide +kernel
theorem way_ok : ((List.range 14).all fun y => [true, false].all fun b => !decide ((wayCp y (sgn b) : Int) ∈ b1L) && (!decide ((wayCp y (sgn b) : Int) ∈ c7L) && (wayS (wayCp y (sgn b))).cps.toList == [sgn b])) = true := by decide +kernel
theorem sep_ok : ((List.range 12).all fun k => !decide (((12272 + k : Nat) : Int) ∈ b1L) && decide (((12272 + k : Nat) : Int) ∈ c7L)) = true := by decide +kernel
theorem all_range {n : Nat} {f : Nat → Bool} (h : ((List.range n).all f) = true) {k : Nat} (hk : k < n) : f k = true := List.all_eq_true.mp h k (List.mem_range.mpr hk)
theorem rStep_hid {p : List Str × Str} {h n : Nat} (hh : h < 28) (hn : n ∈ hidCps h) : rStep p n = p := by
  unfold rStep
  rw [if_pos (List.all_eq_true.mp (all_range hid_ok hh) n hn)]
theorem str_toList {a b : Str} (h : a.cps.toList = b.cps.toList) : a = b := by
  cases a; cases b; simp only [Str.mk.injEq]; exact Array.toList_inj.mp h
theorem rStep_way {p : List Str × Str} {y : Nat} {b : Bool} (hy : y < 14) : rStep p (wayCp y (sgn b)) = (p.1, p.2 ++ wS [b]) := by
  have h := List.all_eq_true.mp (all_range way_ok hy) b (by cases b <;> simp)
  obtain ⟨h1, h2⟩ := Bool.and_eq_true_iff.mp h
  obtain ⟨h2, h3⟩ := Bool.and_eq_true_iff.mp h2
  have h4 : wayS (wayCp y (sgn b)) = wS [b] := str_toList (beq_iff_eq.mp h3)
  have g1 : ¬ (decide ((wayCp y (sgn b) : Int) ∈ b1L) = true) := by rw [(Bool.not_eq_true' _).mp h1]; nofun
  have g2 : ¬ (decide ((wayCp y (sgn b) : Int) ∈ c7L) = true) := by rw [(Bool.not_eq_true' _).mp h2]; nofun
  unfold rStep
  rw [if_neg g1, if_neg g2, ← h4]
  unfold wayS
  split <;> rfl
theorem rStep_sep {p : List Str × Str} {k : Nat} (hk : k < 12) : rStep p (12272 + k) = (p.1 ++ [p.2], cS []) := by
  have h := all_range sep_ok hk
  obtain ⟨h1, h2⟩ := Bool.and_eq_true_iff.mp h
  have g1 : ¬ (decide (((12272 + k : Nat) : Int) ∈ b1L) = true) := by rw [(Bool.not_eq_true' _).mp h1]; nofun
  unfold rStep
  rw [if_neg g1, if_pos h2]
theorem read_t {p : List Str × Str} (n : Nat) : (tCps n).foldl rStep p = (p.1, p.2 ++ wS [bitOf n]) := by
  unfold tCps
  rw [List.foldl_append]
  have hz : ∀ (l : List Nat), (∀ x ∈ l, x ∈ hidCps (n / 28 % 28)) → l.foldl rStep p = p := by
    intro l
    induction l with
    | nil => intro _; rfl
    | cons x l ih =>
      intro hx
      rw [List.foldl_cons, rStep_hid (Nat.mod_lt _ (by decide)) (hx x (.head _))]
      exact ih fun y hy => hx y (.tail _ hy)
  rw [hz _ fun _ x => x]
  show rStep p _ = _
  exact rStep_way (Nat.mod_lt _ (by decide))
theorem wS_append (a b : List Bool) : wS a ++ wS b = wS (a ++ b) := by
  rw [wS_cS, wS_cS, wS_cS, cS_append, List.map_append]
theorem str_assoc (a b c : Str) : a ++ b ++ c = a ++ (b ++ c) := by
  have e : ∀ x : Str, x = cS x.cps.toList := fun x => by unfold cS; simp
  rw [e a, e b, e c]
  simp only [cS_append, List.append_assoc]
theorem read_ts {p : List Str × Str} (k n : Nat) : (tSigns k n).foldl rStep p = (p.1, p.2 ++ wS (tBits k n)) := by
  induction k with
  | zero =>
    show p = (p.1, p.2 ++ wS [])
    have : p.2 ++ wS [] = p.2 := by
      obtain ⟨x, ⟨y⟩⟩ := p
      show (⟨y⟩ : Str) ++ wS [] = _
      have e := cS_append y.toList []
      unfold cS at e
      simpa [wS] using e
    rw [this]
  | succ k ih => rw [tSigns_succ, List.foldl_append, ih, read_t, tBits_succ, ← wS_append]; congr 1; exact (str_assoc _ _ _)
theorem read_part {script : List Int} {p : List Str × Str} (k : Nat) : (partCps script k).foldl rStep p = (p.1 ++ [p.2], wS (wordOf script k)) := by
  unfold partCps signsOf wordOf
  rw [List.foldl_cons, rStep_sep (Nat.mod_lt _ (by decide)), read_ts]
  congr 1
  rw [show cS [] = wS [] from rfl, wS_append]; rfl
theorem read_line (script : List Int) : (readS (lineCps script)).1 ++ [(readS (lineCps script)).2] = cS [] :: (List.range 5).map fun k => wS (wordOf script k) := by
  unfold readS lineCps
  simp only [List.foldl_append, read_part]
  rfl
end Wu
end
section
namespace Wu
open PySem PySem.Spec PySem.Calls PyProof.Rows PySem.W

/-- the words of at most three letters -/
noncomputable def words3 : List (List Bool) := [[], [false], [true]] ++ ([false, true].flatMap fun a => [[a, false], [a, true]]) ++ ([false, true].flatMap fun a => [false, true].flatMap fun b => [[a, b, false], [a, b, true]])
theorem mem_words3 : ∀ {l : List Bool}, l.length ≤ 3 → l ∈ words3
  | [], _ => by decide
  | [a], _ => by cases a <;> decide
  | [a, b], _ => by cases a <;> cases b <;> decide
  | [a, b, c], _ => by cases a <;> cases b <;> cases c <;> decide
  | _ :: _ :: _ :: _ :: _, h => by simp at h
theorem tBits_len (k n : Nat) : (tBits k n).length = k := by unfold tBits; simp
theorem word_len (script : List Int) (k : Nat) : (wordOf script k).length ≤ 3 := by
  unfold wordOf lenOf
  rw [tBits_len]
  split <;> omega
theorem word_mem (script : List Int) (k : Nat) : wordOf script k ∈ words3 := mem_words3 (word_len script k)
noncomputable def smallB (p : Int × Int) : Bool := decide (p.1.natAbs < 2 ^ 30) && decide (p.2.natAbs < 2 ^ 30)
theorem small_of {p : Int × Int} (h : smallB p = true) : small p := by
  obtain ⟨a, b⟩ := Bool.and_eq_true_iff.mp h
  exact ⟨of_decide_eq_true a, of_decide_eq_true b⟩
theorem pts_ok : (words3.all fun w => decide (point w = node w) && smallB (node w)) = true := by decide +kernel
theorem smw_ok : (words3.all fun x => words3.all fun w => smallB (point (x ++ w))) = true := by decide +kernel
noncomputable def toldB (x v w : List Bool) : Bool := decide (toldI (x ++ v) (x ++ w) = b2i (decide (gapI (node v) (node w) < 0)) - b2i (decide (0 < gapI (node v) (node w))))
theorem told_ok : (words3.all fun x => words3.all fun v => words3.all fun w => toldB x v w) = true := by decide +kernel
theorem p_pts (script : List Int) (k : Nat) : point (wordOf script k) = node (wordOf script k) := of_decide_eq_true (Bool.and_eq_true_iff.mp (List.all_eq_true.mp pts_ok _ (word_mem script k))).1
theorem p_sm (script : List Int) (k : Nat) : small (node (wordOf script k)) := small_of (Bool.and_eq_true_iff.mp (List.all_eq_true.mp pts_ok _ (word_mem script k))).2
theorem p_smw (script : List Int) (k : Nat) : small (point (wholeOf script k)) := small_of (List.all_eq_true.mp (List.all_eq_true.mp smw_ok _ (word_mem script 4)) _ (word_mem script k))
theorem p_told (script : List Int) (i j : Nat) : toldI (wholeOf script i) (wholeOf script j) = b2i (decide (gapI (node (wordOf script i)) (node (wordOf script j)) < 0)) - b2i (decide (0 < gapI (node (wordOf script i)) (node (wordOf script j)))) :=
  of_decide_eq_true (List.all_eq_true.mp (List.all_eq_true.mp (List.all_eq_true.mp told_ok _ (word_mem script 4)) _ (word_mem script i)) _ (word_mem script j))
end Wu
end
section
namespace Wu
open PySem PySem.Spec PySem.Calls PyProof.Rows PySem.W

/-- the place of a word among all words -/
noncomputable def rkW (w : List Bool) : Nat := (words3.filter fun v => decide ((kS v).cps.toList < (kS w).cps.toList)).length
theorem rk_ok : (words3.all fun v => words3.all fun w => decide ((kS v).cps.toList < (kS w).cps.toList) == decide (rkW v < rkW w)) = true := by decide +kernel
theorem rk_gap : (words3.all fun v => words3.all fun w => decide (rkW v ≤ rkW w) == decide (0 ≤ gapI (node v) (node w))) = true := by decide +kernel
noncomputable def sortR (r : Nat → Nat) : List Nat := (runK (fun i j => decide (r i < r j)) (kas_sort 4)).toList
theorem order_R (script : List Int) : orderOf script = sortR fun i => rkW (wordOf script i) := by
  unfold orderOf sort4 sortR
  congr 2
  funext i j
  exact beq_iff_eq.mp (List.all_eq_true.mp (List.all_eq_true.mp rk_ok _ (word_mem script i)) _ (word_mem script j))
theorem runK_congr {α : Type} {lt lt' : Nat → Nat → Bool} {n : Nat} (h : ∀ i j, i < n → j < n → lt i j = lt' i j) : ∀ t : KasT α, inK n t = true → runK lt t = runK lt' t
  | .ret _, _ => rfl
  | .ask i j k, hi => by
    simp only [inK, Bool.and_eq_true, decide_eq_true_eq] at hi
    obtain ⟨⟨⟨h1, h2⟩, h3⟩, h4⟩ := hi
    show runK lt (k (lt i j)) = runK lt' (k (lt' i j))
    rw [h i j h1 h2]
    exact runK_congr h _ (by cases lt' i j <;> assumption)
noncomputable def le1 (a b : Nat) : Nat := if a < b then 1 else 0
noncomputable def cnt (r : Nat → Nat) (i : Nat) : Nat := le1 (r 0) (r i) + le1 (r 1) (r i) + le1 (r 2) (r i) + le1 (r 3) (r i)
theorem le1_mono {a b c : Nat} (h : b ≤ c) : le1 a b ≤ le1 a c := by unfold le1; split <;> split <;> omega
theorem le1_self {a : Nat} : le1 a a = 0 := by unfold le1; rw [if_neg (Nat.lt_irrefl _)]
theorem le1_lt {a b : Nat} (h : a < b) : le1 a b = 1 := by unfold le1; rw [if_pos h]
theorem cnt_lt {r : Nat → Nat} {i : Nat} (hi : i < 4) : cnt r i < 4 := by
  have h : ∀ a b, le1 a b ≤ 1 := fun a b => by unfold le1; split <;> omega
  have z : le1 (r i) (r i) = 0 := le1_self
  have := h (r 0) (r i); have := h (r 1) (r i); have := h (r 2) (r i); have := h (r 3) (r i)
  unfold cnt
  match i, hi with
  | 0, _ | 1, _ | 2, _ | 3, _ => omega
theorem cnt_iff {r : Nat → Nat} {i j : Nat} (hi : i < 4) : r i < r j ↔ cnt r i < cnt r j := by
  constructor
  · intro h
    have m : ∀ a, le1 a (r i) ≤ le1 a (r j) := fun a => le1_mono (Nat.le_of_lt h)
    have z : le1 (r i) (r i) = 0 := le1_self
    have z2 := le1_lt h
    have := m (r 0); have := m (r 1); have := m (r 2); have := m (r 3)
    unfold cnt
    match i, hi with
    | 0, _ | 1, _ | 2, _ | 3, _ => omega
  · intro h
    refine Nat.lt_of_not_le fun q => ?_
    have m : ∀ a, le1 a (r j) ≤ le1 a (r i) := fun a => le1_mono q
    have := m (r 0); have := m (r 1); have := m (r 2); have := m (r 3)
    unfold cnt at h
    omega
noncomputable def perms : List (List Nat) := [[0,1,2,3],[0,1,3,2],[0,2,1,3],[0,2,3,1],[0,3,1,2],[0,3,2,1],[1,0,2,3],[1,0,3,2],[1,2,0,3],[1,2,3,0],[1,3,0,2],[1,3,2,0],[2,0,1,3],[2,0,3,1],[2,1,0,3],[2,1,3,0],[2,3,0,1],[2,3,1,0],[3,0,1,2],[3,0,2,1],[3,1,0,2],[3,1,2,0],[3,2,0,1],[3,2,1,0]]
noncomputable def goodR (r : Nat → Nat) : Bool := perms.contains (sortR r) && (decide (r ((sortR r).getD 0 0) ≤ r ((sortR r).getD 1 0)) && (decide (r ((sortR r).getD 1 0) ≤ r ((sortR r).getD 2 0)) && decide (r ((sortR r).getD 2 0) ≤ r ((sortR r).getD 3 0))))
theorem sort_ok : ((List.range 4).all fun a => (List.range 4).all fun b => (List.range 4).all fun c => (List.range 4).all fun d => goodR fun i => [a, b, c, d].getD i 0) = true := by decide +kernel
theorem sortR_cnt (r : Nat → Nat) : sortR r = sortR fun i => [cnt r 0, cnt r 1, cnt r 2, cnt r 3].getD i 0 := by
  unfold sortR
  congr 1
  refine runK_congr (n := 4) (fun i j hi hj => ?_) _ inK_sort4
  have e : ∀ k, k < 4 → [cnt r 0, cnt r 1, cnt r 2, cnt r 3].getD k 0 = cnt r k := by
    intro k hk
    match k, hk with
    | 0, _ | 1, _ | 2, _ | 3, _ => rfl
  refine decide_eq_decide.mpr ?_
  dsimp only
  rw [e i hi, e j hj]
  exact cnt_iff hi
theorem sortR_good (r : Nat → Nat) : sortR r ∈ perms ∧ r ((sortR r).getD 0 0) ≤ r ((sortR r).getD 1 0) ∧ r ((sortR r).getD 1 0) ≤ r ((sortR r).getD 2 0) ∧ r ((sortR r).getD 2 0) ≤ r ((sortR r).getD 3 0) := by
  have h := all_range (all_range (all_range (all_range sort_ok (cnt_lt (r := r) (show 0 < 4 by decide))) (cnt_lt (r := r) (show 1 < 4 by decide))) (cnt_lt (r := r) (show 2 < 4 by decide))) (cnt_lt (r := r) (show 3 < 4 by decide))
  unfold goodR at h
  simp only [Bool.and_eq_true, decide_eq_true_eq, List.contains_iff_mem] at h
  rw [← sortR_cnt] at h
  obtain ⟨h0, h1, h2, h3⟩ := h
  have hl : ∀ l ∈ perms, ∀ k < 4, l.getD k 0 < 4 := by decide
  have lt : ∀ k < 4, (sortR r).getD k 0 < 4 := hl _ h0
  have e : ∀ k, k < 4 → [cnt r 0, cnt r 1, cnt r 2, cnt r 3].getD k 0 = cnt r k := by
    intro k hk
    match k, hk with
    | 0, _ | 1, _ | 2, _ | 3, _ => rfl
  rw [e _ (lt 0 (by decide)), e _ (lt 1 (by decide))] at h1
  rw [e _ (lt 1 (by decide)), e _ (lt 2 (by decide))] at h2
  rw [e _ (lt 2 (by decide)), e _ (lt 3 (by decide))] at h3
  have back : ∀ i j, i < 4 → j < 4 → cnt r i ≤ cnt r j → r i ≤ r j := fun i j hi hj h => Nat.le_of_not_lt fun q => absurd ((cnt_iff hj).mp q) (Nat.not_lt.mpr h)
  exact ⟨h0, back _ _ (lt 0 (by decide)) (lt 1 (by decide)) h1, back _ _ (lt 1 (by decide)) (lt 2 (by decide)) h2, back _ _ (lt 2 (by decide)) (lt 3 (by decide)) h3⟩
end Wu
end
section
namespace Wu
open PySem PySem.Spec PySem.Calls PyProof.Rows PySem.W

/-- the greatest at place t, the next at place m (1 to 3) -/
noncomputable def arr (t m : Int) (A B C : Int) (k : Int) : Int := if t = k then A else if m = k then B else C
theorem ls1 {p q r s : Int × Int} : light p q r s = light q p r s := by unfold light; grind
theorem ls2 {p q r s : Int × Int} : light p q r s = light p q s r := by unfold light; grind
theorem ls3 {p q r s : Int × Int} : light p q r s = light q p s r := by unfold light; grind
theorem ls4 {p q r s : Int × Int} : light p q r s = light r s p q := by unfold light; grind
theorem ls5 {p q r s : Int × Int} : light p q r s = light s r p q := by unfold light; grind
theorem ls6 {p q r s : Int × Int} : light p q r s = light r s q p := by unfold light; grind
theorem ls7 {p q r s : Int × Int} : light p q r s = light s r q p := by unfold light; grind
theorem arr_light (n : Nat → Int × Int) : ∀ o ∈ perms,
    light (n 0) (n 1) (n 2) (n 3) = arr (Builtin.bitXor (o.getD 0 0 : Nat) (o.getD 1 0 : Nat)) (Builtin.bitXor (o.getD 0 0 : Nat) (o.getD 2 0 : Nat)) (light (n (o.getD 0 0)) (n (o.getD 1 0)) (n (o.getD 2 0)) (n (o.getD 3 0))) (light (n (o.getD 0 0)) (n (o.getD 2 0)) (n (o.getD 1 0)) (n (o.getD 3 0))) (light (n (o.getD 0 0)) (n (o.getD 3 0)) (n (o.getD 1 0)) (n (o.getD 2 0))) 1 ∧
    light (n 0) (n 2) (n 1) (n 3) = arr (Builtin.bitXor (o.getD 0 0 : Nat) (o.getD 1 0 : Nat)) (Builtin.bitXor (o.getD 0 0 : Nat) (o.getD 2 0 : Nat)) (light (n (o.getD 0 0)) (n (o.getD 1 0)) (n (o.getD 2 0)) (n (o.getD 3 0))) (light (n (o.getD 0 0)) (n (o.getD 2 0)) (n (o.getD 1 0)) (n (o.getD 3 0))) (light (n (o.getD 0 0)) (n (o.getD 3 0)) (n (o.getD 1 0)) (n (o.getD 2 0))) 2 ∧
    light (n 0) (n 3) (n 1) (n 2) = arr (Builtin.bitXor (o.getD 0 0 : Nat) (o.getD 1 0 : Nat)) (Builtin.bitXor (o.getD 0 0 : Nat) (o.getD 2 0 : Nat)) (light (n (o.getD 0 0)) (n (o.getD 1 0)) (n (o.getD 2 0)) (n (o.getD 3 0))) (light (n (o.getD 0 0)) (n (o.getD 2 0)) (n (o.getD 1 0)) (n (o.getD 3 0))) (light (n (o.getD 0 0)) (n (o.getD 3 0)) (n (o.getD 1 0)) (n (o.getD 2 0))) 3 := by
  intro o ho
  simp only [perms, List.mem_cons, List.not_mem_nil, or_false] at ho
  rcases ho with rfl | rfl | rfl | rfl | rfl | rfl | rfl | rfl | rfl | rfl | rfl | rfl | rfl | rfl | rfl | rfl | rfl | rfl | rfl | rfl | rfl | rfl | rfl | rfl <;>
    refine ⟨?_, ?_, ?_⟩ <;> (show light _ _ _ _ = light _ _ _ _; simp only [List.getD_cons_zero, List.getD_cons_succ]) <;> (first | with_reducible rfl | with_reducible exact ls1 | with_reducible exact ls2 | with_reducible exact ls3 | with_reducible exact ls4 | with_reducible exact ls5 | with_reducible exact ls6 | with_reducible exact ls7)
theorem light_AC (x y z u : Int × Int) : light x y z u - light x u y z = gapI x z * gapI y u := by unfold light gapI; grind
theorem light_BC (x y z u : Int × Int) : light x z y u - light x u y z = gapI x y * gapI z u := by unfold light gapI; grind
theorem light_AB (x y z u : Int × Int) : light x y z u - light x z y u = gapI x u * gapI y z := by unfold light gapI; grind
end Wu
end
section
namespace Wu
open PySem PySem.Spec PySem.Calls PyProof.Rows PySem.W

noncomputable def cmpsB (x w : List Bool) : Bool := decide (1 ≤ (node w).1) && decide (1 ≤ (node w).2) && decide ((node w).1 ≤ 5) && decide ((node w).2 ≤ 5) && decide ((node w).1 ≤ (point (x ++ w)).1) && decide ((node w).2 ≤ (point (x ++ w)).2) && decide ((point (x ++ w)).1 ≤ 22) && decide ((point (x ++ w)).2 ≤ 22)
theorem comps_ok : (words3.all fun x => words3.all fun w => cmpsB x w) = true := by decide +kernel
theorem up_ok : (words3.all fun x => x.isEmpty || ((words3.all fun w => decide ((node w).1 < (point (x ++ w)).1)) || (words3.all fun w => decide ((node w).2 < (point (x ++ w)).2)))) = true := by decide +kernel
theorem gap_ok : (words3.all fun x => words3.all fun v => words3.all fun w => decide (gapI (point (x ++ v)) (point (x ++ w)) = gapI (node v) (node w))) = true := by decide +kernel
theorem mul4_le {a b c e a' b' c' e' : Int} (a0 : 1 ≤ a) (b0 : 1 ≤ b) (c0 : 1 ≤ c) (e0 : 1 ≤ e) (ha : a ≤ a') (hb : b ≤ b') (hc : c ≤ c') (he : e ≤ e') : a * b * (c * e) ≤ a' * b' * (c' * e') :=
  Int.mul_le_mul (Int.mul_le_mul ha hb (by omega) (by omega)) (Int.mul_le_mul hc he (by omega) (by omega)) (Int.mul_nonneg (by omega) (by omega)) (Int.mul_nonneg (by omega) (by omega))
theorem mul4_lt {a b c e a' b' c' e' : Int} (a0 : 1 ≤ a) (b0 : 1 ≤ b) (c0 : 1 ≤ c) (e0 : 1 ≤ e) (ha : a < a') (hb : b ≤ b') (hc : c ≤ c') (he : e ≤ e') : a * b * (c * e) < a' * b' * (c' * e') := by
  have h1 := mul4_le a0 b0 c0 e0 (Int.le_refl a) hb hc he
  have h2 : 1 * 1 * (1 * 1) ≤ b' * (c' * e') * 1 * 1 := by
    have := mul4_le (a := 1) (b := 1) (c := 1) (e := 1) (a' := b') (b' := 1) (c' := c') (e' := e') (by decide) (by decide) (by decide) (by decide) (by omega) (by decide) (by omega) (by omega)
    grind
  have h3 : a' * b' * (c' * e') = a * b' * (c' * e') + (a' - a) * (b' * (c' * e')) := by grind
  have h4 : 1 * 1 ≤ (a' - a) * (b' * (c' * e')) := Int.mul_le_mul (by omega) (by omega) (by decide) (by omega)
  omega
theorem light_lt {p q r s p' q' r' s' : Int × Int} (hp : 1 ≤ p.1 ∧ 1 ≤ p.2 ∧ p.1 ≤ p'.1 ∧ p.2 ≤ p'.2) (hq : 1 ≤ q.1 ∧ 1 ≤ q.2 ∧ q.1 ≤ q'.1 ∧ q.2 ≤ q'.2) (hr : 1 ≤ r.1 ∧ 1 ≤ r.2 ∧ r.1 ≤ r'.1 ∧ r.2 ≤ r'.2) (hs : 1 ≤ s.1 ∧ 1 ≤ s.2 ∧ s.1 ≤ s'.1 ∧ s.2 ≤ s'.2)
    (h : (p.1 < p'.1 ∧ r.1 < r'.1) ∨ (p.2 < p'.2 ∧ r.2 < r'.2)) : light p q r s < light p' q' r' s' := by
  obtain ⟨p1, p2, p3, p4⟩ := hp
  obtain ⟨q1, q2, q3, q4⟩ := hq
  obtain ⟨r1, r2, r3, r4⟩ := hr
  obtain ⟨s1, s2, s3, s4⟩ := hs
  unfold light
  rcases h with ⟨h, _⟩ | ⟨h, _⟩
  · have a1 := mul4_lt p1 q1 r2 s2 h q3 r4 s4
    have a2 := mul4_le p2 q2 r1 s1 p4 q4 r3 s3
    omega
  · have a1 := mul4_le p1 q1 r2 s2 p3 q3 r4 s4
    have a2 := mul4_lt p2 q2 r1 s1 h q4 r3 s3
    omega
theorem light_le {p q r s : Int × Int} {K : Int} (hK : 1 ≤ K) (hp : 1 ≤ p.1 ∧ 1 ≤ p.2 ∧ p.1 ≤ K ∧ p.2 ≤ K) (hq : 1 ≤ q.1 ∧ 1 ≤ q.2 ∧ q.1 ≤ K ∧ q.2 ≤ K) (hr : 1 ≤ r.1 ∧ 1 ≤ r.2 ∧ r.1 ≤ K ∧ r.2 ≤ K) (hs : 1 ≤ s.1 ∧ 1 ≤ s.2 ∧ s.1 ≤ K ∧ s.2 ≤ K) :
    0 < light p q r s ∧ light p q r s ≤ 2 * (K * K * (K * K)) := by
  unfold light
  have a1 := mul4_le hp.1 hq.1 hr.2.1 hs.2.1 hp.2.2.1 hq.2.2.1 hr.2.2.2 hs.2.2.2
  have a2 := mul4_le hp.2.1 hq.2.1 hr.1 hs.1 hp.2.2.2 hq.2.2.2 hr.2.2.1 hs.2.2.1
  have b1 := mul4_le (a := 1) (b := 1) (c := 1) (e := 1) (by decide) (by decide) (by decide) (by decide) hp.1 hq.1 hr.2.1 hs.2.1
  have b2 := mul4_le (a := 1) (b := 1) (c := 1) (e := 1) (by decide) (by decide) (by decide) (by decide) hp.2.1 hq.2.1 hr.1 hs.1
  omega
end Wu
end
section
namespace Wu
open PySem PySem.Spec PySem.Calls PyProof.Rows PySem.W

structure Lit (t m A B C d : Int) : Prop where
  cb : C ≤ B
  ba : B ≤ A
  c0 : 0 < C
  top : A ≤ 1250
  d0 : 0 < d
  topd : A + d ≤ 468512
  tm : (t = 1 ∨ t = 2 ∨ t = 3) ∧ (m = 1 ∨ m = 2 ∨ m = 3) ∧ t ≠ m
theorem comps (script : List Int) (k : Nat) : cmpsB (wordOf script 4) (wordOf script k) = true := List.all_eq_true.mp (List.all_eq_true.mp comps_ok _ (word_mem script 4)) _ (word_mem script k)
theorem comps' (script : List Int) (k : Nat) : 1 ≤ (nodeI script k).1 ∧ 1 ≤ (nodeI script k).2 ∧ (nodeI script k).1 ≤ 5 ∧ (nodeI script k).2 ≤ 5 ∧ (nodeI script k).1 ≤ (point (wholeOf script k)).1 ∧ (nodeI script k).2 ≤ (point (wholeOf script k)).2 ∧ (point (wholeOf script k)).1 ≤ 22 ∧ (point (wholeOf script k)).2 ≤ 22 := by
  have h := comps script k
  unfold cmpsB at h
  simp only [Bool.and_eq_true, decide_eq_true_eq] at h
  obtain ⟨⟨⟨⟨⟨⟨⟨h1, h2⟩, h3⟩, h4⟩, h5⟩, h6⟩, h7⟩, h8⟩ := h
  exact ⟨h1, h2, h3, h4, h5, h6, h7, h8⟩
theorem word4_ne (script : List Int) : (wordOf script 4).isEmpty = false := by
  have h : (wordOf script 4).length ≠ 0 := by
    unfold wordOf lenOf
    rw [tBits_len, if_neg (by decide)]
    omega
  cases e : wordOf script 4 with
  | nil => rw [e] at h; exact absurd rfl h
  | cons a l => rfl
theorem up_script (script : List Int) : (∀ k, (nodeI script k).1 < (point (wholeOf script k)).1) ∨ (∀ k, (nodeI script k).2 < (point (wholeOf script k)).2) := by
  have h := List.all_eq_true.mp up_ok _ (word_mem script 4)
  rw [word4_ne, Bool.false_or] at h
  rcases Bool.or_eq_true_iff.mp h with h | h
  · exact .inl fun k => of_decide_eq_true (List.all_eq_true.mp h _ (word_mem script k))
  · exact .inr fun k => of_decide_eq_true (List.all_eq_true.mp h _ (word_mem script k))
theorem gap_script (script : List Int) (i j : Nat) : gapI (point (wholeOf script i)) (point (wholeOf script j)) = gapI (nodeI script i) (nodeI script j) :=
  of_decide_eq_true (List.all_eq_true.mp (List.all_eq_true.mp (List.all_eq_true.mp gap_ok _ (word_mem script 4)) _ (word_mem script i)) _ (word_mem script j))
theorem gap_nonneg {script : List Int} {i j : Nat} (h : rkW (wordOf script i) ≤ rkW (wordOf script j)) : 0 ≤ gapI (nodeI script i) (nodeI script j) := by
  have e := beq_iff_eq.mp (List.all_eq_true.mp (List.all_eq_true.mp rk_gap _ (word_mem script i)) _ (word_mem script j))
  rw [decide_eq_true h] at e
  exact of_decide_eq_true e.symm
theorem perm_tm : ∀ o ∈ perms, ((Builtin.bitXor (o.getD 0 0 : Nat) (o.getD 1 0 : Nat) = 1 ∨ Builtin.bitXor (o.getD 0 0 : Nat) (o.getD 1 0 : Nat) = 2 ∨ Builtin.bitXor (o.getD 0 0 : Nat) (o.getD 1 0 : Nat) = 3) ∧
    (Builtin.bitXor (o.getD 0 0 : Nat) (o.getD 2 0 : Nat) = 1 ∨ Builtin.bitXor (o.getD 0 0 : Nat) (o.getD 2 0 : Nat) = 2 ∨ Builtin.bitXor (o.getD 0 0 : Nat) (o.getD 2 0 : Nat) = 3) ∧ Builtin.bitXor (o.getD 0 0 : Nat) (o.getD 1 0 : Nat) ≠ Builtin.bitXor (o.getD 0 0 : Nat) (o.getD 2 0 : Nat)) := by decide +kernel
theorem perm_lt : ∀ o ∈ perms, o.length = 4 ∧ ∀ i ∈ o, i < 4 := by decide +kernel
theorem order_mem (script : List Int) : orderOf script ∈ perms := by rw [order_R]; exact (sortR_good _).1
theorem order_rk (script : List Int) : rkW (wordOf script (ordI script 0)) ≤ rkW (wordOf script (ordI script 1)) ∧ rkW (wordOf script (ordI script 1)) ≤ rkW (wordOf script (ordI script 2)) ∧ rkW (wordOf script (ordI script 2)) ≤ rkW (wordOf script (ordI script 3)) := by
  unfold ordI
  rw [order_R]
  exact (sortR_good fun i => rkW (wordOf script i)).2
theorem lit_core {script : List Int} {o0 o1 o2 o3 : Nat} {t m S H : Int} (al : (light (nodeI script 0) (nodeI script 1) (nodeI script 2) (nodeI script 3) = arr t m (light (nodeI script o0) (nodeI script o1) (nodeI script o2) (nodeI script o3)) (light (nodeI script o0) (nodeI script o2) (nodeI script o1) (nodeI script o3)) (light (nodeI script o0) (nodeI script o3) (nodeI script o1) (nodeI script o2)) 1 ∧ light (nodeI script 0) (nodeI script 2) (nodeI script 1) (nodeI script 3) = arr t m (light (nodeI script o0) (nodeI script o1) (nodeI script o2) (nodeI script o3)) (light (nodeI script o0) (nodeI script o2) (nodeI script o1) (nodeI script o3)) (light (nodeI script o0) (nodeI script o3) (nodeI script o1) (nodeI script o2)) 2 ∧ light (nodeI script 0) (nodeI script 3) (nodeI script 1) (nodeI script 2) = arr t m (light (nodeI script o0) (nodeI script o1) (nodeI script o2) (nodeI script o3)) (light (nodeI script o0) (nodeI script o2) (nodeI script o1) (nodeI script o3)) (light (nodeI script o0) (nodeI script o3) (nodeI script o1) (nodeI script o2)) 3)) (aw : (light (point (wholeOf script 0)) (point (wholeOf script 1)) (point (wholeOf script 2)) (point (wholeOf script 3)) = arr t m (light (point (wholeOf script o0)) (point (wholeOf script o1)) (point (wholeOf script o2)) (point (wholeOf script o3))) (light (point (wholeOf script o0)) (point (wholeOf script o2)) (point (wholeOf script o1)) (point (wholeOf script o3))) (light (point (wholeOf script o0)) (point (wholeOf script o3)) (point (wholeOf script o1)) (point (wholeOf script o2))) 1 ∧ light (point (wholeOf script 0)) (point (wholeOf script 2)) (point (wholeOf script 1)) (point (wholeOf script 3)) = arr t m (light (point (wholeOf script o0)) (point (wholeOf script o1)) (point (wholeOf script o2)) (point (wholeOf script o3))) (light (point (wholeOf script o0)) (point (wholeOf script o2)) (point (wholeOf script o1)) (point (wholeOf script o3))) (light (point (wholeOf script o0)) (point (wholeOf script o3)) (point (wholeOf script o1)) (point (wholeOf script o2))) 2 ∧ light (point (wholeOf script 0)) (point (wholeOf script 3)) (point (wholeOf script 1)) (point (wholeOf script 2)) = arr t m (light (point (wholeOf script o0)) (point (wholeOf script o1)) (point (wholeOf script o2)) (point (wholeOf script o3))) (light (point (wholeOf script o0)) (point (wholeOf script o2)) (point (wholeOf script o1)) (point (wholeOf script o3))) (light (point (wholeOf script o0)) (point (wholeOf script o3)) (point (wholeOf script o1)) (point (wholeOf script o2))) 3))
    (tm : (t = 1 ∨ t = 2 ∨ t = 3) ∧ (m = 1 ∨ m = 2 ∨ m = 3) ∧ t ≠ m) (r01 : rkW (wordOf script o0) ≤ rkW (wordOf script o1)) (r12 : rkW (wordOf script o1) ≤ rkW (wordOf script o2)) (r23 : rkW (wordOf script o2) ≤ rkW (wordOf script o3))
    (eS : S = gapI (nodeI script o0) (nodeI script o2) * gapI (nodeI script o1) (nodeI script o3)) (eH : H = gapI (nodeI script o0) (nodeI script o1) * gapI (nodeI script o2) (nodeI script o3)) :
    ∃ A B C d : Int, Lit t m A B C d ∧ S = A - C ∧ H = B - C ∧ (light (nodeI script 0) (nodeI script 1) (nodeI script 2) (nodeI script 3) = arr t m A B C 1 ∧ light (nodeI script 0) (nodeI script 2) (nodeI script 1) (nodeI script 3) = arr t m A B C 2 ∧ light (nodeI script 0) (nodeI script 3) (nodeI script 1) (nodeI script 2) = arr t m A B C 3) ∧ (light (point (wholeOf script 0)) (point (wholeOf script 1)) (point (wholeOf script 2)) (point (wholeOf script 3)) = arr t m A B C 1 + d ∧ light (point (wholeOf script 0)) (point (wholeOf script 2)) (point (wholeOf script 1)) (point (wholeOf script 3)) = arr t m A B C 2 + d ∧ light (point (wholeOf script 0)) (point (wholeOf script 3)) (point (wholeOf script 1)) (point (wholeOf script 2)) = arr t m A B C 3 + d) := by
  have lAC := light_AC (nodeI script o0) (nodeI script o1) (nodeI script o2) (nodeI script o3)
  have lBC := light_BC (nodeI script o0) (nodeI script o1) (nodeI script o2) (nodeI script o3)
  have lAB := light_AB (nodeI script o0) (nodeI script o1) (nodeI script o2) (nodeI script o3)
  have wAC := light_AC (point (wholeOf script o0)) (point (wholeOf script o1)) (point (wholeOf script o2)) (point (wholeOf script o3))
  have wAB := light_AB (point (wholeOf script o0)) (point (wholeOf script o1)) (point (wholeOf script o2)) (point (wholeOf script o3))
  rw [gap_script, gap_script] at wAC wAB
  have gBC := Int.mul_nonneg (gap_nonneg r01) (gap_nonneg r23)
  have gAB := Int.mul_nonneg (gap_nonneg (Nat.le_trans r01 (Nat.le_trans r12 r23))) (gap_nonneg r12)
  have c0 := comps' script o0
  have c1 := comps' script o1
  have c2 := comps' script o2
  have c3 := comps' script o3
  have hd : light (nodeI script o0) (nodeI script o1) (nodeI script o2) (nodeI script o3) < light (point (wholeOf script o0)) (point (wholeOf script o1)) (point (wholeOf script o2)) (point (wholeOf script o3)) := by
    refine light_lt ⟨c0.1, c0.2.1, c0.2.2.2.2.1, c0.2.2.2.2.2.1⟩ ⟨c1.1, c1.2.1, c1.2.2.2.2.1, c1.2.2.2.2.2.1⟩ ⟨c2.1, c2.2.1, c2.2.2.2.2.1, c2.2.2.2.2.2.1⟩ ⟨c3.1, c3.2.1, c3.2.2.2.2.1, c3.2.2.2.2.2.1⟩ ?_
    rcases up_script script with h | h
    · exact .inl ⟨h _, h _⟩
    · exact .inr ⟨h _, h _⟩
  have hA := light_le (K := 5) (by decide) ⟨c0.1, c0.2.1, c0.2.2.1, c0.2.2.2.1⟩ ⟨c1.1, c1.2.1, c1.2.2.1, c1.2.2.2.1⟩ ⟨c2.1, c2.2.1, c2.2.2.1, c2.2.2.2.1⟩ ⟨c3.1, c3.2.1, c3.2.2.1, c3.2.2.2.1⟩
  have hC := light_le (K := 5) (by decide) ⟨c0.1, c0.2.1, c0.2.2.1, c0.2.2.2.1⟩ ⟨c3.1, c3.2.1, c3.2.2.1, c3.2.2.2.1⟩ ⟨c1.1, c1.2.1, c1.2.2.1, c1.2.2.2.1⟩ ⟨c2.1, c2.2.1, c2.2.2.1, c2.2.2.2.1⟩
  have hP := light_le (K := 22) (p := point (wholeOf script o0)) (q := point (wholeOf script o1)) (r := point (wholeOf script o2)) (s := point (wholeOf script o3)) (by decide) ⟨by omega, by omega, c0.2.2.2.2.2.2⟩ ⟨by omega, by omega, c1.2.2.2.2.2.2⟩ ⟨by omega, by omega, c2.2.2.2.2.2.2⟩ ⟨by omega, by omega, c3.2.2.2.2.2.2⟩
  obtain ⟨a1, a2, a3⟩ := al
  obtain ⟨b1, b2, b3⟩ := aw
  rw [← eS] at lAC
  rw [← eH] at lBC
  rw [← eH] at gBC
  rw [← eS] at wAC
  generalize light (nodeI script o0) (nodeI script o1) (nodeI script o2) (nodeI script o3) = A at *
  generalize light (nodeI script o0) (nodeI script o2) (nodeI script o1) (nodeI script o3) = B at *
  generalize light (nodeI script o0) (nodeI script o3) (nodeI script o1) (nodeI script o2) = C at *
  generalize light (point (wholeOf script o0)) (point (wholeOf script o1)) (point (wholeOf script o2)) (point (wholeOf script o3)) = A' at *
  generalize light (point (wholeOf script o0)) (point (wholeOf script o2)) (point (wholeOf script o1)) (point (wholeOf script o3)) = B' at *
  generalize light (point (wholeOf script o0)) (point (wholeOf script o3)) (point (wholeOf script o1)) (point (wholeOf script o2)) = C' at *
  rw [← lAB] at gAB wAB
  have add : ∀ t m k : Int, arr t m A' B' C' k = arr t m A B C k + (A' - A) := by
    intro t m k
    unfold arr
    split
    · omega
    · split <;> omega
  refine ⟨A, B, C, A' - A, ⟨by omega, by omega, hC.1, by omega, by omega, by omega, tm⟩, by omega, by omega, ⟨a1, a2, a3⟩, ?_⟩
  rw [← add, ← add, ← add]
  exact ⟨b1, b2, b3⟩
theorem lit_script (script : List Int) : ∃ A B C d : Int, Lit (topI script) (midI script) A B C d ∧ spreadI script = A - C ∧ shareI script = B - C ∧ (light (nodeI script 0) (nodeI script 1) (nodeI script 2) (nodeI script 3) = arr (topI script) (midI script) A B C 1 ∧ light (nodeI script 0) (nodeI script 2) (nodeI script 1) (nodeI script 3) = arr (topI script) (midI script) A B C 2 ∧ light (nodeI script 0) (nodeI script 3) (nodeI script 1) (nodeI script 2) = arr (topI script) (midI script) A B C 3) ∧ (light (point (wholeOf script 0)) (point (wholeOf script 1)) (point (wholeOf script 2)) (point (wholeOf script 3)) = arr (topI script) (midI script) A B C 1 + d ∧ light (point (wholeOf script 0)) (point (wholeOf script 2)) (point (wholeOf script 1)) (point (wholeOf script 3)) = arr (topI script) (midI script) A B C 2 + d ∧ light (point (wholeOf script 0)) (point (wholeOf script 3)) (point (wholeOf script 1)) (point (wholeOf script 2)) = arr (topI script) (midI script) A B C 3 + d) :=
  lit_core (o0 := ordI script 0) (o1 := ordI script 1) (o2 := ordI script 2) (o3 := ordI script 3) (arr_light (nodeI script) _ (order_mem script)) (arr_light (fun k => point (wholeOf script k)) _ (order_mem script)) (perm_tm _ (order_mem script)) (order_rk script).1 (order_rk script).2.1 (order_rk script).2.2 rfl rfl
end Wu
end
section
namespace Wu
open PySem PySem.Spec PySem.Calls PyProof.Rows PySem.W
open PySem.Float64 (val V dist decode Right infMag)

theorem V_ge (t : Nat) : t ≤ V t := by
  induction t with
  | zero => exact Nat.zero_le _
  | succ t ih => exact Nat.lt_of_le_of_lt ih (Float64.V_succ t)
theorem V_gap (t : Nat) : (V (t + 1) - V t) * 2 ^ 52 ≤ V t + 2 ^ 52 := by
  obtain ⟨k, q, h1, h2, h3, h4⟩ := Float64.V_form t
  have h5 : V (t + 1) = (q + 1) * 2 ^ k := by
    rw [h1, Nat.add_assoc]
    exact Float64.V_at (by omega) (by omega)
  rw [h5, h4, Nat.add_mul, Nat.add_sub_cancel_left, Nat.one_mul]
  rcases h3 with h3 | rfl
  · have : 2 ^ 52 * 2 ^ k ≤ q * 2 ^ k := Nat.mul_le_mul_right _ h3
    rw [Nat.mul_comm (2 ^ k)]
    omega
  · omega
theorem floor_V {W D : Nat} (hD : 0 < D) : ∃ t, D * V t ≤ W ∧ W < D * V (t + 1) := by
  have top : W < D * V (W + 1) := Nat.lt_of_lt_of_le (Nat.lt_succ_self W) (Nat.le_trans (V_ge _) (Nat.le_mul_of_pos_left _ hD))
  have key : ∀ n, W < D * V n → ∃ t, D * V t ≤ W ∧ W < D * V (t + 1) := by
    intro n
    induction n with
    | zero => intro h; rw [Float64.V_zero, Nat.mul_zero] at h; exact absurd h (Nat.not_lt_zero _)
    | succ n ih =>
      intro h
      by_cases q : W < D * V n
      · exact ih q
      · exact ⟨n, Nat.le_of_not_lt q, h⟩
  exact key _ top
theorem right_near {r : UInt64} {neg : Bool} {W D : Nat} (R : Right r neg W D) (hD : 0 < D) (hW : W < D * 2 ^ 2000) :
    ∃ m e v, decode r = .fin neg m e ∧ val r = Float64.sgn neg v ∧ dist W (D * v) * 2 ^ 52 ≤ W + D * 2 ^ 52 := by
  obtain ⟨t, rfl, ht, hov, hn⟩ := R
  have lt : t < infMag := by
    refine Nat.lt_of_le_of_ne ht fun q => ?_
    have h := hov.mp q
    have h2 : D * 2 ^ 2000 ≤ D * ((2 ^ 54 - 1) * 2 ^ 2045) := Nat.mul_le_mul_left _ (Nat.le_of_ble_eq_true rfl)
    have h3 : D * (2 * 2 ^ 2000) ≤ D * ((2 ^ 54 - 1) * 2 ^ 2045) := Nat.mul_le_mul_left _ (Nat.le_of_ble_eq_true rfl)
    have h4 : D * (2 * 2 ^ 2000) = 2 * (D * 2 ^ 2000) := by ac_rfl
    omega
  obtain ⟨m, e, hd, hv⟩ := Float64.decode_pack neg lt
  refine ⟨m, e, V t, hd, Float64.val_pack neg lt, ?_⟩
  obtain ⟨u, hu1, hu2⟩ := floor_V (W := W) hD
  have h1 := (hn lt u).1
  have hg := V_gap u
  have h2 : dist W (D * V u) ≤ D * (V (u + 1) - V u) := by
    unfold dist
    rw [Nat.mul_sub]
    omega
  have h3 : D * (V (u + 1) - V u) * 2 ^ 52 ≤ D * V u + D * 2 ^ 52 := by
    rw [Nat.mul_assoc, ← Nat.mul_add]
    exact Nat.mul_le_mul_left _ hg
  have h4 := Nat.mul_le_mul_right (2 ^ 52) (Nat.le_trans h1 h2)
  exact Nat.le_trans h4 (Nat.le_trans h3 (Nat.add_le_add_right hu1 _))
end Wu
end
section
set_option exponentiation.threshold 3000
namespace Wu
open PySem PySem.Spec PySem.Calls PyProof.Rows PySem.W
open PySem.Float64 (val V dist decode Right infMag)

/-- a whole number that a float can be -/
theorem V_hits (q k : Nat) (h : q < 2 ^ 53) : ∃ t, V t = q * 2 ^ k := by
  induction k generalizing q with
  | zero => exact ⟨q, by have := Float64.V_at (k := 0) (q := q) (by omega) (.inr rfl); simpa using this⟩
  | succ k ih =>
    by_cases h2 : 2 ^ 52 ≤ q
    · exact ⟨_, Float64.V_at (k := k + 1) (by omega) (.inl h2)⟩
    · obtain ⟨t, ht⟩ := ih (2 * q) (by omega)
      exact ⟨t, by rw [ht, Nat.pow_succ]; ac_rfl⟩
theorem dist_zero {a b : Nat} (h : dist a b = 0) : a = b := by unfold dist at h; omega
theorem dist_self (a : Nat) : dist a a = 0 := by unfold dist; omega
theorem right_exact {r : UInt64} {neg : Bool} {W D v : Nat} (R : Right r neg W D) (hD : 0 < D) (hW : W < D * 2 ^ 2000) (hv : W = D * v) (hit : ∃ t, V t = v) : ∃ m e, decode r = .fin neg m e ∧ val r = Float64.sgn neg v := by
  obtain ⟨t, rfl, ht, hov, hn⟩ := R
  have lt : t < infMag := by
    refine Nat.lt_of_le_of_ne ht fun q => ?_
    have h := hov.mp q
    have h3 : D * (2 * 2 ^ 2000) ≤ D * ((2 ^ 54 - 1) * 2 ^ 2045) := Nat.mul_le_mul_left _ (Nat.le_of_ble_eq_true rfl)
    have h4 : D * (2 * 2 ^ 2000) = 2 * (D * 2 ^ 2000) := by ac_rfl
    omega
  obtain ⟨m, e, hd, _⟩ := Float64.decode_pack neg lt
  obtain ⟨u, hu⟩ := hit
  have h := (hn lt u).1
  rw [hu, ← hv, dist_self] at h
  have h2 := dist_zero (Nat.le_zero.mp h)
  have h3 : v = V t := Nat.eq_of_mul_eq_mul_left hD (hv.symm.trans h2)
  exact ⟨m, e, hd, by rw [Float64.val_pack neg lt, h3]⟩
end Wu
end
section
set_option exponentiation.threshold 3000
namespace Wu
open PySem PySem.Spec PySem.Calls PyProof.Rows PySem.W
open PySem.Float64 (val V dist decode Right infMag)

/-- a finite float -/
noncomputable def Fi (x : UInt64) : Prop := ∃ a m e, decode x = .fin a m e
/-- x stands near s / D -/
structure NearI (x : UInt64) (s : Int) (D : Nat) : Prop where
  fi : Fi x
  le : (D * val x - s) * 2 ^ 52 ≤ s.natAbs + D * 2 ^ 52
  ge : (s - D * val x) * 2 ^ 52 ≤ s.natAbs + D * 2 ^ 52
theorem near_of {r : UInt64} {neg : Bool} {s : Int} {D : Nat} (R : Right r neg s.natAbs D) (hs : s = Float64.sgn neg s.natAbs) (hD : 0 < D) (hW : s.natAbs < D * 2 ^ 2000) : NearI r s D := by
  obtain ⟨m, e, v, h1, h2, h3⟩ := right_near R hD hW
  clear hW R
  have hp : (D : Int) * val r = Float64.sgn neg (D * v) := by
    rw [h2]; unfold Float64.sgn; cases neg
    · simp
    · simp only [if_true]; rw [Int.mul_neg, Int.natCast_mul]
  have h4 : (D * val r - s) ≤ dist s.natAbs (D * v) ∧ s - D * val r ≤ dist s.natAbs (D * v) := by
    rw [hp]
    generalize D * v = u
    unfold dist
    unfold Float64.sgn at hs ⊢
    cases neg
    · simp only [Bool.false_eq_true, if_false] at hs ⊢; omega
    · simp only [if_true] at hs ⊢; omega
  have h5 : ((dist s.natAbs (D * v) : Nat) : Int) * 2 ^ 52 ≤ s.natAbs + D * 2 ^ 52 := by
    have := Int.ofNat_le.mpr h3
    simpa using this
  have h6 : (0 : Int) ≤ 2 ^ 52 := by decide
  exact ⟨⟨_, _, _, h1⟩, Int.le_trans (Int.mul_le_mul_of_nonneg_right h4.1 h6) h5, Int.le_trans (Int.mul_le_mul_of_nonneg_right h4.2 h6) h5⟩
theorem sgn_self {s : Int} : s = Float64.sgn (decide (s < 0)) s.natAbs := by
  unfold Float64.sgn
  by_cases h : s < 0
  · simp only [h, decide_true, if_true]; omega
  · simp only [h, decide_false, Bool.false_eq_true, if_false]; omega
theorem add_near {x y : UInt64} (hx : Fi x) (hy : Fi y) (hW : (val x + val y).natAbs < 2 ^ 2000) : NearI (Float64.add x y) (val x + val y) 1 := by
  obtain ⟨a, m, e, hx⟩ := hx
  obtain ⟨b, k, f, hy⟩ := hy
  obtain ⟨h0, h1⟩ := Float64.add_right hx hy
  by_cases h : val x + val y = 0
  · rw [h0 h, h]
    obtain ⟨m', e', hd, hv⟩ := Float64.decode_pack (a && b) (t := 0) (by decide)
    have hz : val (Float64.zero (a && b)) = 0 := by
      have := Float64.val_pack (a && b) (t := 0) (by decide)
      rw [Float64.V_zero] at this
      show val (Float64.pack _ 0) = 0
      rw [this]; unfold Float64.sgn; cases (a && b) <;> rfl
    exact ⟨⟨_, _, _, hd⟩, by rw [hz]; decide, by rw [hz]; decide⟩
  · exact near_of (h1 h) sgn_self (by decide) (by rw [Nat.one_mul]; exact hW)
end Wu
end
section
set_option exponentiation.threshold 3000
namespace Wu
open PySem PySem.Spec PySem.Calls PyProof.Rows PySem.W
open PySem.Float64 (val V dist decode Right infMag)
theorem zero_near (b : Bool) : NearI (Float64.zero b) 0 1 := by
  obtain ⟨m', e', hd, hv⟩ := Float64.decode_pack b (t := 0) (by decide)
  have hz : val (Float64.zero b) = 0 := by
    have := Float64.val_pack b (t := 0) (by decide)
    rw [Float64.V_zero] at this
    show val (Float64.pack _ 0) = 0
    rw [this]; unfold Float64.sgn; cases b <;> rfl
  exact ⟨⟨_, _, _, hd⟩, by rw [hz]; decide, by rw [hz]; decide⟩
theorem sub_near {x y : UInt64} (hx : Fi x) (hy : Fi y) (hW : (val x - val y).natAbs < 2 ^ 2000) : NearI (Float64.sub x y) (val x - val y) 1 := by
  obtain ⟨a, m, e, hx⟩ := hx
  obtain ⟨b, k, f, hy⟩ := hy
  obtain ⟨h0, h1⟩ := Float64.sub_right hx hy
  by_cases h : val x - val y = 0
  · rw [h0 h, h]; exact zero_near _
  · exact near_of (h1 h) sgn_self (by decide) (by rw [Nat.one_mul]; exact hW)
end Wu
end
section
set_option exponentiation.threshold 3000
namespace Wu
open PySem PySem.Spec PySem.Calls PyProof.Rows PySem.W
open PySem.Float64 (val V dist decode Right infMag)
theorem sgn_xor {a b : Bool} {u v : Nat} : Float64.sgn a u * Float64.sgn b v = Float64.sgn (a != b) (u * v) := by
  unfold Float64.sgn
  cases a <;> cases b <;> simp <;> grind
theorem val_sgn {x : UInt64} {a : Bool} {m : Nat} {e : Int} (h : decode x = .fin a m e) : val x = Float64.sgn a (val x).natAbs := by
  rw [Float64.val_natAbs h]; exact Float64.val_eq h
theorem mul_near {x y : UInt64} (hx : Fi x) (hy : Fi y) (hW : (val x * val y).natAbs < 2 ^ 1074 * 2 ^ 2000) : NearI (Float64.mul x y) (val x * val y) (2 ^ 1074) := by
  obtain ⟨a, m, e, hx⟩ := hx
  obtain ⟨b, k, f, hy⟩ := hy
  have h := Float64.mul_right hx hy
  rw [← Int.natAbs_mul] at h
  have hs : val x * val y = Float64.sgn (a != b) (val x * val y).natAbs := by
    rw [Int.natAbs_mul, ← sgn_xor, ← val_sgn hx, ← val_sgn hy]
  exact near_of h hs (Nat.two_pow_pos _) hW
end Wu
end
section
set_option exponentiation.threshold 3000
namespace Wu
open PySem PySem.Spec PySem.Calls PyProof.Rows PySem.W
open PySem.Float64 (val V dist decode Right infMag)
theorem div_near {x y : UInt64} (hx : Fi x) (hy : Fi y) (hp : 0 < val y) (hW : (val x).natAbs * 2 ^ 1074 < (val y).natAbs * 2 ^ 2000) : NearI (Float64.div x y) (val x * (2 ^ 1074 : Nat)) (val y).natAbs := by
  obtain ⟨a, m, e, hx⟩ := hx
  obtain ⟨b, k, f, hy⟩ := hy
  have hb : b = false := by
    cases b with
    | false => rfl
    | true =>
      have := Float64.val_eq hy
      unfold Float64.sgn at this
      simp only [if_true] at this
      omega
  subst hb
  have hk : k ≠ 0 := by
    rintro rfl
    have := Float64.val_eq hy
    rw [Nat.zero_mul] at this
    unfold Float64.sgn at this
    simp at this
    omega
  have h := Float64.div_right hx hy hk
  have e1 : (val x).natAbs * 2 ^ 1074 = (val x * (2 ^ 1074 : Nat)).natAbs := by rw [Int.natAbs_mul, Int.natAbs_natCast]
  rw [e1] at h hW
  have hs : val x * (2 ^ 1074 : Nat) = Float64.sgn (a != false) (val x * (2 ^ 1074 : Nat)).natAbs := by
    rw [← e1, Float64.sgn_mul]
    have : (a != false) = a := by cases a <;> rfl
    rw [this, ← val_sgn hx]
  exact near_of h hs (by omega) hW
end Wu
end
section
set_option exponentiation.threshold 3000
namespace Wu
open PySem PySem.Spec PySem.Calls PyProof.Rows PySem.W
open PySem.Float64 (val V dist decode Right infMag)
/-- the scale of val -/
noncomputable def KK : Nat := 2 ^ 1074
noncomputable def vr (x : UInt64) : Rat := (val x : Rat) / (KK : Rat)
theorem q_le_of_mul {a b c : Rat} (h : 0 < c) (h1 : a * c ≤ b * c) : a ≤ b := by
  refine Rat.not_lt.mp fun q => ?_
  have := Rat.mul_lt_mul_of_pos_right q h
  exact absurd h1 (Rat.not_le.mpr this)
theorem q_mul_nonneg {a b : Rat} (ha : 0 ≤ a) (hb : 0 ≤ b) : 0 ≤ a * b := Rat.mul_nonneg ha hb
theorem KK_pos : (0 : Rat) < (KK : Rat) := by
  have : 0 < KK := Nat.two_pow_pos _
  exact_mod_cast this
theorem val_vr (x : UInt64) : (val x : Rat) = vr x * KK := by
  unfold vr
  have := KK_pos
  grind
/-- x is finite and stands within e of q -/
structure Ap (x : UInt64) (q e : Rat) : Prop where
  fi : Fi x
  le : vr x ≤ q + e
  ge : q ≤ vr x + e
end Wu
end
section
set_option exponentiation.threshold 3000
namespace Wu
open PySem PySem.Spec PySem.Calls PyProof.Rows PySem.W
open PySem.Float64 (val V dist decode Right infMag)
/-- one step of rounding, as a share -/
noncomputable def ep : Rat := 1 / 4503599627370496
theorem KK_big : (4503599627370496 : Rat) ≤ (KK : Rat) := by
  have : 4503599627370496 ≤ KK := Nat.le_trans (show 4503599627370496 ≤ 2 ^ 52 by decide) (Nat.pow_le_pow_right (by decide) (by decide))
  exact_mod_cast this
theorem ap_of_near {x : UInt64} {s : Int} {D : Nat} {q M : Rat} (n : NearI x s D) (hD : 0 < D) (hq : (s : Rat) = q * (D * KK)) (h1 : q ≤ M) (h2 : -M ≤ q) : Ap x q ((M + 1) * ep) := by
  have hDr : (0 : Rat) < (D : Rat) := by exact_mod_cast hD
  have hK := KK_pos
  have hB := KK_big
  have hDK : (0 : Rat) < D * KK := Rat.mul_pos hDr hK
  have hs : ((s.natAbs : Nat) : Rat) ≤ M * (D * KK) := by
    have u1 : q * (D * KK) ≤ M * (D * KK) := Rat.mul_le_mul_of_nonneg_right h1 (Rat.le_of_lt hDK)
    have u2 : -M * (D * KK) ≤ q * (D * KK) := Rat.mul_le_mul_of_nonneg_right h2 (Rat.le_of_lt hDK)
    have u3 : ((s.natAbs : Nat) : Rat) = (s : Rat) ∨ ((s.natAbs : Nat) : Rat) = -(s : Rat) := by
      rcases Int.natAbs_eq s with h | h
      · left
        have : ((s.natAbs : Nat) : Int) = s := by omega
        have := congrArg (fun z : Int => (z : Rat)) this
        simpa only [Rat.intCast_natCast] using this
      · right
        have : ((s.natAbs : Nat) : Int) = -s := by omega
        have := congrArg (fun z : Int => (z : Rat)) this
        simpa only [Rat.intCast_natCast, Rat.intCast_neg] using this
    rcases u3 with u3 | u3 <;> rw [u3] <;> grind
  have hD2 : (D : Rat) * 4503599627370496 ≤ D * KK := Rat.mul_le_mul_of_nonneg_left hB (Rat.le_of_lt hDr)
  have e1 : (D : Rat) * (val x : Rat) = vr x * (D * KK) := by rw [val_vr]; grind
  refine ⟨n.fi, ?_, ?_⟩
  · have h := n.le
    have h' : ((D : Int) * val x - s) * 4503599627370496 ≤ s.natAbs + D * 4503599627370496 := h
    have hr : ((D : Rat) * (val x : Rat) - s) * 4503599627370496 ≤ (s.natAbs : Nat) + D * 4503599627370496 := by
      have := Rat.intCast_le_intCast.mpr h'
      simpa only [Rat.intCast_mul, Rat.intCast_sub, Rat.intCast_add, Rat.intCast_natCast, Rat.intCast_ofNat] using this
    rw [e1, hq] at hr
    refine q_le_of_mul hDK ?_
    unfold ep
    grind
  · have h := n.ge
    have h' : (s - (D : Int) * val x) * 4503599627370496 ≤ s.natAbs + D * 4503599627370496 := h
    have hr : (s - (D : Rat) * (val x : Rat)) * 4503599627370496 ≤ (s.natAbs : Nat) + D * 4503599627370496 := by
      have := Rat.intCast_le_intCast.mpr h'
      simpa only [Rat.intCast_mul, Rat.intCast_sub, Rat.intCast_add, Rat.intCast_natCast, Rat.intCast_ofNat] using this
    rw [e1, hq] at hr
    refine q_le_of_mul hDK ?_
    unfold ep
    grind
end Wu
end
section
set_option exponentiation.threshold 3000
namespace Wu
open PySem PySem.Spec PySem.Calls PyProof.Rows PySem.W
open PySem.Float64 (val V dist decode Right infMag)
theorem right_same {r r' : UInt64} {neg : Bool} {W D W' D' v : Nat} (R : Right r neg W D) (R' : Right r' neg W' D') (hD : 0 < D) (hD' : 0 < D') (hv2 : v < 2 ^ 2000) (hv : W = D * v) (hv' : W' = D' * v) (hit : ∃ t, V t = v) : r = r' := by
  have key : ∀ {r : UInt64} {W D : Nat}, Right r neg W D → 0 < D → W = D * v → ∃ t, r = Float64.pack neg t ∧ V t = v := by
    intro r W D R hD hv
    obtain ⟨t, rfl, ht, hov, hn⟩ := R
    have lt : t < infMag := by
      refine Nat.lt_of_le_of_ne ht fun q => ?_
      have h := hov.mp q
      have h3 : D * (2 * 2 ^ 2000) ≤ D * ((2 ^ 54 - 1) * 2 ^ 2045) := Nat.mul_le_mul_left _ (Nat.le_of_ble_eq_true rfl)
      have h4 : D * (2 * 2 ^ 2000) = 2 * (D * 2 ^ 2000) := by ac_rfl
      have h5 : D * v < D * 2 ^ 2000 := Nat.mul_lt_mul_of_pos_left hv2 hD
      omega
    obtain ⟨u, hu⟩ := hit
    have h := (hn lt u).1
    rw [hu, ← hv, dist_self] at h
    have h2 := dist_zero (Nat.le_zero.mp h)
    exact ⟨t, rfl, (Nat.eq_of_mul_eq_mul_left hD (hv.symm.trans h2)).symm⟩
  obtain ⟨t, rfl, h1⟩ := key R hD hv
  obtain ⟨t', rfl, h2⟩ := key R' hD' hv'
  have : t = t' := by
    rcases Nat.lt_trichotomy t t' with h | h | h
    · have := Float64.V_lt h; omega
    · exact h
    · have := Float64.V_lt h; omega
  rw [this]
theorem q20_right (n : Int) : Right (q20 n) (decide (n < 0)) (n.natAbs * 2 ^ 1054) 1 := by
  have e : q20 n = Float64.ofFrac (decide (n < 0)) n.natAbs 1048576 := by
    unfold q20
    have e1 : (decide (n < 0) != decide ((1048576 : Int) < 0)) = decide (n < 0) := by cases decide (n < 0) <;> rfl
    have e2 : (1048576 : Int).natAbs = 1048576 := rfl
    rw [e1, e2]
  rw [e]
  refine Float64.ofFrac_right (by decide) ?_ (by decide)
  have : (2 : Nat) ^ 1074 = 2 ^ 1054 * 1048576 := rfl
  rw [this]
  generalize (2 : Nat) ^ 1054 = K
  rw [Nat.mul_one, Nat.mul_assoc]
theorem q20_hit {n : Nat} (h : n < 2 ^ 53) : ∃ t, V t = n * 2 ^ 1054 := V_hits n 1054 h
theorem q20_small {n : Nat} (h : n < 2 ^ 53) : n * 2 ^ 1054 < 2 ^ 2000 :=
  Nat.lt_of_lt_of_le (Nat.mul_lt_mul_of_pos_right h (Nat.two_pow_pos _)) (Nat.le_of_ble_eq_true rfl)
theorem q20_dec {n : Int} (h : n.natAbs < 2 ^ 53) : ∃ m e, decode (q20 n) = .fin (decide (n < 0)) m e ∧ val (q20 n) = n * 2 ^ 1054 := by
  obtain ⟨m, e, h1, h2⟩ := right_exact (v := n.natAbs * 2 ^ 1054) (q20_right n) (by decide) (by rw [Nat.one_mul]; exact q20_small h) (by rw [Nat.one_mul]) (q20_hit h)
  refine ⟨m, e, h1, ?_⟩
  rw [h2, Float64.sgn_mul, ← sgn_self]
  rfl
theorem q20_fi {n : Int} (h : n.natAbs < 2 ^ 53) : Fi (q20 n) := by
  obtain ⟨m, e, h1, h2⟩ := q20_dec h
  exact ⟨_, _, _, h1⟩
theorem q20_val {n : Int} (h : n.natAbs < 2 ^ 53) : val (q20 n) = n * 2 ^ 1054 := (q20_dec h).choose_spec.choose_spec.2
theorem q20_inf {n : Int} (h : n.natAbs < 2 ^ 53) : Float64.isInf (q20 n) = false := by
  obtain ⟨m, e, h1, h2⟩ := q20_dec h
  unfold Float64.isInf
  rw [h1]
theorem pp_pos : (0 : Int) < 2 ^ 1054 := Int.ofNat_lt.mpr (Nat.two_pow_pos 1054)
theorem q20_0 : q20 0 = Float64.zero false := by decide +kernel
theorem sub_q20 {m n : Int} (hn : 0 ≤ n) (hm : n ≤ m) (hs : m < 2 ^ 52) : Float64.sub (q20 m) (q20 n) = q20 (m - n) := by
  obtain ⟨x1, y1, d1, v1⟩ := q20_dec (n := m) (by omega)
  obtain ⟨x2, y2, d2, v2⟩ := q20_dec (n := n) (by omega)
  obtain ⟨h0, h1⟩ := Float64.sub_right d1 d2
  have e : val (q20 m) - val (q20 n) = (m - n) * 2 ^ 1054 := by rw [v1, v2, Int.sub_mul]
  rw [e] at h0 h1
  by_cases q : m = n
  · subst q
    rw [h0 (by rw [Int.sub_self, Int.zero_mul]), Int.sub_self]
    rw [q20_0]
    cases decide (m < 0) <;> rfl
  · have hp := pp_pos
    have hne : (m - n) * 2 ^ 1054 ≠ 0 := Int.mul_ne_zero (by omega) (Int.ne_of_gt hp)
    have hlt : ¬ (m - n) * 2 ^ 1054 < 0 := Int.not_lt.mpr (Int.mul_nonneg (by omega) (Int.le_of_lt hp))
    have r := h1 hne
    rw [decide_eq_false hlt] at r
    have r2 := q20_right (m - n)
    rw [decide_eq_false (by omega : ¬ m - n < 0)] at r2
    have ea : ((m - n) * 2 ^ 1054).natAbs = (m - n).natAbs * 2 ^ 1054 := by rw [Int.natAbs_mul]; rfl
    rw [ea] at r
    exact right_same r r2 (by decide) (by decide) (q20_small (n := (m - n).natAbs) (by omega)) (by rw [Nat.one_mul]) (by rw [Nat.one_mul]) (q20_hit (by omega))
theorem add_q20 {m n : Int} (hn : 0 ≤ n) (hm : 0 ≤ m) (hs : m + n < 2 ^ 52) (h0 : 0 < m + n) : Float64.add (q20 m) (q20 n) = q20 (m + n) := by
  obtain ⟨x1, y1, d1, v1⟩ := q20_dec (n := m) (by omega)
  obtain ⟨x2, y2, d2, v2⟩ := q20_dec (n := n) (by omega)
  obtain ⟨_, h1⟩ := Float64.add_right d1 d2
  have e : val (q20 m) + val (q20 n) = (m + n) * 2 ^ 1054 := by rw [v1, v2, Int.add_mul]
  rw [e] at h1
  have hp := pp_pos
  have hne : (m + n) * 2 ^ 1054 ≠ 0 := Int.mul_ne_zero (by omega) (Int.ne_of_gt hp)
  have hlt : ¬ (m + n) * 2 ^ 1054 < 0 := Int.not_lt.mpr (Int.mul_nonneg (by omega) (Int.le_of_lt hp))
  have r := h1 hne
  rw [decide_eq_false hlt] at r
  have r2 := q20_right (m + n)
  rw [decide_eq_false (by omega : ¬ m + n < 0)] at r2
  have ea : ((m + n) * 2 ^ 1054).natAbs = (m + n).natAbs * 2 ^ 1054 := by rw [Int.natAbs_mul]; rfl
  rw [ea] at r
  exact right_same r r2 (by decide) (by decide) (q20_small (n := (m + n).natAbs) (by omega)) (by rw [Nat.one_mul]) (by rw [Nat.one_mul]) (q20_hit (by omega))
theorem cmp_q20 {m n : Int} (hm : m.natAbs < 2 ^ 53) (hn : n.natAbs < 2 ^ 53) : Float64.cmp (q20 m) (q20 n) = some (compare m n) := by
  obtain ⟨x1, y1, d1, v1⟩ := q20_dec hm
  obtain ⟨x2, y2, d2, v2⟩ := q20_dec hn
  rw [Float64.cmp_right d1 d2, v1, v2]
  have hp := pp_pos
  generalize (2 : Int) ^ 1054 = K at hp
  congr 1
  rcases Int.lt_trichotomy m n with h | h | h
  · rw [Int.compare_eq_lt.mpr h, Int.compare_eq_lt.mpr (Int.mul_lt_mul_of_pos_right h hp)]
  · subst h; simp
  · rw [Int.compare_eq_gt.mpr h, Int.compare_eq_gt.mpr (Int.mul_lt_mul_of_pos_right h hp)]
theorem feq_q20 {m n : Int} (hm : m.natAbs < 2 ^ 53) (hn : n.natAbs < 2 ^ 53) : feq (q20 m) (q20 n) = decide (m = n) := by
  unfold feq
  rw [cmp_q20 hm hn]
  rcases Int.lt_trichotomy m n with h | h | h
  · rw [Int.compare_eq_lt.mpr h, decide_eq_false (by omega)]; rfl
  · subst h; simp
  · rw [Int.compare_eq_gt.mpr h, decide_eq_false (by omega)]; rfl
theorem flt_q20 {m n : Int} (hm : m.natAbs < 2 ^ 53) (hn : n.natAbs < 2 ^ 53) : flt (q20 m) (q20 n) = decide (m < n) := by
  unfold flt
  rw [cmp_q20 hm hn]
  rcases Int.lt_trichotomy m n with h | h | h
  · rw [Int.compare_eq_lt.mpr h, decide_eq_true h]; rfl
  · subst h; simp
  · rw [Int.compare_eq_gt.mpr h, decide_eq_false (by omega)]; rfl
theorem fgt_q20 {m n : Int} (hm : m.natAbs < 2 ^ 53) (hn : n.natAbs < 2 ^ 53) : fgt (q20 m) (q20 n) = decide (n < m) := by
  unfold fgt
  rw [cmp_q20 hm hn]
  rcases Int.lt_trichotomy m n with h | h | h
  · rw [Int.compare_eq_lt.mpr h, decide_eq_false (by omega)]; rfl
  · subst h; simp
  · rw [Int.compare_eq_gt.mpr h, decide_eq_true h]; rfl
theorem isZero_q20 {n : Int} (hn : n.natAbs < 2 ^ 53) (h : n ≠ 0) : Float64.isZero (q20 n) = false := by
  obtain ⟨m, e, d, v⟩ := q20_dec hn
  unfold Float64.isZero
  rw [d]
  cases m with
  | succ m => rfl
  | zero =>
    have := Float64.val_eq d
    rw [v, Nat.zero_mul] at this
    have h3 : n * 2 ^ 1054 = 0 := by rw [this]; unfold Float64.sgn; split <;> simp
    exact absurd (Int.mul_eq_zero.mp h3) (by intro q; rcases q with q | q; exact h q; exact absurd q (Int.ne_of_gt pp_pos))
noncomputable def mx3 (a b c : Int) : Int := if a < b then (if b < c then c else b) else (if a < c then c else a)
noncomputable def mn3 (a b c : Int) : Int := if b < a then (if c < b then c else b) else (if c < a then c else a)
theorem fmax3_q20 {a b c : Int} (ha : a.natAbs < 2 ^ 53) (hb : b.natAbs < 2 ^ 53) (hc : c.natAbs < 2 ^ 53) : fmax3 (q20 a) (q20 b) (q20 c) = q20 (mx3 a b c) := by
  unfold fmax3 mx3
  rw [fgt_q20 hb ha, fgt_q20 hc hb, fgt_q20 hc ha]
  by_cases h1 : a < b <;> by_cases h2 : b < c <;> by_cases h3 : a < c <;> simp [h1, h2, h3]
theorem fmin3_q20 {a b c : Int} (ha : a.natAbs < 2 ^ 53) (hb : b.natAbs < 2 ^ 53) (hc : c.natAbs < 2 ^ 53) : fmin3 (q20 a) (q20 b) (q20 c) = q20 (mn3 a b c) := by
  unfold fmin3 mn3
  rw [flt_q20 hb ha, flt_q20 hc hb, flt_q20 hc ha]
  by_cases h1 : b < a <;> by_cases h2 : c < b <;> by_cases h3 : c < a <;> simp [h1, h2, h3]
theorem q20_vr {n : Int} (h : n.natAbs < 2 ^ 53) : vr (q20 n) = (n : Rat) / 1048576 := by
  have e : val (q20 n) * 1048576 = n * (KK : Nat) := by
    rw [q20_val h, Int.mul_assoc]
    rfl
  have := KK_pos
  have e2 : (val (q20 n) : Rat) * 1048576 = n * (KK : Rat) := by
    have := congrArg (fun z : Int => (z : Rat)) e
    simpa only [Rat.intCast_mul, Rat.intCast_natCast, Rat.intCast_ofNat] using this
  unfold vr
  grind
end Wu
end
section
set_option exponentiation.threshold 3000
namespace Wu
open PySem PySem.Spec PySem.Calls PyProof.Rows PySem.W
open PySem.Float64 (val V dist decode Right infMag)
theorem Ap.wide {x : UInt64} {q q' e d : Rat} (h : Ap x q e) (h1 : q ≤ q' + d) (h2 : q' ≤ q + d) : Ap x q' (e + d) := by
  obtain ⟨f, a, b⟩ := h
  exact ⟨f, by grind, by grind⟩
theorem Ap.mono {x : UInt64} {q e e' : Rat} (h : Ap x q e) (h1 : e ≤ e') : Ap x q e' := by
  obtain ⟨f, a, b⟩ := h
  exact ⟨f, by grind, by grind⟩
theorem Ap.exact {x : UInt64} {q : Rat} (f : Fi x) (h : vr x = q) : Ap x q 0 := ⟨f, by grind, by grind⟩
theorem q_mul_abs {a b A B : Rat} (h1 : a ≤ A) (h2 : -A ≤ a) (h3 : b ≤ B) (h4 : -B ≤ b) : a * b ≤ A * B ∧ -(A * B) ≤ a * b := by
  have u1 := Rat.mul_nonneg (a := A - a) (b := B + b) (by grind) (by grind)
  have u2 := Rat.mul_nonneg (a := A + a) (b := B - b) (by grind) (by grind)
  have u3 := Rat.mul_nonneg (a := A - a) (b := B - b) (by grind) (by grind)
  have u4 := Rat.mul_nonneg (a := A + a) (b := B + b) (by grind) (by grind)
  constructor <;> grind
theorem natAbs_le_rat {s : Int} {N : Nat} (h1 : (s : Rat) ≤ (N : Rat)) (h2 : -(N : Rat) ≤ (s : Rat)) : s.natAbs ≤ N := by
  have a1 : s ≤ (N : Int) := Rat.intCast_le_intCast.mp (by simpa only [Rat.intCast_natCast] using h1)
  have a2 : -(N : Int) ≤ s := Rat.intCast_le_intCast.mp (by simpa only [Rat.intCast_natCast, Rat.intCast_neg] using h2)
  omega
noncomputable def BB : Nat := 2 ^ 100
theorem BB_KK : BB * KK < 2 ^ 2000 := by unfold BB KK; rw [← Nat.pow_add]; exact Nat.pow_lt_pow_right (by decide) (by decide)
theorem BB_val : (BB : Rat) = 1267650600228229401496703205376 := by
  have : BB = 1267650600228229401496703205376 := by decide
  rw [this]; rfl
theorem KBK : BB * KK * KK < 2 ^ 1074 * 2 ^ 2000 := by
  have := Nat.mul_lt_mul_of_pos_right BB_KK (show 0 < KK from Nat.two_pow_pos _)
  rw [Nat.mul_comm (2 ^ 2000)] at this
  exact this
theorem Ap.add {x y : UInt64} {p q d e M : Rat} (hx : Ap x p d) (hy : Ap y q e) (h1 : p + q + (d + e) ≤ M) (h2 : -M ≤ p + q - (d + e)) (hM : M ≤ 1267650600228229401496703205376) : Ap (Float64.add x y) (p + q) (d + e + (M + 1) * ep) := by
  obtain ⟨fx, ax, bx⟩ := hx
  obtain ⟨fy, ay, by'⟩ := hy
  have hK := KK_pos
  have hs : ((val x + val y : Int) : Rat) = (vr x + vr y) * (((1 : Nat) : Rat) * KK) := by
    rw [Rat.intCast_add, val_vr, val_vr]
    have : ((1 : Nat) : Rat) = 1 := rfl
    rw [this]; grind
  have c1 : vr x + vr y ≤ M := by grind
  have c2 : -M ≤ vr x + vr y := by grind
  have sz : (val x + val y).natAbs < 2 ^ 2000 := by
    refine Nat.lt_of_le_of_lt (natAbs_le_rat (N := BB * KK) ?_ ?_) BB_KK
    · rw [hs, Rat.natCast_mul, BB_val]
      have := Rat.mul_le_mul_of_nonneg_right (c := (KK : Rat)) (show vr x + vr y ≤ 1267650600228229401496703205376 by grind) (Rat.le_of_lt hK)
      have e1 : ((1 : Nat) : Rat) = 1 := rfl
      rw [e1]; grind
    · rw [hs, Rat.natCast_mul, BB_val]
      have := Rat.mul_le_mul_of_nonneg_right (c := (KK : Rat)) (show -1267650600228229401496703205376 ≤ vr x + vr y by grind) (Rat.le_of_lt hK)
      have e1 : ((1 : Nat) : Rat) = 1 := rfl
      rw [e1]; grind
  have r := ap_of_near (add_near fx fy sz) (by decide) hs c1 c2
  obtain ⟨fr, ar, br⟩ := r
  exact ⟨fr, by grind, by grind⟩
theorem Ap.sub {x y : UInt64} {p q d e M : Rat} (hx : Ap x p d) (hy : Ap y q e) (h1 : p - q + (d + e) ≤ M) (h2 : -M ≤ p - q - (d + e)) (hM : M ≤ 1267650600228229401496703205376) : Ap (Float64.sub x y) (p - q) (d + e + (M + 1) * ep) := by
  obtain ⟨fx, ax, bx⟩ := hx
  obtain ⟨fy, ay, by'⟩ := hy
  have hK := KK_pos
  have hs : ((val x - val y : Int) : Rat) = (vr x - vr y) * (((1 : Nat) : Rat) * KK) := by
    rw [Rat.intCast_sub, val_vr, val_vr]
    have : ((1 : Nat) : Rat) = 1 := rfl
    rw [this]; grind
  have c1 : vr x - vr y ≤ M := by grind
  have c2 : -M ≤ vr x - vr y := by grind
  have sz : (val x - val y).natAbs < 2 ^ 2000 := by
    refine Nat.lt_of_le_of_lt (natAbs_le_rat (N := BB * KK) ?_ ?_) BB_KK
    · rw [hs, Rat.natCast_mul, BB_val]
      have := Rat.mul_le_mul_of_nonneg_right (c := (KK : Rat)) (show vr x - vr y ≤ 1267650600228229401496703205376 by grind) (Rat.le_of_lt hK)
      have e1 : ((1 : Nat) : Rat) = 1 := rfl
      rw [e1]; grind
    · rw [hs, Rat.natCast_mul, BB_val]
      have := Rat.mul_le_mul_of_nonneg_right (c := (KK : Rat)) (show -1267650600228229401496703205376 ≤ vr x - vr y by grind) (Rat.le_of_lt hK)
      have e1 : ((1 : Nat) : Rat) = 1 := rfl
      rw [e1]; grind
  have r := ap_of_near (sub_near fx fy sz) (by decide) hs c1 c2
  obtain ⟨fr, ar, br⟩ := r
  exact ⟨fr, by grind, by grind⟩
theorem KK_2 : ((2 ^ 1074 : Nat) : Rat) = (KK : Rat) := rfl
theorem Ap.mul {x y : UInt64} {p q d e P Q M : Rat} (hx : Ap x p d) (hy : Ap y q e) (hp1 : p ≤ P) (hp2 : -P ≤ p) (hq1 : q ≤ Q) (hq2 : -Q ≤ q) (hm : (P + d) * (Q + e) ≤ M) (hM : M ≤ 1267650600228229401496703205376) : Ap (Float64.mul x y) (p * q) (P * e + Q * d + d * e + (M + 1) * ep) := by
  obtain ⟨fx, ax, bx⟩ := hx
  obtain ⟨fy, ay, by'⟩ := hy
  have hK := KK_pos
  have hKK : (0 : Rat) < (KK : Rat) * KK := Rat.mul_pos hK hK
  have hs : ((val x * val y : Int) : Rat) = (vr x * vr y) * (((2 ^ 1074 : Nat) : Rat) * KK) := by
    rw [Rat.intCast_mul, val_vr, val_vr, KK_2]; grind
  have cc := q_mul_abs (a := vr x) (b := vr y) (A := P + d) (B := Q + e) (by grind) (by grind) (by grind) (by grind)
  have c1 : vr x * vr y ≤ M := by grind
  have c2 : -M ≤ vr x * vr y := by grind
  have sz : (val x * val y).natAbs < 2 ^ 1074 * 2 ^ 2000 := by
    refine Nat.lt_of_le_of_lt (natAbs_le_rat (N := BB * KK * KK) ?_ ?_) KBK
    · rw [hs, Rat.natCast_mul, Rat.natCast_mul, BB_val, KK_2]
      have := Rat.mul_le_mul_of_nonneg_right (c := (KK : Rat) * KK) (show vr x * vr y ≤ 1267650600228229401496703205376 by grind) (Rat.le_of_lt hKK)
      grind
    · rw [hs, Rat.natCast_mul, Rat.natCast_mul, BB_val, KK_2]
      have := Rat.mul_le_mul_of_nonneg_right (c := (KK : Rat) * KK) (show -1267650600228229401496703205376 ≤ vr x * vr y by grind) (Rat.le_of_lt hKK)
      grind
  have r := ap_of_near (mul_near fx fy sz) (Nat.two_pow_pos _) hs c1 c2
  obtain ⟨fr, ar, br⟩ := r
  have w1 := q_mul_abs (a := vr x - p) (b := vr y - q) (A := d) (B := e) (by grind) (by grind) (by grind) (by grind)
  have w2 := q_mul_abs (a := p) (b := vr y - q) (A := P) (B := e) (by grind) (by grind) (by grind) (by grind)
  have w3 := q_mul_abs (a := q) (b := vr x - p) (A := Q) (B := d) (by grind) (by grind) (by grind) (by grind)
  have w4 : vr x * vr y = p * q + (vr x - p) * (vr y - q) + p * (vr y - q) + q * (vr x - p) := by grind
  exact ⟨fr, by grind, by grind⟩
end Wu
end
section
set_option exponentiation.threshold 3000
namespace Wu
open PySem PySem.Spec PySem.Calls PyProof.Rows PySem.W
open PySem.Float64 (val V dist decode Right infMag)
theorem KB2 : BB * KK < 2 ^ 2000 := BB_KK
theorem Ap.div {x y : UInt64} {p q r d δ M : Rat} (hx : Ap x p d) (fy : Fi y) (hy : vr y = q) (hq : 0 < q) (hr : r * q = p) (hd : d ≤ δ * q) (h1 : r + δ ≤ M) (h2 : -M ≤ r - δ) (hM : M ≤ 1267650600228229401496703205376) : Ap (Float64.div x y) r (δ + (M + 1) * ep) := by
  obtain ⟨fx, ax, bx⟩ := hx
  have hK := KK_pos
  have hvy : (0 : Rat) < (val y : Rat) := by rw [val_vr, hy]; exact Rat.mul_pos hq hK
  have hvi : 0 < val y := Rat.intCast_lt_intCast.mp (by simpa using hvy)
  have hna : (((val y).natAbs : Nat) : Rat) = (val y : Rat) := by
    have : (((val y).natAbs : Nat) : Int) = val y := by omega
    have := congrArg (fun z : Int => (z : Rat)) this
    simpa only [Rat.intCast_natCast] using this
  -- the quotient
  have hqq : vr x / q * q = vr x := by grind
  have b1 : vr x ≤ (r + δ) * q := by grind
  have b2 : (r - δ) * q ≤ vr x := by grind
  have t1 : vr x / q ≤ r + δ := q_le_of_mul hq (by rw [hqq]; exact b1)
  have t2 : r - δ ≤ vr x / q := q_le_of_mul hq (by rw [hqq]; exact b2)
  have hs : ((val x * ((2 ^ 1074 : Nat) : Int) : Int) : Rat) = (vr x / q) * (((val y).natAbs : Rat) * KK) := by
    rw [Rat.intCast_mul, Rat.intCast_natCast, KK_2, hna, val_vr, val_vr y, hy]
    have : vr x / q * (q * (KK : Rat) * KK) = (vr x / q * q) * (KK * KK) := by grind
    rw [this, hqq]; grind
  have sz : (val x).natAbs * 2 ^ 1074 < (val y).natAbs * 2 ^ 2000 := by
    have s1 : (val x).natAbs ≤ BB * (val y).natAbs := by
      refine natAbs_le_rat ?_ ?_
      · rw [Rat.natCast_mul, BB_val, hna, val_vr, val_vr y, hy]
        have u1 := Rat.mul_le_mul_of_nonneg_right (c := q) (show vr x / q ≤ 1267650600228229401496703205376 by grind) (Rat.le_of_lt hq)
        rw [hqq] at u1
        have := Rat.mul_le_mul_of_nonneg_right u1 (Rat.le_of_lt hK)
        grind
      · rw [Rat.natCast_mul, BB_val, hna, val_vr y, val_vr, hy]
        have u1 := Rat.mul_le_mul_of_nonneg_right (c := q) (show -1267650600228229401496703205376 ≤ vr x / q by grind) (Rat.le_of_lt hq)
        rw [hqq] at u1
        have := Rat.mul_le_mul_of_nonneg_right u1 (Rat.le_of_lt hK)
        grind
    have hn : 0 < (val y).natAbs := by omega
    have s2 : (val x).natAbs * 2 ^ 1074 ≤ (val y).natAbs * (BB * KK) := by
      have := Nat.mul_le_mul_right (2 ^ 1074) s1
      have e : BB * (val y).natAbs * 2 ^ 1074 = (val y).natAbs * (BB * KK) := by show _ = (val y).natAbs * (BB * 2 ^ 1074); ac_rfl
      rw [e] at this
      exact this
    exact Nat.lt_of_le_of_lt s2 (Nat.mul_lt_mul_of_pos_left KB2 hn)
  have rr := ap_of_near (q := vr x / q) (M := M) (div_near fx fy hvi sz) (by omega) hs (by grind) (by grind)
  obtain ⟨fr, ar, br⟩ := rr
  exact ⟨fr, by grind, by grind⟩
/-- a float's word as a rational: for constants -/
theorem fi_of {x : UInt64} (h : Float64.isFinite x = true) : Fi x := by
  unfold Float64.isFinite at h
  cases e : decode x with
  | fin a m e' => exact ⟨a, m, e', e⟩
  | inf s => rw [e] at h; cases h
  | nan => rw [e] at h; cases h
theorem vr_const {x : UInt64} {n d : Nat} (hd : 0 < d) (h : val x * d = n * (KK : Nat)) : vr x = (n : Rat) / (d : Rat) := by
  have hK := KK_pos
  have hd' : (0 : Rat) < (d : Rat) := by exact_mod_cast hd
  have e2 : (val x : Rat) * d = n * (KK : Rat) := by
    have := congrArg (fun z : Int => (z : Rat)) h
    simpa only [Rat.intCast_mul, Rat.intCast_natCast] using this
  unfold vr
  grind
theorem vr_z0 : Fi z0 ∧ vr z0 = 0 := ⟨fi_of (by decide +kernel), by have := vr_const (x := z0) (n := 0) (d := 1) (by decide) (by decide +kernel); grind⟩
theorem vr_z05 : Fi z05 ∧ vr z05 = 1 / 2 := ⟨fi_of (by decide +kernel), by have := vr_const (x := z05) (n := 1) (d := 2) (by decide) (by decide +kernel); grind⟩
theorem vr_z1 : Fi z1 ∧ vr z1 = 1 := ⟨fi_of (by decide +kernel), by have := vr_const (x := z1) (n := 1) (d := 1) (by decide) (by decide +kernel); grind⟩
theorem vr_z2 : Fi z2 ∧ vr z2 = 2 := ⟨fi_of (by decide +kernel), by have := vr_const (x := z2) (n := 2) (d := 1) (by decide) (by decide +kernel); grind⟩
theorem vr_z4 : Fi z4 ∧ vr z4 = 4 := ⟨fi_of (by decide +kernel), by have := vr_const (x := z4) (n := 4) (d := 1) (by decide) (by decide +kernel); grind⟩
theorem vr_z6 : Fi z6 ∧ vr z6 = 6 := ⟨fi_of (by decide +kernel), by have := vr_const (x := z6) (n := 6) (d := 1) (by decide) (by decide +kernel); grind⟩
theorem ap_t13 : Ap t13 (1 / 3) ep := by
  have := vr_const (x := t13) (n := 6004799503160661) (d := 18014398509481984) (by decide) (by decide +kernel)
  refine ⟨fi_of (by decide +kernel), ?_, ?_⟩ <;> unfold ep <;> grind
theorem ap_t16 : Ap t16 (1 / 6) ep := by
  have := vr_const (x := t16) (n := 6004799503160661) (d := 36028797018963968) (by decide) (by decide +kernel)
  refine ⟨fi_of (by decide +kernel), ?_, ?_⟩ <;> unfold ep <;> grind
theorem ap_t23 : Ap t23 (2 / 3) ep := by
  have := vr_const (x := t23) (n := 6004799503160661) (d := 9007199254740992) (by decide) (by decide +kernel)
  refine ⟨fi_of (by decide +kernel), ?_, ?_⟩ <;> unfold ep <;> grind
/-- comparisons of finite floats by their values -/
theorem cmp_val {x y : UInt64} (hx : Fi x) (hy : Fi y) : Float64.cmp x y = some (compare (val x) (val y)) := by
  obtain ⟨a, m, e, h1⟩ := hx
  obtain ⟨b, k, f, h2⟩ := hy
  exact Float64.cmp_right h1 h2
theorem vr_lt {x y : UInt64} : vr x < vr y ↔ val x < val y := by
  have hK := KK_pos
  rw [← Rat.intCast_lt_intCast, val_vr, val_vr]
  constructor
  · intro h; exact Rat.mul_lt_mul_of_pos_right h hK
  · intro h
    refine Rat.not_le.mp fun q => ?_
    have := Rat.mul_le_mul_of_nonneg_right q (Rat.le_of_lt hK)
    grind
theorem flt_true {x y : UInt64} (hx : Fi x) (hy : Fi y) (h : flt x y = true) : vr x < vr y := by
  unfold flt at h
  rw [cmp_val hx hy] at h
  rw [vr_lt]
  have := of_decide_eq_true (p := val x < val y)
  rcases Int.lt_trichotomy (val x) (val y) with q | q | q
  · exact q
  · rw [q, Int.compare_eq_eq.mpr rfl] at h; cases h
  · rw [Int.compare_eq_gt.mpr q] at h; cases h
theorem flt_false {x y : UInt64} (hx : Fi x) (hy : Fi y) (h : flt x y = false) : vr y ≤ vr x := by
  refine Rat.not_lt.mp fun q => ?_
  unfold flt at h
  rw [cmp_val hx hy, Int.compare_eq_lt.mpr (vr_lt.mp q)] at h
  cases h
theorem feq_self {x : UInt64} (hx : Fi x) : feq x x = true := by
  unfold feq
  rw [cmp_val hx hx, Int.compare_eq_eq.mpr rfl]
  rfl
theorem feq_false {x y : UInt64} (hx : Fi x) (hy : Fi y) (h : vr x ≠ vr y) : feq x y = false := by
  unfold feq
  rw [cmp_val hx hy]
  have : val x ≠ val y := fun q => h (by unfold vr; rw [q])
  rcases Int.lt_trichotomy (val x) (val y) with q | q | q
  · rw [Int.compare_eq_lt.mpr q]; rfl
  · exact absurd q this
  · rw [Int.compare_eq_gt.mpr q]; rfl
theorem fle_true {x y : UInt64} (hx : Fi x) (hy : Fi y) (h : vr x < vr y) : fle x y = true := by
  unfold fle
  rw [cmp_val hx hy, Int.compare_eq_lt.mpr (vr_lt.mp h)]
  rfl
theorem fle_false {x y : UInt64} (hx : Fi x) (hy : Fi y) (h : vr y < vr x) : fle x y = false := by
  unfold fle
  rw [cmp_val hx hy, Int.compare_eq_gt.mpr (vr_lt.mp h)]
  rfl
end Wu
end
section
set_option exponentiation.threshold 3000
namespace Wu
open PySem PySem.Spec PySem.Calls PyProof.Rows PySem.W
open PySem.Float64 (val V dist decode Right infMag)
theorem dec_lt {x : UInt64} {a : Bool} {m : Nat} {e : Int} (h : decode x = .fin a m e) : m < 2 ^ 53 := by
  unfold decode at h
  simp only at h
  split at h
  · split at h <;> cases h
  · split at h
    · cases h; omega
    · cases h; omega
theorem dec_z1 : decode z1 = .fin false 4503599627370496 (-52) := by kernel_rfl
theorem fmod_one {x : UInt64} {a : Bool} {m : Nat} {e : Int} (hx : decode x = .fin a m e) : Fi (Float64.fmod x z1) ∧ val (Float64.fmod x z1) = Float64.sgn a ((val x).natAbs % KK) := by
  have he := Float64.decode_ge hx
  have hm := dec_lt hx
  have hf : Float64.fmod x z1 = Float64.ofBin a ((m * 2 ^ (e - min e (-52)).toNat) % (4503599627370496 * 2 ^ (-52 - min e (-52)).toNat)) (min e (-52)) := by
    unfold Float64.fmod
    rw [hx, dec_z1]
    rfl
  have e1 : m * 2 ^ (e - min e (-52)).toNat * 2 ^ (min e (-52) + 1074).toNat = (val x).natAbs := by
    rw [Float64.val_natAbs hx, Nat.mul_assoc, ← Nat.pow_add]
    congr 2
    omega
  have e2 : 4503599627370496 * 2 ^ (-52 - min e (-52)).toNat * 2 ^ (min e (-52) + 1074).toNat = KK := by
    rw [Nat.mul_assoc, ← Nat.pow_add]
    have : (-52 - min e (-52)).toNat + (min e (-52) + 1074).toNat = 1022 := by omega
    rw [this]
    rfl
  have small : m * 2 ^ (e - min e (-52)).toNat % (4503599627370496 * 2 ^ (-52 - min e (-52)).toNat) < 2 ^ 53 := by
    by_cases q : e ≤ -52
    · have : (e - min e (-52)).toNat = 0 := by omega
      rw [this, Nat.pow_zero, Nat.mul_one]
      exact Nat.lt_of_le_of_lt (Nat.mod_le _ _) hm
    · have : (-52 - min e (-52)).toNat = 0 := by omega
      rw [this, Nat.pow_zero, Nat.mul_one]
      exact Nat.lt_trans (Nat.mod_lt _ (by decide)) (by decide)
  have lt : m * 2 ^ (e - min e (-52)).toNat % (4503599627370496 * 2 ^ (-52 - min e (-52)).toNat) < 4503599627370496 * 2 ^ (-52 - min e (-52)).toNat := Nat.mod_lt _ (Nat.mul_pos (by decide) (Nat.two_pow_pos _))
  have e3 : (m * 2 ^ (e - min e (-52)).toNat % (4503599627370496 * 2 ^ (-52 - min e (-52)).toNat)) * 2 ^ (min e (-52) + 1074).toNat = (val x).natAbs % KK := by
    rw [← Nat.mul_mod_mul_right, e1, e2]
  have lt2 := Nat.mul_lt_mul_of_pos_right lt (Nat.two_pow_pos (min e (-52) + 1074).toNat)
  rw [e2, e3] at lt2
  rw [hf]
  generalize m * 2 ^ (e - min e (-52)).toNat % (4503599627370496 * 2 ^ (-52 - min e (-52)).toNat) = r at *
  have R : Right (Float64.ofBin a r (min e (-52))) a ((val x).natAbs % KK) 1 := by
    unfold Float64.ofBin
    refine Float64.ofFrac_right (Float64.shift_pos _ _ _ (by decide)) ?_ (by decide)
    have := Float64.shift_one r (min e (-52)) 1074 (by omega)
    rw [Nat.mul_one, ← e3]
    exact this
  have hk : KK < 2 ^ 2000 := Nat.pow_lt_pow_right (by decide) (by decide)
  obtain ⟨m', e', h1, h2⟩ := right_exact (v := (val x).natAbs % KK) R (by decide) (by rw [Nat.one_mul]; exact Nat.lt_trans lt2 hk) (by rw [Nat.one_mul]) (by rw [← e3]; exact V_hits _ _ small)
  exact ⟨⟨_, _, _, h1⟩, h2⟩
theorem lt_sgn {x : UInt64} (hx : Fi x) : Float64.lt x (Float64.zero false) = decide (val x < 0) := by
  have hz : val (Float64.zero false) = 0 := by
    have := Float64.val_pack false (t := 0) (by decide)
    rw [Float64.V_zero] at this
    exact this
  unfold Float64.lt
  rw [cmp_val hx (zero_near false).fi, hz]
  rcases Int.lt_trichotomy (val x) 0 with q | q | q
  · rw [Int.compare_eq_lt.mpr q, decide_eq_true q]; rfl
  · rw [q]; rfl
  · rw [Int.compare_eq_gt.mpr q, decide_eq_false (by omega)]; rfl
theorem isZero_iff {x : UInt64} (hx : Fi x) : Float64.isZero x = decide (val x = 0) := by
  obtain ⟨a, m, e, h⟩ := hx
  have hv := Float64.val_natAbs h
  unfold Float64.isZero
  rw [h]
  cases m with
  | zero => rw [Nat.zero_mul] at hv; rw [decide_eq_true (by omega)]; rfl
  | succ m =>
    have : 0 < (m + 1) * 2 ^ (e + 1074).toNat := Nat.mul_pos (by omega) (Nat.two_pow_pos _)
    rw [decide_eq_false (by omega)]; rfl
theorem vr_lt0 {x : UInt64} : vr x < 0 ↔ val x < 0 := by
  have := vr_lt (x := x) (y := z0)
  rw [vr_z0.2] at this
  have h0 : val z0 = 0 := by decide +kernel
  rw [h0] at this
  exact this
theorem vr_eq0 {x : UInt64} : vr x = 0 ↔ val x = 0 := by
  constructor
  · intro h
    have e := val_vr x
    rw [h, Rat.zero_mul] at e
    exact_mod_cast e
  · intro h; unfold vr; rw [h]; have := KK_pos; show (0 : Rat) / KK = 0; grind
/-- the rest by 1.0 -/
theorem mod_one {x : UInt64} {q e : Rat} (hx : Ap x q e) (h1 : -1 < q - e) (h2 : q + e < 2) : ∃ k : Rat, (k = 0 ∨ k = 1 ∨ k = -1) ∧ Ap (Float64.divmod x z1).2 (q + k) (e + 4 * ep) ∧ 0 ≤ vr (Float64.divmod x z1).2 + 3 * ep ∧ vr (Float64.divmod x z1).2 ≤ 1 + 3 * ep := by
  obtain ⟨fx, ax, bx⟩ := hx
  have hep : 0 < ep := by unfold ep; grind
  obtain ⟨a, m, f, hd⟩ := fx
  obtain ⟨fm, vm⟩ := fmod_one hd
  have hK := KK_pos
  have hKn : 0 < KK := Nat.two_pow_pos _
  have hvx := val_sgn hd
  -- the size of x
  have lo : -(KK : Int) < val x := by
    have : -1 < vr x := by grind
    have := Rat.mul_lt_mul_of_pos_right this hK
    rw [← val_vr] at this
    have e : (-1 : Rat) * (KK : Rat) = ((-(KK : Int) : Int) : Rat) := by rw [Rat.intCast_neg, Rat.intCast_natCast]; grind
    rw [e] at this
    exact Rat.intCast_lt_intCast.mp this
  have hi : val x < 2 * (KK : Int) := by
    have : vr x < 2 := by grind
    have := Rat.mul_lt_mul_of_pos_right this hK
    rw [← val_vr] at this
    have e : (2 : Rat) * (KK : Rat) = ((2 * (KK : Int) : Int) : Rat) := by rw [Rat.intCast_mul, Rat.intCast_natCast]; rfl
    rw [e] at this
    exact Rat.intCast_lt_intCast.mp this
  -- the value of the rest
  have vals : val (Float64.fmod x z1) = val x ∧ val x < KK ∨ val (Float64.fmod x z1) = val x - KK ∧ (KK : Int) ≤ val x := by
    rw [vm]
    clear hd vm fm
    by_cases c : val x < KK
    · left
      rw [Nat.mod_eq_of_lt (by omega), ← hvx]
      exact ⟨rfl, c⟩
    · right
      have hneg : Float64.sgn a (val x).natAbs = ((val x).natAbs : Int) := by rw [← hvx]; omega
      have ha : a = false := by
        cases a with
        | false => rfl
        | true => unfold Float64.sgn at hneg; simp only [if_true] at hneg; omega
      subst ha
      rw [Nat.mod_eq_sub_mod (by omega), Nat.mod_eq_of_lt (by omega)]
      unfold Float64.sgn
      simp only [Bool.false_eq_true, if_false]
      omega
  have vrs : vr (Float64.fmod x z1) = vr x ∧ vr x < 1 ∨ vr (Float64.fmod x z1) = vr x - 1 ∧ 1 ≤ vr x := by
    have e1 : ((KK : Int) : Rat) = (KK : Rat) := Rat.intCast_natCast _
    rcases vals with ⟨u, v⟩ | ⟨u, v⟩
    · left
      refine ⟨by unfold vr; rw [u], ?_⟩
      refine Rat.not_le.mp fun c => ?_
      have c2 := Rat.mul_le_mul_of_nonneg_right c (Rat.le_of_lt hK)
      have c3 := Rat.intCast_lt_intCast.mpr v
      rw [e1, val_vr] at c3
      grind
    · right
      constructor
      · have := congrArg (fun z : Int => (z : Rat)) u
        simp only [Rat.intCast_sub, e1] at this
        rw [val_vr, val_vr] at this
        have : (vr (Float64.fmod x z1) - (vr x - 1)) * (KK : Rat) = 0 := by grind
        rcases Rat.mul_eq_zero.mp this with h | h
        · grind
        · grind
      · refine q_le_of_mul hK ?_
        have c3 := Rat.intCast_le_intCast.mpr v
        rw [e1, val_vr] at c3
        grind
  unfold Float64.divmod
  simp only
  by_cases z : val (Float64.fmod x z1) = 0
  · rw [isZero_iff fm, if_pos (decide_eq_true z)]
    have e0 : Float64.copysign (Float64.zero false) z1 = z0 := by decide +kernel
    simp only [e0]
    have hz := vr_eq0.mpr z
    rcases vrs with ⟨u, v⟩ | ⟨u, v⟩
    · exact ⟨0, .inl rfl, ⟨vr_z0.1, by rw [vr_z0.2]; grind, by rw [vr_z0.2]; grind⟩, by rw [vr_z0.2]; grind, by rw [vr_z0.2]; grind⟩
    · exact ⟨-1, .inr (.inr rfl), ⟨vr_z0.1, by rw [vr_z0.2]; grind, by rw [vr_z0.2]; grind⟩, by rw [vr_z0.2]; grind, by rw [vr_z0.2]; grind⟩
  · rw [isZero_iff fm, if_neg (by simpa using z), lt_sgn fm]
    have e1 : Float64.lt z1 (Float64.zero false) = false := by decide +kernel
    rw [e1]
    by_cases s : val (Float64.fmod x z1) < 0
    · rw [decide_eq_true s, if_pos (by decide)]
      simp only
      have sv := vr_lt0.mpr s
      rcases vrs with ⟨u, v⟩ | ⟨u, v⟩
      · have hA := Ap.add (M := 2) (Ap.exact fm u) (Ap.exact vr_z1.1 vr_z1.2) (by grind) (by grind) (by grind)
        obtain ⟨f1, g1, g2⟩ := hA
        refine ⟨1, .inr (.inl rfl), ⟨f1, by grind, by grind⟩, by grind, by grind⟩
      · grind
    · rw [decide_eq_false s, if_neg (by decide)]
      simp only
      have sv : ¬ vr (Float64.fmod x z1) < 0 := fun h => s (vr_lt0.mp h)
      rcases vrs with ⟨u, v⟩ | ⟨u, v⟩
      · exact ⟨0, .inl rfl, ⟨fm, by grind, by grind⟩, by grind, by grind⟩
      · exact ⟨-1, .inr (.inr rfl), ⟨fm, by grind, by grind⟩, by grind, by grind⟩
end Wu
end
section
set_option exponentiation.threshold 3000
namespace Wu
open PySem PySem.Spec PySem.Calls PyProof.Rows PySem.W
open PySem.Float64 (val V dist decode Right infMag)
theorem trunc_at {m : Nat} {f : Int} {n : Int} (hf : -1074 ≤ f) (h1 : n * (KK : Int) ≤ ((m * 2 ^ (f + 1074).toNat : Nat) : Int)) (h2 : ((m * 2 ^ (f + 1074).toNat : Nat) : Int) < (n + 1) * (KK : Int)) : Float64.truncOf false m f = n := by
  unfold Float64.truncOf Float64.floorOf
  simp only [Bool.false_eq_true, if_false]
  have hs : Float64.sgn false m = (m : Int) := by unfold Float64.sgn; simp
  rw [hs]
  split
  · rename_i h
    have e1 : (f + 1074).toNat = f.toNat + 1074 := by omega
    have hK : (0 : Int) < (KK : Int) := Int.ofNat_lt.mpr (Nat.two_pow_pos _)
    have e2 : ((m * 2 ^ (f + 1074).toNat : Nat) : Int) = ((m * 2 ^ f.toNat : Nat) : Int) * (KK : Int) := by
      rw [e1, Nat.pow_add, ← Nat.mul_assoc, Int.natCast_mul (m * 2 ^ f.toNat)]
      rfl
    rw [e2] at h1 h2
    have g1 := Int.le_of_mul_le_mul_right h1 hK
    have g2 := Int.lt_of_mul_lt_mul_right h2 (Int.le_of_lt hK)
    have e3 : (m : Int) * 2 ^ f.toNat = ((m * 2 ^ f.toNat : Nat) : Int) := by simp
    rw [e3]
    omega
  · rename_i h
    have e1 : (KK : Int) = ((2 ^ (-f).toNat : Nat) : Int) * ((2 ^ (f + 1074).toNat : Nat) : Int) := by
      rw [← Int.natCast_mul, ← Nat.pow_add]
      have : (-f).toNat + (f + 1074).toNat = 1074 := by omega
      rw [this]
      rfl
    have hp : (0 : Int) < ((2 ^ (f + 1074).toNat : Nat) : Int) := Int.ofNat_lt.mpr (Nat.two_pow_pos _)
    have hq : (0 : Int) < ((2 ^ (-f).toNat : Nat) : Int) := Int.ofNat_lt.mpr (Nat.two_pow_pos _)
    rw [e1, ← Int.mul_assoc, Int.natCast_mul] at h1 h2
    have g1 := Int.le_of_mul_le_mul_right h1 hp
    have g2 := Int.lt_of_mul_lt_mul_right h2 (Int.le_of_lt hp)
    have e3 : (2 : Int) ^ (-f).toNat = ((2 ^ (-f).toNat : Nat) : Int) := by simp
    rw [e3, Int.fdiv_eq_ediv_of_nonneg _ (Int.le_of_lt hq)]
    have a1 := Int.le_ediv_of_mul_le hq g1
    have a2 := Int.ediv_lt_of_lt_mul hq g2
    omega
theorem intAt_of {x : UInt64} {n : Int} {e : Rat} (hx : Ap x ((n : Rat) + 1 / 2) e) (hn : 0 ≤ n) (he : e < 1 / 2) : IntAt x n := by
  obtain ⟨⟨a, m, f, hd⟩, ax, bx⟩ := hx
  have hK := KK_pos
  have hnr : (0 : Rat) ≤ (n : Rat) := Rat.intCast_nonneg.mpr hn
  have g1 : (n : Rat) < vr x := by grind
  have g2 : vr x < (n : Rat) + 1 := by grind
  have k1 := Rat.mul_lt_mul_of_pos_right g1 hK
  have k2 := Rat.mul_lt_mul_of_pos_right g2 hK
  rw [← val_vr] at k1 k2
  have j1 : n * (KK : Int) < val x := Rat.intCast_lt_intCast.mp (by rw [Rat.intCast_mul, Rat.intCast_natCast]; exact k1)
  have j2 : val x < (n + 1) * (KK : Int) := Rat.intCast_lt_intCast.mp (by rw [Rat.intCast_mul, Rat.intCast_natCast, Rat.intCast_add]; exact k2)
  have hpos : 0 < val x := Int.lt_of_le_of_lt (Int.mul_nonneg hn (Int.ofNat_nonneg _)) j1
  have hv := Float64.val_eq hd
  have ha : a = false := by
    cases a with
    | false => rfl
    | true => rw [hv] at hpos; unfold Float64.sgn at hpos; simp only [if_true] at hpos; omega
  subst ha
  have hv2 : val x = ((m * 2 ^ (f + 1074).toNat : Nat) : Int) := by rw [hv]; unfold Float64.sgn; simp only [Bool.false_eq_true, if_false]
  rw [hv2] at j1 j2
  exact ⟨_, _, _, hd, trunc_at (Float64.decode_ge hd) (Int.le_of_lt j1) j2⟩
theorem ofInt_vr {i : Int} (h : i.natAbs < 2 ^ 53) : Fi (Float64.ofInt i) ∧ vr (Float64.ofInt i) = (i : Rat) := by
  have R := Float64.ofInt_right i
  have small : i.natAbs * 2 ^ 1074 < 2 ^ 2000 := Nat.lt_of_lt_of_le (Nat.mul_lt_mul_of_pos_right h (Nat.two_pow_pos _)) (Nat.le_of_ble_eq_true rfl)
  obtain ⟨m, e, h1, h2⟩ := right_exact (v := i.natAbs * 2 ^ 1074) R (by decide) (by rw [Nat.one_mul]; exact small) (by rw [Nat.one_mul]) (V_hits _ _ h)
  refine ⟨⟨_, _, _, h1⟩, ?_⟩
  have hK := KK_pos
  have hv : val (Float64.ofInt i) = i * (KK : Int) := by
    rw [h2, Float64.sgn_mul, ← sgn_self]
    rfl
  unfold vr
  rw [hv, Rat.intCast_mul, Rat.intCast_natCast]
  grind
end Wu
end
section
set_option exponentiation.threshold 3000
namespace Wu
open PySem PySem.Spec PySem.Calls PyProof.Rows PySem.W
open PySem.Float64 (val V dist decode Right infMag)
open Float64 in
/-- six times the hue, by what the three lack of the greatest -/
noncomputable def rawI (u v w S : Int) : UInt64 :=
  if u = 0 then sub (div (q20 w) (q20 S)) (div (q20 v) (q20 S))
  else if v = 0 then sub (add z2 (div (q20 u) (q20 S))) (div (q20 w) (q20 S))
  else sub (add z4 (div (q20 v) (q20 S))) (div (q20 u) (q20 S))
noncomputable def hueI (u v w S : Int) : UInt64 := (Float64.divmod (Float64.div (rawI u v w S) z6) z1).2
noncomputable def rawN (u v w S : Int) : Int := if u = 0 then w - v else if v = 0 then 2 * S + u - w else 4 * S + v - u
noncomputable def PP (u v w S : Int) : Int := if rawN u v w S < 0 then rawN u v w S + 6 * S else rawN u v w S
theorem fhue_q20 {a b c mx S : Int} (ha : 0 ≤ a) (hb : 0 ≤ b) (hc : 0 ≤ c) (ha2 : a ≤ mx) (hb2 : b ≤ mx) (hc2 : c ≤ mx) (hm : mx < 2 ^ 52) : fhue (q20 a) (q20 b) (q20 c) (q20 mx) (q20 S) = hueI (mx - a) (mx - b) (mx - c) S := by
  unfold fhue hueI rawHue rawI
  rw [sub_q20 ha ha2 hm, sub_q20 hb hb2 hm, sub_q20 hc hc2 hm, feq_q20 (by omega) (by omega), feq_q20 (by omega) (by omega)]
  by_cases h1 : a = mx
  · rw [if_pos (decide_eq_true h1), if_pos (by omega)]
  · rw [if_neg (by simpa using h1), if_neg (show ¬ mx - a = 0 by omega)]
    by_cases h2 : b = mx
    · rw [if_pos (decide_eq_true h2), if_pos (by omega)]
    · rw [if_neg (by simpa using h2), if_neg (show ¬ mx - b = 0 by omega)]
theorem ep_pos : 0 < ep := by unfold ep; grind
theorem ep_small : ep * 4503599627370496 = 1 := by unfold ep; grind
/-- a share of the spread -/
theorem share_ap {w S : Int} (h0 : 0 ≤ w) (h1 : w ≤ S) (hS : 0 < S) (hb : S < 2 ^ 30) : ∃ f : Rat, f * S = w ∧ 0 ≤ f ∧ f ≤ 1 ∧ Ap (Float64.div (q20 w) (q20 S)) f (2 * ep) := by
  have hSr : (0 : Rat) < (S : Rat) := Rat.intCast_pos.mpr hS
  have hw0 : (0 : Rat) ≤ (w : Rat) := Rat.intCast_nonneg.mpr h0
  have hw1 : (w : Rat) ≤ (S : Rat) := Rat.intCast_le_intCast.mpr h1
  have e1 : (w : Rat) / S * S = w := by grind
  have b0 : 0 ≤ (w : Rat) / S := q_le_of_mul hSr (by rw [e1]; grind)
  have b1 : (w : Rat) / S ≤ 1 := q_le_of_mul hSr (by rw [e1]; grind)
  refine ⟨(w : Rat) / S, e1, b0, b1, ?_⟩
  have hep := ep_pos
  have h := Ap.div (x := q20 w) (y := q20 S) (p := (w : Rat) / 1048576) (q := (S : Rat) / 1048576) (r := (w : Rat) / S) (d := 0) (δ := 0) (M := 1) (Ap.exact (q20_fi (by omega)) (q20_vr (by omega))) (q20_fi (by omega)) (q20_vr (by omega)) (by grind) (by grind) (by grind) (by grind) (by grind) (by grind)
  exact h.mono (by grind)
theorem sub_self0 {x : UInt64} (hx : Fi x) : Float64.sub x x = z0 := by
  obtain ⟨a, m, e, h⟩ := hx
  rw [(Float64.sub_right h h).1 (Int.sub_self _)]
  cases a <;> decide +kernel
theorem hue_ap {u v w S : Int} (hu : 0 ≤ u) (hv : 0 ≤ v) (hw : 0 ≤ w) (hu1 : u ≤ S) (hv1 : v ≤ S) (hw1 : w ≤ S) (hS : 0 < S) (hb : S ≤ 1250) (hz : u = 0 ∨ v = 0 ∨ w = 0) :
    0 ≤ PP u v w S ∧ PP u v w S < 6 * S ∧ ∃ h : Rat, h * (6 * S) = PP u v w S ∧ 0 ≤ h ∧ h ≤ 1 ∧ Ap (hueI u v w S) h (10 * ep) := by
  have hSr : (0 : Rat) < (S : Rat) := Rat.intCast_pos.mpr hS
  have hSb : (S : Rat) ≤ 1250 := by have := Rat.intCast_le_intCast.mpr hb; simpa using this
  have hep := ep_pos
  have heps := ep_small
  obtain ⟨fu, eu, u0, u1, au⟩ := share_ap hu hu1 hS (by omega)
  obtain ⟨fv, ev, v0, v1, av⟩ := share_ap hv hv1 hS (by omega)
  obtain ⟨fw, ew, w0, w1, aw⟩ := share_ap hw hw1 hS (by omega)
  have bounds : -S ≤ rawN u v w S ∧ rawN u v w S ≤ 5 * S := by unfold rawN; split <;> (try split) <;> omega
  have pb : 0 ≤ PP u v w S ∧ PP u v w S < 6 * S := by unfold PP; split <;> omega
  refine ⟨pb.1, pb.2, ?_⟩
  by_cases r0 : rawN u v w S = 0
  · -- nought
    have hw' : u = 0 ∧ w = v := by unfold rawN at r0; split at r0 <;> (try split at r0) <;> omega
    have e0 : rawI u v w S = z0 := by
      unfold rawI
      rw [if_pos hw'.1, hw'.2]
      exact sub_self0 av.fi
    have ep0 : PP u v w S = 0 := by unfold PP; rw [r0]; simp
    have eh : hueI u v w S = z0 := by unfold hueI; rw [e0]; decide +kernel
    refine ⟨0, by rw [ep0]; grind, by grind, by grind, ?_⟩
    rw [eh]
    exact (Ap.exact vr_z0.1 vr_z0.2).mono (by grind)
  · -- the raw hue
    have raw : ∃ g : Rat, g * S = rawN u v w S ∧ Ap (rawI u v w S) g (18 * ep) := by
      unfold rawN rawI
      by_cases c1 : u = 0
      · rw [if_pos c1, if_pos c1]
        refine ⟨fw - fv, by rw [Rat.intCast_sub]; grind, ?_⟩
        exact (Ap.sub (M := 2) aw av (by grind) (by grind) (by grind)).mono (by grind)
      · rw [if_neg c1, if_neg c1]
        by_cases c2 : v = 0
        · rw [if_pos c2, if_pos c2]
          refine ⟨2 + fu - fw, by rw [Rat.intCast_sub, Rat.intCast_add, Rat.intCast_mul]; grind, ?_⟩
          have a1 := Ap.add (M := 4) (Ap.exact vr_z2.1 vr_z2.2) au (by grind) (by grind) (by grind)
          exact (Ap.sub (M := 4) a1 aw (by grind) (by grind) (by grind)).mono (by grind)
        · rw [if_neg c2, if_neg c2]
          refine ⟨4 + fv - fu, by rw [Rat.intCast_sub, Rat.intCast_add, Rat.intCast_mul]; grind, ?_⟩
          have a1 := Ap.add (M := 6) (Ap.exact vr_z4.1 vr_z4.2) av (by grind) (by grind) (by grind)
          exact (Ap.sub (M := 6) a1 au (by grind) (by grind) (by grind)).mono (by grind)
    obtain ⟨g, eg, ag⟩ := raw
    unfold PP at pb ⊢
    generalize rawN u v w S = R at *
    have hR1 : (-(S : Rat)) ≤ (R : Rat) := by have := Rat.intCast_le_intCast.mpr bounds.1; simpa only [Rat.intCast_neg] using this
    have hR2 : (R : Rat) ≤ 5 * (S : Rat) := by have := Rat.intCast_le_intCast.mpr bounds.2; simpa only [Rat.intCast_mul, Rat.intCast_ofNat] using this
    have g1 : -1 ≤ g := q_le_of_mul hSr (by grind)
    have g2 : g ≤ 5 := q_le_of_mul hSr (by grind)
    have a6 := Ap.div (r := g / 6) (δ := 3 * ep) (M := 2) ag vr_z6.1 vr_z6.2 (by grind) (by grind) (by grind) (by grind) (by grind) (by grind)
    obtain ⟨k, hk, ak, y0, y1⟩ := mod_one a6 (by grind) (by grind)
    have ak' : Ap (hueI u v w S) (g / 6 + k) (10 * ep) := ak.mono (by grind)
    have y0' : 0 ≤ vr (hueI u v w S) + 3 * ep := y0
    have y1' : vr (hueI u v w S) ≤ 1 + 3 * ep := y1
    obtain ⟨f1, l1, l2⟩ := ak'
    by_cases c : R < 0
    · rw [if_pos c] at pb ⊢
      have hRn : (R : Rat) ≤ -1 := by have := Rat.intCast_le_intCast.mpr (show R ≤ -1 by omega); simpa using this
      have gn : g ≤ -1 / 1250 := by
        have := q_le_of_mul (a := g) (b := -1 / S) hSr (by grind)
        have h2 : -1 / (S : Rat) ≤ -1 / 1250 := q_le_of_mul hSr (by grind)
        grind
      have hk1 : k = 1 := by
        rcases hk with rfl | rfl | rfl
        · grind
        · rfl
        · grind
      subst hk1
      refine ⟨g / 6 + 1, by rw [Rat.intCast_add, Rat.intCast_mul]; grind, by grind, by grind, ⟨f1, l1, l2⟩⟩
    · rw [if_neg c] at pb ⊢
      have hRn : 1 ≤ (R : Rat) := by have := Rat.intCast_le_intCast.mpr (show 1 ≤ R by omega); simpa using this
      have gn : 1 / 1250 ≤ g := by
        have := q_le_of_mul (a := 1 / S) (b := g) hSr (by grind)
        have h2 : 1 / 1250 ≤ 1 / (S : Rat) := q_le_of_mul hSr (by grind)
        grind
      have hk1 : k = 0 := by
        rcases hk with rfl | rfl | rfl
        · rfl
        · grind
        · grind
      subst hk1
      refine ⟨g / 6 + 0, by grind, by grind, by grind, ⟨f1, l1, l2⟩⟩
end Wu
end
section
set_option exponentiation.threshold 3000
namespace Wu
open PySem PySem.Spec PySem.Calls PyProof.Rows PySem.W
open PySem.Float64 (val V dist decode Right infMag)
/-- the wave: 0 up to S, flat, down to 0 -/
noncomputable def wv (S Z : Int) : Int := if Z ≤ S then Z else if Z ≤ 3 * S then S else if Z ≤ 4 * S then 4 * S - Z else 0
theorem fmod_of {a b P k : Int} (h0 : 0 ≤ P) (h1 : P < b) (e : a = P + b * k) : a.fmod b = P := by
  rw [e, Int.fmod_eq_emod_of_nonneg _ (by omega), Int.add_mul_emod_self_left]
  exact Int.emod_eq_of_lt h0 h1
theorem raw_bd {u v w S : Int} (hu : 0 ≤ u) (hv : 0 ≤ v) (hw : 0 ≤ w) (hu1 : u ≤ S) (hv1 : v ≤ S) (hw1 : w ≤ S) : -S ≤ rawN u v w S ∧ rawN u v w S ≤ 5 * S := by
  unfold rawN; split <;> (try split) <;> omega
/-- a number that stands whole turns off -/
theorem fm_turn {P a X S j j' : Int} (h0 : 0 ≤ P) (h1 : P < 6 * S) (e : P = X + 6 * (S * j)) (e' : a = X + 6 * (S * j')) : a.fmod (6 * S) = P := by
  refine fmod_of (k := j' - j) h0 h1 ?_
  rw [e, e', Int.mul_sub, Int.mul_assoc, Int.mul_assoc]
  omega
theorem PP_bd {u v w S : Int} (hu : 0 ≤ u) (hv : 0 ≤ v) (hw : 0 ≤ w) (hu1 : u ≤ S) (hv1 : v ≤ S) (hw1 : w ≤ S) (hS : 0 < S) : 0 ≤ PP u v w S ∧ PP u v w S < 6 * S := by
  have b := raw_bd hu hv hw hu1 hv1 hw1
  unfold PP
  split <;> omega
theorem pq_neg {u v w S R : Int} (h : rawN u v w S = R) (hR : R < 0) : PP u v w S = R + 6 * S := by unfold PP; rw [h, if_pos hR]
theorem pq_pos {u v w S R : Int} (h : rawN u v w S = R) (hR : ¬ R < 0) : PP u v w S = R := by unfold PP; rw [h, if_neg hR]
theorem rw1 {v w S : Int} : rawN 0 v w S = w - v := by unfold rawN; rw [if_pos rfl]
theorem rw2 {u w S : Int} (h : u ≠ 0) : rawN u 0 w S = 2 * S + u - w := by unfold rawN; rw [if_neg h, if_pos rfl]
theorem rw3 {u v w S : Int} (h : u ≠ 0) (h2 : v ≠ 0) : rawN u v w S = 4 * S + v - u := by unfold rawN; rw [if_neg h, if_neg h2]
theorem six1 {w S : Int} (h : w ≤ S) : ∃ j : Int, PP 0 S w S = w + 5 * S + 6 * (S * j) := by
  by_cases q : w = S
  · exact ⟨-1, by rw [pq_pos rw1 (by omega)]; omega⟩
  · exact ⟨0, by rw [pq_neg rw1 (by omega)]; omega⟩
theorem six2 {v S : Int} (h : v ≤ S) : ∃ j : Int, PP 0 v S S = S - v + 6 * (S * j) := ⟨0, by rw [pq_pos rw1 (by omega)]; omega⟩
theorem six3 {u S : Int} (h : 0 ≤ u) (hS : 0 < S) : ∃ j : Int, PP u 0 S S = S + u + 6 * (S * j) := by
  refine ⟨0, ?_⟩
  by_cases q : u = 0
  · subst q; rw [pq_pos rw1 (by omega)]; omega
  · rw [pq_pos (rw2 q) (by omega)]; omega
theorem six4 {w S : Int} (h : w ≤ S) (hS : 0 < S) : ∃ j : Int, PP S 0 w S = 3 * S - w + 6 * (S * j) := ⟨0, by rw [pq_pos (rw2 (by omega)) (by omega)]; omega⟩
theorem six5 {v S : Int} (h : 0 ≤ v) (hS : 0 < S) : ∃ j : Int, PP S v 0 S = 3 * S + v + 6 * (S * j) := by
  refine ⟨0, ?_⟩
  by_cases q : v = 0
  · subst q; rw [pq_pos (rw2 (by omega)) (by omega)]; omega
  · rw [pq_pos (rw3 (by omega) q) (by omega)]; omega
theorem six6 {u S : Int} (h : u ≤ S) (hS : 0 < S) : ∃ j : Int, PP u S 0 S = 5 * S - u + 6 * (S * j) := by
  refine ⟨0, ?_⟩
  by_cases q : u = 0
  · subst q; rw [pq_neg rw1 (by omega)]; omega
  · rw [pq_pos (rw3 q (by omega)) (by omega)]; omega
theorem arr_bd {t m A B C : Int} (cb : C ≤ B) (ba : B ≤ A) (k : Int) : C ≤ arr t m A B C k ∧ arr t m A B C k ≤ A := by
  unfold arr; split
  · omega
  · split <;> omega
theorem place_core {S H : Int} (h0 : 0 ≤ H) (h1 : H ≤ S) (pos : 0 < S) :
    (H.fmod (6 * S) = PP 0 (S - H) S S ∧ (-H).fmod (6 * S) = PP 0 S (S - H) S) ∧ ((2 * S - H).fmod (6 * S) = PP (S - H) 0 S S ∧ (2 * S + H).fmod (6 * S) = PP S 0 (S - H) S) ∧ ((4 * S + H).fmod (6 * S) = PP (S - H) S 0 S ∧ (4 * S - H).fmod (6 * S) = PP S (S - H) 0 S) := by
  have b := fun u v w a a' b b' c c' => @PP_bd u v w S a b c a' b' c' pos
  obtain ⟨j1, e1⟩ := @six1 (S - H) S (by omega)
  obtain ⟨j2, e2⟩ := @six2 (S - H) S (by omega)
  obtain ⟨j3, e3⟩ := @six3 (S - H) S (by omega) pos
  obtain ⟨j4, e4⟩ := @six4 (S - H) S (by omega) pos
  obtain ⟨j5, e5⟩ := @six5 (S - H) S (by omega) pos
  obtain ⟨j6, e6⟩ := @six6 (S - H) S (by omega) pos
  have z : (0 : Int) ≤ 0 := Int.le_refl 0
  have zs : (0 : Int) ≤ S := Int.le_of_lt pos
  have ss : S ≤ S := Int.le_refl S
  have h2 : 0 ≤ S - H := by omega
  have h3 : S - H ≤ S := by omega
  refine ⟨⟨?_, ?_⟩, ⟨?_, ?_⟩, ⟨?_, ?_⟩⟩
  · exact fm_turn (j' := 0) (b 0 (S - H) S z zs h2 h3 zs ss).1 (b 0 (S - H) S z zs h2 h3 zs ss).2 e2 (by omega)
  · exact fm_turn (j' := -1) (b 0 S (S - H) z zs zs ss h2 h3).1 (b 0 S (S - H) z zs zs ss h2 h3).2 e1 (by omega)
  · exact fm_turn (j' := 0) (b (S - H) 0 S h2 h3 z zs zs ss).1 (b (S - H) 0 S h2 h3 z zs zs ss).2 e3 (by omega)
  · exact fm_turn (j' := 0) (b S 0 (S - H) zs ss z zs h2 h3).1 (b S 0 (S - H) zs ss z zs h2 h3).2 e4 (by omega)
  · exact fm_turn (j' := 0) (b (S - H) S 0 h2 h3 zs ss z zs).1 (b (S - H) S 0 h2 h3 zs ss z zs).2 e6 (by omega)
  · exact fm_turn (j' := 0) (b S (S - H) 0 zs ss h2 h3 z zs).1 (b S (S - H) 0 zs ss h2 h3 z zs).2 e5 (by omega)
theorem place_PP {t m A B C S H : Int} (tm : (t = 1 ∨ t = 2 ∨ t = 3) ∧ (m = 1 ∨ m = 2 ∨ m = 3) ∧ t ≠ m) (cb : C ≤ B) (ba : B ≤ A) (hS : S = A - C) (hH : H = B - C) (pos : 0 < S) :
    (placeI t m S H).fmod (6 * S) = PP (A - arr t m A B C 1) (A - arr t m A B C 2) (A - arr t m A B C 3) S ∧
    (placeI t m S H + 3 * S).fmod (6 * S) = PP (arr t m A B C 1 - C) (arr t m A B C 2 - C) (arr t m A B C 3 - C) S := by
  obtain ⟨⟨p1, p2⟩, ⟨p3, p4⟩, ⟨p5, p6⟩⟩ := place_core (S := S) (H := H) (by omega) (by omega) pos
  obtain ⟨⟨q1, q2⟩, ⟨q3, q4⟩, ⟨q5, q6⟩⟩ := place_core (S := S) (H := S - H) (by omega) (by omega) pos
  have eA : A - B = S - H := by omega
  have eC : A - C = S := by omega
  have eB : B - C = H := by omega
  have eS : S - (S - H) = H := by omega
  rw [eS] at q1 q2 q3 q4 q5 q6
  have m6 : ∀ {a P : Int}, a.fmod (6 * S) = P → (a + 6 * S).fmod (6 * S) = P := fun {a P} h => by rw [Int.add_fmod_right]; exact h
  obtain ⟨t1, m1, ne⟩ := tm
  rcases t1 with rfl | rfl | rfl <;> rcases m1 with rfl | rfl | rfl <;> first | (exact absurd rfl ne) | skip
  all_goals
    clear ne
    unfold placeI arr
    simp only [show ((2 - 1 : Int).fmod 3 == 1) = true from rfl, show ((3 - 1 : Int).fmod 3 == 1) = false from rfl, show ((1 - 2 : Int).fmod 3 == 1) = false from rfl, show ((3 - 2 : Int).fmod 3 == 1) = true from rfl, show ((1 - 3 : Int).fmod 3 == 1) = true from rfl, show ((2 - 3 : Int).fmod 3 == 1) = false from rfl, if_true, Bool.false_eq_true, if_false]
    simp only [show ¬ ((1 : Int) = 2) by decide, show ¬ ((1 : Int) = 3) by decide, show ¬ ((2 : Int) = 1) by decide, show ¬ ((2 : Int) = 3) by decide, show ¬ ((3 : Int) = 1) by decide, show ¬ ((3 : Int) = 2) by decide, if_true, if_false, Int.sub_self, Int.mul_zero, Int.zero_mul, show (2 : Int) * (2 - 1) = 2 by decide, show (2 : Int) * (3 - 1) = 4 by decide, eA, eC, eB, Int.zero_add]
  · exact ⟨p1, (by rw [show H + 3 * S = 4 * S - (S - H) by omega]; exact q6)⟩
  · exact ⟨p2, (by rw [show -H + 3 * S = 2 * S + (S - H) by omega]; exact q4)⟩
  · exact ⟨(by rw [show 2 * S + -H = 2 * S - H by omega]; exact p3), (by rw [show 2 * S + -H + 3 * S = 4 * S + (S - H) by omega]; exact q5)⟩
  · exact ⟨p4, (by rw [show 2 * S + H + 3 * S = -(S - H) + 6 * S by omega]; exact m6 q2)⟩
  · exact ⟨p5, (by rw [show 4 * S + H + 3 * S = (2 * S - (S - H)) + 6 * S by omega]; exact m6 q3)⟩
  · exact ⟨(by rw [show 4 * S + -H = 4 * S - H by omega]; exact p6), (by rw [show 4 * S + -H + 3 * S = (S - H) + 6 * S by omega]; exact m6 q1)⟩
theorem wv_a {S Z : Int} (h : Z ≤ S) : wv S Z = Z := by unfold wv; rw [if_pos h]
theorem wv_b {S Z : Int} (h0 : S ≤ Z) (h : Z ≤ 3 * S) : wv S Z = S := by
  unfold wv
  by_cases c : Z ≤ S
  · rw [if_pos c]; omega
  · rw [if_neg c, if_pos h]
theorem wv_c {S Z : Int} (hS : 0 < S) (h0 : 3 * S ≤ Z) (h : Z ≤ 4 * S) : wv S Z = 4 * S - Z := by
  unfold wv
  rw [if_neg (by omega)]
  by_cases c : Z ≤ 3 * S
  · rw [if_pos c]; omega
  · rw [if_neg c, if_pos h]
theorem wv_d {S Z : Int} (hS : 0 < S) (h0 : 4 * S ≤ Z) : wv S Z = 0 := by
  unfold wv
  rw [if_neg (by omega), if_neg (by omega)]
  by_cases c : Z ≤ 4 * S
  · rw [if_pos c]; omega
  · rw [if_neg c]
theorem wv_mod {S Z Y j T : Int} (hS : 0 < S) (h0 : 0 ≤ Z) (h6 : Z ≤ 6 * S) (y0 : 0 ≤ Y) (y6 : Y ≤ 6 * S) (e : Z = Y + 6 * (S * j)) (h : wv S Y = T) : wv S Z = T := by
  have j1 : j ≤ 1 := by
    refine Int.not_lt.mp fun q => ?_
    have := Int.mul_le_mul_of_nonneg_left (show 2 ≤ j by omega) (Int.le_of_lt hS)
    omega
  have j2 : -1 ≤ j := by
    refine Int.not_lt.mp fun q => ?_
    have := Int.mul_le_mul_of_nonneg_left (show j ≤ -2 by omega) (Int.le_of_lt hS)
    omega
  have : j = -1 ∨ j = 0 ∨ j = 1 := by omega
  rcases this with rfl | rfl | rfl
  · have ez : Z = 0 := by omega
    have ey : Y = 6 * S := by omega
    rw [← h, ez, ey, wv_a (by omega), wv_d hS (by omega)]
  · have : Z = Y := by omega
    rw [this, h]
  · have ez : Y = 0 := by omega
    have ey : Z = 6 * S := by omega
    rw [← h, ez, ey, wv_d (Z := 6 * S) hS (by omega), wv_a (Z := 0) (by omega)]
/-- the six parts of the turn -/
theorem six {u v w S : Int} (hu : 0 ≤ u) (hv : 0 ≤ v) (hw : 0 ≤ w) (hu1 : u ≤ S) (hv1 : v ≤ S) (hw1 : w ≤ S) (hS : 0 < S) (hz : u = 0 ∨ v = 0 ∨ w = 0) (hx : u = S ∨ v = S ∨ w = S) :
    ∃ X j : Int, PP u v w S = X + 6 * (S * j) ∧ (u = 0 ∧ v = S ∧ X = w + 5 * S ∨ u = 0 ∧ w = S ∧ X = S - v ∨ v = 0 ∧ w = S ∧ X = S + u ∨ v = 0 ∧ u = S ∧ X = 3 * S - w ∨ w = 0 ∧ u = S ∧ X = 3 * S + v ∨ w = 0 ∧ v = S ∧ X = 5 * S - u) := by
  have ns : (0 : Int) ≠ S := Int.ne_of_lt hS
  rcases hz with rfl | rfl | rfl <;> rcases hx with x | x | x
  · exact absurd x ns
  · subst x; obtain ⟨j, e⟩ := six1 hw1; exact ⟨_, j, e, .inl ⟨rfl, rfl, rfl⟩⟩
  · subst x; obtain ⟨j, e⟩ := six2 hv1; exact ⟨_, j, e, .inr (.inl ⟨rfl, rfl, rfl⟩)⟩
  · subst x; obtain ⟨j, e⟩ := six4 hw1 hS; exact ⟨_, j, e, .inr (.inr (.inr (.inl ⟨rfl, rfl, rfl⟩)))⟩
  · exact absurd x ns
  · subst x; obtain ⟨j, e⟩ := six3 hu hS; exact ⟨_, j, e, .inr (.inr (.inl ⟨rfl, rfl, rfl⟩))⟩
  · subst x; obtain ⟨j, e⟩ := six5 hv hS; exact ⟨_, j, e, .inr (.inr (.inr (.inr (.inl ⟨rfl, rfl, rfl⟩))))⟩
  · subst x; obtain ⟨j, e⟩ := six6 hu1 hS; exact ⟨_, j, e, .inr (.inr (.inr (.inr (.inr ⟨rfl, rfl, rfl⟩))))⟩
  · exact absurd x ns
theorem wA {S Z Y i : Int} (hS : 0 < S) (h0 : 0 ≤ Z) (h6 : Z ≤ 6 * S) (y0 : 0 ≤ Y) (y1 : Y ≤ S) (e : Z = Y + 6 * (S * i)) : wv S Z = Y := wv_mod hS h0 h6 y0 (by omega) e (wv_a y1)
theorem wB {S Z Y i : Int} (hS : 0 < S) (h0 : 0 ≤ Z) (h6 : Z ≤ 6 * S) (y0 : 0 ≤ Y) (y1 : Y ≤ 2 * S) (e : Z = S + Y + 6 * (S * i)) : wv S Z = S := wv_mod hS h0 h6 (by omega) (by omega) e (wv_b (by omega) (by omega))
theorem wC {S Z Y i : Int} (hS : 0 < S) (h0 : 0 ≤ Z) (h6 : Z ≤ 6 * S) (y0 : 0 ≤ Y) (y1 : Y ≤ S) (e : Z = 3 * S + Y + 6 * (S * i)) : wv S Z = S - Y := by
  rw [wv_mod hS h0 h6 (by omega) (by omega) e (wv_c hS (by omega) (by omega))]; omega
theorem wD {S Z Y i : Int} (hS : 0 < S) (h0 : 0 ≤ Z) (h6 : Z ≤ 6 * S) (y0 : 0 ≤ Y) (y1 : Y ≤ 2 * S) (e : Z = 4 * S + Y + 6 * (S * i)) : wv S Z = 0 := wv_mod hS h0 h6 (by omega) (by omega) e (wv_d hS (by omega))
theorem sum2 {S x : Int} (h : x ≤ S) (hS : 0 < S) : S + x ≤ 2 * S := by omega
theorem le2 {S x : Int} (h : x ≤ S) (hS : 0 < S) : x ≤ 2 * S := by omega
theorem nn {S x : Int} (h : 0 ≤ x) (hS : 0 < S) : 0 ≤ S + x := by omega
theorem sub0 {S x : Int} (h : x ≤ S) : 0 ≤ S - x := by omega
theorem sub1 {S x : Int} (h : 0 ≤ x) : S - x ≤ S := by omega
theorem turn1 {S T i : Int} : T + 6 * (S * i) = T - 6 * S + 6 * (S * (i + 1)) := by rw [Int.mul_add]; omega
theorem turn2 {S T i : Int} : T + 6 * (S * i) = T + 6 * S + 6 * (S * (i - 1)) := by rw [Int.mul_sub]; omega
theorem wv_PP {u v w S : Int} (hu : 0 ≤ u) (hv : 0 ≤ v) (hw : 0 ≤ w) (hu1 : u ≤ S) (hv1 : v ≤ S) (hw1 : w ≤ S) (hS : 0 < S) (hz : u = 0 ∨ v = 0 ∨ w = 0) (hx : u = S ∨ v = S ∨ w = S) {Z : Int} (h0 : 0 ≤ Z) (h6 : Z ≤ 6 * S) :
    ((Z = PP u v w S + 2 * S ∨ Z = PP u v w S + 2 * S + 6 * S ∨ Z = PP u v w S + 2 * S - 6 * S) → wv S Z = S - u) ∧
    ((Z = PP u v w S ∨ Z = PP u v w S + 6 * S ∨ Z = PP u v w S - 6 * S) → wv S Z = S - v) ∧
    ((Z = PP u v w S - 2 * S ∨ Z = PP u v w S - 2 * S + 6 * S ∨ Z = PP u v w S - 2 * S - 6 * S) → wv S Z = S - w) := by
  obtain ⟨X, j, e, c⟩ := six hu hv hw hu1 hv1 hw1 hS hz hx
  clear hz hx
  generalize PP u v w S = P at *
  have key : ∀ d : Int, (Z = P + d ∨ Z = P + d + 6 * S ∨ Z = P + d - 6 * S) → ∃ i, Z = X + d + 6 * (S * i) := by
    intro d h
    clear c hu hv hw hu1 hv1 hw1 h0 h6 hS
    rcases h with h | h | h
    · exact ⟨j, by omega⟩
    · exact ⟨j + 1, by rw [Int.mul_add]; omega⟩
    · exact ⟨j - 1, by rw [Int.mul_sub]; omega⟩
  clear e
  have g : ∀ {T Y : Int}, T = Y → S - Y = S - T := fun h => by rw [h]
  have s0 : S - S = 0 := Int.sub_self S
  have s1 : S - 0 = S := Int.sub_zero S
  refine ⟨fun h => ?_, fun h => ?_, fun h => ?_⟩
  · obtain ⟨i, hi⟩ := key (2 * S) h
    clear key h
    rcases c with ⟨rfl, c2, rfl⟩ | ⟨rfl, c2, rfl⟩ | ⟨rfl, c2, rfl⟩ | ⟨rfl, c2, rfl⟩ | ⟨rfl, c2, rfl⟩ | ⟨rfl, c2, rfl⟩
    · rw [s1]; exact wB (Y := w) (i := i + 1) hS h0 h6 hw (le2 hw1 hS) (by rw [hi, turn1]; omega)
    · rw [s1]; exact wB (Y := S + (S - v)) (i := i) hS h0 h6 (nn (sub0 hv1) hS) (sum2 (sub1 hv) hS) (by rw [hi]; omega)
    · exact wC (Y := u) (i := i) hS h0 h6 hu hu1 (by rw [hi]; omega)
    · rw [c2, s0]; exact wD (Y := S - w) (i := i) hS h0 h6 (sub0 hw1) (le2 (sub1 hw) hS) (by rw [hi]; omega)
    · rw [c2, s0]; exact wD (Y := S + v) (i := i) hS h0 h6 (nn hv hS) (sum2 hv1 hS) (by rw [hi]; omega)
    · exact wA (Y := S - u) (i := i + 1) hS h0 h6 (sub0 hu1) (sub1 hu) (by rw [hi, turn1]; omega)
  · obtain ⟨i, hi⟩ := key 0 (by rw [Int.add_zero]; exact h)
    rw [Int.add_zero] at hi
    clear key h
    rcases c with ⟨rfl, c2, rfl⟩ | ⟨rfl, c2, rfl⟩ | ⟨rfl, c2, rfl⟩ | ⟨rfl, c2, rfl⟩ | ⟨rfl, c2, rfl⟩ | ⟨rfl, c2, rfl⟩
    · rw [c2, s0]; exact wD (Y := S + w) (i := i) hS h0 h6 (nn hw hS) (sum2 hw1 hS) (by rw [hi]; omega)
    · exact wA (Y := S - v) (i := i) hS h0 h6 (sub0 hv1) (sub1 hv) hi
    · rw [s1]; exact wB (Y := u) (i := i) hS h0 h6 hu (le2 hu1 hS) hi
    · rw [s1]; exact wB (Y := S + (S - w)) (i := i) hS h0 h6 (nn (sub0 hw1) hS) (sum2 (sub1 hw) hS) (by rw [hi]; omega)
    · exact wC (Y := v) (i := i) hS h0 h6 hv hv1 hi
    · rw [c2, s0]; exact wD (Y := S - u) (i := i) hS h0 h6 (sub0 hu1) (le2 (sub1 hu) hS) (by rw [hi]; omega)
  · obtain ⟨i, hi⟩ := key (-(2 * S)) h
    clear key h
    rcases c with ⟨rfl, c2, rfl⟩ | ⟨rfl, c2, rfl⟩ | ⟨rfl, c2, rfl⟩ | ⟨rfl, c2, rfl⟩ | ⟨rfl, c2, rfl⟩ | ⟨rfl, c2, rfl⟩
    · exact wC (Y := w) (i := i) hS h0 h6 hw hw1 (by rw [hi]; omega)
    · rw [c2, s0]; exact wD (Y := S - v) (i := i - 1) hS h0 h6 (sub0 hv1) (le2 (sub1 hv) hS) (by rw [hi, turn2]; omega)
    · rw [c2, s0]; exact wD (Y := S + u) (i := i - 1) hS h0 h6 (nn hu hS) (sum2 hu1 hS) (by rw [hi, turn2]; omega)
    · exact wA (Y := S - w) (i := i) hS h0 h6 (sub0 hw1) (sub1 hw) (by rw [hi]; omega)
    · rw [s1]; exact wB (Y := v) (i := i) hS h0 h6 hv (le2 hv1 hS) (by rw [hi]; omega)
    · rw [s1]; exact wB (Y := S + (S - u)) (i := i) hS h0 h6 (nn (sub0 hu1) hS) (sum2 (sub1 hu) hS) (by rw [hi]; omega)
end Wu
end
section
set_option exponentiation.threshold 3000
namespace Wu
open PySem PySem.Spec PySem.Calls PyProof.Rows PySem.W
open PySem.Float64 (val V dist decode Right infMag)
theorem int_le_of {a b : Int} (h : (a : Rat) < (b : Rat) + 1) : a ≤ b := by
  have : a < b + 1 := Rat.intCast_lt_intCast.mp (by rw [Rat.intCast_add]; exact h)
  omega
theorem ep_sq : ep * ep * 4503599627370496 = ep := by unfold ep; grind
set_option maxHeartbeats 1000000 in
theorem fv_ap {m1 m2 h0 : UInt64} {M1 M2 X : Rat} {S Z0 : Int} (a1 : Ap m1 M1 (100 * ep)) (a2 : Ap m2 M2 (100 * ep)) (a0 : Ap h0 X (80 * ep)) (hX : X * (6 * S) = Z0) (x1 : -1 / 2 ≤ X) (x2 : X ≤ 3 / 2)
    (m10 : 0 ≤ M1) (m21 : M2 ≤ 1) (hd : (M2 - M1) * 1048576 = S) (hS : 0 < S) (hb : S ≤ 1250) :
    ∃ Z : Int, 0 ≤ Z ∧ Z ≤ 6 * S ∧ (Z = Z0 ∨ Z = Z0 + 6 * S ∨ Z = Z0 - 6 * S) ∧ Ap (fv m1 m2 h0) (M1 + (wv S Z : Int) / 1048576) (6000 * ep) := by
  have hSr : (0 : Rat) < (S : Rat) := Rat.intCast_pos.mpr hS
  have hSb : (S : Rat) ≤ 1250 := by have := Rat.intCast_le_intCast.mpr hb; simpa using this
  have hep := ep_pos
  have heps := ep_small
  have eps2 := ep_sq
  obtain ⟨k, hk, ak, y0, y1⟩ := mod_one a0 (by grind) (by grind)
  have kZ : ∃ Z : Int, (X + k) * (6 * S) = Z ∧ (Z = Z0 ∨ Z = Z0 + 6 * S ∨ Z = Z0 - 6 * S) := by
    rcases hk with rfl | rfl | rfl
    · exact ⟨Z0, by grind, .inl rfl⟩
    · exact ⟨Z0 + 6 * S, by rw [Rat.intCast_add, Rat.intCast_mul]; grind, .inr (.inl rfl)⟩
    · exact ⟨Z0 - 6 * S, by rw [Rat.intCast_sub, Rat.intCast_mul]; grind, .inr (.inr rfl)⟩
  obtain ⟨Z, hZ, hZ0⟩ := kZ
  generalize hY : X + k = Y at *
  have ay : Ap (Float64.divmod h0 z1).2 Y (90 * ep) := ak.mono (by grind)
  clear ak a0 hX hY hk
  unfold fv
  dsimp only
  generalize (Float64.divmod h0 z1).2 = y at *
  obtain ⟨fy, ly, gy⟩ := ay
  have ay : Ap y Y (90 * ep) := ⟨fy, ly, gy⟩
  have Y0 : -93 * ep ≤ Y := by grind
  have Y1 : Y ≤ 1 + 93 * ep := by grind
  have zlo : 0 ≤ Z := by
    have := Rat.mul_le_mul_of_nonneg_right Y0 (show (0 : Rat) ≤ 6 * S by grind)
    have h : (0 : Rat) < (Z : Rat) + 1 := by
      have := Rat.mul_le_mul_of_nonneg_right hSb (Rat.le_of_lt hep)
      grind
    have := int_le_of (a := 0) (b := Z) (by simpa using h)
    exact this
  have zhi : Z ≤ 6 * S := by
    have := Rat.mul_le_mul_of_nonneg_right Y1 (show (0 : Rat) ≤ 6 * S by grind)
    refine int_le_of ?_
    rw [Rat.intCast_mul]
    have := Rat.mul_le_mul_of_nonneg_right hSb (Rat.le_of_lt hep)
    grind
  refine ⟨Z, zlo, zhi, hZ0, ?_⟩
  have hD0 : 0 ≤ M2 - M1 := by grind
  have hD1 : M2 - M1 ≤ 1 := by grind
  have sm := Rat.mul_le_mul_of_nonneg_right hSb (Rat.le_of_lt hep)
  have l16 := ap_t16.le
  have g16 := ap_t16.ge
  have l23 := ap_t23.le
  have g23 := ap_t23.ge
  have asub : Ap (Float64.sub m2 m1) (M2 - M1) (203 * ep) := (Ap.sub (M := 2) a2 a1 (by grind) (by grind) (by grind)).mono (by grind)
  have Yc : -1 ≤ Y ∧ Y ≤ 2 := ⟨by grind, by grind⟩
  cases c1 : flt y t16 with
  | true =>
    rw [if_pos rfl]
    have := flt_true fy ap_t16.fi c1
    have hZS : Z ≤ S := by
      have := Rat.mul_le_mul_of_nonneg_right (show Y ≤ 1 / 6 + 92 * ep by grind) (show (0 : Rat) ≤ 6 * S by grind)
      refine int_le_of ?_
      grind
    have ew : wv S Z = Z := by unfold wv; rw [if_pos hZS]
    rw [ew]
    have b1 := Ap.mul (P := 1) (Q := 2) (M := 4) asub ay (by grind) (by grind) (by grind) (by grind) (by grind) (by grind)
    have b1 : Ap (Float64.mul (Float64.sub m2 m1) y) ((M2 - M1) * Y) (600 * ep) := b1.mono (by grind)
    have bd := q_mul_abs (a := M2 - M1) (b := Y) (A := 1) (B := 2) (by grind) (by grind) (by grind) (by grind)
    have b2 := Ap.mul (P := 2) (Q := 6) (M := 14) b1 (Ap.exact vr_z6.1 vr_z6.2) (by grind) (by grind) (by grind) (by grind) (by grind) (by grind)
    have b2 : Ap (Float64.mul (Float64.mul (Float64.sub m2 m1) y) z6) ((M2 - M1) * Y * 6) (3700 * ep) := b2.mono (by grind)
    have e : (M2 - M1) * Y * 6 = (Z : Rat) / 1048576 := by grind
    have zr : (0 : Rat) ≤ (Z : Rat) ∧ (Z : Rat) ≤ 1250 := ⟨Rat.intCast_nonneg.mpr zlo, by have := Rat.intCast_le_intCast.mpr (show Z ≤ 1250 by omega); simpa using this⟩
    rw [e] at b2
    exact (Ap.add (M := 4) a1 b2 (by grind) (by grind) (by grind)).mono (by grind)
  | false =>
    rw [if_neg (by decide)]
    have n1 := flt_false fy ap_t16.fi c1
    have hZS : S ≤ Z := by
      have := Rat.mul_le_mul_of_nonneg_right (show 1 / 6 - 92 * ep ≤ Y by grind) (show (0 : Rat) ≤ 6 * S by grind)
      refine int_le_of ?_
      grind
    cases c2 : flt y z05 with
    | true =>
      rw [if_pos rfl]
      have n2 := flt_true fy vr_z05.1 c2
      rw [vr_z05.2] at n2
      have hZ3 : Z ≤ 3 * S := by
        have := Rat.mul_le_mul_of_nonneg_right (show Y ≤ 1 / 2 + 92 * ep by grind) (show (0 : Rat) ≤ 6 * S by grind)
        refine int_le_of ?_
        rw [Rat.intCast_mul]
        grind
      have ew : wv S Z = S := by unfold wv; (repeat' split) <;> omega
      rw [ew]
      have e : M1 + (S : Rat) / 1048576 = M2 := by grind
      rw [e]
      exact a2.mono (by grind)
    | false =>
      rw [if_neg (by decide)]
      have n2 := flt_false fy vr_z05.1 c2
      rw [vr_z05.2] at n2
      have hZ3 : 3 * S ≤ Z := by
        have := Rat.mul_le_mul_of_nonneg_right (show 1 / 2 - 92 * ep ≤ Y by grind) (show (0 : Rat) ≤ 6 * S by grind)
        refine int_le_of ?_
        rw [Rat.intCast_mul]
        grind
      cases c3 : flt y t23 with
      | true =>
        rw [if_pos rfl]
        have n3 := flt_true fy ap_t23.fi c3
        have hZ4 : Z ≤ 4 * S := by
          have := Rat.mul_le_mul_of_nonneg_right (show Y ≤ 2 / 3 + 92 * ep by grind) (show (0 : Rat) ≤ 6 * S by grind)
          refine int_le_of ?_
          rw [Rat.intCast_mul]
          grind
        have ew : wv S Z = 4 * S - Z := by unfold wv; (repeat' split) <;> omega
        rw [ew]
        have b0 := Ap.sub (M := 4) ap_t23 ay (by grind) (by grind) (by grind)
        have b0 : Ap (Float64.sub t23 y) (2 / 3 - Y) (96 * ep) := b0.mono (by grind)
        have b1 := Ap.mul (P := 1) (Q := 2) (M := 4) asub b0 (by grind) (by grind) (by grind) (by grind) (by grind) (by grind)
        have b1 : Ap (Float64.mul (Float64.sub m2 m1) (Float64.sub t23 y)) ((M2 - M1) * (2 / 3 - Y)) (600 * ep) := b1.mono (by grind)
        have bd := q_mul_abs (a := M2 - M1) (b := 2 / 3 - Y) (A := 1) (B := 2) (by grind) (by grind) (by grind) (by grind)
        have b2 := Ap.mul (P := 2) (Q := 6) (M := 14) b1 (Ap.exact vr_z6.1 vr_z6.2) (by grind) (by grind) (by grind) (by grind) (by grind) (by grind)
        have b2 : Ap (Float64.mul (Float64.mul (Float64.sub m2 m1) (Float64.sub t23 y)) z6) ((M2 - M1) * (2 / 3 - Y) * 6) (3700 * ep) := b2.mono (by grind)
        have e : (M2 - M1) * (2 / 3 - Y) * 6 = ((4 * S - Z : Int) : Rat) / 1048576 := by rw [Rat.intCast_sub, Rat.intCast_mul]; grind
        have zr : (0 : Rat) ≤ ((4 * S - Z : Int) : Rat) ∧ ((4 * S - Z : Int) : Rat) ≤ 1250 := ⟨Rat.intCast_nonneg.mpr (by omega), by have := Rat.intCast_le_intCast.mpr (show 4 * S - Z ≤ 1250 by omega); simpa using this⟩
        rw [e] at b2
        generalize ((4 * S - Z : Int) : Rat) = W at *
        exact (Ap.add (M := 4) a1 b2 (by grind) (by grind) (by grind)).mono (by grind)
      | false =>
        rw [if_neg (by decide)]
        have n3 := flt_false fy ap_t23.fi c3
        have hZ4 : 4 * S ≤ Z := by
          have := Rat.mul_le_mul_of_nonneg_right (show 2 / 3 - 92 * ep ≤ Y by grind) (show (0 : Rat) ≤ 6 * S by grind)
          refine int_le_of ?_
          rw [Rat.intCast_mul]
          grind
        have ew : wv S Z = 0 := by unfold wv; (repeat' split) <;> omega
        rw [ew]
        have e : M1 + ((0 : Int) : Rat) / 1048576 = M1 := by grind
        rw [e]
        exact a1.mono (by grind)
end Wu
end
section
set_option exponentiation.threshold 3000
namespace Wu
open PySem PySem.Spec PySem.Calls PyProof.Rows PySem.W
open PySem.Float64 (val V dist decode Right infMag)
theorem turn_at {x : UInt64} {h : Rat} {P S : Int} (a : Ap x h (10 * ep)) (e : h * (6 * S) = P) (h0 : 0 ≤ h) (h1 : h ≤ 1) (hP : 0 ≤ P) (hS : 0 < S) (hb : S ≤ 1250) : IntAt (turnF x S) P := by
  have hSr : (0 : Rat) < (S : Rat) := Rat.intCast_pos.mpr hS
  have hSb : (S : Rat) ≤ 1250 := by have := Rat.intCast_le_intCast.mpr hb; simpa using this
  have hep := ep_pos
  have heps := ep_small
  have eps2 := ep_sq
  have o6 := ofInt_vr (i := 6) (by decide)
  have oS := ofInt_vr (i := S) (by omega)
  have e6 : ((6 : Int) : Rat) = 6 := rfl
  rw [e6] at o6
  have b1 := Ap.mul (P := 1) (Q := 6) (M := 7) a (Ap.exact o6.1 o6.2) (by grind) (by grind) (by grind) (by grind) (by grind) (by grind)
  have b1 : Ap (Float64.mul x (Float64.ofInt 6)) (h * 6) (68 * ep) := b1.mono (by grind)
  have b2 := Ap.mul (P := 6) (Q := 1250) (M := 8000) b1 (Ap.exact oS.1 oS.2) (by grind) (by grind) (by grind) (by grind) (by grind) (by grind)
  have b2 : Ap (Float64.mul (Float64.mul x (Float64.ofInt 6)) (Float64.ofInt S)) (h * 6 * S) (100000 * ep) := b2.mono (by grind)
  have e2 : h * 6 * S = (P : Rat) := by grind
  rw [e2] at b2
  have p0 : (0 : Rat) ≤ (P : Rat) := Rat.intCast_nonneg.mpr hP
  have p1 : (P : Rat) ≤ 7500 := by
    have := Rat.mul_le_mul_of_nonneg_right h1 (show (0 : Rat) ≤ 6 * S by grind)
    grind
  have b3 := Ap.add (M := 8000) b2 (Ap.exact vr_z05.1 vr_z05.2) (by grind) (by grind) (by grind)
  exact intAt_of b3 hP (by grind)
theorem paint_at {x : UInt64} {c : Int} (a : Ap x ((c : Rat) / 1048576) (6000 * ep)) (h0 : 0 ≤ c) (h1 : c ≤ 1048576) : IntAt (paintF x) c := by
  have hep := ep_pos
  have heps := ep_small
  have eps2 := ep_sq
  have c0 : (0 : Rat) ≤ (c : Rat) := Rat.intCast_nonneg.mpr h0
  have c1 : (c : Rat) ≤ 1048576 := by have := Rat.intCast_le_intCast.mpr h1; simpa using this
  have o := ofInt_vr (i := 1048576) (by decide)
  have e6 : ((1048576 : Int) : Rat) = 1048576 := rfl
  rw [e6] at o
  have b1 := Ap.mul (P := 1) (Q := 1048576) (M := 2097152) a (Ap.exact o.1 o.2) (by grind) (by grind) (by grind) (by grind) (by grind) (by grind)
  have e2 : (c : Rat) / 1048576 * 1048576 = c := by grind
  rw [e2] at b1
  have b1 : Ap (Float64.mul x (Float64.ofInt 1048576)) (c : Rat) (7000000000 * ep) := b1.mono (by grind)
  have b3 := Ap.add (M := 2097152) b1 (Ap.exact vr_z05.1 vr_z05.2) (by grind) (by grind) (by grind)
  exact intAt_of b3 h0 (by grind)
theorem rgb_at {u v w S N : Int} {x l s : UInt64} {h : Rat} (a : Ap x h (10 * ep)) (e : h * (6 * S) = PP u v w S) (h0 : 0 ≤ h) (h1 : h ≤ 1) (hS : 0 < S) (hb : S ≤ 1250)
    (hu : 0 ≤ u) (hv : 0 ≤ v) (hw : 0 ≤ w) (hu1 : u ≤ S) (hv1 : v ≤ S) (hw1 : w ≤ S) (hz : u = 0 ∨ v = 0 ∨ w = 0) (hx : u = S ∨ v = S ∨ w = S) (hN : 0 ≤ N) (hM : N + S ≤ 1048576)
    (hs : feq s z0 = false) (a2 : Ap (fm2 l s) ((N + S : Int) / 1048576) (100 * ep)) (a1 : Ap (Float64.sub (Float64.mul z2 l) (fm2 l s)) ((N : Rat) / 1048576) (100 * ep)) :
    ∀ i < 3, IntAt (paintF ((frgb x l s).getD i 0)) ([N + S - u, N + S - v, N + S - w].getD i 0) := by
  have hSr : (0 : Rat) < (S : Rat) := Rat.intCast_pos.mpr hS
  have hep := ep_pos
  have heps := ep_small
  have hNr : (0 : Rat) ≤ (N : Rat) := Rat.intCast_nonneg.mpr hN
  have hMr : (N : Rat) + S ≤ 1048576 := by have := Rat.intCast_le_intCast.mpr hM; simpa only [Rat.intCast_add, Rat.intCast_ofNat] using this
  rw [Rat.intCast_add] at a2
  have key : ∀ {y : UInt64} {X : Rat} {Z0 c : Int}, Ap y X (80 * ep) → X * (6 * S) = Z0 → -1 / 2 ≤ X → X ≤ 3 / 2 → 0 ≤ c → c ≤ S → (∀ Z : Int, 0 ≤ Z → Z ≤ 6 * S → (Z = Z0 ∨ Z = Z0 + 6 * S ∨ Z = Z0 - 6 * S) → wv S Z = S - c) → IntAt (paintF (fv (Float64.sub (Float64.mul z2 l) (fm2 l s)) (fm2 l s) y)) (N + S - c) := by
    intro y X Z0 c ay eX x1 x2 c0 c1 hw
    obtain ⟨Z, z0, z6, zz, r⟩ := fv_ap a1 a2 ay eX x1 x2 (by grind) (by grind) (by grind) hS hb
    rw [hw Z z0 z6 zz] at r
    refine paint_at ?_ (by omega) (by omega)
    have e : (N : Rat) / 1048576 + ((S - c : Int) : Rat) / 1048576 = ((N + S - c : Int) : Rat) / 1048576 := by rw [Rat.intCast_sub, Rat.intCast_sub, Rat.intCast_add]; grind
    rw [e] at r
    exact r
  have wp := fun (Z : Int) (z0 : 0 ≤ Z) (z6 : Z ≤ 6 * S) => wv_PP hu hv hw hu1 hv1 hw1 hS hz hx z0 z6
  have r0 := key (y := Float64.add x t13) (X := h + 1 / 3) (Z0 := PP u v w S + 2 * S) (c := u) ((Ap.add (M := 4) a ap_t13 (by grind) (by grind) (by grind)).mono (by grind)) (by rw [Rat.intCast_add, Rat.intCast_mul]; grind) (by grind) (by grind) hu hu1 fun Z z0 z6 zz => (wp Z z0 z6).1 zz
  have r1 := key (y := x) (X := h) (Z0 := PP u v w S) (c := v) (a.mono (by grind)) e (by grind) (by grind) hv hv1 fun Z z0 z6 zz => (wp Z z0 z6).2.1 zz
  have r2 := key (y := Float64.sub x t13) (X := h - 1 / 3) (Z0 := PP u v w S - 2 * S) (c := w) ((Ap.sub (M := 4) a ap_t13 (by grind) (by grind) (by grind)).mono (by grind)) (by rw [Rat.intCast_sub, Rat.intCast_mul]; grind) (by grind) (by grind) hw hw1 fun Z z0 z6 zz => (wp Z z0 z6).2.2 zz
  intro i hi
  unfold frgb
  rw [hs, if_neg (by decide)]
  match i, hi with
  | 0, _ => exact r0
  | 1, _ => exact r1
  | 2, _ => exact r2
end Wu
end
section
set_option exponentiation.threshold 3000
namespace Wu
open PySem PySem.Spec PySem.Calls PyProof.Rows PySem.W
open PySem.Float64 (val V dist decode Right infMag)
theorem half_ap {T : Int} (h0 : 0 ≤ T) (h1 : T ≤ 2097152) : Ap (Float64.div (q20 T) z2) ((T : Rat) / 2097152) (2 * ep) := by
  have t0 : (0 : Rat) ≤ (T : Rat) := Rat.intCast_nonneg.mpr h0
  have t1 : (T : Rat) ≤ 2097152 := by have := Rat.intCast_le_intCast.mpr h1; simpa using this
  have hep := ep_pos
  exact (Ap.div (r := (T : Rat) / 2097152) (δ := 0) (M := 1) (Ap.exact (q20_fi (by omega)) (q20_vr (by omega))) vr_z2.1 vr_z2.2 (by grind) (by grind) (by grind) (by grind) (by grind) (by grind)).mono (by grind)
theorem z2_q20 : z2 = q20 2097152 := by decide +kernel
/-- the saturation and the two ends, below half -/
theorem sat_light {A C : Int} (hC : 0 < C) (hAC : C < A) (hT : A + C < 1048576) :
    ∃ s, fsat (q20 A) (q20 C) = s ∧ feq s z0 = false ∧ Ap (fm2 (Float64.div (q20 (A + C)) z2) s) ((A : Rat) / 1048576) (100 * ep) ∧ Ap (Float64.sub (Float64.mul z2 (Float64.div (q20 (A + C)) z2)) (fm2 (Float64.div (q20 (A + C)) z2) s)) ((C : Rat) / 1048576) (100 * ep) := by
  have hep := ep_pos
  have heps := ep_small
  have eps2 := ep_sq
  have ca : (C : Rat) + 1 ≤ (A : Rat) := by have := Rat.intCast_le_intCast.mpr (show C + 1 ≤ A by omega); simpa only [Rat.intCast_add, Rat.intCast_ofNat] using this
  have c0 : (1 : Rat) ≤ (C : Rat) := by have := Rat.intCast_le_intCast.mpr (show 1 ≤ C by omega); simpa using this
  have ct : (A : Rat) + C ≤ 1048575 := by have := Rat.intCast_le_intCast.mpr (show A + C ≤ 1048575 by omega); simpa only [Rat.intCast_add, Rat.intCast_ofNat] using this
  have hl := half_ap (T := A + C) (by omega) (by omega)
  rw [Rat.intCast_add] at hl
  have hle : fle (Float64.div (q20 (A + C)) z2) z05 = true := fle_true hl.fi vr_z05.1 (by have := hl.le; rw [vr_z05.2]; grind)
  obtain ⟨σ, es, s0, s1, as⟩ := share_ap (w := A - C) (S := A + C) (by omega) (by omega) (by omega) (by omega)
  rw [Rat.intCast_sub, Rat.intCast_add] at es
  have hf : fsat (q20 A) (q20 C) = Float64.div (q20 (A - C)) (q20 (A + C)) := by
    unfold fsat
    rw [add_q20 (by omega) (by omega) (by omega) (by omega), sub_q20 (by omega) (by omega) (by omega), hle, if_pos rfl]
  have spos : 1 / 1048576 ≤ σ := by
    have := Rat.mul_le_mul_of_nonneg_left (show (A : Rat) + C ≤ 1048576 by grind) s0
    grind
  refine ⟨_, hf, feq_false as.fi vr_z0.1 (by have := as.ge; rw [vr_z0.2]; grind), ?_⟩
  unfold fm2
  rw [hle, if_pos rfl]
  have a1 := Ap.add (M := 3) (Ap.exact vr_z1.1 vr_z1.2) as (by grind) (by grind) (by grind)
  have a1 : Ap (Float64.add z1 (Float64.div (q20 (A - C)) (q20 (A + C)))) (1 + σ) (6 * ep) := a1.mono (by grind)
  have a2 := Ap.mul (P := 1) (Q := 2) (M := 3) hl a1 (by grind) (by grind) (by grind) (by grind) (by grind) (by grind)
  have e2 : ((A : Rat) + C) / 2097152 * (1 + σ) = (A : Rat) / 1048576 := by grind
  rw [e2] at a2
  have a2 : Ap (Float64.mul (Float64.div (q20 (A + C)) z2) (Float64.add z1 (Float64.div (q20 (A - C)) (q20 (A + C))))) ((A : Rat) / 1048576) (20 * ep) := a2.mono (by grind)
  have a3 := Ap.mul (P := 2) (Q := 1) (M := 3) (Ap.exact vr_z2.1 vr_z2.2) hl (by grind) (by grind) (by grind) (by grind) (by grind) (by grind)
  have a4 := Ap.sub (M := 3) a3 a2 (by grind) (by grind) (by grind)
  have e4 : 2 * (((A : Rat) + C) / 2097152) - (A : Rat) / 1048576 = (C : Rat) / 1048576 := by grind
  rw [e4] at a4
  exact ⟨a2.mono (by grind), a4.mono (by grind)⟩
/-- the same above half -/
theorem sat_dark {A C : Int} (hA : A < 1048576) (hAC : C < A) (hT : 1048576 < A + C) :
    ∃ s, fsat (q20 A) (q20 C) = s ∧ feq s z0 = false ∧ Ap (fm2 (Float64.div (q20 (A + C)) z2) s) ((A : Rat) / 1048576) (100 * ep) ∧ Ap (Float64.sub (Float64.mul z2 (Float64.div (q20 (A + C)) z2)) (fm2 (Float64.div (q20 (A + C)) z2) s)) ((C : Rat) / 1048576) (100 * ep) := by
  have hep := ep_pos
  have heps := ep_small
  have eps2 := ep_sq
  have ca : (C : Rat) + 1 ≤ (A : Rat) := by have := Rat.intCast_le_intCast.mpr (show C + 1 ≤ A by omega); simpa only [Rat.intCast_add, Rat.intCast_ofNat] using this
  have c0 : (A : Rat) ≤ 1048575 := by have := Rat.intCast_le_intCast.mpr (show A ≤ 1048575 by omega); simpa using this
  have ct : 1048577 ≤ (A : Rat) + C := by have := Rat.intCast_le_intCast.mpr (show 1048577 ≤ A + C by omega); simpa only [Rat.intCast_add, Rat.intCast_ofNat] using this
  have hl := half_ap (T := A + C) (by omega) (by omega)
  rw [Rat.intCast_add] at hl
  have hle : fle (Float64.div (q20 (A + C)) z2) z05 = false := fle_false hl.fi vr_z05.1 (by have := hl.ge; rw [vr_z05.2]; grind)
  obtain ⟨σ, es, s0, s1, as⟩ := share_ap (w := A - C) (S := 2097152 - A - C) (by omega) (by omega) (by omega) (by omega)
  rw [Rat.intCast_sub, Rat.intCast_sub, Rat.intCast_sub] at es
  have en : ((2097152 : Int) : Rat) = 2097152 := rfl
  rw [en] at es
  have hf : fsat (q20 A) (q20 C) = Float64.div (q20 (A - C)) (q20 (2097152 - A - C)) := by
    unfold fsat
    rw [add_q20 (by omega) (by omega) (by omega) (by omega), sub_q20 (by omega) (by omega) (by omega), hle, if_neg (by decide)]
    have e2 : Float64.sub (Float64.sub z2 (q20 A)) (q20 C) = q20 (2097152 - A - C) := by
      rw [z2_q20, sub_q20 (by omega) (by omega) (by omega), sub_q20 (by omega) (by omega) (by omega)]
    rw [e2]
  have spos : 1 / 2097152 ≤ σ := by
    have := Rat.mul_le_mul_of_nonneg_left (show 2097152 - (A : Rat) - C ≤ 2097152 by grind) s0
    grind
  refine ⟨_, hf, feq_false as.fi vr_z0.1 (by have := as.ge; rw [vr_z0.2]; grind), ?_⟩
  unfold fm2
  rw [hle, if_neg (by decide)]
  have a1 := Ap.add (M := 4) hl as (by grind) (by grind) (by grind)
  have a2 := Ap.mul (P := 1) (Q := 1) (M := 3) hl as (by grind) (by grind) (by grind) (by grind) (by grind) (by grind)
  have bd := q_mul_abs (a := ((A : Rat) + C) / 2097152) (b := σ) (A := 1) (B := 1) (by grind) (by grind) (by grind) (by grind)
  have a3 := Ap.sub (M := 5) a1 a2 (by grind) (by grind) (by grind)
  have e2 : ((A : Rat) + C) / 2097152 + σ - ((A : Rat) + C) / 2097152 * σ = (A : Rat) / 1048576 := by grind
  rw [e2] at a3
  have a3 := Ap.mono (e' := 40 * ep) a3 (by grind)
  have a5 := Ap.mul (P := 2) (Q := 1) (M := 3) (Ap.exact vr_z2.1 vr_z2.2) hl (by grind) (by grind) (by grind) (by grind) (by grind) (by grind)
  have a4 := Ap.sub (M := 3) a5 a3 (by grind) (by grind) (by grind)
  have e4 : 2 * (((A : Rat) + C) / 2097152) - (A : Rat) / 1048576 = (C : Rat) / 1048576 := by grind
  rw [e4] at a4
  exact ⟨a3.mono (by grind), a4.mono (by grind)⟩
end Wu
end
section
set_option exponentiation.threshold 3000
namespace Wu
open PySem PySem.Spec PySem.Calls PyProof.Rows PySem.W
open PySem.Float64 (val V dist decode Right infMag)
/-- three numbers, the greatest A, the least C -/
structure Tri (a b c A C : Int) : Prop where
  mx : mx3 a b c = A
  mn : mn3 a b c = C
  a0 : C ≤ a ∧ a ≤ A
  b0 : C ≤ b ∧ b ≤ A
  c0 : C ≤ c ∧ c ≤ A
  top : a = A ∨ b = A ∨ c = A
  low : a = C ∨ b = C ∨ c = C
  pos : 0 < C
  lid : A < 1048576
theorem tri_of {a b c A C : Int} (a0 : C ≤ a ∧ a ≤ A) (b0 : C ≤ b ∧ b ≤ A) (c0 : C ≤ c ∧ c ≤ A) (top : a = A ∨ b = A ∨ c = A) (low : a = C ∨ b = C ∨ c = C) (pos : 0 < C) (lid : A < 1048576) : Tri a b c A C := by
  refine ⟨?_, ?_, a0, b0, c0, top, low, pos, lid⟩
  · unfold mx3; (repeat' split) <;> omega
  · unfold mn3; (repeat' split) <;> omega
section
variable {a b c A C : Int}
theorem Tri.inf (t : Tri a b c A C) : ∀ n ∈ [a, b, c], Float64.isInf (q20 n) = false := by
  intro n hn
  have h1 := t.a0; have h2 := t.b0; have h3 := t.c0; have h4 := t.pos; have h5 := t.lid
  simp only [List.mem_cons, List.mem_nil_iff, or_false] at hn
  rcases hn with rfl | rfl | rfl <;> exact q20_inf (by omega)
theorem Tri.fmx (t : Tri a b c A C) : fmax3 (q20 a) (q20 b) (q20 c) = q20 A := by
  have h1 := t.a0; have h2 := t.b0; have h3 := t.c0; have h4 := t.pos; have h5 := t.lid
  rw [fmax3_q20 (by omega) (by omega) (by omega), t.mx]
theorem Tri.fmn (t : Tri a b c A C) : fmin3 (q20 a) (q20 b) (q20 c) = q20 C := by
  have h1 := t.a0; have h2 := t.b0; have h3 := t.c0; have h4 := t.pos; have h5 := t.lid
  rw [fmin3_q20 (by omega) (by omega) (by omega), t.mn]
theorem Tri.le (t : Tri a b c A C) : C ≤ A := by have h1 := t.a0; omega
theorem Tri.ok (t : Tri a b c A C) : feq (fmin3 (q20 a) (q20 b) (q20 c)) (fmax3 (q20 a) (q20 b) (q20 c)) = false → HlsOk (q20 a) (q20 b) (q20 c) := by
  intro h
  have h0 := t.le; have h4 := t.pos; have h5 := t.lid
  rw [t.fmx, t.fmn, feq_q20 (by omega) (by omega)] at h
  have ne : C ≠ A := of_decide_eq_false h
  refine ⟨?_, fun _ => ?_, fun _ => ?_, ?_⟩
  · rw [t.fmx, t.fmn, sub_q20 (by omega) (by omega) (by omega)]
    exact isZero_q20 (by omega) (by omega)
  · rw [t.fmx, t.fmn, add_q20 (by omega) (by omega) (by omega) (by omega)]
    exact isZero_q20 (by omega) (by omega)
  · rw [t.fmx, t.fmn, z2_q20, sub_q20 (by omega) (by omega) (by omega), sub_q20 (by omega) (by omega) (by omega)]
    exact isZero_q20 (by omega) (by omega)
  · rw [t.fmx]
    exact isZero_q20 (by omega) (by omega)
theorem Tri.grey (t : Tri a b c A C) (h : A = C) : fhls (q20 a) (q20 b) (q20 c) = [z0, Float64.div (q20 (A + C)) z2, z0] := by
  have h0 := t.le; have h4 := t.pos; have h5 := t.lid
  unfold fhls
  rw [t.fmx, t.fmn, feq_q20 (by omega) (by omega), if_pos (decide_eq_true h.symm), add_q20 (by omega) (by omega) (by omega) (by omega)]
theorem Tri.hue (t : Tri a b c A C) (h : C < A) : fhls (q20 a) (q20 b) (q20 c) = [hueI (A - a) (A - b) (A - c) (A - C), Float64.div (q20 (A + C)) z2, fsat (q20 A) (q20 C)] := by
  have h1 := t.a0; have h2 := t.b0; have h3 := t.c0; have h4 := t.pos; have h5 := t.lid
  unfold fhls
  rw [t.fmx, t.fmn, feq_q20 (by omega) (by omega), if_neg (by simp; omega), add_q20 (by omega) (by omega) (by omega) (by omega), sub_q20 (by omega) (by omega) (by omega), fhue_q20 (by omega) (by omega) (by omega) (by omega) (by omega) (by omega) (by omega)]
theorem Tri.hsv (t : Tri a b c A C) : (fhsv (q20 a) (q20 b) (q20 c)).getD 0 0 = (if C < A then hueI (A - a) (A - b) (A - c) (A - C) else z0) ∧ (fhsv (q20 a) (q20 b) (q20 c)).getD 2 0 = q20 A := by
  have h1 := t.a0; have h2 := t.b0; have h3 := t.c0; have h4 := t.pos; have h5 := t.lid
  unfold fhsv
  rw [t.fmx, t.fmn, feq_q20 (by omega) (by omega)]
  by_cases h : C < A
  · rw [if_neg (by simp; omega), if_pos h, sub_q20 (by omega) (by omega) (by omega), fhue_q20 (by omega) (by omega) (by omega) (by omega) (by omega) (by omega) (by omega)]
    exact ⟨rfl, rfl⟩
  · rw [if_pos (by simp; omega), if_neg h]
    exact ⟨rfl, rfl⟩
theorem Tri.hue_ap (t : Tri a b c A C) (h : C < A) (hb : A - C ≤ 1250) : 0 ≤ PP (A - a) (A - b) (A - c) (A - C) ∧ PP (A - a) (A - b) (A - c) (A - C) < 6 * (A - C) ∧ ∃ g : Rat, g * (6 * ((A - C : Int) : Rat)) = PP (A - a) (A - b) (A - c) (A - C) ∧ 0 ≤ g ∧ g ≤ 1 ∧ Ap (hueI (A - a) (A - b) (A - c) (A - C)) g (10 * ep) := by
  have h1 := t.a0; have h2 := t.b0; have h3 := t.c0; have h4 := t.top
  exact Wu.hue_ap (by omega) (by omega) (by omega) (by omega) (by omega) (by omega) (by omega) hb (by omega)
theorem Tri.turn (t : Tri a b c A C) (h : C < A) (hb : A - C ≤ 1250) : IntAt (turnF ((fhls (q20 a) (q20 b) (q20 c)).getD 0 0) (A - C)) (PP (A - a) (A - b) (A - c) (A - C)) := by
  obtain ⟨p0, p1, g, e, g0, g1, ag⟩ := t.hue_ap h hb
  rw [t.hue h]
  exact turn_at ag e g0 g1 p0 (by omega) hb
theorem Tri.mul20 (t : Tri a b c A C) : Float64.cmpInt (Float64.mul (q20 A) (Float64.ofInt 1048576)) A = some Ordering.eq := by
  have h0 := t.le; have h4 := t.pos; have h5 := t.lid
  obtain ⟨m, e, d1, v1⟩ := q20_dec (n := A) (by omega)
  have o := ofInt_vr (i := 1048576) (by decide)
  obtain ⟨a', m', e', d2⟩ := o.1
  have v2 : val (Float64.ofInt 1048576) = 1048576 * (KK : Int) := by
    have h := val_vr (Float64.ofInt 1048576)
    rw [o.2] at h
    have : ((val (Float64.ofInt 1048576) : Int) : Rat) = ((1048576 * (KK : Int) : Int) : Rat) := by rw [h, Rat.intCast_mul, Rat.intCast_natCast]
    exact Rat.intCast_inj.mp this
  have R := Float64.mul_right d1 d2
  have hs : a' = false := by
    cases a' with
    | false => rfl
    | true =>
      have h := Float64.val_eq d2
      rw [v2] at h
      unfold Float64.sgn at h
      simp only [if_true] at h
      have : (0 : Int) < (KK : Int) := Int.ofNat_lt.mpr (Nat.two_pow_pos _)
      omega
  subst hs
  rw [decide_eq_false (by omega : ¬ A < 0)] at R
  have eW : (val (q20 A)).natAbs * (val (Float64.ofInt 1048576)).natAbs = 2 ^ 1074 * (A.natAbs * 2 ^ 1074) := by
    rw [v1, v2, Int.natAbs_mul, Int.natAbs_mul]
    have e1 : ((2 : Int) ^ 1054).natAbs = 2 ^ 1054 := rfl
    have e2 : ((KK : Nat) : Int).natAbs = 2 ^ 1074 := rfl
    have e3 : (1048576 : Int).natAbs = 1048576 := rfl
    rw [e1, e2, e3]
    have e4 : (2 : Nat) ^ 1074 = 2 ^ 1054 * 1048576 := rfl
    generalize (2 : Nat) ^ 1074 = K at *
    rw [e4]
    ac_rfl
  have small : A.natAbs * 2 ^ 1074 < 2 ^ 2000 := Nat.lt_of_lt_of_le (Nat.mul_lt_mul_of_pos_right (show A.natAbs < 2 ^ 53 by omega) (Nat.two_pow_pos _)) (Nat.le_of_ble_eq_true rfl)
  obtain ⟨m3, e3, d3, v3⟩ := right_exact (v := A.natAbs * 2 ^ 1074) R (Nat.two_pow_pos _) (by rw [eW]; exact Nat.mul_lt_mul_of_pos_left small (Nat.two_pow_pos _)) eW (V_hits _ _ (by omega))
  rw [Float64.cmpInt_right d3, v3]
  have : Float64.sgn (false != false) (A.natAbs * 2 ^ 1074) = A * 2 ^ 1074 := by
    rw [Float64.sgn_mul]
    have e1 : Float64.sgn (false != false) A.natAbs = A := by unfold Float64.sgn; simp only [bne_self_eq_false, Bool.false_eq_true, if_false]; omega
    rw [e1]
    rfl
  rw [this, Int.compare_eq_eq.mpr rfl]
/-- painted anew, with any hue that stands where it should -/
theorem Tri.paint_grey (t : Tri a b c A C) (h : A = C) (x : UInt64) : ∀ i < 3, IntAt (paintF ((frgb x ((fhls (q20 a) (q20 b) (q20 c)).getD 1 0) ((fhls (q20 a) (q20 b) (q20 c)).getD 2 0)).getD i 0)) ([a, b, c].getD i 0) := by
  have h1 := t.a0; have h2 := t.b0; have h3 := t.c0; have h4 := t.pos; have h5 := t.lid
  rw [t.grey h]
  have hz : feq z0 z0 = true := feq_self vr_z0.1
  have hl := half_ap (T := A + C) (by omega) (by omega)
  have key : ∀ n : Int, n = A → IntAt (paintF (Float64.div (q20 (A + C)) z2)) n := by
    rintro n rfl
    have e : ((n + C : Int) : Rat) / 2097152 = (n : Rat) / 1048576 := by rw [← h, Rat.intCast_add]; grind
    rw [e] at hl
    exact paint_at (hl.mono (by have := ep_pos; grind)) (by omega) (by omega)
  intro i hi
  show IntAt (paintF ((frgb x (Float64.div (q20 (A + C)) z2) z0).getD i 0)) _
  unfold frgb
  rw [hz, if_pos rfl]
  match i, hi with
  | 0, _ => exact key a (by omega)
  | 1, _ => exact key b (by omega)
  | 2, _ => exact key c (by omega)
theorem Tri.paint (t : Tri a b c A C) (h : C < A) (hb : A - C ≤ 1250) (hT : A + C < 1048576 ∨ 1048576 < A + C) : ∀ i < 3, IntAt (paintF ((frgb (hueI (A - a) (A - b) (A - c) (A - C)) ((fhls (q20 a) (q20 b) (q20 c)).getD 1 0) ((fhls (q20 a) (q20 b) (q20 c)).getD 2 0)).getD i 0)) ([a, b, c].getD i 0) := by
  obtain ⟨p0, p1, g, e, g0, g1, ag⟩ := t.hue_ap h hb
  have h1 := t.a0; have h2 := t.b0; have h3 := t.c0; have h4 := t.pos; have h5 := t.lid
  have h6 := t.top; have h7 := t.low
  rw [t.hue h]
  have st : ∃ s, fsat (q20 A) (q20 C) = s ∧ feq s z0 = false ∧ Ap (fm2 (Float64.div (q20 (A + C)) z2) s) ((A : Rat) / 1048576) (100 * ep) ∧ Ap (Float64.sub (Float64.mul z2 (Float64.div (q20 (A + C)) z2)) (fm2 (Float64.div (q20 (A + C)) z2) s)) ((C : Rat) / 1048576) (100 * ep) := by
    rcases hT with hT | hT
    · exact sat_light h4 h hT
    · exact sat_dark h5 h hT
  obtain ⟨s, es, sz, a2, a1⟩ := st
  have eA : C + (A - C) = A := by omega
  have r := rgb_at (N := C) (S := A - C) ag e g0 g1 (by omega) hb (by omega) (by omega) (by omega) (by omega) (by omega) (by omega) (by omega) (by omega) (by omega) (by omega) sz (by rw [eA]; exact a2) a1
  have x1 : C + (A - C) - (A - a) = a := by omega
  have x2 : C + (A - C) - (A - b) = b := by omega
  have x3 : C + (A - C) - (A - c) = c := by omega
  rw [x1, x2, x3] at r
  rw [es]
  exact r
end
end Wu
end
section
set_option exponentiation.threshold 3000
namespace Wu
open PySem PySem.Spec PySem.Calls PyProof.Rows PySem.W
open PySem.Float64 (val V dist decode Right infMag)
theorem arr_facts {t m A B C : Int} (tm : (t = 1 ∨ t = 2 ∨ t = 3) ∧ (m = 1 ∨ m = 2 ∨ m = 3) ∧ t ≠ m) (cb : C ≤ B) (ba : B ≤ A) :
    (C ≤ arr t m A B C 1 ∧ arr t m A B C 1 ≤ A) ∧ (C ≤ arr t m A B C 2 ∧ arr t m A B C 2 ≤ A) ∧ (C ≤ arr t m A B C 3 ∧ arr t m A B C 3 ≤ A) ∧ (arr t m A B C 1 = A ∨ arr t m A B C 2 = A ∨ arr t m A B C 3 = A) ∧ (arr t m A B C 1 = C ∨ arr t m A B C 2 = C ∨ arr t m A B C 3 = C) := by
  unfold arr
  obtain ⟨t1, m1, ne⟩ := tm
  rcases t1 with rfl | rfl | rfl <;> rcases m1 with rfl | rfl | rfl <;> first | (exact absurd rfl ne) | (simp; omega) | simp
theorem g0 (x y z : UInt64) : [x, y, z].getD 0 0 = x := rfl
theorem num_core {a b c p q r A C d place : Int} (tl : Tri a b c A C) (tw : Tri p q r (A + d) (C + d)) (tn : Tri (1048576 - p) (1048576 - q) (1048576 - r) (1048576 - (C + d)) (1048576 - (A + d)))
    (hp : p = a + d) (hq : q = b + d) (hr : r = c + d) (hd : 0 < d) (hb : A - C ≤ 1250) (hw : A + d ≤ 468512)
    (pl : C < A → place.fmod (6 * (A - C)) = PP (A - a) (A - b) (A - c) (A - C) ∧ (place + 3 * (A - C)).fmod (6 * (A - C)) = PP (a - C) (b - C) (c - C) (A - C)) : Num a b c p q r (A - C) place := by
  have hA := tl.le
  have hC := tl.pos
  have eh : C < A → (fhls (q20 p) (q20 q) (q20 r)).getD 0 0 = (fhls (q20 a) (q20 b) (q20 c)).getD 0 0 := by
    intro h
    rw [tl.hue h, tw.hue (by omega), hp, hq, hr, g0, g0]
    have e1 : A + d - (a + d) = A - a := by omega
    have e2 : A + d - (b + d) = A - b := by omega
    have e3 : A + d - (c + d) = A - c := by omega
    have e4 : A + d - (C + d) = A - C := by omega
    rw [e1, e2, e3, e4]
  have fh : Fi ((fhls (q20 a) (q20 b) (q20 c)).getD 0 0) := by
    by_cases h : C < A
    · obtain ⟨_, _, g, _, _, _, ag⟩ := tl.hue_ap h hb
      rw [tl.hue h, g0]
      exact ag.fi
    · rw [tl.grey (by omega), g0]
      exact vr_z0.1
  have eh' : (fhls (q20 p) (q20 q) (q20 r)).getD 0 0 = (fhls (q20 a) (q20 b) (q20 c)).getD 0 0 := by
    by_cases h : C < A
    · exact eh h
    · rw [tl.grey (by omega), tw.grey (by omega), g0, g0]
  have es : (fhsv (q20 p) (q20 q) (q20 r)).getD 0 0 = (fhls (q20 p) (q20 q) (q20 r)).getD 0 0 := by
    rw [tw.hsv.1]
    by_cases h : C < A
    · rw [if_pos (by omega), tw.hue (by omega), g0]
    · rw [if_neg (by omega), tw.grey (by omega), g0]
  refine ⟨tl.inf, tw.inf, tn.inf, tl.ok, tw.ok, tn.ok, ?_, ?_, ⟨d, hd, by omega, by omega, by omega⟩, ?_, ?_, ?_, ?_, ?_, ?_⟩
  · intro h
    rw [tl.grey (by omega)]
    exact ⟨feq_self vr_z0.1, feq_self vr_z0.1⟩
  · intro h
    rw [(pl (by omega)).1]
    exact tl.turn (by omega) hb
  · rw [eh']; exact feq_self fh
  · rw [es, eh']; exact feq_self fh
  · refine ⟨A + d, ?_, ?_, ?_⟩
    · have := tw.top
      simp only [List.mem_cons, List.mem_nil_iff, or_false]
      omega
    · intro n hn
      have h1 := tw.a0; have h2 := tw.b0; have h3 := tw.c0
      simp only [List.mem_cons, List.mem_nil_iff, or_false] at hn
      omega
    · rw [tw.hsv.2]
      exact tw.mul20
  · by_cases h : C < A
    · have := tw.paint (by omega) (by omega) (.inl (by omega))
      rw [← eh', tw.hue (by omega), g0]
      rw [tw.hue (by omega)] at this
      exact this
    · exact tw.paint_grey (by omega) _
  · intro h
    have e1 : 1048576 - (C + d) - (1048576 - p) = a - C := by omega
    have e2 : 1048576 - (C + d) - (1048576 - q) = b - C := by omega
    have e3 : 1048576 - (C + d) - (1048576 - r) = c - C := by omega
    have e4 : 1048576 - (C + d) - (1048576 - (A + d)) = A - C := by omega
    have := tn.turn (by omega) (by omega)
    rw [e1, e2, e3, e4] at this
    rw [(pl (by omega)).2]
    exact this
  · by_cases h : C < A
    · have := tn.paint (by omega) (by omega) (.inr (by omega))
      rw [tn.hue (by omega)] at this ⊢
      rw [g0]
      exact this
    · exact tn.paint_grey (by omega) _
theorem num_lit {t m A B C d : Int} (l : Lit t m A B C d) : Num (arr t m A B C 1) (arr t m A B C 2) (arr t m A B C 3) (arr t m A B C 1 + d) (arr t m A B C 2 + d) (arr t m A B C 3 + d) (A - C) (placeI t m (A - C) (B - C)) := by
  have l1 := l.cb; have l2 := l.ba; have l3 := l.c0; have l4 := l.top; have l5 := l.d0; have l6 := l.topd
  obtain ⟨f1, f2, f3, f4, f5⟩ := arr_facts l.tm l1 l2
  refine num_core (tri_of f1 f2 f3 f4 f5 l3 (by omega)) (tri_of (by omega) (by omega) (by omega) (by omega) (by omega) (by omega) (by omega)) (tri_of (by omega) (by omega) (by omega) (by omega) (by omega) (by omega) (by omega)) rfl rfl rfl l5 (by omega) l6 fun h => place_PP l.tm l1 l2 rfl rfl (by omega)
theorem plain_all (script : List Int) : Plain script := by
  obtain ⟨A, B, C, d, l, e1, e2, ⟨a1, a2, a3⟩, b1, b2, b3⟩ := lit_script script
  refine ⟨read_line script, fun k _ => p_pts script k, fun k _ => p_sm script k, fun k _ => p_smw script k, fun i _ j _ => p_told script i j, (perm_lt _ (order_mem script)).2, (perm_lt _ (order_mem script)).1, ?_, ?_⟩
  · have := l.tm.1
    omega
  · rw [a1, a2, a3, b1, b2, b3, e1, e2]
    exact num_lit l
end Wu
end
section
namespace Wu
set_option linter.unusedVariables false
noncomputable section
open PySem PySem.Spec PySem.Calls PyProof.Rows PySem.W

noncomputable def odds : List Obj → List Obj
  | [] => []
  | [x] => [x]
  | x :: _ :: l => x :: odds l
noncomputable def evens : List Obj → List Obj
  | [] => []
  | [_] => []
  | _ :: y :: l => y :: evens l
/-- a tree of a list of objects -/
noncomputable def mkT : Nat → List Obj → BT
  | 0, _ => .nil
  | _, [] => .nil
  | f + 1, o :: l => .node o (mkT f (odds l)) (mkT f (evens l))
noncomputable abbrev bodyB : List Stmt := behindTheImports pw
noncomputable def envB : Env := { scope := pw.main.scope, locals := mainNs, globals := mainNs, cells := [], code := .ref 13, frame := some 14 }
noncomputable def cB : Code := .body bodyB envB
noncomputable def q0 : Pos := ⟨0, 0, 0, 0⟩
noncomputable abbrev stB : List Frame := [topFrame q0]
noncomputable abbrev annB : Option Value := some (.ref 6)
/-- statements i up to j -/
noncomputable def sts (i j : Nat) : List Stmt := (bodyB.drop i).take (j - i)
noncomputable def kvOf (ks : List (Option PySem.Expr)) (vs : List PySem.Expr) : List (Int × Str) := (ks.map keyD).zip (vs.map valD)
noncomputable def b3Dict : List (Option PySem.Expr) × List PySem.Expr := match (pw.main.body[20]? : Option PySem.Stmt) with
  | some (PySem.Stmt.Assign _ (PySem.Expr.Dict ks vs _) _) => (ks, vs)
  | _ => ([], [])
/-- the table's pairs -/
noncomputable def kvs : List (Int × Str) := kvOf b3Dict.1 b3Dict.2
/-- a run of entries whose tokens stand three apart from t on -/
noncomputable def ents3 : Nat → List (Int × Str) → List DictEntry
  | _, [] => []
  | t, kv :: l => ⟨kv.1, .int kv.1 t, .str kv.2 (t + 1)⟩ :: ents3 (t + 3) l
/-- two apart -/
noncomputable def ents2 : Nat → List (Int × Str) → List DictEntry
  | _, [] => []
  | t, kv :: l => ⟨kv.1, .int kv.1 t, .str kv.2 (t + 1)⟩ :: ents2 (t + 2) l
noncomputable def dictO (es : List DictEntry) : Obj := { cls := .type "dict", data := .dict es.toArray es.length }
noncomputable def entsG : Nat → List (List (Int × Str)) → List DictEntry
  | _, [] => []
  | t, g :: gs => ents3 t g ++ entsG (t + 51) gs
noncomputable def subsG : Nat → List (List (Int × Str)) → List Obj
  | _, [] => []
  | t, g :: gs => dictO (ents3 t g) :: subsG (t + 51) gs
noncomputable def chunks : Nat → List (Int × Str) → List (List (Int × Str))
  | 0, _ => []
  | n + 1, l => l.take 17 :: chunks n (l.drop 17)
noncomputable def b3Es : List DictEntry := ents3 386 (kvs.take 17) ++ entsG 437 (chunks 37 (kvs.drop 17)) ++ ents2 2324 (kvs.drop 646)
noncomputable def b3Main : Obj := dictO b3Es
noncomputable def b3Subs : List Obj := subsG 437 (chunks 37 (kvs.drop 17)) ++ [dictO (ents2 2324 (kvs.drop 646))]
noncomputable def b3O (j : Nat) (_ : Params) : Obj := (b3Main :: b3Subs).getD j b3Main
theorem tw_run : @segRunT = @PySem.W.Fast.tw10110043849684766642 := PySem.W.Fast.te10110043849684766642
theorem tw_go : @segGoT = @PySem.W.Fast.tw10295753902157049106 := PySem.W.Fast.te10295753902157049106
theorem tw_tab : treeTable = PySem.W.Fast.tw14364793385576792824 := PySem.W.Fast.te14364793385576792824
noncomputable def ob11x0 (P : Params) : Obj := { cls := Value.type "tuple", data := Data.seq #[] }
noncomputable def ob12x1 (P : Params) : Obj := { cls := Value.none, data := Data.fields #[] }
noncomputable def ob13x2 (P : Params) : Obj := { cls := Value.type "code", data := Data.fields #[Value.str (Str.ofString "<module>") 182, Value.str (Str.ofString "<module>") 183, Value.str (Str.ofString "/claim/cut.py") 184, Value.int 1 0, Value.int 0 0, Value.int 0 0, Value.int 0 0, Value.int 0 0, Value.ref 11, Value.bool false, Value.int 181 0, Value.ref 12, Value.none, Value.none, Value.none, Value.none, Value.int 185 0, Value.int 1 0, Value.str (Str.ofString "/claim/cut.py") 186] }
noncomputable def ob14x3 (P : Params) : Obj := { cls := Value.type "frame", slots := #[some (Value.ref 13), some (Value.ref 3), some (Value.ref 3), none, some (Value.str (Str.ofString "__main__") 164), none, some (Value.ref 0)] }
noncomputable def lst0 (P : Params) : List Obj := [boot_o_0 P, boot_o_1 P, boot_o_2 P, boot_o_3 P, boot_o_4 P, boot_o_5 P, boot_o_6 P, boot_o_7 P, boot_o_8 P, boot_o_9 P, boot_o_10 P, ob11x0 P, ob12x1 P, ob13x2 P, ob14x3 P]
noncomputable def sta0 (w : World) (os : OsState) : SharedT := ⟨mkT 12 (lst0 w.params), 15, {}, #[], {}, 187, os⟩
noncomputable def ps0 : Pos := ⟨0, 0, 0, 0⟩
noncomputable def nE0 (P : Params) : DictEntry := { hash := PyData.keyHash P (Str.ofString "__name__"), key := Value.str (Str.ofString "__name__") 165, val := Value.str (Str.ofString "cpy313.colorsys") 187 }
noncomputable def nE1 (P : Params) : DictEntry := { hash := PyData.keyHash P (Str.ofString "__doc__"), key := Value.str (Str.ofString "__doc__") 166, val := Value.none }
noncomputable def nE2 (P : Params) : DictEntry := { hash := PyData.keyHash P (Str.ofString "__package__"), key := Value.str (Str.ofString "__package__") 167, val := Value.none }
noncomputable def nE3 (P : Params) : DictEntry := { hash := PyData.keyHash P (Str.ofString "__loader__"), key := Value.str (Str.ofString "__loader__") 168, val := Value.builtin "__main__.__loader__#opaque" }
noncomputable def nE4 (P : Params) : DictEntry := { hash := PyData.keyHash P (Str.ofString "__spec__"), key := Value.str (Str.ofString "__spec__") 169, val := Value.none }
noncomputable def nE5 (P : Params) : DictEntry := { hash := PyData.keyHash P (Str.ofString "__annotations__"), key := Value.str (Str.ofString "__annotations__") 170, val := Value.ref 6 }
noncomputable def nE6 (P : Params) : DictEntry := { hash := PyData.keyHash P (Str.ofString "__builtins__"), key := Value.str (Str.ofString "__builtins__") 171, val := Value.ref 4 }
noncomputable def nE7 (P : Params) : DictEntry := { hash := PyData.keyHash P (Str.ofString "__file__"), key := Value.str (Str.ofString "__file__") 173, val := Value.str (Str.ofString "/claim/cut.py") 172 }
noncomputable def nE8 (P : Params) : DictEntry := { hash := PyData.keyHash P (Str.ofString "__cached__"), key := Value.str (Str.ofString "__cached__") 174, val := Value.none }
noncomputable def nE9 (P : Params) : DictEntry := { hash := PyData.keyHash P (Str.ofString "ONE_THIRD"), key := Value.str (Str.ofString "ONE_THIRD") 192, val := Value.float 4599676419421066581 191 }
noncomputable def nE10 (P : Params) : DictEntry := { hash := PyData.keyHash P (Str.ofString "ONE_SIXTH"), key := Value.str (Str.ofString "ONE_SIXTH") 196, val := Value.float 4595172819793696085 195 }
noncomputable def nE11 (P : Params) : DictEntry := { hash := PyData.keyHash P (Str.ofString "TWO_THIRD"), key := Value.str (Str.ofString "TWO_THIRD") 200, val := Value.float 4604180019048437077 199 }
noncomputable def ob3x4 (P : Params) : Obj := { cls := Value.type "dict", data := Data.dict #[nE0 P, nE1 P, nE2 P, nE3 P, nE4 P, nE5 P, nE6 P, nE7 P, nE8 P, nE9 P, nE10 P, nE11 P] 12 }
noncomputable def lst4 (P : Params) : List Obj := [boot_o_0 P, boot_o_1 P, boot_o_2 P, ob3x4 P, boot_o_4 P, boot_o_5 P, boot_o_6 P, boot_o_7 P, boot_o_8 P, boot_o_9 P, boot_o_10 P, ob11x0 P, ob12x1 P, ob13x2 P, ob14x3 P]
noncomputable def sta4 (w : World) (os : OsState) : SharedT := ⟨mkT 12 (lst4 w.params), 15, {}, #[], {}, 201, os⟩
noncomputable def ps4 : Pos := ⟨4, 0, 4, 9⟩
noncomputable def nE12 (P : Params) : DictEntry := { hash := PyData.keyHash P (Str.ofString "rgb_to_hls"), key := Value.str (Str.ofString "rgb_to_hls") 219, val := Value.ref 21 }
noncomputable def nE13 (P : Params) : DictEntry := { hash := PyData.keyHash P (Str.ofString "hls_to_rgb"), key := Value.str (Str.ofString "hls_to_rgb") 230, val := Value.ref 28 }
noncomputable def nE14 (P : Params) : DictEntry := { hash := PyData.keyHash P (Str.ofString "_v"), key := Value.str (Str.ofString "_v") 239, val := Value.ref 35 }
noncomputable def ob3x5 (P : Params) : Obj := { cls := Value.type "dict", data := Data.dict #[nE0 P, nE1 P, nE2 P, nE3 P, nE4 P, nE5 P, nE6 P, nE7 P, nE8 P, nE9 P, nE10 P, nE11 P, nE12 P, nE13 P, nE14 P] 15 }
noncomputable def ob12x6 (P : Params) : Obj := { cls := Value.none, data := Data.fields #[Value.int 5 0, Value.int 0 0, Value.ref 20, Value.int 28 0, Value.int 0 0, Value.ref 27, Value.int 37 0, Value.int 0 0, Value.ref 34] }
noncomputable def ob15x7 (P : Params) : Obj := { cls := Value.type "tuple", data := Data.seq #[] }
noncomputable def ob16x8 (P : Params) : Obj := { cls := Value.none, data := Data.fields #[] }
noncomputable def ob17x9 (P : Params) : Obj := { cls := Value.type "tuple", data := Data.seq #[Value.str (Str.ofString "r") 204, Value.str (Str.ofString "g") 205, Value.str (Str.ofString "b") 206, Value.str (Str.ofString "maxc") 207, Value.str (Str.ofString "minc") 208, Value.str (Str.ofString "sumc") 209, Value.str (Str.ofString "rangec") 210, Value.str (Str.ofString "l") 211, Value.str (Str.ofString "s") 212, Value.str (Str.ofString "rc") 213, Value.str (Str.ofString "gc") 214, Value.str (Str.ofString "bc") 215, Value.str (Str.ofString "h") 216] }
noncomputable def ob18x10 (P : Params) : Obj := { cls := Value.type "tuple", data := Data.seq #[] }
noncomputable def ob19x11 (P : Params) : Obj := { cls := Value.none, data := Data.func { name := Str.ofString "rgb_to_hls", qualname := Str.ofString "rgb_to_hls", params := (Wu.dr 4).params, body := FuncBody.stmts (Wu.dr 4).body, scope := (Wu.dr 4).scope, globals := 0, closure := [], defaults := Value.none, kwdefaults := Value.none } }
noncomputable def ob20x12 (P : Params) : Obj := { cls := Value.type "code", data := Data.fields #[Value.str (Str.ofString "rgb_to_hls") 201, Value.str (Str.ofString "rgb_to_hls") 202, Value.str (Str.ofString "/claim/cut.py") 203, Value.int 5 0, Value.int 3 0, Value.int 0 0, Value.int 0 0, Value.int 3 0, Value.ref 15, Value.bool true, Value.int 181 0, Value.ref 16, Value.none, Value.ref 17, Value.ref 18, Value.ref 19, Value.int 217 0, Value.int 5 0, Value.str (Str.ofString "/claim/cut.py") 218] }
noncomputable def ob21x13 (P : Params) : Obj := { cls := Value.type "function", data := Data.func { name := Str.ofString "rgb_to_hls", qualname := Str.ofString "rgb_to_hls", params := (Wu.dr 4).params, body := FuncBody.stmts (Wu.dr 4).body, scope := (Wu.dr 4).scope, globals := 3, closure := [], defaults := Value.none, kwdefaults := Value.none, pyModule := Value.str (Str.ofString "cpy313.colorsys") 187, code := Value.ref 20 } }
noncomputable def ob22x14 (P : Params) : Obj := { cls := Value.type "tuple", data := Data.seq #[] }
noncomputable def ob23x15 (P : Params) : Obj := { cls := Value.none, data := Data.fields #[] }
noncomputable def ob24x16 (P : Params) : Obj := { cls := Value.type "tuple", data := Data.seq #[Value.str (Str.ofString "h") 223, Value.str (Str.ofString "l") 224, Value.str (Str.ofString "s") 225, Value.str (Str.ofString "m2") 226, Value.str (Str.ofString "m1") 227] }
noncomputable def ob25x17 (P : Params) : Obj := { cls := Value.type "tuple", data := Data.seq #[] }
noncomputable def ob26x18 (P : Params) : Obj := { cls := Value.none, data := Data.func { name := Str.ofString "hls_to_rgb", qualname := Str.ofString "hls_to_rgb", params := (Wu.dr 5).params, body := FuncBody.stmts (Wu.dr 5).body, scope := (Wu.dr 5).scope, globals := 0, closure := [], defaults := Value.none, kwdefaults := Value.none } }
noncomputable def ob27x19 (P : Params) : Obj := { cls := Value.type "code", data := Data.fields #[Value.str (Str.ofString "hls_to_rgb") 220, Value.str (Str.ofString "hls_to_rgb") 221, Value.str (Str.ofString "/claim/cut.py") 222, Value.int 28 0, Value.int 3 0, Value.int 0 0, Value.int 0 0, Value.int 3 0, Value.ref 22, Value.bool true, Value.int 181 0, Value.ref 23, Value.none, Value.ref 24, Value.ref 25, Value.ref 26, Value.int 228 0, Value.int 28 0, Value.str (Str.ofString "/claim/cut.py") 229] }
noncomputable def ob28x20 (P : Params) : Obj := { cls := Value.type "function", data := Data.func { name := Str.ofString "hls_to_rgb", qualname := Str.ofString "hls_to_rgb", params := (Wu.dr 5).params, body := FuncBody.stmts (Wu.dr 5).body, scope := (Wu.dr 5).scope, globals := 3, closure := [], defaults := Value.none, kwdefaults := Value.none, pyModule := Value.str (Str.ofString "cpy313.colorsys") 187, code := Value.ref 27 } }
noncomputable def ob29x21 (P : Params) : Obj := { cls := Value.type "tuple", data := Data.seq #[] }
noncomputable def ob30x22 (P : Params) : Obj := { cls := Value.none, data := Data.fields #[] }
noncomputable def ob31x23 (P : Params) : Obj := { cls := Value.type "tuple", data := Data.seq #[Value.str (Str.ofString "m1") 234, Value.str (Str.ofString "m2") 235, Value.str (Str.ofString "hue") 236] }
noncomputable def ob32x24 (P : Params) : Obj := { cls := Value.type "tuple", data := Data.seq #[] }
noncomputable def ob33x25 (P : Params) : Obj := { cls := Value.none, data := Data.func { name := Str.ofString "_v", qualname := Str.ofString "_v", params := (Wu.dr 6).params, body := FuncBody.stmts (Wu.dr 6).body, scope := (Wu.dr 6).scope, globals := 0, closure := [], defaults := Value.none, kwdefaults := Value.none } }
noncomputable def ob34x26 (P : Params) : Obj := { cls := Value.type "code", data := Data.fields #[Value.str (Str.ofString "_v") 231, Value.str (Str.ofString "_v") 232, Value.str (Str.ofString "/claim/cut.py") 233, Value.int 37 0, Value.int 3 0, Value.int 0 0, Value.int 0 0, Value.int 3 0, Value.ref 29, Value.bool true, Value.int 181 0, Value.ref 30, Value.none, Value.ref 31, Value.ref 32, Value.ref 33, Value.int 237 0, Value.int 37 0, Value.str (Str.ofString "/claim/cut.py") 238] }
noncomputable def ob35x27 (P : Params) : Obj := { cls := Value.type "function", data := Data.func { name := Str.ofString "_v", qualname := Str.ofString "_v", params := (Wu.dr 6).params, body := FuncBody.stmts (Wu.dr 6).body, scope := (Wu.dr 6).scope, globals := 3, closure := [], defaults := Value.none, kwdefaults := Value.none, pyModule := Value.str (Str.ofString "cpy313.colorsys") 187, code := Value.ref 34 } }
noncomputable def lst7 (P : Params) : List Obj := [boot_o_0 P, boot_o_1 P, boot_o_2 P, ob3x5 P, boot_o_4 P, boot_o_5 P, boot_o_6 P, boot_o_7 P, boot_o_8 P, boot_o_9 P, boot_o_10 P, ob11x0 P, ob12x6 P, ob13x2 P, ob14x3 P, ob15x7 P, ob16x8 P, ob17x9 P, ob18x10 P, ob19x11 P, ob20x12 P, ob21x13 P, ob22x14 P, ob23x15 P, ob24x16 P, ob25x17 P, ob26x18 P, ob27x19 P, ob28x20 P, ob29x21 P, ob30x22 P, ob31x23 P, ob32x24 P, ob33x25 P, ob34x26 P, ob35x27 P]
noncomputable def sta7 (w : World) (os : OsState) : SharedT := ⟨mkT 12 (lst7 w.params), 36, {}, #[], {}, 240, os⟩
noncomputable def ps7 : Pos := ⟨37, 0, 45, 13⟩
noncomputable def nE15 (P : Params) : DictEntry := { hash := PyData.keyHash P (Str.ofString "__name__"), key := Value.str (Str.ofString "__name__") 165, val := Value.str (Str.ofString "cpy313.locale") 258 }
noncomputable def nE16 (P : Params) : DictEntry := { hash := PyData.keyHash P (Str.ofString "rgb_to_hsv"), key := Value.str (Str.ofString "rgb_to_hsv") 257, val := Value.ref 42 }
noncomputable def nE17 (P : Params) : DictEntry := { hash := PyData.keyHash P (Str.ofString "_strcoll"), key := Value.str (Str.ofString "_strcoll") 267, val := Value.ref 49 }
noncomputable def ob3x28 (P : Params) : Obj := { cls := Value.type "dict", data := Data.dict #[nE15 P, nE1 P, nE2 P, nE3 P, nE4 P, nE5 P, nE6 P, nE7 P, nE8 P, nE9 P, nE10 P, nE11 P, nE12 P, nE13 P, nE14 P, nE16 P, nE17 P] 17 }
noncomputable def ob12x29 (P : Params) : Obj := { cls := Value.none, data := Data.fields #[Value.int 5 0, Value.int 0 0, Value.ref 20, Value.int 28 0, Value.int 0 0, Value.ref 27, Value.int 37 0, Value.int 0 0, Value.ref 34, Value.int 46 0, Value.int 0 0, Value.ref 41, Value.int 66 0, Value.int 0 0, Value.ref 48] }
noncomputable def ob36x30 (P : Params) : Obj := { cls := Value.type "tuple", data := Data.seq #[] }
noncomputable def ob37x31 (P : Params) : Obj := { cls := Value.none, data := Data.fields #[] }
noncomputable def ob38x32 (P : Params) : Obj := { cls := Value.type "tuple", data := Data.seq #[Value.str (Str.ofString "r") 243, Value.str (Str.ofString "g") 244, Value.str (Str.ofString "b") 245, Value.str (Str.ofString "maxc") 246, Value.str (Str.ofString "minc") 247, Value.str (Str.ofString "rangec") 248, Value.str (Str.ofString "v") 249, Value.str (Str.ofString "s") 250, Value.str (Str.ofString "rc") 251, Value.str (Str.ofString "gc") 252, Value.str (Str.ofString "bc") 253, Value.str (Str.ofString "h") 254] }
noncomputable def ob39x33 (P : Params) : Obj := { cls := Value.type "tuple", data := Data.seq #[] }
noncomputable def ob40x34 (P : Params) : Obj := { cls := Value.none, data := Data.func { name := Str.ofString "rgb_to_hsv", qualname := Str.ofString "rgb_to_hsv", params := (Wu.dr 7).params, body := FuncBody.stmts (Wu.dr 7).body, scope := (Wu.dr 7).scope, globals := 0, closure := [], defaults := Value.none, kwdefaults := Value.none } }
noncomputable def ob41x35 (P : Params) : Obj := { cls := Value.type "code", data := Data.fields #[Value.str (Str.ofString "rgb_to_hsv") 240, Value.str (Str.ofString "rgb_to_hsv") 241, Value.str (Str.ofString "/claim/cut.py") 242, Value.int 46 0, Value.int 3 0, Value.int 0 0, Value.int 0 0, Value.int 3 0, Value.ref 36, Value.bool true, Value.int 181 0, Value.ref 37, Value.none, Value.ref 38, Value.ref 39, Value.ref 40, Value.int 255 0, Value.int 46 0, Value.str (Str.ofString "/claim/cut.py") 256] }
noncomputable def ob42x36 (P : Params) : Obj := { cls := Value.type "function", data := Data.func { name := Str.ofString "rgb_to_hsv", qualname := Str.ofString "rgb_to_hsv", params := (Wu.dr 7).params, body := FuncBody.stmts (Wu.dr 7).body, scope := (Wu.dr 7).scope, globals := 3, closure := [], defaults := Value.none, kwdefaults := Value.none, pyModule := Value.str (Str.ofString "cpy313.colorsys") 187, code := Value.ref 41 } }
noncomputable def ob43x37 (P : Params) : Obj := { cls := Value.type "tuple", data := Data.seq #[] }
noncomputable def ob44x38 (P : Params) : Obj := { cls := Value.none, data := Data.fields #[] }
noncomputable def ob45x39 (P : Params) : Obj := { cls := Value.type "tuple", data := Data.seq #[Value.str (Str.ofString "a") 263, Value.str (Str.ofString "b") 264] }
noncomputable def ob46x40 (P : Params) : Obj := { cls := Value.type "tuple", data := Data.seq #[] }
noncomputable def ob47x41 (P : Params) : Obj := { cls := Value.none, data := Data.func { name := Str.ofString "_strcoll", qualname := Str.ofString "_strcoll", params := (Wu.dr 9).params, body := FuncBody.stmts (Wu.dr 9).body, scope := (Wu.dr 9).scope, globals := 0, closure := [], defaults := Value.none, kwdefaults := Value.none } }
noncomputable def ob48x42 (P : Params) : Obj := { cls := Value.type "code", data := Data.fields #[Value.str (Str.ofString "_strcoll") 260, Value.str (Str.ofString "_strcoll") 261, Value.str (Str.ofString "/claim/cut.py") 262, Value.int 66 0, Value.int 2 0, Value.int 0 0, Value.int 0 0, Value.int 3 0, Value.ref 43, Value.bool true, Value.int 181 0, Value.ref 44, Value.none, Value.ref 45, Value.ref 46, Value.ref 47, Value.int 265 0, Value.int 66 0, Value.str (Str.ofString "/claim/cut.py") 266] }
noncomputable def ob49x43 (P : Params) : Obj := { cls := Value.type "function", data := Data.func { name := Str.ofString "_strcoll", qualname := Str.ofString "_strcoll", params := (Wu.dr 9).params, body := FuncBody.stmts (Wu.dr 9).body, scope := (Wu.dr 9).scope, globals := 3, closure := [], defaults := Value.none, kwdefaults := Value.none, pyModule := Value.str (Str.ofString "cpy313.locale") 258, code := Value.ref 48 } }
noncomputable def lst10 (P : Params) : List Obj := [boot_o_0 P, boot_o_1 P, boot_o_2 P, ob3x28 P, boot_o_4 P, boot_o_5 P, boot_o_6 P, boot_o_7 P, boot_o_8 P, boot_o_9 P, boot_o_10 P, ob11x0 P, ob12x29 P, ob13x2 P, ob14x3 P, ob15x7 P, ob16x8 P, ob17x9 P, ob18x10 P, ob19x11 P, ob20x12 P, ob21x13 P, ob22x14 P, ob23x15 P, ob24x16 P, ob25x17 P, ob26x18 P, ob27x19 P, ob28x20 P, ob29x21 P, ob30x22 P, ob31x23 P, ob32x24 P, ob33x25 P, ob34x26 P, ob35x27 P, ob36x30 P, ob37x31 P, ob38x32 P, ob39x33 P, ob40x34 P, ob41x35 P, ob42x36 P, ob43x37 P, ob44x38 P, ob45x39 P, ob46x40 P, ob47x41 P, ob48x42 P, ob49x43 P]
noncomputable def sta10 (w : World) (os : OsState) : SharedT := ⟨mkT 12 (lst10 w.params), 50, {}, #[], {}, 268, os⟩
noncomputable def ps10 : Pos := ⟨66, 0, 67, 28⟩
noncomputable def nE18 (P : Params) : DictEntry := { hash := PyData.keyHash P (Str.ofString "__name__"), key := Value.str (Str.ofString "__name__") 165, val := Value.str (Str.ofString "cpy313.operator") 275 }
noncomputable def nE19 (P : Params) : DictEntry := { hash := PyData.keyHash P (Str.ofString "_strxfrm"), key := Value.str (Str.ofString "_strxfrm") 274, val := Value.ref 56 }
noncomputable def nE20 (P : Params) : DictEntry := { hash := PyData.keyHash P (Str.ofString "mul"), key := Value.str (Str.ofString "mul") 284, val := Value.ref 63 }
noncomputable def ob3x44 (P : Params) : Obj := { cls := Value.type "dict", data := Data.dict #[nE18 P, nE1 P, nE2 P, nE3 P, nE4 P, nE5 P, nE6 P, nE7 P, nE8 P, nE9 P, nE10 P, nE11 P, nE12 P, nE13 P, nE14 P, nE16 P, nE17 P, nE19 P, nE20 P] 19 }
noncomputable def ob12x45 (P : Params) : Obj := { cls := Value.none, data := Data.fields #[Value.int 5 0, Value.int 0 0, Value.ref 20, Value.int 28 0, Value.int 0 0, Value.ref 27, Value.int 37 0, Value.int 0 0, Value.ref 34, Value.int 46 0, Value.int 0 0, Value.ref 41, Value.int 66 0, Value.int 0 0, Value.ref 48, Value.int 68 0, Value.int 0 0, Value.ref 55, Value.int 71 0, Value.int 0 0, Value.ref 62] }
noncomputable def ob50x46 (P : Params) : Obj := { cls := Value.type "tuple", data := Data.seq #[] }
noncomputable def ob51x47 (P : Params) : Obj := { cls := Value.none, data := Data.fields #[] }
noncomputable def ob52x48 (P : Params) : Obj := { cls := Value.type "tuple", data := Data.seq #[Value.str (Str.ofString "s") 271] }
noncomputable def ob53x49 (P : Params) : Obj := { cls := Value.type "tuple", data := Data.seq #[] }
noncomputable def ob54x50 (P : Params) : Obj := { cls := Value.none, data := Data.func { name := Str.ofString "_strxfrm", qualname := Str.ofString "_strxfrm", params := (Wu.dr 10).params, body := FuncBody.stmts (Wu.dr 10).body, scope := (Wu.dr 10).scope, globals := 0, closure := [], defaults := Value.none, kwdefaults := Value.none } }
noncomputable def ob55x51 (P : Params) : Obj := { cls := Value.type "code", data := Data.fields #[Value.str (Str.ofString "_strxfrm") 268, Value.str (Str.ofString "_strxfrm") 269, Value.str (Str.ofString "/claim/cut.py") 270, Value.int 68 0, Value.int 1 0, Value.int 0 0, Value.int 0 0, Value.int 3 0, Value.ref 50, Value.bool true, Value.int 181 0, Value.ref 51, Value.none, Value.ref 52, Value.ref 53, Value.ref 54, Value.int 272 0, Value.int 68 0, Value.str (Str.ofString "/claim/cut.py") 273] }
noncomputable def ob56x52 (P : Params) : Obj := { cls := Value.type "function", data := Data.func { name := Str.ofString "_strxfrm", qualname := Str.ofString "_strxfrm", params := (Wu.dr 10).params, body := FuncBody.stmts (Wu.dr 10).body, scope := (Wu.dr 10).scope, globals := 3, closure := [], defaults := Value.none, kwdefaults := Value.none, pyModule := Value.str (Str.ofString "cpy313.locale") 258, code := Value.ref 55 } }
noncomputable def ob57x53 (P : Params) : Obj := { cls := Value.type "tuple", data := Data.seq #[] }
noncomputable def ob58x54 (P : Params) : Obj := { cls := Value.none, data := Data.fields #[] }
noncomputable def ob59x55 (P : Params) : Obj := { cls := Value.type "tuple", data := Data.seq #[Value.str (Str.ofString "a") 280, Value.str (Str.ofString "b") 281] }
noncomputable def ob60x56 (P : Params) : Obj := { cls := Value.type "tuple", data := Data.seq #[] }
noncomputable def ob61x57 (P : Params) : Obj := { cls := Value.none, data := Data.func { name := Str.ofString "mul", qualname := Str.ofString "mul", params := (Wu.dr 12).params, body := FuncBody.stmts (Wu.dr 12).body, scope := (Wu.dr 9).scope, globals := 0, closure := [], defaults := Value.none, kwdefaults := Value.none } }
noncomputable def ob62x58 (P : Params) : Obj := { cls := Value.type "code", data := Data.fields #[Value.str (Str.ofString "mul") 277, Value.str (Str.ofString "mul") 278, Value.str (Str.ofString "/claim/cut.py") 279, Value.int 71 0, Value.int 2 0, Value.int 0 0, Value.int 0 0, Value.int 3 0, Value.ref 57, Value.bool true, Value.int 181 0, Value.ref 58, Value.none, Value.ref 59, Value.ref 60, Value.ref 61, Value.int 282 0, Value.int 71 0, Value.str (Str.ofString "/claim/cut.py") 283] }
noncomputable def ob63x59 (P : Params) : Obj := { cls := Value.type "function", data := Data.func { name := Str.ofString "mul", qualname := Str.ofString "mul", params := (Wu.dr 12).params, body := FuncBody.stmts (Wu.dr 12).body, scope := (Wu.dr 9).scope, globals := 3, closure := [], defaults := Value.none, kwdefaults := Value.none, pyModule := Value.str (Str.ofString "cpy313.operator") 275, code := Value.ref 62 } }
noncomputable def lst13 (P : Params) : List Obj := [boot_o_0 P, boot_o_1 P, boot_o_2 P, ob3x44 P, boot_o_4 P, boot_o_5 P, boot_o_6 P, boot_o_7 P, boot_o_8 P, boot_o_9 P, boot_o_10 P, ob11x0 P, ob12x45 P, ob13x2 P, ob14x3 P, ob15x7 P, ob16x8 P, ob17x9 P, ob18x10 P, ob19x11 P, ob20x12 P, ob21x13 P, ob22x14 P, ob23x15 P, ob24x16 P, ob25x17 P, ob26x18 P, ob27x19 P, ob28x20 P, ob29x21 P, ob30x22 P, ob31x23 P, ob32x24 P, ob33x25 P, ob34x26 P, ob35x27 P, ob36x30 P, ob37x31 P, ob38x32 P, ob39x33 P, ob40x34 P, ob41x35 P, ob42x36 P, ob43x37 P, ob44x38 P, ob45x39 P, ob46x40 P, ob47x41 P, ob48x42 P, ob49x43 P, ob50x46 P, ob51x47 P, ob52x48 P, ob53x49 P, ob54x50 P, ob55x51 P, ob56x52 P, ob57x53 P, ob58x54 P, ob59x55 P, ob60x56 P, ob61x57 P, ob62x58 P, ob63x59 P]
noncomputable def sta13 (w : World) (os : OsState) : SharedT := ⟨mkT 12 (lst13 w.params), 64, {}, #[], {}, 285, os⟩
noncomputable def ps13 : Pos := ⟨71, 0, 72, 16⟩
noncomputable def nE21 (P : Params) : DictEntry := { hash := PyData.keyHash P (Str.ofString "truediv"), key := Value.str (Str.ofString "truediv") 292, val := Value.ref 70 }
noncomputable def nE22 (P : Params) : DictEntry := { hash := PyData.keyHash P (Str.ofString "xor"), key := Value.str (Str.ofString "xor") 300, val := Value.ref 77 }
noncomputable def nE23 (P : Params) : DictEntry := { hash := PyData.keyHash P (Str.ofString "iadd"), key := Value.str (Str.ofString "iadd") 308, val := Value.ref 84 }
noncomputable def ob3x60 (P : Params) : Obj := { cls := Value.type "dict", data := Data.dict #[nE18 P, nE1 P, nE2 P, nE3 P, nE4 P, nE5 P, nE6 P, nE7 P, nE8 P, nE9 P, nE10 P, nE11 P, nE12 P, nE13 P, nE14 P, nE16 P, nE17 P, nE19 P, nE20 P, nE21 P, nE22 P, nE23 P] 22 }
noncomputable def ob12x61 (P : Params) : Obj := { cls := Value.none, data := Data.fields #[Value.int 5 0, Value.int 0 0, Value.ref 20, Value.int 28 0, Value.int 0 0, Value.ref 27, Value.int 37 0, Value.int 0 0, Value.ref 34, Value.int 46 0, Value.int 0 0, Value.ref 41, Value.int 66 0, Value.int 0 0, Value.ref 48, Value.int 68 0, Value.int 0 0, Value.ref 55, Value.int 71 0, Value.int 0 0, Value.ref 62, Value.int 73 0, Value.int 0 0, Value.ref 69, Value.int 75 0, Value.int 0 0, Value.ref 76, Value.int 77 0, Value.int 0 0, Value.ref 83] }
noncomputable def ob64x62 (P : Params) : Obj := { cls := Value.type "tuple", data := Data.seq #[] }
noncomputable def ob65x63 (P : Params) : Obj := { cls := Value.none, data := Data.fields #[] }
noncomputable def ob66x64 (P : Params) : Obj := { cls := Value.type "tuple", data := Data.seq #[Value.str (Str.ofString "a") 288, Value.str (Str.ofString "b") 289] }
noncomputable def ob67x65 (P : Params) : Obj := { cls := Value.type "tuple", data := Data.seq #[] }
noncomputable def ob68x66 (P : Params) : Obj := { cls := Value.none, data := Data.func { name := Str.ofString "truediv", qualname := Str.ofString "truediv", params := (Wu.dr 13).params, body := FuncBody.stmts (Wu.dr 13).body, scope := (Wu.dr 9).scope, globals := 0, closure := [], defaults := Value.none, kwdefaults := Value.none } }
noncomputable def ob69x67 (P : Params) : Obj := { cls := Value.type "code", data := Data.fields #[Value.str (Str.ofString "truediv") 285, Value.str (Str.ofString "truediv") 286, Value.str (Str.ofString "/claim/cut.py") 287, Value.int 73 0, Value.int 2 0, Value.int 0 0, Value.int 0 0, Value.int 3 0, Value.ref 64, Value.bool true, Value.int 181 0, Value.ref 65, Value.none, Value.ref 66, Value.ref 67, Value.ref 68, Value.int 290 0, Value.int 73 0, Value.str (Str.ofString "/claim/cut.py") 291] }
noncomputable def ob70x68 (P : Params) : Obj := { cls := Value.type "function", data := Data.func { name := Str.ofString "truediv", qualname := Str.ofString "truediv", params := (Wu.dr 13).params, body := FuncBody.stmts (Wu.dr 13).body, scope := (Wu.dr 9).scope, globals := 3, closure := [], defaults := Value.none, kwdefaults := Value.none, pyModule := Value.str (Str.ofString "cpy313.operator") 275, code := Value.ref 69 } }
noncomputable def ob71x69 (P : Params) : Obj := { cls := Value.type "tuple", data := Data.seq #[] }
noncomputable def ob72x70 (P : Params) : Obj := { cls := Value.none, data := Data.fields #[] }
noncomputable def ob73x71 (P : Params) : Obj := { cls := Value.type "tuple", data := Data.seq #[Value.str (Str.ofString "a") 296, Value.str (Str.ofString "b") 297] }
noncomputable def ob74x72 (P : Params) : Obj := { cls := Value.type "tuple", data := Data.seq #[] }
noncomputable def ob75x73 (P : Params) : Obj := { cls := Value.none, data := Data.func { name := Str.ofString "xor", qualname := Str.ofString "xor", params := (Wu.dr 14).params, body := FuncBody.stmts (Wu.dr 14).body, scope := (Wu.dr 9).scope, globals := 0, closure := [], defaults := Value.none, kwdefaults := Value.none } }
noncomputable def ob76x74 (P : Params) : Obj := { cls := Value.type "code", data := Data.fields #[Value.str (Str.ofString "xor") 293, Value.str (Str.ofString "xor") 294, Value.str (Str.ofString "/claim/cut.py") 295, Value.int 75 0, Value.int 2 0, Value.int 0 0, Value.int 0 0, Value.int 3 0, Value.ref 71, Value.bool true, Value.int 181 0, Value.ref 72, Value.none, Value.ref 73, Value.ref 74, Value.ref 75, Value.int 298 0, Value.int 75 0, Value.str (Str.ofString "/claim/cut.py") 299] }
noncomputable def ob77x75 (P : Params) : Obj := { cls := Value.type "function", data := Data.func { name := Str.ofString "xor", qualname := Str.ofString "xor", params := (Wu.dr 14).params, body := FuncBody.stmts (Wu.dr 14).body, scope := (Wu.dr 9).scope, globals := 3, closure := [], defaults := Value.none, kwdefaults := Value.none, pyModule := Value.str (Str.ofString "cpy313.operator") 275, code := Value.ref 76 } }
noncomputable def ob78x76 (P : Params) : Obj := { cls := Value.type "tuple", data := Data.seq #[] }
noncomputable def ob79x77 (P : Params) : Obj := { cls := Value.none, data := Data.fields #[] }
noncomputable def ob80x78 (P : Params) : Obj := { cls := Value.type "tuple", data := Data.seq #[Value.str (Str.ofString "a") 304, Value.str (Str.ofString "b") 305] }
noncomputable def ob81x79 (P : Params) : Obj := { cls := Value.type "tuple", data := Data.seq #[] }
noncomputable def ob82x80 (P : Params) : Obj := { cls := Value.none, data := Data.func { name := Str.ofString "iadd", qualname := Str.ofString "iadd", params := (Wu.dr 15).params, body := FuncBody.stmts (Wu.dr 15).body, scope := (Wu.dr 9).scope, globals := 0, closure := [], defaults := Value.none, kwdefaults := Value.none } }
noncomputable def ob83x81 (P : Params) : Obj := { cls := Value.type "code", data := Data.fields #[Value.str (Str.ofString "iadd") 301, Value.str (Str.ofString "iadd") 302, Value.str (Str.ofString "/claim/cut.py") 303, Value.int 77 0, Value.int 2 0, Value.int 0 0, Value.int 0 0, Value.int 3 0, Value.ref 78, Value.bool true, Value.int 181 0, Value.ref 79, Value.none, Value.ref 80, Value.ref 81, Value.ref 82, Value.int 306 0, Value.int 77 0, Value.str (Str.ofString "/claim/cut.py") 307] }
noncomputable def ob84x82 (P : Params) : Obj := { cls := Value.type "function", data := Data.func { name := Str.ofString "iadd", qualname := Str.ofString "iadd", params := (Wu.dr 15).params, body := FuncBody.stmts (Wu.dr 15).body, scope := (Wu.dr 9).scope, globals := 3, closure := [], defaults := Value.none, kwdefaults := Value.none, pyModule := Value.str (Str.ofString "cpy313.operator") 275, code := Value.ref 83 } }
noncomputable def lst16 (P : Params) : List Obj := [boot_o_0 P, boot_o_1 P, boot_o_2 P, ob3x60 P, boot_o_4 P, boot_o_5 P, boot_o_6 P, boot_o_7 P, boot_o_8 P, boot_o_9 P, boot_o_10 P, ob11x0 P, ob12x61 P, ob13x2 P, ob14x3 P, ob15x7 P, ob16x8 P, ob17x9 P, ob18x10 P, ob19x11 P, ob20x12 P, ob21x13 P, ob22x14 P, ob23x15 P, ob24x16 P, ob25x17 P, ob26x18 P, ob27x19 P, ob28x20 P, ob29x21 P, ob30x22 P, ob31x23 P, ob32x24 P, ob33x25 P, ob34x26 P, ob35x27 P, ob36x30 P, ob37x31 P, ob38x32 P, ob39x33 P, ob40x34 P, ob41x35 P, ob42x36 P, ob43x37 P, ob44x38 P, ob45x39 P, ob46x40 P, ob47x41 P, ob48x42 P, ob49x43 P, ob50x46 P, ob51x47 P, ob52x48 P, ob53x49 P, ob54x50 P, ob55x51 P, ob56x52 P, ob57x53 P, ob58x54 P, ob59x55 P, ob60x56 P, ob61x57 P, ob62x58 P, ob63x59 P, ob64x62 P, ob65x63 P, ob66x64 P, ob67x65 P, ob68x66 P, ob69x67 P, ob70x68 P, ob71x69 P, ob72x70 P, ob73x71 P, ob74x72 P, ob75x73 P, ob76x74 P, ob77x75 P, ob78x76 P, ob79x77 P, ob80x78 P, ob81x79 P, ob82x80 P, ob83x81 P, ob84x82 P]
noncomputable def sta16 (w : World) (os : OsState) : SharedT := ⟨mkT 12 (lst16 w.params), 85, {}, #[], {}, 309, os⟩
noncomputable def ps16 : Pos := ⟨77, 0, 79, 12⟩
noncomputable def nE24 (P : Params) : DictEntry := { hash := PyData.keyHash P (Str.ofString "__name__"), key := Value.str (Str.ofString "__name__") 165, val := Value.str (Str.ofString "cpy313.stringprep") 317 }
noncomputable def nE25 (P : Params) : DictEntry := { hash := PyData.keyHash P (Str.ofString "isub"), key := Value.str (Str.ofString "isub") 316, val := Value.ref 91 }
noncomputable def ob3x83 (P : Params) : Obj := { cls := Value.type "dict", data := Data.dict #[nE24 P, nE1 P, nE2 P, nE3 P, nE4 P, nE5 P, nE6 P, nE7 P, nE8 P, nE9 P, nE10 P, nE11 P, nE12 P, nE13 P, nE14 P, nE16 P, nE17 P, nE19 P, nE20 P, nE21 P, nE22 P, nE23 P, nE25 P] 23 }
noncomputable def ob12x84 (P : Params) : Obj := { cls := Value.none, data := Data.fields #[Value.int 5 0, Value.int 0 0, Value.ref 20, Value.int 28 0, Value.int 0 0, Value.ref 27, Value.int 37 0, Value.int 0 0, Value.ref 34, Value.int 46 0, Value.int 0 0, Value.ref 41, Value.int 66 0, Value.int 0 0, Value.ref 48, Value.int 68 0, Value.int 0 0, Value.ref 55, Value.int 71 0, Value.int 0 0, Value.ref 62, Value.int 73 0, Value.int 0 0, Value.ref 69, Value.int 75 0, Value.int 0 0, Value.ref 76, Value.int 77 0, Value.int 0 0, Value.ref 83, Value.int 80 0, Value.int 0 0, Value.ref 90] }
noncomputable def ob85x85 (P : Params) : Obj := { cls := Value.type "tuple", data := Data.seq #[] }
noncomputable def ob86x86 (P : Params) : Obj := { cls := Value.none, data := Data.fields #[] }
noncomputable def ob87x87 (P : Params) : Obj := { cls := Value.type "tuple", data := Data.seq #[Value.str (Str.ofString "a") 312, Value.str (Str.ofString "b") 313] }
noncomputable def ob88x88 (P : Params) : Obj := { cls := Value.type "tuple", data := Data.seq #[] }
noncomputable def ob89x89 (P : Params) : Obj := { cls := Value.none, data := Data.func { name := Str.ofString "isub", qualname := Str.ofString "isub", params := (Wu.dr 16).params, body := FuncBody.stmts (Wu.dr 16).body, scope := (Wu.dr 9).scope, globals := 0, closure := [], defaults := Value.none, kwdefaults := Value.none } }
noncomputable def ob90x90 (P : Params) : Obj := { cls := Value.type "code", data := Data.fields #[Value.str (Str.ofString "isub") 309, Value.str (Str.ofString "isub") 310, Value.str (Str.ofString "/claim/cut.py") 311, Value.int 80 0, Value.int 2 0, Value.int 0 0, Value.int 0 0, Value.int 3 0, Value.ref 85, Value.bool true, Value.int 181 0, Value.ref 86, Value.none, Value.ref 87, Value.ref 88, Value.ref 89, Value.int 314 0, Value.int 80 0, Value.str (Str.ofString "/claim/cut.py") 315] }
noncomputable def ob91x91 (P : Params) : Obj := { cls := Value.type "function", data := Data.func { name := Str.ofString "isub", qualname := Str.ofString "isub", params := (Wu.dr 16).params, body := FuncBody.stmts (Wu.dr 16).body, scope := (Wu.dr 9).scope, globals := 3, closure := [], defaults := Value.none, kwdefaults := Value.none, pyModule := Value.str (Str.ofString "cpy313.operator") 275, code := Value.ref 90 } }
noncomputable def lst18 (P : Params) : List Obj := [boot_o_0 P, boot_o_1 P, boot_o_2 P, ob3x83 P, boot_o_4 P, boot_o_5 P, boot_o_6 P, boot_o_7 P, boot_o_8 P, boot_o_9 P, boot_o_10 P, ob11x0 P, ob12x84 P, ob13x2 P, ob14x3 P, ob15x7 P, ob16x8 P, ob17x9 P, ob18x10 P, ob19x11 P, ob20x12 P, ob21x13 P, ob22x14 P, ob23x15 P, ob24x16 P, ob25x17 P, ob26x18 P, ob27x19 P, ob28x20 P, ob29x21 P, ob30x22 P, ob31x23 P, ob32x24 P, ob33x25 P, ob34x26 P, ob35x27 P, ob36x30 P, ob37x31 P, ob38x32 P, ob39x33 P, ob40x34 P, ob41x35 P, ob42x36 P, ob43x37 P, ob44x38 P, ob45x39 P, ob46x40 P, ob47x41 P, ob48x42 P, ob49x43 P, ob50x46 P, ob51x47 P, ob52x48 P, ob53x49 P, ob54x50 P, ob55x51 P, ob56x52 P, ob57x53 P, ob58x54 P, ob59x55 P, ob60x56 P, ob61x57 P, ob62x58 P, ob63x59 P, ob64x62 P, ob65x63 P, ob66x64 P, ob67x65 P, ob68x66 P, ob69x67 P, ob70x68 P, ob71x69 P, ob72x70 P, ob73x71 P, ob74x72 P, ob75x73 P, ob76x74 P, ob77x75 P, ob78x76 P, ob79x77 P, ob80x78 P, ob81x79 P, ob82x80 P, ob83x81 P, ob84x82 P, ob85x85 P, ob86x86 P, ob87x87 P, ob88x88 P, ob89x89 P, ob90x90 P, ob91x91 P]
noncomputable def sta18 (w : World) (os : OsState) : SharedT := ⟨mkT 12 (lst18 w.params), 92, {}, #[], {}, 319, os⟩
noncomputable def ps18 : Pos := ⟨83, 0, 83, 8⟩
noncomputable def nE26 (P : Params) : DictEntry := { hash := PyData.keyHash P (Str.ofString "b1_set"), key := Value.str (Str.ofString "b1_set") 378, val := Value.ref 99 }
noncomputable def ob3x92 (P : Params) : Obj := { cls := Value.type "dict", data := Data.dict #[nE24 P, nE1 P, nE2 P, nE3 P, nE4 P, nE5 P, nE6 P, nE7 P, nE8 P, nE9 P, nE10 P, nE11 P, nE12 P, nE13 P, nE14 P, nE16 P, nE17 P, nE19 P, nE20 P, nE21 P, nE22 P, nE23 P, nE25 P, nE26 P] 24 }
noncomputable def ob92x93 (P : Params) : Obj := { cls := Value.type "list", data := Data.seq #[Value.int 173 319, Value.int 847 320, Value.int 6150 321, Value.int 6155 322, Value.int 6156 323, Value.int 6157 324, Value.int 8203 325, Value.int 8204 326, Value.int 8205 327, Value.int 8288 328, Value.int 65279 329] }
noncomputable def ob93x94 (P : Params) : Obj := { cls := Value.type "range", data := Data.fields #[Value.int 65024 330, Value.int 65040 331, Value.int 1 332] }
noncomputable def ob94x95 (P : Params) : Obj := { cls := Value.type "list", data := Data.seq #[Value.int 65024 335, Value.int 65025 336, Value.int 65026 337, Value.int 65027 338, Value.int 65028 339, Value.int 65029 340, Value.int 65030 341, Value.int 65031 342, Value.int 65032 343, Value.int 65033 344, Value.int 65034 345, Value.int 65035 346, Value.int 65036 347, Value.int 65037 348, Value.int 65038 349, Value.int 65039 350] 18 }
noncomputable def ob95x96 (P : Params) : Obj := { cls := Value.type "range_iterator", data := Data.fields #[Value.int 65040 0, Value.int 0 0, Value.int 1 0] }
noncomputable def ob96x97 (P : Params) : Obj := { cls := Value.type "tuple", data := Data.seq #[] }
noncomputable def ob97x98 (P : Params) : Obj := { cls := Value.type "StopIteration", data := Data.fields #[Value.ref 96, Value.none, Value.none, Value.none, Value.bool false, Value.none] }
noncomputable def ob98x99 (P : Params) : Obj := { cls := Value.type "list", data := Data.seq #[Value.int 173 319, Value.int 847 320, Value.int 6150 321, Value.int 6155 322, Value.int 6156 323, Value.int 6157 324, Value.int 8203 325, Value.int 8204 326, Value.int 8205 327, Value.int 8288 328, Value.int 65279 329, Value.int 65024 335, Value.int 65025 336, Value.int 65026 337, Value.int 65027 338, Value.int 65028 339, Value.int 65029 340, Value.int 65030 341, Value.int 65031 342, Value.int 65032 343, Value.int 65033 344, Value.int 65034 345, Value.int 65035 346, Value.int 65036 347, Value.int 65037 348, Value.int 65038 349, Value.int 65039 350] }
noncomputable def ob99x100 (P : Params) : Obj := { cls := Value.type "set", data := Data.set #[(65024, Value.int 65024 335), (65025, Value.int 65025 336), (65026, Value.int 65026 337), (65027, Value.int 65027 338), (65028, Value.int 65028 339), (65029, Value.int 65029 340), (6150, Value.int 6150 321), (65030, Value.int 65030 341), (65031, Value.int 65031 342), (65032, Value.int 65032 343), (65033, Value.int 65033 344), (6155, Value.int 6155 322), (6156, Value.int 6156 323), (6157, Value.int 6157 324), (8203, Value.int 8203 325), (8204, Value.int 8204 326), (8205, Value.int 8205 327), (65034, Value.int 65034 345), (65035, Value.int 65035 346), (65036, Value.int 65036 347), (65037, Value.int 65037 348), (65038, Value.int 65038 349), (65039, Value.int 65039 350), (173, Value.int 173 319), (847, Value.int 847 320), (8288, Value.int 8288 328), (65279, Value.int 65279 329)] 29 { mask := 127, place := #[0, 1, 2, 3, 4, 5, 6, 7, 8, 9, 10, 11, 12, 13, 14, 15, 16, 17, 18, 19, 20, 21, 22, 45, 79, 96, 127], dummies := #[], finger := 0, led := !P.followText "set-order", moves := 2, plain := true } }
noncomputable def ob100x101 (P : Params) : Obj := { cls := Value.type "list_iterator", data := Data.fields #[Value.none, Value.int 27 0] }
noncomputable def ob101x102 (P : Params) : Obj := { cls := Value.type "tuple", data := Data.seq #[] }
noncomputable def ob102x103 (P : Params) : Obj := { cls := Value.type "StopIteration", data := Data.fields #[Value.ref 101, Value.none, Value.none, Value.none, Value.bool false, Value.none] }
noncomputable def lst19 (P : Params) : List Obj := [boot_o_0 P, boot_o_1 P, boot_o_2 P, ob3x92 P, boot_o_4 P, boot_o_5 P, boot_o_6 P, boot_o_7 P, boot_o_8 P, boot_o_9 P, boot_o_10 P, ob11x0 P, ob12x84 P, ob13x2 P, ob14x3 P, ob15x7 P, ob16x8 P, ob17x9 P, ob18x10 P, ob19x11 P, ob20x12 P, ob21x13 P, ob22x14 P, ob23x15 P, ob24x16 P, ob25x17 P, ob26x18 P, ob27x19 P, ob28x20 P, ob29x21 P, ob30x22 P, ob31x23 P, ob32x24 P, ob33x25 P, ob34x26 P, ob35x27 P, ob36x30 P, ob37x31 P, ob38x32 P, ob39x33 P, ob40x34 P, ob41x35 P, ob42x36 P, ob43x37 P, ob44x38 P, ob45x39 P, ob46x40 P, ob47x41 P, ob48x42 P, ob49x43 P, ob50x46 P, ob51x47 P, ob52x48 P, ob53x49 P, ob54x50 P, ob55x51 P, ob56x52 P, ob57x53 P, ob58x54 P, ob59x55 P, ob60x56 P, ob61x57 P, ob62x58 P, ob63x59 P, ob64x62 P, ob65x63 P, ob66x64 P, ob67x65 P, ob68x66 P, ob69x67 P, ob70x68 P, ob71x69 P, ob72x70 P, ob73x71 P, ob74x72 P, ob75x73 P, ob76x74 P, ob77x75 P, ob78x76 P, ob79x77 P, ob80x78 P, ob81x79 P, ob82x80 P, ob83x81 P, ob84x82 P, ob85x85 P, ob86x86 P, ob87x87 P, ob88x88 P, ob89x89 P, ob90x90 P, ob91x91 P, ob92x93 P, ob93x94 P, ob94x95 P, ob95x96 P, ob96x97 P, ob97x98 P, ob98x99 P, ob99x100 P, ob100x101 P, ob101x102 P, ob102x103 P]
noncomputable def sta19 (w : World) (os : OsState) : SharedT := ⟨mkT 12 (lst19 w.params), 103, {}, #[], {}, 379, os⟩
noncomputable def ps19 : Pos := ⟨84, 0, 84, 6⟩
noncomputable def nE27 (P : Params) : DictEntry := { hash := PyData.keyHash P (Str.ofString "in_table_b1"), key := Value.str (Str.ofString "in_table_b1") 385, val := Value.ref 109 }
noncomputable def ob3x104 (P : Params) : Obj := { cls := Value.type "dict", data := Data.dict #[nE24 P, nE1 P, nE2 P, nE3 P, nE4 P, nE5 P, nE6 P, nE7 P, nE8 P, nE9 P, nE10 P, nE11 P, nE12 P, nE13 P, nE14 P, nE16 P, nE17 P, nE19 P, nE20 P, nE21 P, nE22 P, nE23 P, nE25 P, nE26 P, nE27 P] 25 }
noncomputable def ob12x105 (P : Params) : Obj := { cls := Value.none, data := Data.fields #[Value.int 5 0, Value.int 0 0, Value.ref 20, Value.int 28 0, Value.int 0 0, Value.ref 27, Value.int 37 0, Value.int 0 0, Value.ref 34, Value.int 46 0, Value.int 0 0, Value.ref 41, Value.int 66 0, Value.int 0 0, Value.ref 48, Value.int 68 0, Value.int 0 0, Value.ref 55, Value.int 71 0, Value.int 0 0, Value.ref 62, Value.int 73 0, Value.int 0 0, Value.ref 69, Value.int 75 0, Value.int 0 0, Value.ref 76, Value.int 77 0, Value.int 0 0, Value.ref 83, Value.int 80 0, Value.int 0 0, Value.ref 90, Value.int 85 0, Value.int 0 0, Value.ref 108] }
noncomputable def ob103x106 (P : Params) : Obj := { cls := Value.type "tuple", data := Data.seq #[] }
noncomputable def ob104x107 (P : Params) : Obj := { cls := Value.none, data := Data.fields #[] }
noncomputable def ob105x108 (P : Params) : Obj := { cls := Value.type "tuple", data := Data.seq #[Value.str (Str.ofString "code") 382] }
noncomputable def ob106x109 (P : Params) : Obj := { cls := Value.type "tuple", data := Data.seq #[] }
noncomputable def ob107x110 (P : Params) : Obj := { cls := Value.none, data := Data.func { name := Str.ofString "in_table_b1", qualname := Str.ofString "in_table_b1", params := (Wu.dr 19).params, body := FuncBody.stmts (Wu.dr 19).body, scope := (Wu.dr 19).scope, globals := 0, closure := [], defaults := Value.none, kwdefaults := Value.none } }
noncomputable def ob108x111 (P : Params) : Obj := { cls := Value.type "code", data := Data.fields #[Value.str (Str.ofString "in_table_b1") 379, Value.str (Str.ofString "in_table_b1") 380, Value.str (Str.ofString "/claim/cut.py") 381, Value.int 85 0, Value.int 1 0, Value.int 0 0, Value.int 0 0, Value.int 3 0, Value.ref 103, Value.bool true, Value.int 181 0, Value.ref 104, Value.none, Value.ref 105, Value.ref 106, Value.ref 107, Value.int 383 0, Value.int 85 0, Value.str (Str.ofString "/claim/cut.py") 384] }
noncomputable def ob109x112 (P : Params) : Obj := { cls := Value.type "function", data := Data.func { name := Str.ofString "in_table_b1", qualname := Str.ofString "in_table_b1", params := (Wu.dr 19).params, body := FuncBody.stmts (Wu.dr 19).body, scope := (Wu.dr 19).scope, globals := 3, closure := [], defaults := Value.none, kwdefaults := Value.none, pyModule := Value.str (Str.ofString "cpy313.stringprep") 317, code := Value.ref 108 } }
noncomputable def lst20 (P : Params) : List Obj := [boot_o_0 P, boot_o_1 P, boot_o_2 P, ob3x104 P, boot_o_4 P, boot_o_5 P, boot_o_6 P, boot_o_7 P, boot_o_8 P, boot_o_9 P, boot_o_10 P, ob11x0 P, ob12x105 P, ob13x2 P, ob14x3 P, ob15x7 P, ob16x8 P, ob17x9 P, ob18x10 P, ob19x11 P, ob20x12 P, ob21x13 P, ob22x14 P, ob23x15 P, ob24x16 P, ob25x17 P, ob26x18 P, ob27x19 P, ob28x20 P, ob29x21 P, ob30x22 P, ob31x23 P, ob32x24 P, ob33x25 P, ob34x26 P, ob35x27 P, ob36x30 P, ob37x31 P, ob38x32 P, ob39x33 P, ob40x34 P, ob41x35 P, ob42x36 P, ob43x37 P, ob44x38 P, ob45x39 P, ob46x40 P, ob47x41 P, ob48x42 P, ob49x43 P, ob50x46 P, ob51x47 P, ob52x48 P, ob53x49 P, ob54x50 P, ob55x51 P, ob56x52 P, ob57x53 P, ob58x54 P, ob59x55 P, ob60x56 P, ob61x57 P, ob62x58 P, ob63x59 P, ob64x62 P, ob65x63 P, ob66x64 P, ob67x65 P, ob68x66 P, ob69x67 P, ob70x68 P, ob71x69 P, ob72x70 P, ob73x71 P, ob74x72 P, ob75x73 P, ob76x74 P, ob77x75 P, ob78x76 P, ob79x77 P, ob80x78 P, ob81x79 P, ob82x80 P, ob83x81 P, ob84x82 P, ob85x85 P, ob86x86 P, ob87x87 P, ob88x88 P, ob89x89 P, ob90x90 P, ob91x91 P, ob92x93 P, ob93x94 P, ob94x95 P, ob95x96 P, ob96x97 P, ob97x98 P, ob98x99 P, ob99x100 P, ob100x101 P, ob101x102 P, ob102x103 P, ob103x106 P, ob104x107 P, ob105x108 P, ob106x109 P, ob107x110 P, ob108x111 P, ob109x112 P]
noncomputable def sta20 (w : World) (os : OsState) : SharedT := ⟨mkT 12 (lst20 w.params), 110, {}, #[], {}, 386, os⟩
noncomputable def ps20 : Pos := ⟨85, 0, 86, 30⟩
noncomputable def nE28 (P : Params) : DictEntry := { hash := PyData.keyHash P (Str.ofString "b3_exceptions"), key := Value.str (Str.ofString "b3_exceptions") 2336, val := Value.ref 110 }
noncomputable def ob3x113 (P : Params) : Obj := { cls := Value.type "dict", data := Data.dict #[nE24 P, nE1 P, nE2 P, nE3 P, nE4 P, nE5 P, nE6 P, nE7 P, nE8 P, nE9 P, nE10 P, nE11 P, nE12 P, nE13 P, nE14 P, nE16 P, nE17 P, nE19 P, nE20 P, nE21 P, nE22 P, nE23 P, nE25 P, nE26 P, nE27 P, nE28 P] 26 }
noncomputable def lst21 (P : Params) : List Obj := [boot_o_0 P, boot_o_1 P, boot_o_2 P, ob3x113 P, boot_o_4 P, boot_o_5 P, boot_o_6 P, boot_o_7 P, boot_o_8 P, boot_o_9 P, boot_o_10 P, ob11x0 P, ob12x105 P, ob13x2 P, ob14x3 P, ob15x7 P, ob16x8 P, ob17x9 P, ob18x10 P, ob19x11 P, ob20x12 P, ob21x13 P, ob22x14 P, ob23x15 P, ob24x16 P, ob25x17 P, ob26x18 P, ob27x19 P, ob28x20 P, ob29x21 P, ob30x22 P, ob31x23 P, ob32x24 P, ob33x25 P, ob34x26 P, ob35x27 P, ob36x30 P, ob37x31 P, ob38x32 P, ob39x33 P, ob40x34 P, ob41x35 P, ob42x36 P, ob43x37 P, ob44x38 P, ob45x39 P, ob46x40 P, ob47x41 P, ob48x42 P, ob49x43 P, ob50x46 P, ob51x47 P, ob52x48 P, ob53x49 P, ob54x50 P, ob55x51 P, ob56x52 P, ob57x53 P, ob58x54 P, ob59x55 P, ob60x56 P, ob61x57 P, ob62x58 P, ob63x59 P, ob64x62 P, ob65x63 P, ob66x64 P, ob67x65 P, ob68x66 P, ob69x67 P, ob70x68 P, ob71x69 P, ob72x70 P, ob73x71 P, ob74x72 P, ob75x73 P, ob76x74 P, ob77x75 P, ob78x76 P, ob79x77 P, ob80x78 P, ob81x79 P, ob82x80 P, ob83x81 P, ob84x82 P, ob85x85 P, ob86x86 P, ob87x87 P, ob88x88 P, ob89x89 P, ob90x90 P, ob91x91 P, ob92x93 P, ob93x94 P, ob94x95 P, ob95x96 P, ob96x97 P, ob97x98 P, ob98x99 P, ob99x100 P, ob100x101 P, ob101x102 P, ob102x103 P, ob103x106 P, ob104x107 P, ob105x108 P, ob106x109 P, ob107x110 P, ob108x111 P, ob109x112 P, b3O 0 P, b3O 1 P, b3O 2 P, b3O 3 P, b3O 4 P, b3O 5 P, b3O 6 P, b3O 7 P, b3O 8 P, b3O 9 P, b3O 10 P, b3O 11 P, b3O 12 P, b3O 13 P, b3O 14 P, b3O 15 P, b3O 16 P, b3O 17 P, b3O 18 P, b3O 19 P, b3O 20 P, b3O 21 P, b3O 22 P, b3O 23 P, b3O 24 P, b3O 25 P, b3O 26 P, b3O 27 P, b3O 28 P, b3O 29 P, b3O 30 P, b3O 31 P, b3O 32 P, b3O 33 P, b3O 34 P, b3O 35 P, b3O 36 P, b3O 37 P, b3O 38 P]
noncomputable def sta21 (w : World) (os : OsState) : SharedT := ⟨mkT 12 (lst21 w.params), 149, {}, #[], {}, 2337, os⟩
noncomputable def ps21 : Pos := ⟨87, 0, 87, 13⟩
noncomputable def nE29 (P : Params) : DictEntry := { hash := PyData.keyHash P (Str.ofString "map_table_b3"), key := Value.str (Str.ofString "map_table_b3") 2344, val := Value.ref 155 }
noncomputable def ob3x114 (P : Params) : Obj := { cls := Value.type "dict", data := Data.dict #[nE24 P, nE1 P, nE2 P, nE3 P, nE4 P, nE5 P, nE6 P, nE7 P, nE8 P, nE9 P, nE10 P, nE11 P, nE12 P, nE13 P, nE14 P, nE16 P, nE17 P, nE19 P, nE20 P, nE21 P, nE22 P, nE23 P, nE25 P, nE26 P, nE27 P, nE28 P, nE29 P] 27 }
noncomputable def ob12x115 (P : Params) : Obj := { cls := Value.none, data := Data.fields #[Value.int 5 0, Value.int 0 0, Value.ref 20, Value.int 28 0, Value.int 0 0, Value.ref 27, Value.int 37 0, Value.int 0 0, Value.ref 34, Value.int 46 0, Value.int 0 0, Value.ref 41, Value.int 66 0, Value.int 0 0, Value.ref 48, Value.int 68 0, Value.int 0 0, Value.ref 55, Value.int 71 0, Value.int 0 0, Value.ref 62, Value.int 73 0, Value.int 0 0, Value.ref 69, Value.int 75 0, Value.int 0 0, Value.ref 76, Value.int 77 0, Value.int 0 0, Value.ref 83, Value.int 80 0, Value.int 0 0, Value.ref 90, Value.int 85 0, Value.int 0 0, Value.ref 108, Value.int 88 0, Value.int 0 0, Value.ref 154] }
noncomputable def ob149x116 (P : Params) : Obj := { cls := Value.type "tuple", data := Data.seq #[] }
noncomputable def ob150x117 (P : Params) : Obj := { cls := Value.none, data := Data.fields #[] }
noncomputable def ob151x118 (P : Params) : Obj := { cls := Value.type "tuple", data := Data.seq #[Value.str (Str.ofString "code") 2340, Value.str (Str.ofString "r") 2341] }
noncomputable def ob152x119 (P : Params) : Obj := { cls := Value.type "tuple", data := Data.seq #[] }
noncomputable def ob153x120 (P : Params) : Obj := { cls := Value.none, data := Data.func { name := Str.ofString "map_table_b3", qualname := Str.ofString "map_table_b3", params := (Wu.dr 21).params, body := FuncBody.stmts (Wu.dr 21).body, scope := (Wu.dr 21).scope, globals := 0, closure := [], defaults := Value.none, kwdefaults := Value.none } }
noncomputable def ob154x121 (P : Params) : Obj := { cls := Value.type "code", data := Data.fields #[Value.str (Str.ofString "map_table_b3") 2337, Value.str (Str.ofString "map_table_b3") 2338, Value.str (Str.ofString "/claim/cut.py") 2339, Value.int 88 0, Value.int 1 0, Value.int 0 0, Value.int 0 0, Value.int 3 0, Value.ref 149, Value.bool true, Value.int 181 0, Value.ref 150, Value.none, Value.ref 151, Value.ref 152, Value.ref 153, Value.int 2342 0, Value.int 88 0, Value.str (Str.ofString "/claim/cut.py") 2343] }
noncomputable def ob155x122 (P : Params) : Obj := { cls := Value.type "function", data := Data.func { name := Str.ofString "map_table_b3", qualname := Str.ofString "map_table_b3", params := (Wu.dr 21).params, body := FuncBody.stmts (Wu.dr 21).body, scope := (Wu.dr 21).scope, globals := 3, closure := [], defaults := Value.none, kwdefaults := Value.none, pyModule := Value.str (Str.ofString "cpy313.stringprep") 317, code := Value.ref 154 } }
noncomputable def lst22 (P : Params) : List Obj := [boot_o_0 P, boot_o_1 P, boot_o_2 P, ob3x114 P, boot_o_4 P, boot_o_5 P, boot_o_6 P, boot_o_7 P, boot_o_8 P, boot_o_9 P, boot_o_10 P, ob11x0 P, ob12x115 P, ob13x2 P, ob14x3 P, ob15x7 P, ob16x8 P, ob17x9 P, ob18x10 P, ob19x11 P, ob20x12 P, ob21x13 P, ob22x14 P, ob23x15 P, ob24x16 P, ob25x17 P, ob26x18 P, ob27x19 P, ob28x20 P, ob29x21 P, ob30x22 P, ob31x23 P, ob32x24 P, ob33x25 P, ob34x26 P, ob35x27 P, ob36x30 P, ob37x31 P, ob38x32 P, ob39x33 P, ob40x34 P, ob41x35 P, ob42x36 P, ob43x37 P, ob44x38 P, ob45x39 P, ob46x40 P, ob47x41 P, ob48x42 P, ob49x43 P, ob50x46 P, ob51x47 P, ob52x48 P, ob53x49 P, ob54x50 P, ob55x51 P, ob56x52 P, ob57x53 P, ob58x54 P, ob59x55 P, ob60x56 P, ob61x57 P, ob62x58 P, ob63x59 P, ob64x62 P, ob65x63 P, ob66x64 P, ob67x65 P, ob68x66 P, ob69x67 P, ob70x68 P, ob71x69 P, ob72x70 P, ob73x71 P, ob74x72 P, ob75x73 P, ob76x74 P, ob77x75 P, ob78x76 P, ob79x77 P, ob80x78 P, ob81x79 P, ob82x80 P, ob83x81 P, ob84x82 P, ob85x85 P, ob86x86 P, ob87x87 P, ob88x88 P, ob89x89 P, ob90x90 P, ob91x91 P, ob92x93 P, ob93x94 P, ob94x95 P, ob95x96 P, ob96x97 P, ob97x98 P, ob98x99 P, ob99x100 P, ob100x101 P, ob101x102 P, ob102x103 P, ob103x106 P, ob104x107 P, ob105x108 P, ob106x109 P, ob107x110 P, ob108x111 P, ob109x112 P, b3O 0 P, b3O 1 P, b3O 2 P, b3O 3 P, b3O 4 P, b3O 5 P, b3O 6 P, b3O 7 P, b3O 8 P, b3O 9 P, b3O 10 P, b3O 11 P, b3O 12 P, b3O 13 P, b3O 14 P, b3O 15 P, b3O 16 P, b3O 17 P, b3O 18 P, b3O 19 P, b3O 20 P, b3O 21 P, b3O 22 P, b3O 23 P, b3O 24 P, b3O 25 P, b3O 26 P, b3O 27 P, b3O 28 P, b3O 29 P, b3O 30 P, b3O 31 P, b3O 32 P, b3O 33 P, b3O 34 P, b3O 35 P, b3O 36 P, b3O 37 P, b3O 38 P, ob149x116 P, ob150x117 P, ob151x118 P, ob152x119 P, ob153x120 P, ob154x121 P, ob155x122 P]
noncomputable def sta22 (w : World) (os : OsState) : SharedT := ⟨mkT 12 (lst22 w.params), 156, {}, #[], {}, 2345, os⟩
noncomputable def ps22 : Pos := ⟨88, 0, 92, 23⟩
noncomputable def nE30 (P : Params) : DictEntry := { hash := PyData.keyHash P (Str.ofString "c7_set"), key := Value.str (Str.ofString "c7_set") 2372, val := Value.ref 157 }
noncomputable def ob3x123 (P : Params) : Obj := { cls := Value.type "dict", data := Data.dict #[nE24 P, nE1 P, nE2 P, nE3 P, nE4 P, nE5 P, nE6 P, nE7 P, nE8 P, nE9 P, nE10 P, nE11 P, nE12 P, nE13 P, nE14 P, nE16 P, nE17 P, nE19 P, nE20 P, nE21 P, nE22 P, nE23 P, nE25 P, nE26 P, nE27 P, nE28 P, nE29 P, nE30 P] 28 }
noncomputable def ob156x124 (P : Params) : Obj := { cls := Value.type "range", data := Data.fields #[Value.int 12272 2345, Value.int 12284 2346, Value.int 1 2347] }
noncomputable def ob157x125 (P : Params) : Obj := { cls := Value.type "set", data := Data.set #[(12272, Value.int 12272 2348), (12273, Value.int 12273 2350), (12274, Value.int 12274 2352), (12275, Value.int 12275 2354), (12276, Value.int 12276 2356), (12277, Value.int 12277 2358), (12278, Value.int 12278 2360), (12279, Value.int 12279 2362), (12280, Value.int 12280 2364), (12281, Value.int 12281 2366), (12282, Value.int 12282 2368), (12283, Value.int 12283 2370)] 13 { mask := 31, place := #[16, 17, 18, 19, 20, 21, 22, 23, 24, 25, 26, 27], dummies := #[], finger := 0, led := !P.followText "set-order", moves := 1, plain := true } }
noncomputable def ob158x126 (P : Params) : Obj := { cls := Value.type "range_iterator", data := Data.fields #[Value.int 12284 0, Value.int 0 0, Value.int 1 0] }
noncomputable def ob159x127 (P : Params) : Obj := { cls := Value.type "tuple", data := Data.seq #[] }
noncomputable def ob160x128 (P : Params) : Obj := { cls := Value.type "StopIteration", data := Data.fields #[Value.ref 159, Value.none, Value.none, Value.none, Value.bool false, Value.none] }
noncomputable def lst23 (P : Params) : List Obj := [boot_o_0 P, boot_o_1 P, boot_o_2 P, ob3x123 P, boot_o_4 P, boot_o_5 P, boot_o_6 P, boot_o_7 P, boot_o_8 P, boot_o_9 P, boot_o_10 P, ob11x0 P, ob12x115 P, ob13x2 P, ob14x3 P, ob15x7 P, ob16x8 P, ob17x9 P, ob18x10 P, ob19x11 P, ob20x12 P, ob21x13 P, ob22x14 P, ob23x15 P, ob24x16 P, ob25x17 P, ob26x18 P, ob27x19 P, ob28x20 P, ob29x21 P, ob30x22 P, ob31x23 P, ob32x24 P, ob33x25 P, ob34x26 P, ob35x27 P, ob36x30 P, ob37x31 P, ob38x32 P, ob39x33 P, ob40x34 P, ob41x35 P, ob42x36 P, ob43x37 P, ob44x38 P, ob45x39 P, ob46x40 P, ob47x41 P, ob48x42 P, ob49x43 P, ob50x46 P, ob51x47 P, ob52x48 P, ob53x49 P, ob54x50 P, ob55x51 P, ob56x52 P, ob57x53 P, ob58x54 P, ob59x55 P, ob60x56 P, ob61x57 P, ob62x58 P, ob63x59 P, ob64x62 P, ob65x63 P, ob66x64 P, ob67x65 P, ob68x66 P, ob69x67 P, ob70x68 P, ob71x69 P, ob72x70 P, ob73x71 P, ob74x72 P, ob75x73 P, ob76x74 P, ob77x75 P, ob78x76 P, ob79x77 P, ob80x78 P, ob81x79 P, ob82x80 P, ob83x81 P, ob84x82 P, ob85x85 P, ob86x86 P, ob87x87 P, ob88x88 P, ob89x89 P, ob90x90 P, ob91x91 P, ob92x93 P, ob93x94 P, ob94x95 P, ob95x96 P, ob96x97 P, ob97x98 P, ob98x99 P, ob99x100 P, ob100x101 P, ob101x102 P, ob102x103 P, ob103x106 P, ob104x107 P, ob105x108 P, ob106x109 P, ob107x110 P, ob108x111 P, ob109x112 P, b3O 0 P, b3O 1 P, b3O 2 P, b3O 3 P, b3O 4 P, b3O 5 P, b3O 6 P, b3O 7 P, b3O 8 P, b3O 9 P, b3O 10 P, b3O 11 P, b3O 12 P, b3O 13 P, b3O 14 P, b3O 15 P, b3O 16 P, b3O 17 P, b3O 18 P, b3O 19 P, b3O 20 P, b3O 21 P, b3O 22 P, b3O 23 P, b3O 24 P, b3O 25 P, b3O 26 P, b3O 27 P, b3O 28 P, b3O 29 P, b3O 30 P, b3O 31 P, b3O 32 P, b3O 33 P, b3O 34 P, b3O 35 P, b3O 36 P, b3O 37 P, b3O 38 P, ob149x116 P, ob150x117 P, ob151x118 P, ob152x119 P, ob153x120 P, ob154x121 P, ob155x122 P, ob156x124 P, ob157x125 P, ob158x126 P, ob159x127 P, ob160x128 P]
noncomputable def sta23 (w : World) (os : OsState) : SharedT := ⟨mkT 12 (lst23 w.params), 161, {}, #[], {}, 2373, os⟩
noncomputable def ps23 : Pos := ⟨93, 0, 93, 6⟩
noncomputable def nE31 (P : Params) : DictEntry := { hash := PyData.keyHash P (Str.ofString "in_table_c7"), key := Value.str (Str.ofString "in_table_c7") 2379, val := Value.ref 167 }
noncomputable def ob3x129 (P : Params) : Obj := { cls := Value.type "dict", data := Data.dict #[nE24 P, nE1 P, nE2 P, nE3 P, nE4 P, nE5 P, nE6 P, nE7 P, nE8 P, nE9 P, nE10 P, nE11 P, nE12 P, nE13 P, nE14 P, nE16 P, nE17 P, nE19 P, nE20 P, nE21 P, nE22 P, nE23 P, nE25 P, nE26 P, nE27 P, nE28 P, nE29 P, nE30 P, nE31 P] 29 }
noncomputable def ob12x130 (P : Params) : Obj := { cls := Value.none, data := Data.fields #[Value.int 5 0, Value.int 0 0, Value.ref 20, Value.int 28 0, Value.int 0 0, Value.ref 27, Value.int 37 0, Value.int 0 0, Value.ref 34, Value.int 46 0, Value.int 0 0, Value.ref 41, Value.int 66 0, Value.int 0 0, Value.ref 48, Value.int 68 0, Value.int 0 0, Value.ref 55, Value.int 71 0, Value.int 0 0, Value.ref 62, Value.int 73 0, Value.int 0 0, Value.ref 69, Value.int 75 0, Value.int 0 0, Value.ref 76, Value.int 77 0, Value.int 0 0, Value.ref 83, Value.int 80 0, Value.int 0 0, Value.ref 90, Value.int 85 0, Value.int 0 0, Value.ref 108, Value.int 88 0, Value.int 0 0, Value.ref 154, Value.int 94 0, Value.int 0 0, Value.ref 166] }
noncomputable def ob161x131 (P : Params) : Obj := { cls := Value.type "tuple", data := Data.seq #[] }
noncomputable def ob162x132 (P : Params) : Obj := { cls := Value.none, data := Data.fields #[] }
noncomputable def ob163x133 (P : Params) : Obj := { cls := Value.type "tuple", data := Data.seq #[Value.str (Str.ofString "code") 2376] }
noncomputable def ob164x134 (P : Params) : Obj := { cls := Value.type "tuple", data := Data.seq #[] }
noncomputable def ob165x135 (P : Params) : Obj := { cls := Value.none, data := Data.func { name := Str.ofString "in_table_c7", qualname := Str.ofString "in_table_c7", params := (Wu.dr 23).params, body := FuncBody.stmts (Wu.dr 23).body, scope := (Wu.dr 23).scope, globals := 0, closure := [], defaults := Value.none, kwdefaults := Value.none } }
noncomputable def ob166x136 (P : Params) : Obj := { cls := Value.type "code", data := Data.fields #[Value.str (Str.ofString "in_table_c7") 2373, Value.str (Str.ofString "in_table_c7") 2374, Value.str (Str.ofString "/claim/cut.py") 2375, Value.int 94 0, Value.int 1 0, Value.int 0 0, Value.int 0 0, Value.int 3 0, Value.ref 161, Value.bool true, Value.int 181 0, Value.ref 162, Value.none, Value.ref 163, Value.ref 164, Value.ref 165, Value.int 2377 0, Value.int 94 0, Value.str (Str.ofString "/claim/cut.py") 2378] }
noncomputable def ob167x137 (P : Params) : Obj := { cls := Value.type "function", data := Data.func { name := Str.ofString "in_table_c7", qualname := Str.ofString "in_table_c7", params := (Wu.dr 23).params, body := FuncBody.stmts (Wu.dr 23).body, scope := (Wu.dr 23).scope, globals := 3, closure := [], defaults := Value.none, kwdefaults := Value.none, pyModule := Value.str (Str.ofString "cpy313.stringprep") 317, code := Value.ref 166 } }
noncomputable def lst24 (P : Params) : List Obj := [boot_o_0 P, boot_o_1 P, boot_o_2 P, ob3x129 P, boot_o_4 P, boot_o_5 P, boot_o_6 P, boot_o_7 P, boot_o_8 P, boot_o_9 P, boot_o_10 P, ob11x0 P, ob12x130 P, ob13x2 P, ob14x3 P, ob15x7 P, ob16x8 P, ob17x9 P, ob18x10 P, ob19x11 P, ob20x12 P, ob21x13 P, ob22x14 P, ob23x15 P, ob24x16 P, ob25x17 P, ob26x18 P, ob27x19 P, ob28x20 P, ob29x21 P, ob30x22 P, ob31x23 P, ob32x24 P, ob33x25 P, ob34x26 P, ob35x27 P, ob36x30 P, ob37x31 P, ob38x32 P, ob39x33 P, ob40x34 P, ob41x35 P, ob42x36 P, ob43x37 P, ob44x38 P, ob45x39 P, ob46x40 P, ob47x41 P, ob48x42 P, ob49x43 P, ob50x46 P, ob51x47 P, ob52x48 P, ob53x49 P, ob54x50 P, ob55x51 P, ob56x52 P, ob57x53 P, ob58x54 P, ob59x55 P, ob60x56 P, ob61x57 P, ob62x58 P, ob63x59 P, ob64x62 P, ob65x63 P, ob66x64 P, ob67x65 P, ob68x66 P, ob69x67 P, ob70x68 P, ob71x69 P, ob72x70 P, ob73x71 P, ob74x72 P, ob75x73 P, ob76x74 P, ob77x75 P, ob78x76 P, ob79x77 P, ob80x78 P, ob81x79 P, ob82x80 P, ob83x81 P, ob84x82 P, ob85x85 P, ob86x86 P, ob87x87 P, ob88x88 P, ob89x89 P, ob90x90 P, ob91x91 P, ob92x93 P, ob93x94 P, ob94x95 P, ob95x96 P, ob96x97 P, ob97x98 P, ob98x99 P, ob99x100 P, ob100x101 P, ob101x102 P, ob102x103 P, ob103x106 P, ob104x107 P, ob105x108 P, ob106x109 P, ob107x110 P, ob108x111 P, ob109x112 P, b3O 0 P, b3O 1 P, b3O 2 P, b3O 3 P, b3O 4 P, b3O 5 P, b3O 6 P, b3O 7 P, b3O 8 P, b3O 9 P, b3O 10 P, b3O 11 P, b3O 12 P, b3O 13 P, b3O 14 P, b3O 15 P, b3O 16 P, b3O 17 P, b3O 18 P, b3O 19 P, b3O 20 P, b3O 21 P, b3O 22 P, b3O 23 P, b3O 24 P, b3O 25 P, b3O 26 P, b3O 27 P, b3O 28 P, b3O 29 P, b3O 30 P, b3O 31 P, b3O 32 P, b3O 33 P, b3O 34 P, b3O 35 P, b3O 36 P, b3O 37 P, b3O 38 P, ob149x116 P, ob150x117 P, ob151x118 P, ob152x119 P, ob153x120 P, ob154x121 P, ob155x122 P, ob156x124 P, ob157x125 P, ob158x126 P, ob159x127 P, ob160x128 P, ob161x131 P, ob162x132 P, ob163x133 P, ob164x134 P, ob165x135 P, ob166x136 P, ob167x137 P]
noncomputable def sta24 (w : World) (os : OsState) : SharedT := ⟨mkT 12 (lst24 w.params), 168, {}, #[], {}, 2380, os⟩
noncomputable def ps24 : Pos := ⟨94, 0, 95, 30⟩
noncomputable def nE32 (P : Params) : DictEntry := { hash := PyData.keyHash P (Str.ofString "c9_set"), key := Value.str (Str.ofString "c9_set") 2579, val := Value.ref 175 }
noncomputable def ob3x138 (P : Params) : Obj := { cls := Value.type "dict", data := Data.dict #[nE24 P, nE1 P, nE2 P, nE3 P, nE4 P, nE5 P, nE6 P, nE7 P, nE8 P, nE9 P, nE10 P, nE11 P, nE12 P, nE13 P, nE14 P, nE16 P, nE17 P, nE19 P, nE20 P, nE21 P, nE22 P, nE23 P, nE25 P, nE26 P, nE27 P, nE28 P, nE29 P, nE30 P, nE31 P, nE32 P] 30 }
noncomputable def ob168x139 (P : Params) : Obj := { cls := Value.type "list", data := Data.seq #[Value.int 917505 2380] }
noncomputable def ob169x140 (P : Params) : Obj := { cls := Value.type "range", data := Data.fields #[Value.int 917536 2381, Value.int 917632 2382, Value.int 1 2383] }
noncomputable def ob170x141 (P : Params) : Obj := { cls := Value.type "list", data := Data.seq #[Value.int 917536 2386, Value.int 917537 2387, Value.int 917538 2388, Value.int 917539 2389, Value.int 917540 2390, Value.int 917541 2391, Value.int 917542 2392, Value.int 917543 2393, Value.int 917544 2394, Value.int 917545 2395, Value.int 917546 2396, Value.int 917547 2397, Value.int 917548 2398, Value.int 917549 2399, Value.int 917550 2400, Value.int 917551 2401, Value.int 917552 2402, Value.int 917553 2403, Value.int 917554 2404, Value.int 917555 2405, Value.int 917556 2406, Value.int 917557 2407, Value.int 917558 2408, Value.int 917559 2409, Value.int 917560 2410, Value.int 917561 2411, Value.int 917562 2412, Value.int 917563 2413, Value.int 917564 2414, Value.int 917565 2415, Value.int 917566 2416, Value.int 917567 2417, Value.int 917568 2418, Value.int 917569 2419, Value.int 917570 2420, Value.int 917571 2421, Value.int 917572 2422, Value.int 917573 2423, Value.int 917574 2424, Value.int 917575 2425, Value.int 917576 2426, Value.int 917577 2427, Value.int 917578 2428, Value.int 917579 2429, Value.int 917580 2430, Value.int 917581 2431, Value.int 917582 2432, Value.int 917583 2433, Value.int 917584 2434, Value.int 917585 2435, Value.int 917586 2436, Value.int 917587 2437, Value.int 917588 2438, Value.int 917589 2439, Value.int 917590 2440, Value.int 917591 2441, Value.int 917592 2442, Value.int 917593 2443, Value.int 917594 2444, Value.int 917595 2445, Value.int 917596 2446, Value.int 917597 2447, Value.int 917598 2448, Value.int 917599 2449, Value.int 917600 2450, Value.int 917601 2451, Value.int 917602 2452, Value.int 917603 2453, Value.int 917604 2454, Value.int 917605 2455, Value.int 917606 2456, Value.int 917607 2457, Value.int 917608 2458, Value.int 917609 2459, Value.int 917610 2460, Value.int 917611 2461, Value.int 917612 2462, Value.int 917613 2463, Value.int 917614 2464, Value.int 917615 2465, Value.int 917616 2466, Value.int 917617 2467, Value.int 917618 2468, Value.int 917619 2469, Value.int 917620 2470, Value.int 917621 2471, Value.int 917622 2472, Value.int 917623 2473, Value.int 917624 2474, Value.int 917625 2475, Value.int 917626 2476, Value.int 917627 2477, Value.int 917628 2478, Value.int 917629 2479, Value.int 917630 2480, Value.int 917631 2481] 98 }
noncomputable def ob171x142 (P : Params) : Obj := { cls := Value.type "range_iterator", data := Data.fields #[Value.int 917632 0, Value.int 0 0, Value.int 1 0] }
noncomputable def ob172x143 (P : Params) : Obj := { cls := Value.type "tuple", data := Data.seq #[] }
noncomputable def ob173x144 (P : Params) : Obj := { cls := Value.type "StopIteration", data := Data.fields #[Value.ref 172, Value.none, Value.none, Value.none, Value.bool false, Value.none] }
noncomputable def ob174x145 (P : Params) : Obj := { cls := Value.type "list", data := Data.seq #[Value.int 917505 2380, Value.int 917536 2386, Value.int 917537 2387, Value.int 917538 2388, Value.int 917539 2389, Value.int 917540 2390, Value.int 917541 2391, Value.int 917542 2392, Value.int 917543 2393, Value.int 917544 2394, Value.int 917545 2395, Value.int 917546 2396, Value.int 917547 2397, Value.int 917548 2398, Value.int 917549 2399, Value.int 917550 2400, Value.int 917551 2401, Value.int 917552 2402, Value.int 917553 2403, Value.int 917554 2404, Value.int 917555 2405, Value.int 917556 2406, Value.int 917557 2407, Value.int 917558 2408, Value.int 917559 2409, Value.int 917560 2410, Value.int 917561 2411, Value.int 917562 2412, Value.int 917563 2413, Value.int 917564 2414, Value.int 917565 2415, Value.int 917566 2416, Value.int 917567 2417, Value.int 917568 2418, Value.int 917569 2419, Value.int 917570 2420, Value.int 917571 2421, Value.int 917572 2422, Value.int 917573 2423, Value.int 917574 2424, Value.int 917575 2425, Value.int 917576 2426, Value.int 917577 2427, Value.int 917578 2428, Value.int 917579 2429, Value.int 917580 2430, Value.int 917581 2431, Value.int 917582 2432, Value.int 917583 2433, Value.int 917584 2434, Value.int 917585 2435, Value.int 917586 2436, Value.int 917587 2437, Value.int 917588 2438, Value.int 917589 2439, Value.int 917590 2440, Value.int 917591 2441, Value.int 917592 2442, Value.int 917593 2443, Value.int 917594 2444, Value.int 917595 2445, Value.int 917596 2446, Value.int 917597 2447, Value.int 917598 2448, Value.int 917599 2449, Value.int 917600 2450, Value.int 917601 2451, Value.int 917602 2452, Value.int 917603 2453, Value.int 917604 2454, Value.int 917605 2455, Value.int 917606 2456, Value.int 917607 2457, Value.int 917608 2458, Value.int 917609 2459, Value.int 917610 2460, Value.int 917611 2461, Value.int 917612 2462, Value.int 917613 2463, Value.int 917614 2464, Value.int 917615 2465, Value.int 917616 2466, Value.int 917617 2467, Value.int 917618 2468, Value.int 917619 2469, Value.int 917620 2470, Value.int 917621 2471, Value.int 917622 2472, Value.int 917623 2473, Value.int 917624 2474, Value.int 917625 2475, Value.int 917626 2476, Value.int 917627 2477, Value.int 917628 2478, Value.int 917629 2479, Value.int 917630 2480, Value.int 917631 2481] }
noncomputable def ob175x146 (P : Params) : Obj := { cls := Value.type "set", data := Data.set #[(917505, Value.int 917505 2380), (917536, Value.int 917536 2386), (917537, Value.int 917537 2387), (917538, Value.int 917538 2388), (917539, Value.int 917539 2389), (917540, Value.int 917540 2390), (917541, Value.int 917541 2391), (917542, Value.int 917542 2392), (917543, Value.int 917543 2393), (917544, Value.int 917544 2394), (917545, Value.int 917545 2395), (917546, Value.int 917546 2396), (917547, Value.int 917547 2397), (917548, Value.int 917548 2398), (917549, Value.int 917549 2399), (917550, Value.int 917550 2400), (917551, Value.int 917551 2401), (917552, Value.int 917552 2402), (917553, Value.int 917553 2403), (917554, Value.int 917554 2404), (917555, Value.int 917555 2405), (917556, Value.int 917556 2406), (917557, Value.int 917557 2407), (917558, Value.int 917558 2408), (917559, Value.int 917559 2409), (917560, Value.int 917560 2410), (917561, Value.int 917561 2411), (917562, Value.int 917562 2412), (917563, Value.int 917563 2413), (917564, Value.int 917564 2414), (917565, Value.int 917565 2415), (917566, Value.int 917566 2416), (917567, Value.int 917567 2417), (917568, Value.int 917568 2418), (917569, Value.int 917569 2419), (917570, Value.int 917570 2420), (917571, Value.int 917571 2421), (917572, Value.int 917572 2422), (917573, Value.int 917573 2423), (917574, Value.int 917574 2424), (917575, Value.int 917575 2425), (917576, Value.int 917576 2426), (917577, Value.int 917577 2427), (917578, Value.int 917578 2428), (917579, Value.int 917579 2429), (917580, Value.int 917580 2430), (917581, Value.int 917581 2431), (917582, Value.int 917582 2432), (917583, Value.int 917583 2433), (917584, Value.int 917584 2434), (917585, Value.int 917585 2435), (917586, Value.int 917586 2436), (917587, Value.int 917587 2437), (917588, Value.int 917588 2438), (917589, Value.int 917589 2439), (917590, Value.int 917590 2440), (917591, Value.int 917591 2441), (917592, Value.int 917592 2442), (917593, Value.int 917593 2443), (917594, Value.int 917594 2444), (917595, Value.int 917595 2445), (917596, Value.int 917596 2446), (917597, Value.int 917597 2447), (917598, Value.int 917598 2448), (917599, Value.int 917599 2449), (917600, Value.int 917600 2450), (917601, Value.int 917601 2451), (917602, Value.int 917602 2452), (917603, Value.int 917603 2453), (917604, Value.int 917604 2454), (917605, Value.int 917605 2455), (917606, Value.int 917606 2456), (917607, Value.int 917607 2457), (917608, Value.int 917608 2458), (917609, Value.int 917609 2459), (917610, Value.int 917610 2460), (917611, Value.int 917611 2461), (917612, Value.int 917612 2462), (917613, Value.int 917613 2463), (917614, Value.int 917614 2464), (917615, Value.int 917615 2465), (917616, Value.int 917616 2466), (917617, Value.int 917617 2467), (917618, Value.int 917618 2468), (917619, Value.int 917619 2469), (917620, Value.int 917620 2470), (917621, Value.int 917621 2471), (917622, Value.int 917622 2472), (917623, Value.int 917623 2473), (917624, Value.int 917624 2474), (917625, Value.int 917625 2475), (917626, Value.int 917626 2476), (917627, Value.int 917627 2477), (917628, Value.int 917628 2478), (917629, Value.int 917629 2479), (917630, Value.int 917630 2480), (917631, Value.int 917631 2481)] 100 { mask := 511, place := #[1, 32, 33, 34, 35, 36, 37, 38, 39, 40, 41, 42, 43, 44, 45, 46, 47, 48, 49, 50, 51, 52, 53, 54, 55, 56, 57, 58, 59, 60, 61, 62, 63, 64, 65, 66, 67, 68, 69, 70, 71, 72, 73, 74, 75, 76, 77, 78, 79, 80, 81, 82, 83, 84, 85, 86, 87, 88, 89, 90, 91, 92, 93, 94, 95, 96, 97, 98, 99, 100, 101, 102, 103, 104, 105, 106, 107, 108, 109, 110, 111, 112, 113, 114, 115, 116, 117, 118, 119, 120, 121, 122, 123, 124, 125, 126, 127], dummies := #[], finger := 0, led := !P.followText "set-order", moves := 3, plain := true } }
noncomputable def ob176x147 (P : Params) : Obj := { cls := Value.type "list_iterator", data := Data.fields #[Value.none, Value.int 97 0] }
noncomputable def ob177x148 (P : Params) : Obj := { cls := Value.type "tuple", data := Data.seq #[] }
noncomputable def ob178x149 (P : Params) : Obj := { cls := Value.type "StopIteration", data := Data.fields #[Value.ref 177, Value.none, Value.none, Value.none, Value.bool false, Value.none] }
noncomputable def lst25 (P : Params) : List Obj := [boot_o_0 P, boot_o_1 P, boot_o_2 P, ob3x138 P, boot_o_4 P, boot_o_5 P, boot_o_6 P, boot_o_7 P, boot_o_8 P, boot_o_9 P, boot_o_10 P, ob11x0 P, ob12x130 P, ob13x2 P, ob14x3 P, ob15x7 P, ob16x8 P, ob17x9 P, ob18x10 P, ob19x11 P, ob20x12 P, ob21x13 P, ob22x14 P, ob23x15 P, ob24x16 P, ob25x17 P, ob26x18 P, ob27x19 P, ob28x20 P, ob29x21 P, ob30x22 P, ob31x23 P, ob32x24 P, ob33x25 P, ob34x26 P, ob35x27 P, ob36x30 P, ob37x31 P, ob38x32 P, ob39x33 P, ob40x34 P, ob41x35 P, ob42x36 P, ob43x37 P, ob44x38 P, ob45x39 P, ob46x40 P, ob47x41 P, ob48x42 P, ob49x43 P, ob50x46 P, ob51x47 P, ob52x48 P, ob53x49 P, ob54x50 P, ob55x51 P, ob56x52 P, ob57x53 P, ob58x54 P, ob59x55 P, ob60x56 P, ob61x57 P, ob62x58 P, ob63x59 P, ob64x62 P, ob65x63 P, ob66x64 P, ob67x65 P, ob68x66 P, ob69x67 P, ob70x68 P, ob71x69 P, ob72x70 P, ob73x71 P, ob74x72 P, ob75x73 P, ob76x74 P, ob77x75 P, ob78x76 P, ob79x77 P, ob80x78 P, ob81x79 P, ob82x80 P, ob83x81 P, ob84x82 P, ob85x85 P, ob86x86 P, ob87x87 P, ob88x88 P, ob89x89 P, ob90x90 P, ob91x91 P, ob92x93 P, ob93x94 P, ob94x95 P, ob95x96 P, ob96x97 P, ob97x98 P, ob98x99 P, ob99x100 P, ob100x101 P, ob101x102 P, ob102x103 P, ob103x106 P, ob104x107 P, ob105x108 P, ob106x109 P, ob107x110 P, ob108x111 P, ob109x112 P, b3O 0 P, b3O 1 P, b3O 2 P, b3O 3 P, b3O 4 P, b3O 5 P, b3O 6 P, b3O 7 P, b3O 8 P, b3O 9 P, b3O 10 P, b3O 11 P, b3O 12 P, b3O 13 P, b3O 14 P, b3O 15 P, b3O 16 P, b3O 17 P, b3O 18 P, b3O 19 P, b3O 20 P, b3O 21 P, b3O 22 P, b3O 23 P, b3O 24 P, b3O 25 P, b3O 26 P, b3O 27 P, b3O 28 P, b3O 29 P, b3O 30 P, b3O 31 P, b3O 32 P, b3O 33 P, b3O 34 P, b3O 35 P, b3O 36 P, b3O 37 P, b3O 38 P, ob149x116 P, ob150x117 P, ob151x118 P, ob152x119 P, ob153x120 P, ob154x121 P, ob155x122 P, ob156x124 P, ob157x125 P, ob158x126 P, ob159x127 P, ob160x128 P, ob161x131 P, ob162x132 P, ob163x133 P, ob164x134 P, ob165x135 P, ob166x136 P, ob167x137 P, ob168x139 P, ob169x140 P, ob170x141 P, ob171x142 P, ob172x143 P, ob173x144 P, ob174x145 P, ob175x146 P, ob176x147 P, ob177x148 P, ob178x149 P]
noncomputable def sta25 (w : World) (os : OsState) : SharedT := ⟨mkT 12 (lst25 w.params), 179, {}, #[], {}, 2580, os⟩
noncomputable def ps25 : Pos := ⟨96, 0, 96, 6⟩
noncomputable def nE33 (P : Params) : DictEntry := { hash := PyData.keyHash P (Str.ofString "__name__"), key := Value.str (Str.ofString "__name__") 165, val := Value.str (Str.ofString "law_wu0091_01") 2587 }
noncomputable def nE34 (P : Params) : DictEntry := { hash := PyData.keyHash P (Str.ofString "in_table_c9"), key := Value.str (Str.ofString "in_table_c9") 2586, val := Value.ref 185 }
noncomputable def nE35 (P : Params) : DictEntry := { hash := PyData.keyHash P (Str.ofString "_law_typed"), key := Value.str (Str.ofString "_law_typed") 2602, val := Value.ref 192 }
noncomputable def ob3x150 (P : Params) : Obj := { cls := Value.type "dict", data := Data.dict #[nE33 P, nE1 P, nE2 P, nE3 P, nE4 P, nE5 P, nE6 P, nE7 P, nE8 P, nE9 P, nE10 P, nE11 P, nE12 P, nE13 P, nE14 P, nE16 P, nE17 P, nE19 P, nE20 P, nE21 P, nE22 P, nE23 P, nE25 P, nE26 P, nE27 P, nE28 P, nE29 P, nE30 P, nE31 P, nE32 P, nE34 P, nE35 P] 32 }
noncomputable def ob12x151 (P : Params) : Obj := { cls := Value.none, data := Data.fields #[Value.int 5 0, Value.int 0 0, Value.ref 20, Value.int 28 0, Value.int 0 0, Value.ref 27, Value.int 37 0, Value.int 0 0, Value.ref 34, Value.int 46 0, Value.int 0 0, Value.ref 41, Value.int 66 0, Value.int 0 0, Value.ref 48, Value.int 68 0, Value.int 0 0, Value.ref 55, Value.int 71 0, Value.int 0 0, Value.ref 62, Value.int 73 0, Value.int 0 0, Value.ref 69, Value.int 75 0, Value.int 0 0, Value.ref 76, Value.int 77 0, Value.int 0 0, Value.ref 83, Value.int 80 0, Value.int 0 0, Value.ref 90, Value.int 85 0, Value.int 0 0, Value.ref 108, Value.int 88 0, Value.int 0 0, Value.ref 154, Value.int 94 0, Value.int 0 0, Value.ref 166, Value.int 97 0, Value.int 0 0, Value.ref 184, Value.int 100 0, Value.int 0 0, Value.ref 191] }
noncomputable def ob179x152 (P : Params) : Obj := { cls := Value.type "tuple", data := Data.seq #[] }
noncomputable def ob180x153 (P : Params) : Obj := { cls := Value.none, data := Data.fields #[] }
noncomputable def ob181x154 (P : Params) : Obj := { cls := Value.type "tuple", data := Data.seq #[Value.str (Str.ofString "code") 2583] }
noncomputable def ob182x155 (P : Params) : Obj := { cls := Value.type "tuple", data := Data.seq #[] }
noncomputable def ob183x156 (P : Params) : Obj := { cls := Value.none, data := Data.func { name := Str.ofString "in_table_c9", qualname := Str.ofString "in_table_c9", params := (Wu.dr 25).params, body := FuncBody.stmts (Wu.dr 25).body, scope := (Wu.dr 25).scope, globals := 0, closure := [], defaults := Value.none, kwdefaults := Value.none } }
noncomputable def ob184x157 (P : Params) : Obj := { cls := Value.type "code", data := Data.fields #[Value.str (Str.ofString "in_table_c9") 2580, Value.str (Str.ofString "in_table_c9") 2581, Value.str (Str.ofString "/claim/cut.py") 2582, Value.int 97 0, Value.int 1 0, Value.int 0 0, Value.int 0 0, Value.int 3 0, Value.ref 179, Value.bool true, Value.int 181 0, Value.ref 180, Value.none, Value.ref 181, Value.ref 182, Value.ref 183, Value.int 2584 0, Value.int 97 0, Value.str (Str.ofString "/claim/cut.py") 2585] }
noncomputable def ob185x158 (P : Params) : Obj := { cls := Value.type "function", data := Data.func { name := Str.ofString "in_table_c9", qualname := Str.ofString "in_table_c9", params := (Wu.dr 25).params, body := FuncBody.stmts (Wu.dr 25).body, scope := (Wu.dr 25).scope, globals := 3, closure := [], defaults := Value.none, kwdefaults := Value.none, pyModule := Value.str (Str.ofString "cpy313.stringprep") 317, code := Value.ref 184 } }
noncomputable def ob186x159 (P : Params) : Obj := { cls := Value.type "tuple", data := Data.seq #[] }
noncomputable def ob187x160 (P : Params) : Obj := { cls := Value.none, data := Data.fields #[] }
noncomputable def ob188x161 (P : Params) : Obj := { cls := Value.type "tuple", data := Data.seq #[Value.str (Str.ofString "number") 2592, Value.str (Str.ofString "count") 2593, Value.str (Str.ofString "signs") 2594, Value.str (Str.ofString "plain") 2595, Value.str (Str.ofString "turn") 2596, Value.str (Str.ofString "letter") 2597, Value.str (Str.ofString "way") 2598, Value.str (Str.ofString "hidden") 2599] }
noncomputable def ob189x162 (P : Params) : Obj := { cls := Value.type "tuple", data := Data.seq #[] }
noncomputable def ob190x163 (P : Params) : Obj := { cls := Value.none, data := Data.func { name := Str.ofString "_law_typed", qualname := Str.ofString "_law_typed", params := (Wu.dr 27).params, body := FuncBody.stmts (Wu.dr 27).body, scope := (Wu.dr 27).scope, globals := 0, closure := [], defaults := Value.none, kwdefaults := Value.none } }
noncomputable def ob191x164 (P : Params) : Obj := { cls := Value.type "code", data := Data.fields #[Value.str (Str.ofString "_law_typed") 2589, Value.str (Str.ofString "_law_typed") 2590, Value.str (Str.ofString "/claim/cut.py") 2591, Value.int 100 0, Value.int 2 0, Value.int 0 0, Value.int 0 0, Value.int 3 0, Value.ref 186, Value.bool true, Value.int 181 0, Value.ref 187, Value.none, Value.ref 188, Value.ref 189, Value.ref 190, Value.int 2600 0, Value.int 100 0, Value.str (Str.ofString "/claim/cut.py") 2601] }
noncomputable def ob192x165 (P : Params) : Obj := { cls := Value.type "function", data := Data.func { name := Str.ofString "_law_typed", qualname := Str.ofString "_law_typed", params := (Wu.dr 27).params, body := FuncBody.stmts (Wu.dr 27).body, scope := (Wu.dr 27).scope, globals := 3, closure := [], defaults := Value.none, kwdefaults := Value.none, pyModule := Value.str (Str.ofString "law_wu0091_01") 2587, code := Value.ref 191 } }
noncomputable def lst28 (P : Params) : List Obj := [boot_o_0 P, boot_o_1 P, boot_o_2 P, ob3x150 P, boot_o_4 P, boot_o_5 P, boot_o_6 P, boot_o_7 P, boot_o_8 P, boot_o_9 P, boot_o_10 P, ob11x0 P, ob12x151 P, ob13x2 P, ob14x3 P, ob15x7 P, ob16x8 P, ob17x9 P, ob18x10 P, ob19x11 P, ob20x12 P, ob21x13 P, ob22x14 P, ob23x15 P, ob24x16 P, ob25x17 P, ob26x18 P, ob27x19 P, ob28x20 P, ob29x21 P, ob30x22 P, ob31x23 P, ob32x24 P, ob33x25 P, ob34x26 P, ob35x27 P, ob36x30 P, ob37x31 P, ob38x32 P, ob39x33 P, ob40x34 P, ob41x35 P, ob42x36 P, ob43x37 P, ob44x38 P, ob45x39 P, ob46x40 P, ob47x41 P, ob48x42 P, ob49x43 P, ob50x46 P, ob51x47 P, ob52x48 P, ob53x49 P, ob54x50 P, ob55x51 P, ob56x52 P, ob57x53 P, ob58x54 P, ob59x55 P, ob60x56 P, ob61x57 P, ob62x58 P, ob63x59 P, ob64x62 P, ob65x63 P, ob66x64 P, ob67x65 P, ob68x66 P, ob69x67 P, ob70x68 P, ob71x69 P, ob72x70 P, ob73x71 P, ob74x72 P, ob75x73 P, ob76x74 P, ob77x75 P, ob78x76 P, ob79x77 P, ob80x78 P, ob81x79 P, ob82x80 P, ob83x81 P, ob84x82 P, ob85x85 P, ob86x86 P, ob87x87 P, ob88x88 P, ob89x89 P, ob90x90 P, ob91x91 P, ob92x93 P, ob93x94 P, ob94x95 P, ob95x96 P, ob96x97 P, ob97x98 P, ob98x99 P, ob99x100 P, ob100x101 P, ob101x102 P, ob102x103 P, ob103x106 P, ob104x107 P, ob105x108 P, ob106x109 P, ob107x110 P, ob108x111 P, ob109x112 P, b3O 0 P, b3O 1 P, b3O 2 P, b3O 3 P, b3O 4 P, b3O 5 P, b3O 6 P, b3O 7 P, b3O 8 P, b3O 9 P, b3O 10 P, b3O 11 P, b3O 12 P, b3O 13 P, b3O 14 P, b3O 15 P, b3O 16 P, b3O 17 P, b3O 18 P, b3O 19 P, b3O 20 P, b3O 21 P, b3O 22 P, b3O 23 P, b3O 24 P, b3O 25 P, b3O 26 P, b3O 27 P, b3O 28 P, b3O 29 P, b3O 30 P, b3O 31 P, b3O 32 P, b3O 33 P, b3O 34 P, b3O 35 P, b3O 36 P, b3O 37 P, b3O 38 P, ob149x116 P, ob150x117 P, ob151x118 P, ob152x119 P, ob153x120 P, ob154x121 P, ob155x122 P, ob156x124 P, ob157x125 P, ob158x126 P, ob159x127 P, ob160x128 P, ob161x131 P, ob162x132 P, ob163x133 P, ob164x134 P, ob165x135 P, ob166x136 P, ob167x137 P, ob168x139 P, ob169x140 P, ob170x141 P, ob171x142 P, ob172x143 P, ob173x144 P, ob174x145 P, ob175x146 P, ob176x147 P, ob177x148 P, ob178x149 P, ob179x152 P, ob180x153 P, ob181x154 P, ob182x155 P, ob183x156 P, ob184x157 P, ob185x158 P, ob186x159 P, ob187x160 P, ob188x161 P, ob189x162 P, ob190x163 P, ob191x164 P, ob192x165 P]
noncomputable def sta28 (w : World) (os : OsState) : SharedT := ⟨mkT 12 (lst28 w.params), 193, {}, #[], {}, 2603, os⟩
noncomputable def ps28 : Pos := ⟨100, 0, 121, 25⟩
noncomputable def nE36 (P : Params) : DictEntry := { hash := PyData.keyHash P (Str.ofString "_law_read"), key := Value.str (Str.ofString "_law_read") 2612, val := Value.ref 199 }
noncomputable def nE37 (P : Params) : DictEntry := { hash := PyData.keyHash P (Str.ofString "_law_point"), key := Value.str (Str.ofString "_law_point") 2622, val := Value.ref 206 }
noncomputable def nE38 (P : Params) : DictEntry := { hash := PyData.keyHash P (Str.ofString "_law_node"), key := Value.str (Str.ofString "_law_node") 2633, val := Value.ref 213 }
noncomputable def ob3x166 (P : Params) : Obj := { cls := Value.type "dict", data := Data.dict #[nE33 P, nE1 P, nE2 P, nE3 P, nE4 P, nE5 P, nE6 P, nE7 P, nE8 P, nE9 P, nE10 P, nE11 P, nE12 P, nE13 P, nE14 P, nE16 P, nE17 P, nE19 P, nE20 P, nE21 P, nE22 P, nE23 P, nE25 P, nE26 P, nE27 P, nE28 P, nE29 P, nE30 P, nE31 P, nE32 P, nE34 P, nE35 P, nE36 P, nE37 P, nE38 P] 35 }
noncomputable def ob12x167 (P : Params) : Obj := { cls := Value.none, data := Data.fields #[Value.int 5 0, Value.int 0 0, Value.ref 20, Value.int 28 0, Value.int 0 0, Value.ref 27, Value.int 37 0, Value.int 0 0, Value.ref 34, Value.int 46 0, Value.int 0 0, Value.ref 41, Value.int 66 0, Value.int 0 0, Value.ref 48, Value.int 68 0, Value.int 0 0, Value.ref 55, Value.int 71 0, Value.int 0 0, Value.ref 62, Value.int 73 0, Value.int 0 0, Value.ref 69, Value.int 75 0, Value.int 0 0, Value.ref 76, Value.int 77 0, Value.int 0 0, Value.ref 83, Value.int 80 0, Value.int 0 0, Value.ref 90, Value.int 85 0, Value.int 0 0, Value.ref 108, Value.int 88 0, Value.int 0 0, Value.ref 154, Value.int 94 0, Value.int 0 0, Value.ref 166, Value.int 97 0, Value.int 0 0, Value.ref 184, Value.int 100 0, Value.int 0 0, Value.ref 191, Value.int 122 0, Value.int 0 0, Value.ref 198, Value.int 136 0, Value.int 0 0, Value.ref 205, Value.int 145 0, Value.int 0 0, Value.ref 212] }
noncomputable def ob193x168 (P : Params) : Obj := { cls := Value.type "tuple", data := Data.seq #[] }
noncomputable def ob194x169 (P : Params) : Obj := { cls := Value.none, data := Data.fields #[] }
noncomputable def ob195x170 (P : Params) : Obj := { cls := Value.type "tuple", data := Data.seq #[Value.str (Str.ofString "line") 2606, Value.str (Str.ofString "words") 2607, Value.str (Str.ofString "word") 2608, Value.str (Str.ofString "sign") 2609] }
noncomputable def ob196x171 (P : Params) : Obj := { cls := Value.type "tuple", data := Data.seq #[] }
noncomputable def ob197x172 (P : Params) : Obj := { cls := Value.none, data := Data.func { name := Str.ofString "_law_read", qualname := Str.ofString "_law_read", params := (Wu.dr 28).params, body := FuncBody.stmts (Wu.dr 28).body, scope := (Wu.dr 28).scope, globals := 0, closure := [], defaults := Value.none, kwdefaults := Value.none } }
noncomputable def ob198x173 (P : Params) : Obj := { cls := Value.type "code", data := Data.fields #[Value.str (Str.ofString "_law_read") 2603, Value.str (Str.ofString "_law_read") 2604, Value.str (Str.ofString "/claim/cut.py") 2605, Value.int 122 0, Value.int 1 0, Value.int 0 0, Value.int 0 0, Value.int 3 0, Value.ref 193, Value.bool true, Value.int 181 0, Value.ref 194, Value.none, Value.ref 195, Value.ref 196, Value.ref 197, Value.int 2610 0, Value.int 122 0, Value.str (Str.ofString "/claim/cut.py") 2611] }
noncomputable def ob199x174 (P : Params) : Obj := { cls := Value.type "function", data := Data.func { name := Str.ofString "_law_read", qualname := Str.ofString "_law_read", params := (Wu.dr 28).params, body := FuncBody.stmts (Wu.dr 28).body, scope := (Wu.dr 28).scope, globals := 3, closure := [], defaults := Value.none, kwdefaults := Value.none, pyModule := Value.str (Str.ofString "law_wu0091_01") 2587, code := Value.ref 198 } }
noncomputable def ob200x175 (P : Params) : Obj := { cls := Value.type "tuple", data := Data.seq #[] }
noncomputable def ob201x176 (P : Params) : Obj := { cls := Value.none, data := Data.fields #[] }
noncomputable def ob202x177 (P : Params) : Obj := { cls := Value.type "tuple", data := Data.seq #[Value.str (Str.ofString "word") 2616, Value.str (Str.ofString "upper") 2617, Value.str (Str.ofString "lower") 2618, Value.str (Str.ofString "letter") 2619] }
noncomputable def ob203x178 (P : Params) : Obj := { cls := Value.type "tuple", data := Data.seq #[] }
noncomputable def ob204x179 (P : Params) : Obj := { cls := Value.none, data := Data.func { name := Str.ofString "_law_point", qualname := Str.ofString "_law_point", params := (Wu.dr 29).params, body := FuncBody.stmts (Wu.dr 29).body, scope := (Wu.dr 29).scope, globals := 0, closure := [], defaults := Value.none, kwdefaults := Value.none } }
noncomputable def ob205x180 (P : Params) : Obj := { cls := Value.type "code", data := Data.fields #[Value.str (Str.ofString "_law_point") 2613, Value.str (Str.ofString "_law_point") 2614, Value.str (Str.ofString "/claim/cut.py") 2615, Value.int 136 0, Value.int 1 0, Value.int 0 0, Value.int 0 0, Value.int 3 0, Value.ref 200, Value.bool true, Value.int 181 0, Value.ref 201, Value.none, Value.ref 202, Value.ref 203, Value.ref 204, Value.int 2620 0, Value.int 136 0, Value.str (Str.ofString "/claim/cut.py") 2621] }
noncomputable def ob206x181 (P : Params) : Obj := { cls := Value.type "function", data := Data.func { name := Str.ofString "_law_point", qualname := Str.ofString "_law_point", params := (Wu.dr 29).params, body := FuncBody.stmts (Wu.dr 29).body, scope := (Wu.dr 29).scope, globals := 3, closure := [], defaults := Value.none, kwdefaults := Value.none, pyModule := Value.str (Str.ofString "law_wu0091_01") 2587, code := Value.ref 205 } }
noncomputable def ob207x182 (P : Params) : Obj := { cls := Value.type "tuple", data := Data.seq #[] }
noncomputable def ob208x183 (P : Params) : Obj := { cls := Value.none, data := Data.fields #[] }
noncomputable def ob209x184 (P : Params) : Obj := { cls := Value.type "tuple", data := Data.seq #[Value.str (Str.ofString "word") 2626, Value.str (Str.ofString "left") 2627, Value.str (Str.ofString "right") 2628, Value.str (Str.ofString "letter") 2629, Value.str (Str.ofString "between") 2630] }
noncomputable def ob210x185 (P : Params) : Obj := { cls := Value.type "tuple", data := Data.seq #[] }
noncomputable def ob211x186 (P : Params) : Obj := { cls := Value.none, data := Data.func { name := Str.ofString "_law_node", qualname := Str.ofString "_law_node", params := (Wu.dr 30).params, body := FuncBody.stmts (Wu.dr 30).body, scope := (Wu.dr 30).scope, globals := 0, closure := [], defaults := Value.none, kwdefaults := Value.none } }
noncomputable def ob212x187 (P : Params) : Obj := { cls := Value.type "code", data := Data.fields #[Value.str (Str.ofString "_law_node") 2623, Value.str (Str.ofString "_law_node") 2624, Value.str (Str.ofString "/claim/cut.py") 2625, Value.int 145 0, Value.int 1 0, Value.int 0 0, Value.int 0 0, Value.int 3 0, Value.ref 207, Value.bool true, Value.int 181 0, Value.ref 208, Value.none, Value.ref 209, Value.ref 210, Value.ref 211, Value.int 2631 0, Value.int 145 0, Value.str (Str.ofString "/claim/cut.py") 2632] }
noncomputable def ob213x188 (P : Params) : Obj := { cls := Value.type "function", data := Data.func { name := Str.ofString "_law_node", qualname := Str.ofString "_law_node", params := (Wu.dr 30).params, body := FuncBody.stmts (Wu.dr 30).body, scope := (Wu.dr 30).scope, globals := 3, closure := [], defaults := Value.none, kwdefaults := Value.none, pyModule := Value.str (Str.ofString "law_wu0091_01") 2587, code := Value.ref 212 } }
noncomputable def lst31 (P : Params) : List Obj := [boot_o_0 P, boot_o_1 P, boot_o_2 P, ob3x166 P, boot_o_4 P, boot_o_5 P, boot_o_6 P, boot_o_7 P, boot_o_8 P, boot_o_9 P, boot_o_10 P, ob11x0 P, ob12x167 P, ob13x2 P, ob14x3 P, ob15x7 P, ob16x8 P, ob17x9 P, ob18x10 P, ob19x11 P, ob20x12 P, ob21x13 P, ob22x14 P, ob23x15 P, ob24x16 P, ob25x17 P, ob26x18 P, ob27x19 P, ob28x20 P, ob29x21 P, ob30x22 P, ob31x23 P, ob32x24 P, ob33x25 P, ob34x26 P, ob35x27 P, ob36x30 P, ob37x31 P, ob38x32 P, ob39x33 P, ob40x34 P, ob41x35 P, ob42x36 P, ob43x37 P, ob44x38 P, ob45x39 P, ob46x40 P, ob47x41 P, ob48x42 P, ob49x43 P, ob50x46 P, ob51x47 P, ob52x48 P, ob53x49 P, ob54x50 P, ob55x51 P, ob56x52 P, ob57x53 P, ob58x54 P, ob59x55 P, ob60x56 P, ob61x57 P, ob62x58 P, ob63x59 P, ob64x62 P, ob65x63 P, ob66x64 P, ob67x65 P, ob68x66 P, ob69x67 P, ob70x68 P, ob71x69 P, ob72x70 P, ob73x71 P, ob74x72 P, ob75x73 P, ob76x74 P, ob77x75 P, ob78x76 P, ob79x77 P, ob80x78 P, ob81x79 P, ob82x80 P, ob83x81 P, ob84x82 P, ob85x85 P, ob86x86 P, ob87x87 P, ob88x88 P, ob89x89 P, ob90x90 P, ob91x91 P, ob92x93 P, ob93x94 P, ob94x95 P, ob95x96 P, ob96x97 P, ob97x98 P, ob98x99 P, ob99x100 P, ob100x101 P, ob101x102 P, ob102x103 P, ob103x106 P, ob104x107 P, ob105x108 P, ob106x109 P, ob107x110 P, ob108x111 P, ob109x112 P, b3O 0 P, b3O 1 P, b3O 2 P, b3O 3 P, b3O 4 P, b3O 5 P, b3O 6 P, b3O 7 P, b3O 8 P, b3O 9 P, b3O 10 P, b3O 11 P, b3O 12 P, b3O 13 P, b3O 14 P, b3O 15 P, b3O 16 P, b3O 17 P, b3O 18 P, b3O 19 P, b3O 20 P, b3O 21 P, b3O 22 P, b3O 23 P, b3O 24 P, b3O 25 P, b3O 26 P, b3O 27 P, b3O 28 P, b3O 29 P, b3O 30 P, b3O 31 P, b3O 32 P, b3O 33 P, b3O 34 P, b3O 35 P, b3O 36 P, b3O 37 P, b3O 38 P, ob149x116 P, ob150x117 P, ob151x118 P, ob152x119 P, ob153x120 P, ob154x121 P, ob155x122 P, ob156x124 P, ob157x125 P, ob158x126 P, ob159x127 P, ob160x128 P, ob161x131 P, ob162x132 P, ob163x133 P, ob164x134 P, ob165x135 P, ob166x136 P, ob167x137 P, ob168x139 P, ob169x140 P, ob170x141 P, ob171x142 P, ob172x143 P, ob173x144 P, ob174x145 P, ob175x146 P, ob176x147 P, ob177x148 P, ob178x149 P, ob179x152 P, ob180x153 P, ob181x154 P, ob182x155 P, ob183x156 P, ob184x157 P, ob185x158 P, ob186x159 P, ob187x160 P, ob188x161 P, ob189x162 P, ob190x163 P, ob191x164 P, ob192x165 P, ob193x168 P, ob194x169 P, ob195x170 P, ob196x171 P, ob197x172 P, ob198x173 P, ob199x174 P, ob200x175 P, ob201x176 P, ob202x177 P, ob203x178 P, ob204x179 P, ob205x180 P, ob206x181 P, ob207x182 P, ob208x183 P, ob209x184 P, ob210x185 P, ob211x186 P, ob212x187 P, ob213x188 P]
noncomputable def sta31 (w : World) (os : OsState) : SharedT := ⟨mkT 12 (lst31 w.params), 214, {}, #[], {}, 2634, os⟩
noncomputable def ps31 : Pos := ⟨145, 0, 154, 51⟩
noncomputable def nE39 (P : Params) : DictEntry := { hash := PyData.keyHash P (Str.ofString "_law_gap"), key := Value.str (Str.ofString "_law_gap") 2641, val := Value.ref 220 }
noncomputable def nE40 (P : Params) : DictEntry := { hash := PyData.keyHash P (Str.ofString "_law_lights"), key := Value.str (Str.ofString "_law_lights") 2654, val := Value.ref 227 }
noncomputable def nE41 (P : Params) : DictEntry := { hash := PyData.keyHash P (Str.ofString "_law_parts"), key := Value.str (Str.ofString "_law_parts") 2660, val := Value.ref 232 }
noncomputable def nE42 (P : Params) : DictEntry := { hash := PyData.keyHash P (Str.ofString "law"), key := Value.str (Str.ofString "law") 2666, val := Value.ref 237 }
noncomputable def ob3x189 (P : Params) : Obj := { cls := Value.type "dict", data := Data.dict #[nE33 P, nE1 P, nE2 P, nE3 P, nE4 P, nE5 P, nE6 P, nE7 P, nE8 P, nE9 P, nE10 P, nE11 P, nE12 P, nE13 P, nE14 P, nE16 P, nE17 P, nE19 P, nE20 P, nE21 P, nE22 P, nE23 P, nE25 P, nE26 P, nE27 P, nE28 P, nE29 P, nE30 P, nE31 P, nE32 P, nE34 P, nE35 P, nE36 P, nE37 P, nE38 P, nE39 P, nE40 P, nE41 P, nE42 P] 39 }
noncomputable def ob12x190 (P : Params) : Obj := { cls := Value.none, data := Data.fields #[Value.int 5 0, Value.int 0 0, Value.ref 20, Value.int 28 0, Value.int 0 0, Value.ref 27, Value.int 37 0, Value.int 0 0, Value.ref 34, Value.int 46 0, Value.int 0 0, Value.ref 41, Value.int 66 0, Value.int 0 0, Value.ref 48, Value.int 68 0, Value.int 0 0, Value.ref 55, Value.int 71 0, Value.int 0 0, Value.ref 62, Value.int 73 0, Value.int 0 0, Value.ref 69, Value.int 75 0, Value.int 0 0, Value.ref 76, Value.int 77 0, Value.int 0 0, Value.ref 83, Value.int 80 0, Value.int 0 0, Value.ref 90, Value.int 85 0, Value.int 0 0, Value.ref 108, Value.int 88 0, Value.int 0 0, Value.ref 154, Value.int 94 0, Value.int 0 0, Value.ref 166, Value.int 97 0, Value.int 0 0, Value.ref 184, Value.int 100 0, Value.int 0 0, Value.ref 191, Value.int 122 0, Value.int 0 0, Value.ref 198, Value.int 136 0, Value.int 0 0, Value.ref 205, Value.int 145 0, Value.int 0 0, Value.ref 212, Value.int 155 0, Value.int 0 0, Value.ref 219, Value.int 157 0, Value.int 0 0, Value.ref 226, Value.int 166 0, Value.int 0 0, Value.ref 231, Value.int 168 0, Value.int 0 0, Value.ref 236] }
noncomputable def ob214x191 (P : Params) : Obj := { cls := Value.type "tuple", data := Data.seq #[] }
noncomputable def ob215x192 (P : Params) : Obj := { cls := Value.none, data := Data.fields #[] }
noncomputable def ob216x193 (P : Params) : Obj := { cls := Value.type "tuple", data := Data.seq #[Value.str (Str.ofString "one") 2637, Value.str (Str.ofString "other") 2638] }
noncomputable def ob217x194 (P : Params) : Obj := { cls := Value.type "tuple", data := Data.seq #[] }
noncomputable def ob218x195 (P : Params) : Obj := { cls := Value.none, data := Data.func { name := Str.ofString "_law_gap", qualname := Str.ofString "_law_gap", params := (Wu.dr 31).params, body := FuncBody.stmts (Wu.dr 31).body, scope := (Wu.dr 31).scope, globals := 0, closure := [], defaults := Value.none, kwdefaults := Value.none } }
noncomputable def ob219x196 (P : Params) : Obj := { cls := Value.type "code", data := Data.fields #[Value.str (Str.ofString "_law_gap") 2634, Value.str (Str.ofString "_law_gap") 2635, Value.str (Str.ofString "/claim/cut.py") 2636, Value.int 155 0, Value.int 2 0, Value.int 0 0, Value.int 0 0, Value.int 3 0, Value.ref 214, Value.bool true, Value.int 181 0, Value.ref 215, Value.none, Value.ref 216, Value.ref 217, Value.ref 218, Value.int 2639 0, Value.int 155 0, Value.str (Str.ofString "/claim/cut.py") 2640] }
noncomputable def ob220x197 (P : Params) : Obj := { cls := Value.type "function", data := Data.func { name := Str.ofString "_law_gap", qualname := Str.ofString "_law_gap", params := (Wu.dr 31).params, body := FuncBody.stmts (Wu.dr 31).body, scope := (Wu.dr 31).scope, globals := 3, closure := [], defaults := Value.none, kwdefaults := Value.none, pyModule := Value.str (Str.ofString "law_wu0091_01") 2587, code := Value.ref 219 } }
noncomputable def ob221x198 (P : Params) : Obj := { cls := Value.type "tuple", data := Data.seq #[] }
noncomputable def ob222x199 (P : Params) : Obj := { cls := Value.none, data := Data.fields #[] }
noncomputable def ob223x200 (P : Params) : Obj := { cls := Value.type "tuple", data := Data.seq #[Value.str (Str.ofString "points") 2645, Value.str (Str.ofString "lights") 2646, Value.str (Str.ofString "k") 2647, Value.str (Str.ofString "i") 2648, Value.str (Str.ofString "j") 2649, Value.str (Str.ofString "ups") 2650, Value.str (Str.ofString "downs") 2651] }
noncomputable def ob224x201 (P : Params) : Obj := { cls := Value.type "tuple", data := Data.seq #[] }
noncomputable def ob225x202 (P : Params) : Obj := { cls := Value.none, data := Data.func { name := Str.ofString "_law_lights", qualname := Str.ofString "_law_lights", params := (Wu.dr 32).params, body := FuncBody.stmts (Wu.dr 32).body, scope := (Wu.dr 32).scope, globals := 0, closure := [], defaults := Value.none, kwdefaults := Value.none } }
noncomputable def ob226x203 (P : Params) : Obj := { cls := Value.type "code", data := Data.fields #[Value.str (Str.ofString "_law_lights") 2642, Value.str (Str.ofString "_law_lights") 2643, Value.str (Str.ofString "/claim/cut.py") 2644, Value.int 157 0, Value.int 1 0, Value.int 0 0, Value.int 0 0, Value.int 3 0, Value.ref 221, Value.bool true, Value.int 181 0, Value.ref 222, Value.none, Value.ref 223, Value.ref 224, Value.ref 225, Value.int 2652 0, Value.int 157 0, Value.str (Str.ofString "/claim/cut.py") 2653] }
noncomputable def ob227x204 (P : Params) : Obj := { cls := Value.type "function", data := Data.func { name := Str.ofString "_law_lights", qualname := Str.ofString "_law_lights", params := (Wu.dr 32).params, body := FuncBody.stmts (Wu.dr 32).body, scope := (Wu.dr 32).scope, globals := 3, closure := [], defaults := Value.none, kwdefaults := Value.none, pyModule := Value.str (Str.ofString "law_wu0091_01") 2587, code := Value.ref 226 } }
noncomputable def ob228x205 (P : Params) : Obj := { cls := Value.type "tuple", data := Data.seq #[] }
noncomputable def ob229x206 (P : Params) : Obj := { cls := Value.none, data := Data.fields #[] }
noncomputable def ob230x207 (P : Params) : Obj := { cls := Value.none, data := Data.func { name := Str.ofString "_law_parts", qualname := Str.ofString "_law_parts", params := (Wu.dr 33).params, body := FuncBody.stmts (Wu.dr 33).body, scope := (Wu.dr 33).scope, globals := 0, closure := [], defaults := Value.none, kwdefaults := Value.none } }
noncomputable def ob231x208 (P : Params) : Obj := { cls := Value.type "code", data := Data.fields #[Value.str (Str.ofString "_law_parts") 2655, Value.str (Str.ofString "_law_parts") 2656, Value.str (Str.ofString "/claim/cut.py") 2657, Value.int 166 0, Value.int 1 0, Value.int 0 0, Value.int 0 0, Value.int 3 0, Value.ref 228, Value.bool true, Value.int 181 0, Value.ref 229, Value.none, Value.none, Value.none, Value.ref 230, Value.int 2658 0, Value.int 166 0, Value.str (Str.ofString "/claim/cut.py") 2659] }
noncomputable def ob232x209 (P : Params) : Obj := { cls := Value.type "function", data := Data.func { name := Str.ofString "_law_parts", qualname := Str.ofString "_law_parts", params := (Wu.dr 33).params, body := FuncBody.stmts (Wu.dr 33).body, scope := (Wu.dr 33).scope, globals := 3, closure := [], defaults := Value.none, kwdefaults := Value.none, pyModule := Value.str (Str.ofString "law_wu0091_01") 2587, code := Value.ref 231 } }
noncomputable def ob233x210 (P : Params) : Obj := { cls := Value.type "tuple", data := Data.seq #[] }
noncomputable def ob234x211 (P : Params) : Obj := { cls := Value.none, data := Data.fields #[] }
noncomputable def ob235x212 (P : Params) : Obj := { cls := Value.none, data := Data.func { name := Str.ofString "law", qualname := Str.ofString "law", params := (Wu.dr 34).params, body := FuncBody.stmts (Wu.dr 34).body, scope := (Wu.dr 34).scope, globals := 0, closure := [], defaults := Value.none, kwdefaults := Value.none } }
noncomputable def ob236x213 (P : Params) : Obj := { cls := Value.type "code", data := Data.fields #[Value.str (Str.ofString "law") 2661, Value.str (Str.ofString "law") 2662, Value.str (Str.ofString "/claim/cut.py") 2663, Value.int 168 0, Value.int 1 0, Value.int 0 0, Value.int 0 0, Value.int 3 0, Value.ref 233, Value.bool true, Value.int 181 0, Value.ref 234, Value.none, Value.none, Value.none, Value.ref 235, Value.int 2664 0, Value.int 168 0, Value.str (Str.ofString "/claim/cut.py") 2665] }
noncomputable def ob237x214 (P : Params) : Obj := { cls := Value.type "function", data := Data.func { name := Str.ofString "law", qualname := Str.ofString "law", params := (Wu.dr 34).params, body := FuncBody.stmts (Wu.dr 34).body, scope := (Wu.dr 34).scope, globals := 3, closure := [], defaults := Value.none, kwdefaults := Value.none, pyModule := Value.str (Str.ofString "law_wu0091_01") 2587, code := Value.ref 236 } }
noncomputable def lst35 (P : Params) : List Obj := [boot_o_0 P, boot_o_1 P, boot_o_2 P, ob3x189 P, boot_o_4 P, boot_o_5 P, boot_o_6 P, boot_o_7 P, boot_o_8 P, boot_o_9 P, boot_o_10 P, ob11x0 P, ob12x190 P, ob13x2 P, ob14x3 P, ob15x7 P, ob16x8 P, ob17x9 P, ob18x10 P, ob19x11 P, ob20x12 P, ob21x13 P, ob22x14 P, ob23x15 P, ob24x16 P, ob25x17 P, ob26x18 P, ob27x19 P, ob28x20 P, ob29x21 P, ob30x22 P, ob31x23 P, ob32x24 P, ob33x25 P, ob34x26 P, ob35x27 P, ob36x30 P, ob37x31 P, ob38x32 P, ob39x33 P, ob40x34 P, ob41x35 P, ob42x36 P, ob43x37 P, ob44x38 P, ob45x39 P, ob46x40 P, ob47x41 P, ob48x42 P, ob49x43 P, ob50x46 P, ob51x47 P, ob52x48 P, ob53x49 P, ob54x50 P, ob55x51 P, ob56x52 P, ob57x53 P, ob58x54 P, ob59x55 P, ob60x56 P, ob61x57 P, ob62x58 P, ob63x59 P, ob64x62 P, ob65x63 P, ob66x64 P, ob67x65 P, ob68x66 P, ob69x67 P, ob70x68 P, ob71x69 P, ob72x70 P, ob73x71 P, ob74x72 P, ob75x73 P, ob76x74 P, ob77x75 P, ob78x76 P, ob79x77 P, ob80x78 P, ob81x79 P, ob82x80 P, ob83x81 P, ob84x82 P, ob85x85 P, ob86x86 P, ob87x87 P, ob88x88 P, ob89x89 P, ob90x90 P, ob91x91 P, ob92x93 P, ob93x94 P, ob94x95 P, ob95x96 P, ob96x97 P, ob97x98 P, ob98x99 P, ob99x100 P, ob100x101 P, ob101x102 P, ob102x103 P, ob103x106 P, ob104x107 P, ob105x108 P, ob106x109 P, ob107x110 P, ob108x111 P, ob109x112 P, b3O 0 P, b3O 1 P, b3O 2 P, b3O 3 P, b3O 4 P, b3O 5 P, b3O 6 P, b3O 7 P, b3O 8 P, b3O 9 P, b3O 10 P, b3O 11 P, b3O 12 P, b3O 13 P, b3O 14 P, b3O 15 P, b3O 16 P, b3O 17 P, b3O 18 P, b3O 19 P, b3O 20 P, b3O 21 P, b3O 22 P, b3O 23 P, b3O 24 P, b3O 25 P, b3O 26 P, b3O 27 P, b3O 28 P, b3O 29 P, b3O 30 P, b3O 31 P, b3O 32 P, b3O 33 P, b3O 34 P, b3O 35 P, b3O 36 P, b3O 37 P, b3O 38 P, ob149x116 P, ob150x117 P, ob151x118 P, ob152x119 P, ob153x120 P, ob154x121 P, ob155x122 P, ob156x124 P, ob157x125 P, ob158x126 P, ob159x127 P, ob160x128 P, ob161x131 P, ob162x132 P, ob163x133 P, ob164x134 P, ob165x135 P, ob166x136 P, ob167x137 P, ob168x139 P, ob169x140 P, ob170x141 P, ob171x142 P, ob172x143 P, ob173x144 P, ob174x145 P, ob175x146 P, ob176x147 P, ob177x148 P, ob178x149 P, ob179x152 P, ob180x153 P, ob181x154 P, ob182x155 P, ob183x156 P, ob184x157 P, ob185x158 P, ob186x159 P, ob187x160 P, ob188x161 P, ob189x162 P, ob190x163 P, ob191x164 P, ob192x165 P, ob193x168 P, ob194x169 P, ob195x170 P, ob196x171 P, ob197x172 P, ob198x173 P, ob199x174 P, ob200x175 P, ob201x176 P, ob202x177 P, ob203x178 P, ob204x179 P, ob205x180 P, ob206x181 P, ob207x182 P, ob208x183 P, ob209x184 P, ob210x185 P, ob211x186 P, ob212x187 P, ob213x188 P, ob214x191 P, ob215x192 P, ob216x193 P, ob217x194 P, ob218x195 P, ob219x196 P, ob220x197 P, ob221x198 P, ob222x199 P, ob223x200 P, ob224x201 P, ob225x202 P, ob226x203 P, ob227x204 P, ob228x205 P, ob229x206 P, ob230x207 P, ob231x208 P, ob232x209 P, ob233x210 P, ob234x211 P, ob235x212 P, ob236x213 P, ob237x214 P]
noncomputable def sta35 (w : World) (os : OsState) : SharedT := ⟨mkT 12 (lst35 w.params), 238, {}, #[], {}, 2667, os⟩
noncomputable def ps35 : Pos := ⟨168, 0, 222, 68⟩
end
end Wu
end
section
namespace Wu
set_option linter.unusedVariables false
noncomputable section
open PySem PySem.Spec PySem.Calls PyProof.Rows PySem.W
theorem gr0 (w : World) (os : OsState) : segRunT treeTable pw w 11 annB 1 55 (sta0 w os) (piecesOf (sts 0 4) envB cB ps0 stB) = some (.next, sta4 w os, cB, ps4) := by
  rw [tw_run, tw_tab]; kernel_rfl
theorem gr4 (w : World) (os : OsState) : segRunT treeTable pw w 11 annB 1 106 (sta4 w os) (piecesOf (sts 4 7) envB cB ps4 stB) = some (.next, sta7 w os, cB, ps7) := by
  rw [tw_run, tw_tab]; kernel_rfl
theorem gr7 (w : World) (os : OsState) : segRunT treeTable pw w 11 annB 1 80 (sta7 w os) (piecesOf (sts 7 10) envB cB ps7 stB) = some (.next, sta10 w os, cB, ps10) := by
  rw [tw_run, tw_tab]; kernel_rfl
theorem gr10 (w : World) (os : OsState) : segRunT treeTable pw w 11 annB 1 69 (sta10 w os) (piecesOf (sts 10 13) envB cB ps10 stB) = some (.next, sta13 w os, cB, ps13) := by
  rw [tw_run, tw_tab]; kernel_rfl
theorem gr13 (w : World) (os : OsState) : segRunT treeTable pw w 11 annB 1 91 (sta13 w os) (piecesOf (sts 13 16) envB cB ps13 stB) = some (.next, sta16 w os, cB, ps16) := by
  rw [tw_run, tw_tab]; kernel_rfl
theorem gr16 (w : World) (os : OsState) : segRunT treeTable pw w 11 annB 1 40 (sta16 w os) (piecesOf (sts 16 18) envB cB ps16 stB) = some (.next, sta18 w os, cB, ps18) := by
  rw [tw_run, tw_tab]; kernel_rfl
theorem gr19 (w : World) (os : OsState) : segRunT treeTable pw w 11 annB 1 30 (sta19 w os) (piecesOf (sts 19 20) envB cB ps19 stB) = some (.next, sta20 w os, cB, ps20) := by
  rw [tw_run, tw_tab]; kernel_rfl
theorem gr21 (w : World) (os : OsState) : segRunT treeTable pw w 11 annB 1 31 (sta21 w os) (piecesOf (sts 21 22) envB cB ps21 stB) = some (.next, sta22 w os, cB, ps22) := by
  rw [tw_run, tw_tab]; kernel_rfl
theorem gr23 (w : World) (os : OsState) : segRunT treeTable pw w 11 annB 1 30 (sta23 w os) (piecesOf (sts 23 24) envB cB ps23 stB) = some (.next, sta24 w os, cB, ps24) := by
  rw [tw_run, tw_tab]; kernel_rfl
theorem gr25 (w : World) (os : OsState) : segRunT treeTable pw w 11 annB 1 75 (sta25 w os) (piecesOf (sts 25 28) envB cB ps25 stB) = some (.next, sta28 w os, cB, ps28) := by
  rw [tw_run, tw_tab]; kernel_rfl
theorem gr28 (w : World) (os : OsState) : segRunT treeTable pw w 11 annB 1 98 (sta28 w os) (piecesOf (sts 28 31) envB cB ps28 stB) = some (.next, sta31 w os, cB, ps31) := by
  rw [tw_run, tw_tab]; kernel_rfl
theorem gr31 (w : World) (os : OsState) : segRunT treeTable pw w 11 annB 1 118 (sta31 w os) (piecesOf (sts 31 35) envB cB ps31 stB) = some (.next, sta35 w os, cB, ps35) := by
  rw [tw_run, tw_tab]; kernel_rfl
end
end Wu
end
section
namespace Wu
open PySem PySem.Spec PySem.Calls PyProof.Rows PySem.W
theorem gr22 (w : World) (os : OsState) : segRunT treeTable pw w 11 annB 1 361 (sta22 w os) (piecesOf (sts 22 23) envB cB ps22 stB) = some (.next, sta23 w os, cB, ps23) := by
  revert w
  refine byRow2 "special-get-raises" (fun w => ?_) (fun w => ?_)
  · rw [tw_run, tw_tab]; kernel_rfl
  · rw [tw_run, tw_tab]; kernel_rfl
end Wu
end
section
namespace Wu
open PySem PySem.Spec PySem.Calls PyProof.Rows PySem.W
theorem gr18 (w : World) (os : OsState) : segRunT treeTable pw w 11 annB 1 999 (sta18 w os) (piecesOf (sts 18 19) envB cB ps18 stB) = some (.next, sta19 w os, cB, ps19) := by
  revert w
  refine byRow2 "special-get-raises" (fun w => ?_) (fun w => ?_)
  · rw [tw_run, tw_tab]; kernel_rfl
  · rw [tw_run, tw_tab]; kernel_rfl
end Wu
end
section
namespace Wu
set_option linter.unusedVariables false
noncomputable section
open PySem PySem.Spec PySem.Calls PyProof.Rows PySem.W
noncomputable def oc168x127 (P : Params) : Obj := { cls := Value.type "list", data := Data.seq #[Value.int 917505 2380] }
noncomputable def oc169x128 (P : Params) : Obj := { cls := Value.type "range", data := Data.fields #[Value.int 917536 2381, Value.int 917632 2382, Value.int 1 2383] }
noncomputable def oc170x129 (P : Params) : Obj := { cls := Value.type "list", data := Data.seq #[] 2 }
noncomputable def oc171x130 (P : Params) : Obj := { cls := Value.type "range_iterator", data := Data.fields #[Value.int 917536 0, Value.int 96 0, Value.int 1 0] }
noncomputable def oc170x131 (P : Params) : Obj := { cls := Value.type "list", data := Data.seq #[Value.int 917536 2386, Value.int 917537 2387, Value.int 917538 2388, Value.int 917539 2389, Value.int 917540 2390, Value.int 917541 2391, Value.int 917542 2392, Value.int 917543 2393, Value.int 917544 2394, Value.int 917545 2395, Value.int 917546 2396, Value.int 917547 2397, Value.int 917548 2398, Value.int 917549 2399, Value.int 917550 2400, Value.int 917551 2401, Value.int 917552 2402, Value.int 917553 2403, Value.int 917554 2404, Value.int 917555 2405, Value.int 917556 2406, Value.int 917557 2407, Value.int 917558 2408] 25 }
noncomputable def oc171x132 (P : Params) : Obj := { cls := Value.type "range_iterator", data := Data.fields #[Value.int 917559 0, Value.int 73 0, Value.int 1 0] }
noncomputable def oc170x133 (P : Params) : Obj := { cls := Value.type "list", data := Data.seq #[Value.int 917536 2386, Value.int 917537 2387, Value.int 917538 2388, Value.int 917539 2389, Value.int 917540 2390, Value.int 917541 2391, Value.int 917542 2392, Value.int 917543 2393, Value.int 917544 2394, Value.int 917545 2395, Value.int 917546 2396, Value.int 917547 2397, Value.int 917548 2398, Value.int 917549 2399, Value.int 917550 2400, Value.int 917551 2401, Value.int 917552 2402, Value.int 917553 2403, Value.int 917554 2404, Value.int 917555 2405, Value.int 917556 2406, Value.int 917557 2407, Value.int 917558 2408, Value.int 917559 2409, Value.int 917560 2410, Value.int 917561 2411, Value.int 917562 2412, Value.int 917563 2413, Value.int 917564 2414, Value.int 917565 2415, Value.int 917566 2416, Value.int 917567 2417, Value.int 917568 2418, Value.int 917569 2419, Value.int 917570 2420, Value.int 917571 2421, Value.int 917572 2422, Value.int 917573 2423, Value.int 917574 2424, Value.int 917575 2425, Value.int 917576 2426, Value.int 917577 2427, Value.int 917578 2428, Value.int 917579 2429, Value.int 917580 2430, Value.int 917581 2431] 48 }
noncomputable def oc171x134 (P : Params) : Obj := { cls := Value.type "range_iterator", data := Data.fields #[Value.int 917582 0, Value.int 50 0, Value.int 1 0] }
noncomputable def oc170x135 (P : Params) : Obj := { cls := Value.type "list", data := Data.seq #[Value.int 917536 2386, Value.int 917537 2387, Value.int 917538 2388, Value.int 917539 2389, Value.int 917540 2390, Value.int 917541 2391, Value.int 917542 2392, Value.int 917543 2393, Value.int 917544 2394, Value.int 917545 2395, Value.int 917546 2396, Value.int 917547 2397, Value.int 917548 2398, Value.int 917549 2399, Value.int 917550 2400, Value.int 917551 2401, Value.int 917552 2402, Value.int 917553 2403, Value.int 917554 2404, Value.int 917555 2405, Value.int 917556 2406, Value.int 917557 2407, Value.int 917558 2408, Value.int 917559 2409, Value.int 917560 2410, Value.int 917561 2411, Value.int 917562 2412, Value.int 917563 2413, Value.int 917564 2414, Value.int 917565 2415, Value.int 917566 2416, Value.int 917567 2417, Value.int 917568 2418, Value.int 917569 2419, Value.int 917570 2420, Value.int 917571 2421, Value.int 917572 2422, Value.int 917573 2423, Value.int 917574 2424, Value.int 917575 2425, Value.int 917576 2426, Value.int 917577 2427, Value.int 917578 2428, Value.int 917579 2429, Value.int 917580 2430, Value.int 917581 2431, Value.int 917582 2432, Value.int 917583 2433, Value.int 917584 2434, Value.int 917585 2435, Value.int 917586 2436, Value.int 917587 2437, Value.int 917588 2438, Value.int 917589 2439, Value.int 917590 2440, Value.int 917591 2441, Value.int 917592 2442, Value.int 917593 2443, Value.int 917594 2444, Value.int 917595 2445, Value.int 917596 2446, Value.int 917597 2447, Value.int 917598 2448, Value.int 917599 2449, Value.int 917600 2450, Value.int 917601 2451, Value.int 917602 2452, Value.int 917603 2453, Value.int 917604 2454] 71 }
noncomputable def oc171x136 (P : Params) : Obj := { cls := Value.type "range_iterator", data := Data.fields #[Value.int 917605 0, Value.int 27 0, Value.int 1 0] }
noncomputable def oc170x137 (P : Params) : Obj := { cls := Value.type "list", data := Data.seq #[Value.int 917536 2386, Value.int 917537 2387, Value.int 917538 2388, Value.int 917539 2389, Value.int 917540 2390, Value.int 917541 2391, Value.int 917542 2392, Value.int 917543 2393, Value.int 917544 2394, Value.int 917545 2395, Value.int 917546 2396, Value.int 917547 2397, Value.int 917548 2398, Value.int 917549 2399, Value.int 917550 2400, Value.int 917551 2401, Value.int 917552 2402, Value.int 917553 2403, Value.int 917554 2404, Value.int 917555 2405, Value.int 917556 2406, Value.int 917557 2407, Value.int 917558 2408, Value.int 917559 2409, Value.int 917560 2410, Value.int 917561 2411, Value.int 917562 2412, Value.int 917563 2413, Value.int 917564 2414, Value.int 917565 2415, Value.int 917566 2416, Value.int 917567 2417, Value.int 917568 2418, Value.int 917569 2419, Value.int 917570 2420, Value.int 917571 2421, Value.int 917572 2422, Value.int 917573 2423, Value.int 917574 2424, Value.int 917575 2425, Value.int 917576 2426, Value.int 917577 2427, Value.int 917578 2428, Value.int 917579 2429, Value.int 917580 2430, Value.int 917581 2431, Value.int 917582 2432, Value.int 917583 2433, Value.int 917584 2434, Value.int 917585 2435, Value.int 917586 2436, Value.int 917587 2437, Value.int 917588 2438, Value.int 917589 2439, Value.int 917590 2440, Value.int 917591 2441, Value.int 917592 2442, Value.int 917593 2443, Value.int 917594 2444, Value.int 917595 2445, Value.int 917596 2446, Value.int 917597 2447, Value.int 917598 2448, Value.int 917599 2449, Value.int 917600 2450, Value.int 917601 2451, Value.int 917602 2452, Value.int 917603 2453, Value.int 917604 2454, Value.int 917605 2455, Value.int 917606 2456, Value.int 917607 2457, Value.int 917608 2458, Value.int 917609 2459, Value.int 917610 2460, Value.int 917611 2461, Value.int 917612 2462, Value.int 917613 2463, Value.int 917614 2464, Value.int 917615 2465, Value.int 917616 2466, Value.int 917617 2467, Value.int 917618 2468, Value.int 917619 2469, Value.int 917620 2470, Value.int 917621 2471, Value.int 917622 2472, Value.int 917623 2473, Value.int 917624 2474, Value.int 917625 2475, Value.int 917626 2476, Value.int 917627 2477] 94 }
noncomputable def oc171x138 (P : Params) : Obj := { cls := Value.type "range_iterator", data := Data.fields #[Value.int 917628 0, Value.int 4 0, Value.int 1 0] }
noncomputable def oc170x139 (P : Params) : Obj := { cls := Value.type "list", data := Data.seq #[Value.int 917536 2386, Value.int 917537 2387, Value.int 917538 2388, Value.int 917539 2389, Value.int 917540 2390, Value.int 917541 2391, Value.int 917542 2392, Value.int 917543 2393, Value.int 917544 2394, Value.int 917545 2395, Value.int 917546 2396, Value.int 917547 2397, Value.int 917548 2398, Value.int 917549 2399, Value.int 917550 2400, Value.int 917551 2401, Value.int 917552 2402, Value.int 917553 2403, Value.int 917554 2404, Value.int 917555 2405, Value.int 917556 2406, Value.int 917557 2407, Value.int 917558 2408, Value.int 917559 2409, Value.int 917560 2410, Value.int 917561 2411, Value.int 917562 2412, Value.int 917563 2413, Value.int 917564 2414, Value.int 917565 2415, Value.int 917566 2416, Value.int 917567 2417, Value.int 917568 2418, Value.int 917569 2419, Value.int 917570 2420, Value.int 917571 2421, Value.int 917572 2422, Value.int 917573 2423, Value.int 917574 2424, Value.int 917575 2425, Value.int 917576 2426, Value.int 917577 2427, Value.int 917578 2428, Value.int 917579 2429, Value.int 917580 2430, Value.int 917581 2431, Value.int 917582 2432, Value.int 917583 2433, Value.int 917584 2434, Value.int 917585 2435, Value.int 917586 2436, Value.int 917587 2437, Value.int 917588 2438, Value.int 917589 2439, Value.int 917590 2440, Value.int 917591 2441, Value.int 917592 2442, Value.int 917593 2443, Value.int 917594 2444, Value.int 917595 2445, Value.int 917596 2446, Value.int 917597 2447, Value.int 917598 2448, Value.int 917599 2449, Value.int 917600 2450, Value.int 917601 2451, Value.int 917602 2452, Value.int 917603 2453, Value.int 917604 2454, Value.int 917605 2455, Value.int 917606 2456, Value.int 917607 2457, Value.int 917608 2458, Value.int 917609 2459, Value.int 917610 2460, Value.int 917611 2461, Value.int 917612 2462, Value.int 917613 2463, Value.int 917614 2464, Value.int 917615 2465, Value.int 917616 2466, Value.int 917617 2467, Value.int 917618 2468, Value.int 917619 2469, Value.int 917620 2470, Value.int 917621 2471, Value.int 917622 2472, Value.int 917623 2473, Value.int 917624 2474, Value.int 917625 2475, Value.int 917626 2476, Value.int 917627 2477, Value.int 917628 2478, Value.int 917629 2479, Value.int 917630 2480, Value.int 917631 2481] 98 }
noncomputable def oc171x140 (P : Params) : Obj := { cls := Value.type "range_iterator", data := Data.fields #[Value.int 917632 0, Value.int 0 0, Value.int 1 0] }
noncomputable def oc172x141 (P : Params) : Obj := { cls := Value.type "tuple", data := Data.seq #[] }
noncomputable def oc173x142 (P : Params) : Obj := { cls := Value.type "StopIteration", data := Data.fields #[Value.ref 172, Value.none, Value.none, Value.none, Value.bool false, Value.none] }
noncomputable def oc174x143 (P : Params) : Obj := { cls := Value.type "list", data := Data.seq #[Value.int 917505 2380, Value.int 917536 2386, Value.int 917537 2387, Value.int 917538 2388, Value.int 917539 2389, Value.int 917540 2390, Value.int 917541 2391, Value.int 917542 2392, Value.int 917543 2393, Value.int 917544 2394, Value.int 917545 2395, Value.int 917546 2396, Value.int 917547 2397, Value.int 917548 2398, Value.int 917549 2399, Value.int 917550 2400, Value.int 917551 2401, Value.int 917552 2402, Value.int 917553 2403, Value.int 917554 2404, Value.int 917555 2405, Value.int 917556 2406, Value.int 917557 2407, Value.int 917558 2408, Value.int 917559 2409, Value.int 917560 2410, Value.int 917561 2411, Value.int 917562 2412, Value.int 917563 2413, Value.int 917564 2414, Value.int 917565 2415, Value.int 917566 2416, Value.int 917567 2417, Value.int 917568 2418, Value.int 917569 2419, Value.int 917570 2420, Value.int 917571 2421, Value.int 917572 2422, Value.int 917573 2423, Value.int 917574 2424, Value.int 917575 2425, Value.int 917576 2426, Value.int 917577 2427, Value.int 917578 2428, Value.int 917579 2429, Value.int 917580 2430, Value.int 917581 2431, Value.int 917582 2432, Value.int 917583 2433, Value.int 917584 2434, Value.int 917585 2435, Value.int 917586 2436, Value.int 917587 2437, Value.int 917588 2438, Value.int 917589 2439, Value.int 917590 2440, Value.int 917591 2441, Value.int 917592 2442, Value.int 917593 2443, Value.int 917594 2444, Value.int 917595 2445, Value.int 917596 2446, Value.int 917597 2447, Value.int 917598 2448, Value.int 917599 2449, Value.int 917600 2450, Value.int 917601 2451, Value.int 917602 2452, Value.int 917603 2453, Value.int 917604 2454, Value.int 917605 2455, Value.int 917606 2456, Value.int 917607 2457, Value.int 917608 2458, Value.int 917609 2459, Value.int 917610 2460, Value.int 917611 2461, Value.int 917612 2462, Value.int 917613 2463, Value.int 917614 2464, Value.int 917615 2465, Value.int 917616 2466, Value.int 917617 2467, Value.int 917618 2468, Value.int 917619 2469, Value.int 917620 2470, Value.int 917621 2471, Value.int 917622 2472, Value.int 917623 2473, Value.int 917624 2474, Value.int 917625 2475, Value.int 917626 2476, Value.int 917627 2477, Value.int 917628 2478, Value.int 917629 2479, Value.int 917630 2480, Value.int 917631 2481] }
noncomputable def oc175x144 (P : Params) : Obj := { cls := Value.type "set", data := Data.set #[] 0 { mask := 7, place := #[], dummies := #[], finger := 0, led := !P.followText "set-order", moves := 0, plain := true } }
noncomputable def oc176x145 (P : Params) : Obj := { cls := Value.type "list_iterator", data := Data.fields #[Value.ref 174, Value.int 0 0] }
noncomputable def oc175x146 (P : Params) : Obj := { cls := Value.type "set", data := Data.set #[(917536, Value.int 917536 2386), (917505, Value.int 917505 2380), (917538, Value.int 917538 2388), (917539, Value.int 917539 2389), (917537, Value.int 917537 2387), (917540, Value.int 917540 2390)] 7 { mask := 31, place := #[0, 1, 2, 3, 4, 5], dummies := #[], finger := 0, led := !P.followText "set-order", moves := 1, plain := true } }
noncomputable def oc176x147 (P : Params) : Obj := { cls := Value.type "list_iterator", data := Data.fields #[Value.ref 174, Value.int 6 0] }
noncomputable def oc175x148 (P : Params) : Obj := { cls := Value.type "set", data := Data.set #[(917536, Value.int 917536 2386), (917505, Value.int 917505 2380), (917538, Value.int 917538 2388), (917539, Value.int 917539 2389), (917537, Value.int 917537 2387), (917540, Value.int 917540 2390), (917541, Value.int 917541 2391), (917542, Value.int 917542 2392), (917543, Value.int 917543 2393), (917544, Value.int 917544 2394), (917545, Value.int 917545 2395)] 12 { mask := 31, place := #[0, 1, 2, 3, 4, 5, 6, 7, 8, 9, 10], dummies := #[], finger := 0, led := !P.followText "set-order", moves := 1, plain := true } }
noncomputable def oc176x149 (P : Params) : Obj := { cls := Value.type "list_iterator", data := Data.fields #[Value.ref 174, Value.int 11 0] }
noncomputable def oc175x150 (P : Params) : Obj := { cls := Value.type "set", data := Data.set #[(917536, Value.int 917536 2386), (917505, Value.int 917505 2380), (917538, Value.int 917538 2388), (917539, Value.int 917539 2389), (917537, Value.int 917537 2387), (917540, Value.int 917540 2390), (917541, Value.int 917541 2391), (917542, Value.int 917542 2392), (917543, Value.int 917543 2393), (917544, Value.int 917544 2394), (917545, Value.int 917545 2395), (917546, Value.int 917546 2396), (917547, Value.int 917547 2397), (917548, Value.int 917548 2398), (917549, Value.int 917549 2399), (917550, Value.int 917550 2400)] 17 { mask := 31, place := #[0, 1, 2, 3, 4, 5, 6, 7, 8, 9, 10, 11, 12, 13, 14, 15], dummies := #[], finger := 0, led := !P.followText "set-order", moves := 1, plain := true } }
noncomputable def oc176x151 (P : Params) : Obj := { cls := Value.type "list_iterator", data := Data.fields #[Value.ref 174, Value.int 16 0] }
noncomputable def oc175x152 (P : Params) : Obj := { cls := Value.type "set", data := Data.set #[(917505, Value.int 917505 2380), (917536, Value.int 917536 2386), (917537, Value.int 917537 2387), (917538, Value.int 917538 2388), (917539, Value.int 917539 2389), (917540, Value.int 917540 2390), (917541, Value.int 917541 2391), (917542, Value.int 917542 2392), (917543, Value.int 917543 2393), (917544, Value.int 917544 2394), (917545, Value.int 917545 2395), (917546, Value.int 917546 2396), (917547, Value.int 917547 2397), (917548, Value.int 917548 2398), (917549, Value.int 917549 2399), (917550, Value.int 917550 2400), (917551, Value.int 917551 2401), (917552, Value.int 917552 2402), (917553, Value.int 917553 2403), (917554, Value.int 917554 2404), (917555, Value.int 917555 2405)] 23 { mask := 127, place := #[1, 32, 33, 34, 35, 36, 37, 38, 39, 40, 41, 42, 43, 44, 45, 46, 47, 48, 49, 50, 51], dummies := #[], finger := 0, led := !P.followText "set-order", moves := 2, plain := true } }
noncomputable def oc176x153 (P : Params) : Obj := { cls := Value.type "list_iterator", data := Data.fields #[Value.ref 174, Value.int 21 0] }
noncomputable def oc175x154 (P : Params) : Obj := { cls := Value.type "set", data := Data.set #[(917505, Value.int 917505 2380), (917536, Value.int 917536 2386), (917537, Value.int 917537 2387), (917538, Value.int 917538 2388), (917539, Value.int 917539 2389), (917540, Value.int 917540 2390), (917541, Value.int 917541 2391), (917542, Value.int 917542 2392), (917543, Value.int 917543 2393), (917544, Value.int 917544 2394), (917545, Value.int 917545 2395), (917546, Value.int 917546 2396), (917547, Value.int 917547 2397), (917548, Value.int 917548 2398), (917549, Value.int 917549 2399), (917550, Value.int 917550 2400), (917551, Value.int 917551 2401), (917552, Value.int 917552 2402), (917553, Value.int 917553 2403), (917554, Value.int 917554 2404), (917555, Value.int 917555 2405), (917556, Value.int 917556 2406), (917557, Value.int 917557 2407), (917558, Value.int 917558 2408), (917559, Value.int 917559 2409), (917560, Value.int 917560 2410)] 28 { mask := 127, place := #[1, 32, 33, 34, 35, 36, 37, 38, 39, 40, 41, 42, 43, 44, 45, 46, 47, 48, 49, 50, 51, 52, 53, 54, 55, 56], dummies := #[], finger := 0, led := !P.followText "set-order", moves := 2, plain := true } }
noncomputable def oc176x155 (P : Params) : Obj := { cls := Value.type "list_iterator", data := Data.fields #[Value.ref 174, Value.int 26 0] }
noncomputable def oc175x156 (P : Params) : Obj := { cls := Value.type "set", data := Data.set #[(917505, Value.int 917505 2380), (917536, Value.int 917536 2386), (917537, Value.int 917537 2387), (917538, Value.int 917538 2388), (917539, Value.int 917539 2389), (917540, Value.int 917540 2390), (917541, Value.int 917541 2391), (917542, Value.int 917542 2392), (917543, Value.int 917543 2393), (917544, Value.int 917544 2394), (917545, Value.int 917545 2395), (917546, Value.int 917546 2396), (917547, Value.int 917547 2397), (917548, Value.int 917548 2398), (917549, Value.int 917549 2399), (917550, Value.int 917550 2400), (917551, Value.int 917551 2401), (917552, Value.int 917552 2402), (917553, Value.int 917553 2403), (917554, Value.int 917554 2404), (917555, Value.int 917555 2405), (917556, Value.int 917556 2406), (917557, Value.int 917557 2407), (917558, Value.int 917558 2408), (917559, Value.int 917559 2409), (917560, Value.int 917560 2410), (917561, Value.int 917561 2411), (917562, Value.int 917562 2412), (917563, Value.int 917563 2413), (917564, Value.int 917564 2414), (917565, Value.int 917565 2415)] 33 { mask := 127, place := #[1, 32, 33, 34, 35, 36, 37, 38, 39, 40, 41, 42, 43, 44, 45, 46, 47, 48, 49, 50, 51, 52, 53, 54, 55, 56, 57, 58, 59, 60, 61], dummies := #[], finger := 0, led := !P.followText "set-order", moves := 2, plain := true } }
noncomputable def oc176x157 (P : Params) : Obj := { cls := Value.type "list_iterator", data := Data.fields #[Value.ref 174, Value.int 31 0] }
noncomputable def oc175x158 (P : Params) : Obj := { cls := Value.type "set", data := Data.set #[(917505, Value.int 917505 2380), (917536, Value.int 917536 2386), (917537, Value.int 917537 2387), (917538, Value.int 917538 2388), (917539, Value.int 917539 2389), (917540, Value.int 917540 2390), (917541, Value.int 917541 2391), (917542, Value.int 917542 2392), (917543, Value.int 917543 2393), (917544, Value.int 917544 2394), (917545, Value.int 917545 2395), (917546, Value.int 917546 2396), (917547, Value.int 917547 2397), (917548, Value.int 917548 2398), (917549, Value.int 917549 2399), (917550, Value.int 917550 2400), (917551, Value.int 917551 2401), (917552, Value.int 917552 2402), (917553, Value.int 917553 2403), (917554, Value.int 917554 2404), (917555, Value.int 917555 2405), (917556, Value.int 917556 2406), (917557, Value.int 917557 2407), (917558, Value.int 917558 2408), (917559, Value.int 917559 2409), (917560, Value.int 917560 2410), (917561, Value.int 917561 2411), (917562, Value.int 917562 2412), (917563, Value.int 917563 2413), (917564, Value.int 917564 2414), (917565, Value.int 917565 2415), (917566, Value.int 917566 2416), (917567, Value.int 917567 2417), (917568, Value.int 917568 2418), (917569, Value.int 917569 2419), (917570, Value.int 917570 2420)] 38 { mask := 127, place := #[1, 32, 33, 34, 35, 36, 37, 38, 39, 40, 41, 42, 43, 44, 45, 46, 47, 48, 49, 50, 51, 52, 53, 54, 55, 56, 57, 58, 59, 60, 61, 62, 63, 64, 65, 66], dummies := #[], finger := 0, led := !P.followText "set-order", moves := 2, plain := true } }
noncomputable def oc176x159 (P : Params) : Obj := { cls := Value.type "list_iterator", data := Data.fields #[Value.ref 174, Value.int 36 0] }
noncomputable def oc175x160 (P : Params) : Obj := { cls := Value.type "set", data := Data.set #[(917505, Value.int 917505 2380), (917536, Value.int 917536 2386), (917537, Value.int 917537 2387), (917538, Value.int 917538 2388), (917539, Value.int 917539 2389), (917540, Value.int 917540 2390), (917541, Value.int 917541 2391), (917542, Value.int 917542 2392), (917543, Value.int 917543 2393), (917544, Value.int 917544 2394), (917545, Value.int 917545 2395), (917546, Value.int 917546 2396), (917547, Value.int 917547 2397), (917548, Value.int 917548 2398), (917549, Value.int 917549 2399), (917550, Value.int 917550 2400), (917551, Value.int 917551 2401), (917552, Value.int 917552 2402), (917553, Value.int 917553 2403), (917554, Value.int 917554 2404), (917555, Value.int 917555 2405), (917556, Value.int 917556 2406), (917557, Value.int 917557 2407), (917558, Value.int 917558 2408), (917559, Value.int 917559 2409), (917560, Value.int 917560 2410), (917561, Value.int 917561 2411), (917562, Value.int 917562 2412), (917563, Value.int 917563 2413), (917564, Value.int 917564 2414), (917565, Value.int 917565 2415), (917566, Value.int 917566 2416), (917567, Value.int 917567 2417), (917568, Value.int 917568 2418), (917569, Value.int 917569 2419), (917570, Value.int 917570 2420), (917571, Value.int 917571 2421), (917572, Value.int 917572 2422), (917573, Value.int 917573 2423), (917574, Value.int 917574 2424), (917575, Value.int 917575 2425)] 43 { mask := 127, place := #[1, 32, 33, 34, 35, 36, 37, 38, 39, 40, 41, 42, 43, 44, 45, 46, 47, 48, 49, 50, 51, 52, 53, 54, 55, 56, 57, 58, 59, 60, 61, 62, 63, 64, 65, 66, 67, 68, 69, 70, 71], dummies := #[], finger := 0, led := !P.followText "set-order", moves := 2, plain := true } }
noncomputable def oc176x161 (P : Params) : Obj := { cls := Value.type "list_iterator", data := Data.fields #[Value.ref 174, Value.int 41 0] }
noncomputable def oc175x162 (P : Params) : Obj := { cls := Value.type "set", data := Data.set #[(917505, Value.int 917505 2380), (917536, Value.int 917536 2386), (917537, Value.int 917537 2387), (917538, Value.int 917538 2388), (917539, Value.int 917539 2389), (917540, Value.int 917540 2390), (917541, Value.int 917541 2391), (917542, Value.int 917542 2392), (917543, Value.int 917543 2393), (917544, Value.int 917544 2394), (917545, Value.int 917545 2395), (917546, Value.int 917546 2396), (917547, Value.int 917547 2397), (917548, Value.int 917548 2398), (917549, Value.int 917549 2399), (917550, Value.int 917550 2400), (917551, Value.int 917551 2401), (917552, Value.int 917552 2402), (917553, Value.int 917553 2403), (917554, Value.int 917554 2404), (917555, Value.int 917555 2405), (917556, Value.int 917556 2406), (917557, Value.int 917557 2407), (917558, Value.int 917558 2408), (917559, Value.int 917559 2409), (917560, Value.int 917560 2410), (917561, Value.int 917561 2411), (917562, Value.int 917562 2412), (917563, Value.int 917563 2413), (917564, Value.int 917564 2414), (917565, Value.int 917565 2415), (917566, Value.int 917566 2416), (917567, Value.int 917567 2417), (917568, Value.int 917568 2418), (917569, Value.int 917569 2419), (917570, Value.int 917570 2420), (917571, Value.int 917571 2421), (917572, Value.int 917572 2422), (917573, Value.int 917573 2423), (917574, Value.int 917574 2424), (917575, Value.int 917575 2425), (917576, Value.int 917576 2426), (917577, Value.int 917577 2427), (917578, Value.int 917578 2428), (917579, Value.int 917579 2429), (917580, Value.int 917580 2430)] 48 { mask := 127, place := #[1, 32, 33, 34, 35, 36, 37, 38, 39, 40, 41, 42, 43, 44, 45, 46, 47, 48, 49, 50, 51, 52, 53, 54, 55, 56, 57, 58, 59, 60, 61, 62, 63, 64, 65, 66, 67, 68, 69, 70, 71, 72, 73, 74, 75, 76], dummies := #[], finger := 0, led := !P.followText "set-order", moves := 2, plain := true } }
noncomputable def oc176x163 (P : Params) : Obj := { cls := Value.type "list_iterator", data := Data.fields #[Value.ref 174, Value.int 46 0] }
noncomputable def oc175x164 (P : Params) : Obj := { cls := Value.type "set", data := Data.set #[(917505, Value.int 917505 2380), (917536, Value.int 917536 2386), (917537, Value.int 917537 2387), (917538, Value.int 917538 2388), (917539, Value.int 917539 2389), (917540, Value.int 917540 2390), (917541, Value.int 917541 2391), (917542, Value.int 917542 2392), (917543, Value.int 917543 2393), (917544, Value.int 917544 2394), (917545, Value.int 917545 2395), (917546, Value.int 917546 2396), (917547, Value.int 917547 2397), (917548, Value.int 917548 2398), (917549, Value.int 917549 2399), (917550, Value.int 917550 2400), (917551, Value.int 917551 2401), (917552, Value.int 917552 2402), (917553, Value.int 917553 2403), (917554, Value.int 917554 2404), (917555, Value.int 917555 2405), (917556, Value.int 917556 2406), (917557, Value.int 917557 2407), (917558, Value.int 917558 2408), (917559, Value.int 917559 2409), (917560, Value.int 917560 2410), (917561, Value.int 917561 2411), (917562, Value.int 917562 2412), (917563, Value.int 917563 2413), (917564, Value.int 917564 2414), (917565, Value.int 917565 2415), (917566, Value.int 917566 2416), (917567, Value.int 917567 2417), (917568, Value.int 917568 2418), (917569, Value.int 917569 2419), (917570, Value.int 917570 2420), (917571, Value.int 917571 2421), (917572, Value.int 917572 2422), (917573, Value.int 917573 2423), (917574, Value.int 917574 2424), (917575, Value.int 917575 2425), (917576, Value.int 917576 2426), (917577, Value.int 917577 2427), (917578, Value.int 917578 2428), (917579, Value.int 917579 2429), (917580, Value.int 917580 2430), (917581, Value.int 917581 2431), (917582, Value.int 917582 2432), (917583, Value.int 917583 2433), (917584, Value.int 917584 2434), (917585, Value.int 917585 2435)] 53 { mask := 127, place := #[1, 32, 33, 34, 35, 36, 37, 38, 39, 40, 41, 42, 43, 44, 45, 46, 47, 48, 49, 50, 51, 52, 53, 54, 55, 56, 57, 58, 59, 60, 61, 62, 63, 64, 65, 66, 67, 68, 69, 70, 71, 72, 73, 74, 75, 76, 77, 78, 79, 80, 81], dummies := #[], finger := 0, led := !P.followText "set-order", moves := 2, plain := true } }
noncomputable def oc176x165 (P : Params) : Obj := { cls := Value.type "list_iterator", data := Data.fields #[Value.ref 174, Value.int 51 0] }
noncomputable def oc175x166 (P : Params) : Obj := { cls := Value.type "set", data := Data.set #[(917505, Value.int 917505 2380), (917536, Value.int 917536 2386), (917537, Value.int 917537 2387), (917538, Value.int 917538 2388), (917539, Value.int 917539 2389), (917540, Value.int 917540 2390), (917541, Value.int 917541 2391), (917542, Value.int 917542 2392), (917543, Value.int 917543 2393), (917544, Value.int 917544 2394), (917545, Value.int 917545 2395), (917546, Value.int 917546 2396), (917547, Value.int 917547 2397), (917548, Value.int 917548 2398), (917549, Value.int 917549 2399), (917550, Value.int 917550 2400), (917551, Value.int 917551 2401), (917552, Value.int 917552 2402), (917553, Value.int 917553 2403), (917554, Value.int 917554 2404), (917555, Value.int 917555 2405), (917556, Value.int 917556 2406), (917557, Value.int 917557 2407), (917558, Value.int 917558 2408), (917559, Value.int 917559 2409), (917560, Value.int 917560 2410), (917561, Value.int 917561 2411), (917562, Value.int 917562 2412), (917563, Value.int 917563 2413), (917564, Value.int 917564 2414), (917565, Value.int 917565 2415), (917566, Value.int 917566 2416), (917567, Value.int 917567 2417), (917568, Value.int 917568 2418), (917569, Value.int 917569 2419), (917570, Value.int 917570 2420), (917571, Value.int 917571 2421), (917572, Value.int 917572 2422), (917573, Value.int 917573 2423), (917574, Value.int 917574 2424), (917575, Value.int 917575 2425), (917576, Value.int 917576 2426), (917577, Value.int 917577 2427), (917578, Value.int 917578 2428), (917579, Value.int 917579 2429), (917580, Value.int 917580 2430), (917581, Value.int 917581 2431), (917582, Value.int 917582 2432), (917583, Value.int 917583 2433), (917584, Value.int 917584 2434), (917585, Value.int 917585 2435), (917586, Value.int 917586 2436), (917587, Value.int 917587 2437), (917588, Value.int 917588 2438), (917589, Value.int 917589 2439), (917590, Value.int 917590 2440)] 58 { mask := 127, place := #[1, 32, 33, 34, 35, 36, 37, 38, 39, 40, 41, 42, 43, 44, 45, 46, 47, 48, 49, 50, 51, 52, 53, 54, 55, 56, 57, 58, 59, 60, 61, 62, 63, 64, 65, 66, 67, 68, 69, 70, 71, 72, 73, 74, 75, 76, 77, 78, 79, 80, 81, 82, 83, 84, 85, 86], dummies := #[], finger := 0, led := !P.followText "set-order", moves := 2, plain := true } }
noncomputable def oc176x167 (P : Params) : Obj := { cls := Value.type "list_iterator", data := Data.fields #[Value.ref 174, Value.int 56 0] }
noncomputable def oc175x168 (P : Params) : Obj := { cls := Value.type "set", data := Data.set #[(917505, Value.int 917505 2380), (917536, Value.int 917536 2386), (917537, Value.int 917537 2387), (917538, Value.int 917538 2388), (917539, Value.int 917539 2389), (917540, Value.int 917540 2390), (917541, Value.int 917541 2391), (917542, Value.int 917542 2392), (917543, Value.int 917543 2393), (917544, Value.int 917544 2394), (917545, Value.int 917545 2395), (917546, Value.int 917546 2396), (917547, Value.int 917547 2397), (917548, Value.int 917548 2398), (917549, Value.int 917549 2399), (917550, Value.int 917550 2400), (917551, Value.int 917551 2401), (917552, Value.int 917552 2402), (917553, Value.int 917553 2403), (917554, Value.int 917554 2404), (917555, Value.int 917555 2405), (917556, Value.int 917556 2406), (917557, Value.int 917557 2407), (917558, Value.int 917558 2408), (917559, Value.int 917559 2409), (917560, Value.int 917560 2410), (917561, Value.int 917561 2411), (917562, Value.int 917562 2412), (917563, Value.int 917563 2413), (917564, Value.int 917564 2414), (917565, Value.int 917565 2415), (917566, Value.int 917566 2416), (917567, Value.int 917567 2417), (917568, Value.int 917568 2418), (917569, Value.int 917569 2419), (917570, Value.int 917570 2420), (917571, Value.int 917571 2421), (917572, Value.int 917572 2422), (917573, Value.int 917573 2423), (917574, Value.int 917574 2424), (917575, Value.int 917575 2425), (917576, Value.int 917576 2426), (917577, Value.int 917577 2427), (917578, Value.int 917578 2428), (917579, Value.int 917579 2429), (917580, Value.int 917580 2430), (917581, Value.int 917581 2431), (917582, Value.int 917582 2432), (917583, Value.int 917583 2433), (917584, Value.int 917584 2434), (917585, Value.int 917585 2435), (917586, Value.int 917586 2436), (917587, Value.int 917587 2437), (917588, Value.int 917588 2438), (917589, Value.int 917589 2439), (917590, Value.int 917590 2440), (917591, Value.int 917591 2441), (917592, Value.int 917592 2442), (917593, Value.int 917593 2443), (917594, Value.int 917594 2444), (917595, Value.int 917595 2445)] 63 { mask := 127, place := #[1, 32, 33, 34, 35, 36, 37, 38, 39, 40, 41, 42, 43, 44, 45, 46, 47, 48, 49, 50, 51, 52, 53, 54, 55, 56, 57, 58, 59, 60, 61, 62, 63, 64, 65, 66, 67, 68, 69, 70, 71, 72, 73, 74, 75, 76, 77, 78, 79, 80, 81, 82, 83, 84, 85, 86, 87, 88, 89, 90, 91], dummies := #[], finger := 0, led := !P.followText "set-order", moves := 2, plain := true } }
noncomputable def oc176x169 (P : Params) : Obj := { cls := Value.type "list_iterator", data := Data.fields #[Value.ref 174, Value.int 61 0] }
noncomputable def oc175x170 (P : Params) : Obj := { cls := Value.type "set", data := Data.set #[(917505, Value.int 917505 2380), (917536, Value.int 917536 2386), (917537, Value.int 917537 2387), (917538, Value.int 917538 2388), (917539, Value.int 917539 2389), (917540, Value.int 917540 2390), (917541, Value.int 917541 2391), (917542, Value.int 917542 2392), (917543, Value.int 917543 2393), (917544, Value.int 917544 2394), (917545, Value.int 917545 2395), (917546, Value.int 917546 2396), (917547, Value.int 917547 2397), (917548, Value.int 917548 2398), (917549, Value.int 917549 2399), (917550, Value.int 917550 2400), (917551, Value.int 917551 2401), (917552, Value.int 917552 2402), (917553, Value.int 917553 2403), (917554, Value.int 917554 2404), (917555, Value.int 917555 2405), (917556, Value.int 917556 2406), (917557, Value.int 917557 2407), (917558, Value.int 917558 2408), (917559, Value.int 917559 2409), (917560, Value.int 917560 2410), (917561, Value.int 917561 2411), (917562, Value.int 917562 2412), (917563, Value.int 917563 2413), (917564, Value.int 917564 2414), (917565, Value.int 917565 2415), (917566, Value.int 917566 2416), (917567, Value.int 917567 2417), (917568, Value.int 917568 2418), (917569, Value.int 917569 2419), (917570, Value.int 917570 2420), (917571, Value.int 917571 2421), (917572, Value.int 917572 2422), (917573, Value.int 917573 2423), (917574, Value.int 917574 2424), (917575, Value.int 917575 2425), (917576, Value.int 917576 2426), (917577, Value.int 917577 2427), (917578, Value.int 917578 2428), (917579, Value.int 917579 2429), (917580, Value.int 917580 2430), (917581, Value.int 917581 2431), (917582, Value.int 917582 2432), (917583, Value.int 917583 2433), (917584, Value.int 917584 2434), (917585, Value.int 917585 2435), (917586, Value.int 917586 2436), (917587, Value.int 917587 2437), (917588, Value.int 917588 2438), (917589, Value.int 917589 2439), (917590, Value.int 917590 2440), (917591, Value.int 917591 2441), (917592, Value.int 917592 2442), (917593, Value.int 917593 2443), (917594, Value.int 917594 2444), (917595, Value.int 917595 2445), (917596, Value.int 917596 2446), (917597, Value.int 917597 2447), (917598, Value.int 917598 2448), (917599, Value.int 917599 2449), (917600, Value.int 917600 2450)] 68 { mask := 127, place := #[1, 32, 33, 34, 35, 36, 37, 38, 39, 40, 41, 42, 43, 44, 45, 46, 47, 48, 49, 50, 51, 52, 53, 54, 55, 56, 57, 58, 59, 60, 61, 62, 63, 64, 65, 66, 67, 68, 69, 70, 71, 72, 73, 74, 75, 76, 77, 78, 79, 80, 81, 82, 83, 84, 85, 86, 87, 88, 89, 90, 91, 92, 93, 94, 95, 96], dummies := #[], finger := 0, led := !P.followText "set-order", moves := 2, plain := true } }
noncomputable def oc176x171 (P : Params) : Obj := { cls := Value.type "list_iterator", data := Data.fields #[Value.ref 174, Value.int 66 0] }
noncomputable def oc175x172 (P : Params) : Obj := { cls := Value.type "set", data := Data.set #[(917505, Value.int 917505 2380), (917536, Value.int 917536 2386), (917537, Value.int 917537 2387), (917538, Value.int 917538 2388), (917539, Value.int 917539 2389), (917540, Value.int 917540 2390), (917541, Value.int 917541 2391), (917542, Value.int 917542 2392), (917543, Value.int 917543 2393), (917544, Value.int 917544 2394), (917545, Value.int 917545 2395), (917546, Value.int 917546 2396), (917547, Value.int 917547 2397), (917548, Value.int 917548 2398), (917549, Value.int 917549 2399), (917550, Value.int 917550 2400), (917551, Value.int 917551 2401), (917552, Value.int 917552 2402), (917553, Value.int 917553 2403), (917554, Value.int 917554 2404), (917555, Value.int 917555 2405), (917556, Value.int 917556 2406), (917557, Value.int 917557 2407), (917558, Value.int 917558 2408), (917559, Value.int 917559 2409), (917560, Value.int 917560 2410), (917561, Value.int 917561 2411), (917562, Value.int 917562 2412), (917563, Value.int 917563 2413), (917564, Value.int 917564 2414), (917565, Value.int 917565 2415), (917566, Value.int 917566 2416), (917567, Value.int 917567 2417), (917568, Value.int 917568 2418), (917569, Value.int 917569 2419), (917570, Value.int 917570 2420), (917571, Value.int 917571 2421), (917572, Value.int 917572 2422), (917573, Value.int 917573 2423), (917574, Value.int 917574 2424), (917575, Value.int 917575 2425), (917576, Value.int 917576 2426), (917577, Value.int 917577 2427), (917578, Value.int 917578 2428), (917579, Value.int 917579 2429), (917580, Value.int 917580 2430), (917581, Value.int 917581 2431), (917582, Value.int 917582 2432), (917583, Value.int 917583 2433), (917584, Value.int 917584 2434), (917585, Value.int 917585 2435), (917586, Value.int 917586 2436), (917587, Value.int 917587 2437), (917588, Value.int 917588 2438), (917589, Value.int 917589 2439), (917590, Value.int 917590 2440), (917591, Value.int 917591 2441), (917592, Value.int 917592 2442), (917593, Value.int 917593 2443), (917594, Value.int 917594 2444), (917595, Value.int 917595 2445), (917596, Value.int 917596 2446), (917597, Value.int 917597 2447), (917598, Value.int 917598 2448), (917599, Value.int 917599 2449), (917600, Value.int 917600 2450), (917601, Value.int 917601 2451), (917602, Value.int 917602 2452), (917603, Value.int 917603 2453), (917604, Value.int 917604 2454), (917605, Value.int 917605 2455)] 73 { mask := 127, place := #[1, 32, 33, 34, 35, 36, 37, 38, 39, 40, 41, 42, 43, 44, 45, 46, 47, 48, 49, 50, 51, 52, 53, 54, 55, 56, 57, 58, 59, 60, 61, 62, 63, 64, 65, 66, 67, 68, 69, 70, 71, 72, 73, 74, 75, 76, 77, 78, 79, 80, 81, 82, 83, 84, 85, 86, 87, 88, 89, 90, 91, 92, 93, 94, 95, 96, 97, 98, 99, 100, 101], dummies := #[], finger := 0, led := !P.followText "set-order", moves := 2, plain := true } }
noncomputable def oc176x173 (P : Params) : Obj := { cls := Value.type "list_iterator", data := Data.fields #[Value.ref 174, Value.int 71 0] }
noncomputable def oc175x174 (P : Params) : Obj := { cls := Value.type "set", data := Data.set #[(917505, Value.int 917505 2380), (917536, Value.int 917536 2386), (917537, Value.int 917537 2387), (917538, Value.int 917538 2388), (917539, Value.int 917539 2389), (917540, Value.int 917540 2390), (917541, Value.int 917541 2391), (917542, Value.int 917542 2392), (917543, Value.int 917543 2393), (917544, Value.int 917544 2394), (917545, Value.int 917545 2395), (917546, Value.int 917546 2396), (917547, Value.int 917547 2397), (917548, Value.int 917548 2398), (917549, Value.int 917549 2399), (917550, Value.int 917550 2400), (917551, Value.int 917551 2401), (917552, Value.int 917552 2402), (917553, Value.int 917553 2403), (917554, Value.int 917554 2404), (917555, Value.int 917555 2405), (917556, Value.int 917556 2406), (917557, Value.int 917557 2407), (917558, Value.int 917558 2408), (917559, Value.int 917559 2409), (917560, Value.int 917560 2410), (917561, Value.int 917561 2411), (917562, Value.int 917562 2412), (917563, Value.int 917563 2413), (917564, Value.int 917564 2414), (917565, Value.int 917565 2415), (917566, Value.int 917566 2416), (917567, Value.int 917567 2417), (917568, Value.int 917568 2418), (917569, Value.int 917569 2419), (917570, Value.int 917570 2420), (917571, Value.int 917571 2421), (917572, Value.int 917572 2422), (917573, Value.int 917573 2423), (917574, Value.int 917574 2424), (917575, Value.int 917575 2425), (917576, Value.int 917576 2426), (917577, Value.int 917577 2427), (917578, Value.int 917578 2428), (917579, Value.int 917579 2429), (917580, Value.int 917580 2430), (917581, Value.int 917581 2431), (917582, Value.int 917582 2432), (917583, Value.int 917583 2433), (917584, Value.int 917584 2434), (917585, Value.int 917585 2435), (917586, Value.int 917586 2436), (917587, Value.int 917587 2437), (917588, Value.int 917588 2438), (917589, Value.int 917589 2439), (917590, Value.int 917590 2440), (917591, Value.int 917591 2441), (917592, Value.int 917592 2442), (917593, Value.int 917593 2443), (917594, Value.int 917594 2444), (917595, Value.int 917595 2445), (917596, Value.int 917596 2446), (917597, Value.int 917597 2447), (917598, Value.int 917598 2448), (917599, Value.int 917599 2449), (917600, Value.int 917600 2450), (917601, Value.int 917601 2451), (917602, Value.int 917602 2452), (917603, Value.int 917603 2453), (917604, Value.int 917604 2454), (917605, Value.int 917605 2455), (917606, Value.int 917606 2456), (917607, Value.int 917607 2457), (917608, Value.int 917608 2458), (917609, Value.int 917609 2459), (917610, Value.int 917610 2460)] 78 { mask := 127, place := #[1, 32, 33, 34, 35, 36, 37, 38, 39, 40, 41, 42, 43, 44, 45, 46, 47, 48, 49, 50, 51, 52, 53, 54, 55, 56, 57, 58, 59, 60, 61, 62, 63, 64, 65, 66, 67, 68, 69, 70, 71, 72, 73, 74, 75, 76, 77, 78, 79, 80, 81, 82, 83, 84, 85, 86, 87, 88, 89, 90, 91, 92, 93, 94, 95, 96, 97, 98, 99, 100, 101, 102, 103, 104, 105, 106], dummies := #[], finger := 0, led := !P.followText "set-order", moves := 2, plain := true } }
noncomputable def oc176x175 (P : Params) : Obj := { cls := Value.type "list_iterator", data := Data.fields #[Value.ref 174, Value.int 76 0] }
noncomputable def oc175x176 (P : Params) : Obj := { cls := Value.type "set", data := Data.set #[(917505, Value.int 917505 2380), (917536, Value.int 917536 2386), (917537, Value.int 917537 2387), (917538, Value.int 917538 2388), (917539, Value.int 917539 2389), (917540, Value.int 917540 2390), (917541, Value.int 917541 2391), (917542, Value.int 917542 2392), (917543, Value.int 917543 2393), (917544, Value.int 917544 2394), (917545, Value.int 917545 2395), (917546, Value.int 917546 2396), (917547, Value.int 917547 2397), (917548, Value.int 917548 2398), (917549, Value.int 917549 2399), (917550, Value.int 917550 2400), (917551, Value.int 917551 2401), (917552, Value.int 917552 2402), (917553, Value.int 917553 2403), (917554, Value.int 917554 2404), (917555, Value.int 917555 2405), (917556, Value.int 917556 2406), (917557, Value.int 917557 2407), (917558, Value.int 917558 2408), (917559, Value.int 917559 2409), (917560, Value.int 917560 2410), (917561, Value.int 917561 2411), (917562, Value.int 917562 2412), (917563, Value.int 917563 2413), (917564, Value.int 917564 2414), (917565, Value.int 917565 2415), (917566, Value.int 917566 2416), (917567, Value.int 917567 2417), (917568, Value.int 917568 2418), (917569, Value.int 917569 2419), (917570, Value.int 917570 2420), (917571, Value.int 917571 2421), (917572, Value.int 917572 2422), (917573, Value.int 917573 2423), (917574, Value.int 917574 2424), (917575, Value.int 917575 2425), (917576, Value.int 917576 2426), (917577, Value.int 917577 2427), (917578, Value.int 917578 2428), (917579, Value.int 917579 2429), (917580, Value.int 917580 2430), (917581, Value.int 917581 2431), (917582, Value.int 917582 2432), (917583, Value.int 917583 2433), (917584, Value.int 917584 2434), (917585, Value.int 917585 2435), (917586, Value.int 917586 2436), (917587, Value.int 917587 2437), (917588, Value.int 917588 2438), (917589, Value.int 917589 2439), (917590, Value.int 917590 2440), (917591, Value.int 917591 2441), (917592, Value.int 917592 2442), (917593, Value.int 917593 2443), (917594, Value.int 917594 2444), (917595, Value.int 917595 2445), (917596, Value.int 917596 2446), (917597, Value.int 917597 2447), (917598, Value.int 917598 2448), (917599, Value.int 917599 2449), (917600, Value.int 917600 2450), (917601, Value.int 917601 2451), (917602, Value.int 917602 2452), (917603, Value.int 917603 2453), (917604, Value.int 917604 2454), (917605, Value.int 917605 2455), (917606, Value.int 917606 2456), (917607, Value.int 917607 2457), (917608, Value.int 917608 2458), (917609, Value.int 917609 2459), (917610, Value.int 917610 2460), (917611, Value.int 917611 2461), (917612, Value.int 917612 2462), (917613, Value.int 917613 2463), (917614, Value.int 917614 2464), (917615, Value.int 917615 2465)] 84 { mask := 511, place := #[1, 32, 33, 34, 35, 36, 37, 38, 39, 40, 41, 42, 43, 44, 45, 46, 47, 48, 49, 50, 51, 52, 53, 54, 55, 56, 57, 58, 59, 60, 61, 62, 63, 64, 65, 66, 67, 68, 69, 70, 71, 72, 73, 74, 75, 76, 77, 78, 79, 80, 81, 82, 83, 84, 85, 86, 87, 88, 89, 90, 91, 92, 93, 94, 95, 96, 97, 98, 99, 100, 101, 102, 103, 104, 105, 106, 107, 108, 109, 110, 111], dummies := #[], finger := 0, led := !P.followText "set-order", moves := 3, plain := true } }
noncomputable def oc176x177 (P : Params) : Obj := { cls := Value.type "list_iterator", data := Data.fields #[Value.ref 174, Value.int 81 0] }
noncomputable def oc175x178 (P : Params) : Obj := { cls := Value.type "set", data := Data.set #[(917505, Value.int 917505 2380), (917536, Value.int 917536 2386), (917537, Value.int 917537 2387), (917538, Value.int 917538 2388), (917539, Value.int 917539 2389), (917540, Value.int 917540 2390), (917541, Value.int 917541 2391), (917542, Value.int 917542 2392), (917543, Value.int 917543 2393), (917544, Value.int 917544 2394), (917545, Value.int 917545 2395), (917546, Value.int 917546 2396), (917547, Value.int 917547 2397), (917548, Value.int 917548 2398), (917549, Value.int 917549 2399), (917550, Value.int 917550 2400), (917551, Value.int 917551 2401), (917552, Value.int 917552 2402), (917553, Value.int 917553 2403), (917554, Value.int 917554 2404), (917555, Value.int 917555 2405), (917556, Value.int 917556 2406), (917557, Value.int 917557 2407), (917558, Value.int 917558 2408), (917559, Value.int 917559 2409), (917560, Value.int 917560 2410), (917561, Value.int 917561 2411), (917562, Value.int 917562 2412), (917563, Value.int 917563 2413), (917564, Value.int 917564 2414), (917565, Value.int 917565 2415), (917566, Value.int 917566 2416), (917567, Value.int 917567 2417), (917568, Value.int 917568 2418), (917569, Value.int 917569 2419), (917570, Value.int 917570 2420), (917571, Value.int 917571 2421), (917572, Value.int 917572 2422), (917573, Value.int 917573 2423), (917574, Value.int 917574 2424), (917575, Value.int 917575 2425), (917576, Value.int 917576 2426), (917577, Value.int 917577 2427), (917578, Value.int 917578 2428), (917579, Value.int 917579 2429), (917580, Value.int 917580 2430), (917581, Value.int 917581 2431), (917582, Value.int 917582 2432), (917583, Value.int 917583 2433), (917584, Value.int 917584 2434), (917585, Value.int 917585 2435), (917586, Value.int 917586 2436), (917587, Value.int 917587 2437), (917588, Value.int 917588 2438), (917589, Value.int 917589 2439), (917590, Value.int 917590 2440), (917591, Value.int 917591 2441), (917592, Value.int 917592 2442), (917593, Value.int 917593 2443), (917594, Value.int 917594 2444), (917595, Value.int 917595 2445), (917596, Value.int 917596 2446), (917597, Value.int 917597 2447), (917598, Value.int 917598 2448), (917599, Value.int 917599 2449), (917600, Value.int 917600 2450), (917601, Value.int 917601 2451), (917602, Value.int 917602 2452), (917603, Value.int 917603 2453), (917604, Value.int 917604 2454), (917605, Value.int 917605 2455), (917606, Value.int 917606 2456), (917607, Value.int 917607 2457), (917608, Value.int 917608 2458), (917609, Value.int 917609 2459), (917610, Value.int 917610 2460), (917611, Value.int 917611 2461), (917612, Value.int 917612 2462), (917613, Value.int 917613 2463), (917614, Value.int 917614 2464), (917615, Value.int 917615 2465), (917616, Value.int 917616 2466), (917617, Value.int 917617 2467), (917618, Value.int 917618 2468), (917619, Value.int 917619 2469), (917620, Value.int 917620 2470)] 89 { mask := 511, place := #[1, 32, 33, 34, 35, 36, 37, 38, 39, 40, 41, 42, 43, 44, 45, 46, 47, 48, 49, 50, 51, 52, 53, 54, 55, 56, 57, 58, 59, 60, 61, 62, 63, 64, 65, 66, 67, 68, 69, 70, 71, 72, 73, 74, 75, 76, 77, 78, 79, 80, 81, 82, 83, 84, 85, 86, 87, 88, 89, 90, 91, 92, 93, 94, 95, 96, 97, 98, 99, 100, 101, 102, 103, 104, 105, 106, 107, 108, 109, 110, 111, 112, 113, 114, 115, 116], dummies := #[], finger := 0, led := !P.followText "set-order", moves := 3, plain := true } }
noncomputable def oc176x179 (P : Params) : Obj := { cls := Value.type "list_iterator", data := Data.fields #[Value.ref 174, Value.int 86 0] }
noncomputable def oc175x180 (P : Params) : Obj := { cls := Value.type "set", data := Data.set #[(917505, Value.int 917505 2380), (917536, Value.int 917536 2386), (917537, Value.int 917537 2387), (917538, Value.int 917538 2388), (917539, Value.int 917539 2389), (917540, Value.int 917540 2390), (917541, Value.int 917541 2391), (917542, Value.int 917542 2392), (917543, Value.int 917543 2393), (917544, Value.int 917544 2394), (917545, Value.int 917545 2395), (917546, Value.int 917546 2396), (917547, Value.int 917547 2397), (917548, Value.int 917548 2398), (917549, Value.int 917549 2399), (917550, Value.int 917550 2400), (917551, Value.int 917551 2401), (917552, Value.int 917552 2402), (917553, Value.int 917553 2403), (917554, Value.int 917554 2404), (917555, Value.int 917555 2405), (917556, Value.int 917556 2406), (917557, Value.int 917557 2407), (917558, Value.int 917558 2408), (917559, Value.int 917559 2409), (917560, Value.int 917560 2410), (917561, Value.int 917561 2411), (917562, Value.int 917562 2412), (917563, Value.int 917563 2413), (917564, Value.int 917564 2414), (917565, Value.int 917565 2415), (917566, Value.int 917566 2416), (917567, Value.int 917567 2417), (917568, Value.int 917568 2418), (917569, Value.int 917569 2419), (917570, Value.int 917570 2420), (917571, Value.int 917571 2421), (917572, Value.int 917572 2422), (917573, Value.int 917573 2423), (917574, Value.int 917574 2424), (917575, Value.int 917575 2425), (917576, Value.int 917576 2426), (917577, Value.int 917577 2427), (917578, Value.int 917578 2428), (917579, Value.int 917579 2429), (917580, Value.int 917580 2430), (917581, Value.int 917581 2431), (917582, Value.int 917582 2432), (917583, Value.int 917583 2433), (917584, Value.int 917584 2434), (917585, Value.int 917585 2435), (917586, Value.int 917586 2436), (917587, Value.int 917587 2437), (917588, Value.int 917588 2438), (917589, Value.int 917589 2439), (917590, Value.int 917590 2440), (917591, Value.int 917591 2441), (917592, Value.int 917592 2442), (917593, Value.int 917593 2443), (917594, Value.int 917594 2444), (917595, Value.int 917595 2445), (917596, Value.int 917596 2446), (917597, Value.int 917597 2447), (917598, Value.int 917598 2448), (917599, Value.int 917599 2449), (917600, Value.int 917600 2450), (917601, Value.int 917601 2451), (917602, Value.int 917602 2452), (917603, Value.int 917603 2453), (917604, Value.int 917604 2454), (917605, Value.int 917605 2455), (917606, Value.int 917606 2456), (917607, Value.int 917607 2457), (917608, Value.int 917608 2458), (917609, Value.int 917609 2459), (917610, Value.int 917610 2460), (917611, Value.int 917611 2461), (917612, Value.int 917612 2462), (917613, Value.int 917613 2463), (917614, Value.int 917614 2464), (917615, Value.int 917615 2465), (917616, Value.int 917616 2466), (917617, Value.int 917617 2467), (917618, Value.int 917618 2468), (917619, Value.int 917619 2469), (917620, Value.int 917620 2470), (917621, Value.int 917621 2471), (917622, Value.int 917622 2472), (917623, Value.int 917623 2473), (917624, Value.int 917624 2474), (917625, Value.int 917625 2475)] 94 { mask := 511, place := #[1, 32, 33, 34, 35, 36, 37, 38, 39, 40, 41, 42, 43, 44, 45, 46, 47, 48, 49, 50, 51, 52, 53, 54, 55, 56, 57, 58, 59, 60, 61, 62, 63, 64, 65, 66, 67, 68, 69, 70, 71, 72, 73, 74, 75, 76, 77, 78, 79, 80, 81, 82, 83, 84, 85, 86, 87, 88, 89, 90, 91, 92, 93, 94, 95, 96, 97, 98, 99, 100, 101, 102, 103, 104, 105, 106, 107, 108, 109, 110, 111, 112, 113, 114, 115, 116, 117, 118, 119, 120, 121], dummies := #[], finger := 0, led := !P.followText "set-order", moves := 3, plain := true } }
noncomputable def oc176x181 (P : Params) : Obj := { cls := Value.type "list_iterator", data := Data.fields #[Value.ref 174, Value.int 91 0] }
noncomputable def oc175x182 (P : Params) : Obj := { cls := Value.type "set", data := Data.set #[(917505, Value.int 917505 2380), (917536, Value.int 917536 2386), (917537, Value.int 917537 2387), (917538, Value.int 917538 2388), (917539, Value.int 917539 2389), (917540, Value.int 917540 2390), (917541, Value.int 917541 2391), (917542, Value.int 917542 2392), (917543, Value.int 917543 2393), (917544, Value.int 917544 2394), (917545, Value.int 917545 2395), (917546, Value.int 917546 2396), (917547, Value.int 917547 2397), (917548, Value.int 917548 2398), (917549, Value.int 917549 2399), (917550, Value.int 917550 2400), (917551, Value.int 917551 2401), (917552, Value.int 917552 2402), (917553, Value.int 917553 2403), (917554, Value.int 917554 2404), (917555, Value.int 917555 2405), (917556, Value.int 917556 2406), (917557, Value.int 917557 2407), (917558, Value.int 917558 2408), (917559, Value.int 917559 2409), (917560, Value.int 917560 2410), (917561, Value.int 917561 2411), (917562, Value.int 917562 2412), (917563, Value.int 917563 2413), (917564, Value.int 917564 2414), (917565, Value.int 917565 2415), (917566, Value.int 917566 2416), (917567, Value.int 917567 2417), (917568, Value.int 917568 2418), (917569, Value.int 917569 2419), (917570, Value.int 917570 2420), (917571, Value.int 917571 2421), (917572, Value.int 917572 2422), (917573, Value.int 917573 2423), (917574, Value.int 917574 2424), (917575, Value.int 917575 2425), (917576, Value.int 917576 2426), (917577, Value.int 917577 2427), (917578, Value.int 917578 2428), (917579, Value.int 917579 2429), (917580, Value.int 917580 2430), (917581, Value.int 917581 2431), (917582, Value.int 917582 2432), (917583, Value.int 917583 2433), (917584, Value.int 917584 2434), (917585, Value.int 917585 2435), (917586, Value.int 917586 2436), (917587, Value.int 917587 2437), (917588, Value.int 917588 2438), (917589, Value.int 917589 2439), (917590, Value.int 917590 2440), (917591, Value.int 917591 2441), (917592, Value.int 917592 2442), (917593, Value.int 917593 2443), (917594, Value.int 917594 2444), (917595, Value.int 917595 2445), (917596, Value.int 917596 2446), (917597, Value.int 917597 2447), (917598, Value.int 917598 2448), (917599, Value.int 917599 2449), (917600, Value.int 917600 2450), (917601, Value.int 917601 2451), (917602, Value.int 917602 2452), (917603, Value.int 917603 2453), (917604, Value.int 917604 2454), (917605, Value.int 917605 2455), (917606, Value.int 917606 2456), (917607, Value.int 917607 2457), (917608, Value.int 917608 2458), (917609, Value.int 917609 2459), (917610, Value.int 917610 2460), (917611, Value.int 917611 2461), (917612, Value.int 917612 2462), (917613, Value.int 917613 2463), (917614, Value.int 917614 2464), (917615, Value.int 917615 2465), (917616, Value.int 917616 2466), (917617, Value.int 917617 2467), (917618, Value.int 917618 2468), (917619, Value.int 917619 2469), (917620, Value.int 917620 2470), (917621, Value.int 917621 2471), (917622, Value.int 917622 2472), (917623, Value.int 917623 2473), (917624, Value.int 917624 2474), (917625, Value.int 917625 2475), (917626, Value.int 917626 2476), (917627, Value.int 917627 2477), (917628, Value.int 917628 2478), (917629, Value.int 917629 2479), (917630, Value.int 917630 2480)] 99 { mask := 511, place := #[1, 32, 33, 34, 35, 36, 37, 38, 39, 40, 41, 42, 43, 44, 45, 46, 47, 48, 49, 50, 51, 52, 53, 54, 55, 56, 57, 58, 59, 60, 61, 62, 63, 64, 65, 66, 67, 68, 69, 70, 71, 72, 73, 74, 75, 76, 77, 78, 79, 80, 81, 82, 83, 84, 85, 86, 87, 88, 89, 90, 91, 92, 93, 94, 95, 96, 97, 98, 99, 100, 101, 102, 103, 104, 105, 106, 107, 108, 109, 110, 111, 112, 113, 114, 115, 116, 117, 118, 119, 120, 121, 122, 123, 124, 125, 126], dummies := #[], finger := 0, led := !P.followText "set-order", moves := 3, plain := true } }
noncomputable def oc176x183 (P : Params) : Obj := { cls := Value.type "list_iterator", data := Data.fields #[Value.ref 174, Value.int 96 0] }
noncomputable def oc175x184 (P : Params) : Obj := { cls := Value.type "set", data := Data.set #[(917505, Value.int 917505 2380), (917536, Value.int 917536 2386), (917537, Value.int 917537 2387), (917538, Value.int 917538 2388), (917539, Value.int 917539 2389), (917540, Value.int 917540 2390), (917541, Value.int 917541 2391), (917542, Value.int 917542 2392), (917543, Value.int 917543 2393), (917544, Value.int 917544 2394), (917545, Value.int 917545 2395), (917546, Value.int 917546 2396), (917547, Value.int 917547 2397), (917548, Value.int 917548 2398), (917549, Value.int 917549 2399), (917550, Value.int 917550 2400), (917551, Value.int 917551 2401), (917552, Value.int 917552 2402), (917553, Value.int 917553 2403), (917554, Value.int 917554 2404), (917555, Value.int 917555 2405), (917556, Value.int 917556 2406), (917557, Value.int 917557 2407), (917558, Value.int 917558 2408), (917559, Value.int 917559 2409), (917560, Value.int 917560 2410), (917561, Value.int 917561 2411), (917562, Value.int 917562 2412), (917563, Value.int 917563 2413), (917564, Value.int 917564 2414), (917565, Value.int 917565 2415), (917566, Value.int 917566 2416), (917567, Value.int 917567 2417), (917568, Value.int 917568 2418), (917569, Value.int 917569 2419), (917570, Value.int 917570 2420), (917571, Value.int 917571 2421), (917572, Value.int 917572 2422), (917573, Value.int 917573 2423), (917574, Value.int 917574 2424), (917575, Value.int 917575 2425), (917576, Value.int 917576 2426), (917577, Value.int 917577 2427), (917578, Value.int 917578 2428), (917579, Value.int 917579 2429), (917580, Value.int 917580 2430), (917581, Value.int 917581 2431), (917582, Value.int 917582 2432), (917583, Value.int 917583 2433), (917584, Value.int 917584 2434), (917585, Value.int 917585 2435), (917586, Value.int 917586 2436), (917587, Value.int 917587 2437), (917588, Value.int 917588 2438), (917589, Value.int 917589 2439), (917590, Value.int 917590 2440), (917591, Value.int 917591 2441), (917592, Value.int 917592 2442), (917593, Value.int 917593 2443), (917594, Value.int 917594 2444), (917595, Value.int 917595 2445), (917596, Value.int 917596 2446), (917597, Value.int 917597 2447), (917598, Value.int 917598 2448), (917599, Value.int 917599 2449), (917600, Value.int 917600 2450), (917601, Value.int 917601 2451), (917602, Value.int 917602 2452), (917603, Value.int 917603 2453), (917604, Value.int 917604 2454), (917605, Value.int 917605 2455), (917606, Value.int 917606 2456), (917607, Value.int 917607 2457), (917608, Value.int 917608 2458), (917609, Value.int 917609 2459), (917610, Value.int 917610 2460), (917611, Value.int 917611 2461), (917612, Value.int 917612 2462), (917613, Value.int 917613 2463), (917614, Value.int 917614 2464), (917615, Value.int 917615 2465), (917616, Value.int 917616 2466), (917617, Value.int 917617 2467), (917618, Value.int 917618 2468), (917619, Value.int 917619 2469), (917620, Value.int 917620 2470), (917621, Value.int 917621 2471), (917622, Value.int 917622 2472), (917623, Value.int 917623 2473), (917624, Value.int 917624 2474), (917625, Value.int 917625 2475), (917626, Value.int 917626 2476), (917627, Value.int 917627 2477), (917628, Value.int 917628 2478), (917629, Value.int 917629 2479), (917630, Value.int 917630 2480), (917631, Value.int 917631 2481)] 100 { mask := 511, place := #[1, 32, 33, 34, 35, 36, 37, 38, 39, 40, 41, 42, 43, 44, 45, 46, 47, 48, 49, 50, 51, 52, 53, 54, 55, 56, 57, 58, 59, 60, 61, 62, 63, 64, 65, 66, 67, 68, 69, 70, 71, 72, 73, 74, 75, 76, 77, 78, 79, 80, 81, 82, 83, 84, 85, 86, 87, 88, 89, 90, 91, 92, 93, 94, 95, 96, 97, 98, 99, 100, 101, 102, 103, 104, 105, 106, 107, 108, 109, 110, 111, 112, 113, 114, 115, 116, 117, 118, 119, 120, 121, 122, 123, 124, 125, 126, 127], dummies := #[], finger := 0, led := !P.followText "set-order", moves := 3, plain := true } }
noncomputable def oc176x185 (P : Params) : Obj := { cls := Value.type "list_iterator", data := Data.fields #[Value.ref 174, Value.int 97 0] }
noncomputable def lstc0 (P : Params) : List Obj := [boot_o_0 P, boot_o_1 P, boot_o_2 P, ob3x129 P, boot_o_4 P, boot_o_5 P, boot_o_6 P, boot_o_7 P, boot_o_8 P, boot_o_9 P, boot_o_10 P, ob11x0 P, ob12x130 P, ob13x2 P, ob14x3 P, ob15x7 P, ob16x8 P, ob17x9 P, ob18x10 P, ob19x11 P, ob20x12 P, ob21x13 P, ob22x14 P, ob23x15 P, ob24x16 P, ob25x17 P, ob26x18 P, ob27x19 P, ob28x20 P, ob29x21 P, ob30x22 P, ob31x23 P, ob32x24 P, ob33x25 P, ob34x26 P, ob35x27 P, ob36x30 P, ob37x31 P, ob38x32 P, ob39x33 P, ob40x34 P, ob41x35 P, ob42x36 P, ob43x37 P, ob44x38 P, ob45x39 P, ob46x40 P, ob47x41 P, ob48x42 P, ob49x43 P, ob50x46 P, ob51x47 P, ob52x48 P, ob53x49 P, ob54x50 P, ob55x51 P, ob56x52 P, ob57x53 P, ob58x54 P, ob59x55 P, ob60x56 P, ob61x57 P, ob62x58 P, ob63x59 P, ob64x62 P, ob65x63 P, ob66x64 P, ob67x65 P, ob68x66 P, ob69x67 P, ob70x68 P, ob71x69 P, ob72x70 P, ob73x71 P, ob74x72 P, ob75x73 P, ob76x74 P, ob77x75 P, ob78x76 P, ob79x77 P, ob80x78 P, ob81x79 P, ob82x80 P, ob83x81 P, ob84x82 P, ob85x85 P, ob86x86 P, ob87x87 P, ob88x88 P, ob89x89 P, ob90x90 P, ob91x91 P, ob92x93 P, ob93x94 P, ob94x95 P, ob95x96 P, ob96x97 P, ob97x98 P, ob98x99 P, ob99x100 P, ob100x101 P, ob101x102 P, ob102x103 P, ob103x106 P, ob104x107 P, ob105x108 P, ob106x109 P, ob107x110 P, ob108x111 P, ob109x112 P, b3O 0 P, b3O 1 P, b3O 2 P, b3O 3 P, b3O 4 P, b3O 5 P, b3O 6 P, b3O 7 P, b3O 8 P, b3O 9 P, b3O 10 P, b3O 11 P, b3O 12 P, b3O 13 P, b3O 14 P, b3O 15 P, b3O 16 P, b3O 17 P, b3O 18 P, b3O 19 P, b3O 20 P, b3O 21 P, b3O 22 P, b3O 23 P, b3O 24 P, b3O 25 P, b3O 26 P, b3O 27 P, b3O 28 P, b3O 29 P, b3O 30 P, b3O 31 P, b3O 32 P, b3O 33 P, b3O 34 P, b3O 35 P, b3O 36 P, b3O 37 P, b3O 38 P, ob149x116 P, ob150x117 P, ob151x118 P, ob152x119 P, ob153x120 P, ob154x121 P, ob155x122 P, ob156x124 P, ob157x125 P, ob158x126 P, ob159x127 P, ob160x128 P, ob161x131 P, ob162x132 P, ob163x133 P, ob164x134 P, ob165x135 P, ob166x136 P, ob167x137 P, oc168x127 P, oc169x128 P, oc170x129 P, oc171x130 P]
noncomputable def stac0 (w : World) (os : OsState) : SharedT := ⟨mkT 12 (lstc0 w.params), 172, {}, #[], {}, 2386, os⟩
noncomputable def cc0 : Code := Code.builtin "list.extend.loop" ⟨[Value.ref 170, Value.ref 171, Value.none], []⟩
noncomputable def cd0 : Code := Code.builtin "list.__init__" ⟨[Value.ref 170, Value.ref 169], []⟩
noncomputable def psc0 : Pos := ⟨96, 24, 96, 51⟩
noncomputable def lstc1 (P : Params) : List Obj := [boot_o_0 P, boot_o_1 P, boot_o_2 P, ob3x129 P, boot_o_4 P, boot_o_5 P, boot_o_6 P, boot_o_7 P, boot_o_8 P, boot_o_9 P, boot_o_10 P, ob11x0 P, ob12x130 P, ob13x2 P, ob14x3 P, ob15x7 P, ob16x8 P, ob17x9 P, ob18x10 P, ob19x11 P, ob20x12 P, ob21x13 P, ob22x14 P, ob23x15 P, ob24x16 P, ob25x17 P, ob26x18 P, ob27x19 P, ob28x20 P, ob29x21 P, ob30x22 P, ob31x23 P, ob32x24 P, ob33x25 P, ob34x26 P, ob35x27 P, ob36x30 P, ob37x31 P, ob38x32 P, ob39x33 P, ob40x34 P, ob41x35 P, ob42x36 P, ob43x37 P, ob44x38 P, ob45x39 P, ob46x40 P, ob47x41 P, ob48x42 P, ob49x43 P, ob50x46 P, ob51x47 P, ob52x48 P, ob53x49 P, ob54x50 P, ob55x51 P, ob56x52 P, ob57x53 P, ob58x54 P, ob59x55 P, ob60x56 P, ob61x57 P, ob62x58 P, ob63x59 P, ob64x62 P, ob65x63 P, ob66x64 P, ob67x65 P, ob68x66 P, ob69x67 P, ob70x68 P, ob71x69 P, ob72x70 P, ob73x71 P, ob74x72 P, ob75x73 P, ob76x74 P, ob77x75 P, ob78x76 P, ob79x77 P, ob80x78 P, ob81x79 P, ob82x80 P, ob83x81 P, ob84x82 P, ob85x85 P, ob86x86 P, ob87x87 P, ob88x88 P, ob89x89 P, ob90x90 P, ob91x91 P, ob92x93 P, ob93x94 P, ob94x95 P, ob95x96 P, ob96x97 P, ob97x98 P, ob98x99 P, ob99x100 P, ob100x101 P, ob101x102 P, ob102x103 P, ob103x106 P, ob104x107 P, ob105x108 P, ob106x109 P, ob107x110 P, ob108x111 P, ob109x112 P, b3O 0 P, b3O 1 P, b3O 2 P, b3O 3 P, b3O 4 P, b3O 5 P, b3O 6 P, b3O 7 P, b3O 8 P, b3O 9 P, b3O 10 P, b3O 11 P, b3O 12 P, b3O 13 P, b3O 14 P, b3O 15 P, b3O 16 P, b3O 17 P, b3O 18 P, b3O 19 P, b3O 20 P, b3O 21 P, b3O 22 P, b3O 23 P, b3O 24 P, b3O 25 P, b3O 26 P, b3O 27 P, b3O 28 P, b3O 29 P, b3O 30 P, b3O 31 P, b3O 32 P, b3O 33 P, b3O 34 P, b3O 35 P, b3O 36 P, b3O 37 P, b3O 38 P, ob149x116 P, ob150x117 P, ob151x118 P, ob152x119 P, ob153x120 P, ob154x121 P, ob155x122 P, ob156x124 P, ob157x125 P, ob158x126 P, ob159x127 P, ob160x128 P, ob161x131 P, ob162x132 P, ob163x133 P, ob164x134 P, ob165x135 P, ob166x136 P, ob167x137 P, oc168x127 P, oc169x128 P, oc170x131 P, oc171x132 P]
noncomputable def stac1 (w : World) (os : OsState) : SharedT := ⟨mkT 12 (lstc1 w.params), 172, {}, #[], {}, 2409, os⟩
noncomputable def cc1 : Code := Code.builtin "list.extend.loop" ⟨[Value.ref 170, Value.ref 171, Value.none], []⟩
noncomputable def cd1 : Code := Code.builtin "list.extend.loop" ⟨[Value.ref 170, Value.ref 171, Value.none], []⟩
noncomputable def psc1 : Pos := ⟨96, 24, 96, 51⟩
noncomputable def lstc2 (P : Params) : List Obj := [boot_o_0 P, boot_o_1 P, boot_o_2 P, ob3x129 P, boot_o_4 P, boot_o_5 P, boot_o_6 P, boot_o_7 P, boot_o_8 P, boot_o_9 P, boot_o_10 P, ob11x0 P, ob12x130 P, ob13x2 P, ob14x3 P, ob15x7 P, ob16x8 P, ob17x9 P, ob18x10 P, ob19x11 P, ob20x12 P, ob21x13 P, ob22x14 P, ob23x15 P, ob24x16 P, ob25x17 P, ob26x18 P, ob27x19 P, ob28x20 P, ob29x21 P, ob30x22 P, ob31x23 P, ob32x24 P, ob33x25 P, ob34x26 P, ob35x27 P, ob36x30 P, ob37x31 P, ob38x32 P, ob39x33 P, ob40x34 P, ob41x35 P, ob42x36 P, ob43x37 P, ob44x38 P, ob45x39 P, ob46x40 P, ob47x41 P, ob48x42 P, ob49x43 P, ob50x46 P, ob51x47 P, ob52x48 P, ob53x49 P, ob54x50 P, ob55x51 P, ob56x52 P, ob57x53 P, ob58x54 P, ob59x55 P, ob60x56 P, ob61x57 P, ob62x58 P, ob63x59 P, ob64x62 P, ob65x63 P, ob66x64 P, ob67x65 P, ob68x66 P, ob69x67 P, ob70x68 P, ob71x69 P, ob72x70 P, ob73x71 P, ob74x72 P, ob75x73 P, ob76x74 P, ob77x75 P, ob78x76 P, ob79x77 P, ob80x78 P, ob81x79 P, ob82x80 P, ob83x81 P, ob84x82 P, ob85x85 P, ob86x86 P, ob87x87 P, ob88x88 P, ob89x89 P, ob90x90 P, ob91x91 P, ob92x93 P, ob93x94 P, ob94x95 P, ob95x96 P, ob96x97 P, ob97x98 P, ob98x99 P, ob99x100 P, ob100x101 P, ob101x102 P, ob102x103 P, ob103x106 P, ob104x107 P, ob105x108 P, ob106x109 P, ob107x110 P, ob108x111 P, ob109x112 P, b3O 0 P, b3O 1 P, b3O 2 P, b3O 3 P, b3O 4 P, b3O 5 P, b3O 6 P, b3O 7 P, b3O 8 P, b3O 9 P, b3O 10 P, b3O 11 P, b3O 12 P, b3O 13 P, b3O 14 P, b3O 15 P, b3O 16 P, b3O 17 P, b3O 18 P, b3O 19 P, b3O 20 P, b3O 21 P, b3O 22 P, b3O 23 P, b3O 24 P, b3O 25 P, b3O 26 P, b3O 27 P, b3O 28 P, b3O 29 P, b3O 30 P, b3O 31 P, b3O 32 P, b3O 33 P, b3O 34 P, b3O 35 P, b3O 36 P, b3O 37 P, b3O 38 P, ob149x116 P, ob150x117 P, ob151x118 P, ob152x119 P, ob153x120 P, ob154x121 P, ob155x122 P, ob156x124 P, ob157x125 P, ob158x126 P, ob159x127 P, ob160x128 P, ob161x131 P, ob162x132 P, ob163x133 P, ob164x134 P, ob165x135 P, ob166x136 P, ob167x137 P, oc168x127 P, oc169x128 P, oc170x133 P, oc171x134 P]
noncomputable def stac2 (w : World) (os : OsState) : SharedT := ⟨mkT 12 (lstc2 w.params), 172, {}, #[], {}, 2432, os⟩
noncomputable def cc2 : Code := Code.builtin "list.extend.loop" ⟨[Value.ref 170, Value.ref 171, Value.none], []⟩
noncomputable def cd2 : Code := Code.builtin "list.extend.loop" ⟨[Value.ref 170, Value.ref 171, Value.none], []⟩
noncomputable def psc2 : Pos := ⟨96, 24, 96, 51⟩
noncomputable def lstc3 (P : Params) : List Obj := [boot_o_0 P, boot_o_1 P, boot_o_2 P, ob3x129 P, boot_o_4 P, boot_o_5 P, boot_o_6 P, boot_o_7 P, boot_o_8 P, boot_o_9 P, boot_o_10 P, ob11x0 P, ob12x130 P, ob13x2 P, ob14x3 P, ob15x7 P, ob16x8 P, ob17x9 P, ob18x10 P, ob19x11 P, ob20x12 P, ob21x13 P, ob22x14 P, ob23x15 P, ob24x16 P, ob25x17 P, ob26x18 P, ob27x19 P, ob28x20 P, ob29x21 P, ob30x22 P, ob31x23 P, ob32x24 P, ob33x25 P, ob34x26 P, ob35x27 P, ob36x30 P, ob37x31 P, ob38x32 P, ob39x33 P, ob40x34 P, ob41x35 P, ob42x36 P, ob43x37 P, ob44x38 P, ob45x39 P, ob46x40 P, ob47x41 P, ob48x42 P, ob49x43 P, ob50x46 P, ob51x47 P, ob52x48 P, ob53x49 P, ob54x50 P, ob55x51 P, ob56x52 P, ob57x53 P, ob58x54 P, ob59x55 P, ob60x56 P, ob61x57 P, ob62x58 P, ob63x59 P, ob64x62 P, ob65x63 P, ob66x64 P, ob67x65 P, ob68x66 P, ob69x67 P, ob70x68 P, ob71x69 P, ob72x70 P, ob73x71 P, ob74x72 P, ob75x73 P, ob76x74 P, ob77x75 P, ob78x76 P, ob79x77 P, ob80x78 P, ob81x79 P, ob82x80 P, ob83x81 P, ob84x82 P, ob85x85 P, ob86x86 P, ob87x87 P, ob88x88 P, ob89x89 P, ob90x90 P, ob91x91 P, ob92x93 P, ob93x94 P, ob94x95 P, ob95x96 P, ob96x97 P, ob97x98 P, ob98x99 P, ob99x100 P, ob100x101 P, ob101x102 P, ob102x103 P, ob103x106 P, ob104x107 P, ob105x108 P, ob106x109 P, ob107x110 P, ob108x111 P, ob109x112 P, b3O 0 P, b3O 1 P, b3O 2 P, b3O 3 P, b3O 4 P, b3O 5 P, b3O 6 P, b3O 7 P, b3O 8 P, b3O 9 P, b3O 10 P, b3O 11 P, b3O 12 P, b3O 13 P, b3O 14 P, b3O 15 P, b3O 16 P, b3O 17 P, b3O 18 P, b3O 19 P, b3O 20 P, b3O 21 P, b3O 22 P, b3O 23 P, b3O 24 P, b3O 25 P, b3O 26 P, b3O 27 P, b3O 28 P, b3O 29 P, b3O 30 P, b3O 31 P, b3O 32 P, b3O 33 P, b3O 34 P, b3O 35 P, b3O 36 P, b3O 37 P, b3O 38 P, ob149x116 P, ob150x117 P, ob151x118 P, ob152x119 P, ob153x120 P, ob154x121 P, ob155x122 P, ob156x124 P, ob157x125 P, ob158x126 P, ob159x127 P, ob160x128 P, ob161x131 P, ob162x132 P, ob163x133 P, ob164x134 P, ob165x135 P, ob166x136 P, ob167x137 P, oc168x127 P, oc169x128 P, oc170x135 P, oc171x136 P]
noncomputable def stac3 (w : World) (os : OsState) : SharedT := ⟨mkT 12 (lstc3 w.params), 172, {}, #[], {}, 2455, os⟩
noncomputable def cc3 : Code := Code.builtin "list.extend.loop" ⟨[Value.ref 170, Value.ref 171, Value.none], []⟩
noncomputable def cd3 : Code := Code.builtin "list.extend.loop" ⟨[Value.ref 170, Value.ref 171, Value.none], []⟩
noncomputable def psc3 : Pos := ⟨96, 24, 96, 51⟩
noncomputable def lstc4 (P : Params) : List Obj := [boot_o_0 P, boot_o_1 P, boot_o_2 P, ob3x129 P, boot_o_4 P, boot_o_5 P, boot_o_6 P, boot_o_7 P, boot_o_8 P, boot_o_9 P, boot_o_10 P, ob11x0 P, ob12x130 P, ob13x2 P, ob14x3 P, ob15x7 P, ob16x8 P, ob17x9 P, ob18x10 P, ob19x11 P, ob20x12 P, ob21x13 P, ob22x14 P, ob23x15 P, ob24x16 P, ob25x17 P, ob26x18 P, ob27x19 P, ob28x20 P, ob29x21 P, ob30x22 P, ob31x23 P, ob32x24 P, ob33x25 P, ob34x26 P, ob35x27 P, ob36x30 P, ob37x31 P, ob38x32 P, ob39x33 P, ob40x34 P, ob41x35 P, ob42x36 P, ob43x37 P, ob44x38 P, ob45x39 P, ob46x40 P, ob47x41 P, ob48x42 P, ob49x43 P, ob50x46 P, ob51x47 P, ob52x48 P, ob53x49 P, ob54x50 P, ob55x51 P, ob56x52 P, ob57x53 P, ob58x54 P, ob59x55 P, ob60x56 P, ob61x57 P, ob62x58 P, ob63x59 P, ob64x62 P, ob65x63 P, ob66x64 P, ob67x65 P, ob68x66 P, ob69x67 P, ob70x68 P, ob71x69 P, ob72x70 P, ob73x71 P, ob74x72 P, ob75x73 P, ob76x74 P, ob77x75 P, ob78x76 P, ob79x77 P, ob80x78 P, ob81x79 P, ob82x80 P, ob83x81 P, ob84x82 P, ob85x85 P, ob86x86 P, ob87x87 P, ob88x88 P, ob89x89 P, ob90x90 P, ob91x91 P, ob92x93 P, ob93x94 P, ob94x95 P, ob95x96 P, ob96x97 P, ob97x98 P, ob98x99 P, ob99x100 P, ob100x101 P, ob101x102 P, ob102x103 P, ob103x106 P, ob104x107 P, ob105x108 P, ob106x109 P, ob107x110 P, ob108x111 P, ob109x112 P, b3O 0 P, b3O 1 P, b3O 2 P, b3O 3 P, b3O 4 P, b3O 5 P, b3O 6 P, b3O 7 P, b3O 8 P, b3O 9 P, b3O 10 P, b3O 11 P, b3O 12 P, b3O 13 P, b3O 14 P, b3O 15 P, b3O 16 P, b3O 17 P, b3O 18 P, b3O 19 P, b3O 20 P, b3O 21 P, b3O 22 P, b3O 23 P, b3O 24 P, b3O 25 P, b3O 26 P, b3O 27 P, b3O 28 P, b3O 29 P, b3O 30 P, b3O 31 P, b3O 32 P, b3O 33 P, b3O 34 P, b3O 35 P, b3O 36 P, b3O 37 P, b3O 38 P, ob149x116 P, ob150x117 P, ob151x118 P, ob152x119 P, ob153x120 P, ob154x121 P, ob155x122 P, ob156x124 P, ob157x125 P, ob158x126 P, ob159x127 P, ob160x128 P, ob161x131 P, ob162x132 P, ob163x133 P, ob164x134 P, ob165x135 P, ob166x136 P, ob167x137 P, oc168x127 P, oc169x128 P, oc170x137 P, oc171x138 P]
noncomputable def stac4 (w : World) (os : OsState) : SharedT := ⟨mkT 12 (lstc4 w.params), 172, {}, #[], {}, 2478, os⟩
noncomputable def cc4 : Code := Code.builtin "list.extend.loop" ⟨[Value.ref 170, Value.ref 171, Value.none], []⟩
noncomputable def cd4 : Code := Code.builtin "list.extend.loop" ⟨[Value.ref 170, Value.ref 171, Value.none], []⟩
noncomputable def psc4 : Pos := ⟨96, 24, 96, 51⟩
noncomputable def lstc5 (P : Params) : List Obj := [boot_o_0 P, boot_o_1 P, boot_o_2 P, ob3x129 P, boot_o_4 P, boot_o_5 P, boot_o_6 P, boot_o_7 P, boot_o_8 P, boot_o_9 P, boot_o_10 P, ob11x0 P, ob12x130 P, ob13x2 P, ob14x3 P, ob15x7 P, ob16x8 P, ob17x9 P, ob18x10 P, ob19x11 P, ob20x12 P, ob21x13 P, ob22x14 P, ob23x15 P, ob24x16 P, ob25x17 P, ob26x18 P, ob27x19 P, ob28x20 P, ob29x21 P, ob30x22 P, ob31x23 P, ob32x24 P, ob33x25 P, ob34x26 P, ob35x27 P, ob36x30 P, ob37x31 P, ob38x32 P, ob39x33 P, ob40x34 P, ob41x35 P, ob42x36 P, ob43x37 P, ob44x38 P, ob45x39 P, ob46x40 P, ob47x41 P, ob48x42 P, ob49x43 P, ob50x46 P, ob51x47 P, ob52x48 P, ob53x49 P, ob54x50 P, ob55x51 P, ob56x52 P, ob57x53 P, ob58x54 P, ob59x55 P, ob60x56 P, ob61x57 P, ob62x58 P, ob63x59 P, ob64x62 P, ob65x63 P, ob66x64 P, ob67x65 P, ob68x66 P, ob69x67 P, ob70x68 P, ob71x69 P, ob72x70 P, ob73x71 P, ob74x72 P, ob75x73 P, ob76x74 P, ob77x75 P, ob78x76 P, ob79x77 P, ob80x78 P, ob81x79 P, ob82x80 P, ob83x81 P, ob84x82 P, ob85x85 P, ob86x86 P, ob87x87 P, ob88x88 P, ob89x89 P, ob90x90 P, ob91x91 P, ob92x93 P, ob93x94 P, ob94x95 P, ob95x96 P, ob96x97 P, ob97x98 P, ob98x99 P, ob99x100 P, ob100x101 P, ob101x102 P, ob102x103 P, ob103x106 P, ob104x107 P, ob105x108 P, ob106x109 P, ob107x110 P, ob108x111 P, ob109x112 P, b3O 0 P, b3O 1 P, b3O 2 P, b3O 3 P, b3O 4 P, b3O 5 P, b3O 6 P, b3O 7 P, b3O 8 P, b3O 9 P, b3O 10 P, b3O 11 P, b3O 12 P, b3O 13 P, b3O 14 P, b3O 15 P, b3O 16 P, b3O 17 P, b3O 18 P, b3O 19 P, b3O 20 P, b3O 21 P, b3O 22 P, b3O 23 P, b3O 24 P, b3O 25 P, b3O 26 P, b3O 27 P, b3O 28 P, b3O 29 P, b3O 30 P, b3O 31 P, b3O 32 P, b3O 33 P, b3O 34 P, b3O 35 P, b3O 36 P, b3O 37 P, b3O 38 P, ob149x116 P, ob150x117 P, ob151x118 P, ob152x119 P, ob153x120 P, ob154x121 P, ob155x122 P, ob156x124 P, ob157x125 P, ob158x126 P, ob159x127 P, ob160x128 P, ob161x131 P, ob162x132 P, ob163x133 P, ob164x134 P, ob165x135 P, ob166x136 P, ob167x137 P, oc168x127 P, oc169x128 P, oc170x139 P, oc171x140 P]
noncomputable def stac5 (w : World) (os : OsState) : SharedT := ⟨mkT 12 (lstc5 w.params), 172, {}, #[], {}, 2482, os⟩
noncomputable def cc5 : Code := Code.builtin "list.extend.loop" ⟨[Value.ref 170, Value.ref 171, Value.none], []⟩
noncomputable def cd5 : Code := Code.builtin "list.extend.loop" ⟨[Value.ref 170, Value.ref 171, Value.none], []⟩
noncomputable def psc5 : Pos := ⟨96, 24, 96, 51⟩
noncomputable def lstc6 (P : Params) : List Obj := [boot_o_0 P, boot_o_1 P, boot_o_2 P, ob3x129 P, boot_o_4 P, boot_o_5 P, boot_o_6 P, boot_o_7 P, boot_o_8 P, boot_o_9 P, boot_o_10 P, ob11x0 P, ob12x130 P, ob13x2 P, ob14x3 P, ob15x7 P, ob16x8 P, ob17x9 P, ob18x10 P, ob19x11 P, ob20x12 P, ob21x13 P, ob22x14 P, ob23x15 P, ob24x16 P, ob25x17 P, ob26x18 P, ob27x19 P, ob28x20 P, ob29x21 P, ob30x22 P, ob31x23 P, ob32x24 P, ob33x25 P, ob34x26 P, ob35x27 P, ob36x30 P, ob37x31 P, ob38x32 P, ob39x33 P, ob40x34 P, ob41x35 P, ob42x36 P, ob43x37 P, ob44x38 P, ob45x39 P, ob46x40 P, ob47x41 P, ob48x42 P, ob49x43 P, ob50x46 P, ob51x47 P, ob52x48 P, ob53x49 P, ob54x50 P, ob55x51 P, ob56x52 P, ob57x53 P, ob58x54 P, ob59x55 P, ob60x56 P, ob61x57 P, ob62x58 P, ob63x59 P, ob64x62 P, ob65x63 P, ob66x64 P, ob67x65 P, ob68x66 P, ob69x67 P, ob70x68 P, ob71x69 P, ob72x70 P, ob73x71 P, ob74x72 P, ob75x73 P, ob76x74 P, ob77x75 P, ob78x76 P, ob79x77 P, ob80x78 P, ob81x79 P, ob82x80 P, ob83x81 P, ob84x82 P, ob85x85 P, ob86x86 P, ob87x87 P, ob88x88 P, ob89x89 P, ob90x90 P, ob91x91 P, ob92x93 P, ob93x94 P, ob94x95 P, ob95x96 P, ob96x97 P, ob97x98 P, ob98x99 P, ob99x100 P, ob100x101 P, ob101x102 P, ob102x103 P, ob103x106 P, ob104x107 P, ob105x108 P, ob106x109 P, ob107x110 P, ob108x111 P, ob109x112 P, b3O 0 P, b3O 1 P, b3O 2 P, b3O 3 P, b3O 4 P, b3O 5 P, b3O 6 P, b3O 7 P, b3O 8 P, b3O 9 P, b3O 10 P, b3O 11 P, b3O 12 P, b3O 13 P, b3O 14 P, b3O 15 P, b3O 16 P, b3O 17 P, b3O 18 P, b3O 19 P, b3O 20 P, b3O 21 P, b3O 22 P, b3O 23 P, b3O 24 P, b3O 25 P, b3O 26 P, b3O 27 P, b3O 28 P, b3O 29 P, b3O 30 P, b3O 31 P, b3O 32 P, b3O 33 P, b3O 34 P, b3O 35 P, b3O 36 P, b3O 37 P, b3O 38 P, ob149x116 P, ob150x117 P, ob151x118 P, ob152x119 P, ob153x120 P, ob154x121 P, ob155x122 P, ob156x124 P, ob157x125 P, ob158x126 P, ob159x127 P, ob160x128 P, ob161x131 P, ob162x132 P, ob163x133 P, ob164x134 P, ob165x135 P, ob166x136 P, ob167x137 P, oc168x127 P, oc169x128 P, oc170x139 P, oc171x140 P, oc172x141 P, oc173x142 P, oc174x143 P, oc175x144 P, oc176x145 P]
noncomputable def stac6 (w : World) (os : OsState) : SharedT := ⟨mkT 12 (lstc6 w.params), 177, {}, #[], {}, 2482, os⟩
noncomputable def cc6 : Code := Code.builtin "set.update.loop" ⟨[Value.ref 175, Value.ref 176], []⟩
noncomputable def cd6 : Code := Code.builtin "set.update.loop" ⟨[Value.ref 175, Value.ref 176], []⟩
noncomputable def psc6 : Pos := ⟨96, 9, 96, 52⟩
noncomputable def lstc7 (P : Params) : List Obj := [boot_o_0 P, boot_o_1 P, boot_o_2 P, ob3x129 P, boot_o_4 P, boot_o_5 P, boot_o_6 P, boot_o_7 P, boot_o_8 P, boot_o_9 P, boot_o_10 P, ob11x0 P, ob12x130 P, ob13x2 P, ob14x3 P, ob15x7 P, ob16x8 P, ob17x9 P, ob18x10 P, ob19x11 P, ob20x12 P, ob21x13 P, ob22x14 P, ob23x15 P, ob24x16 P, ob25x17 P, ob26x18 P, ob27x19 P, ob28x20 P, ob29x21 P, ob30x22 P, ob31x23 P, ob32x24 P, ob33x25 P, ob34x26 P, ob35x27 P, ob36x30 P, ob37x31 P, ob38x32 P, ob39x33 P, ob40x34 P, ob41x35 P, ob42x36 P, ob43x37 P, ob44x38 P, ob45x39 P, ob46x40 P, ob47x41 P, ob48x42 P, ob49x43 P, ob50x46 P, ob51x47 P, ob52x48 P, ob53x49 P, ob54x50 P, ob55x51 P, ob56x52 P, ob57x53 P, ob58x54 P, ob59x55 P, ob60x56 P, ob61x57 P, ob62x58 P, ob63x59 P, ob64x62 P, ob65x63 P, ob66x64 P, ob67x65 P, ob68x66 P, ob69x67 P, ob70x68 P, ob71x69 P, ob72x70 P, ob73x71 P, ob74x72 P, ob75x73 P, ob76x74 P, ob77x75 P, ob78x76 P, ob79x77 P, ob80x78 P, ob81x79 P, ob82x80 P, ob83x81 P, ob84x82 P, ob85x85 P, ob86x86 P, ob87x87 P, ob88x88 P, ob89x89 P, ob90x90 P, ob91x91 P, ob92x93 P, ob93x94 P, ob94x95 P, ob95x96 P, ob96x97 P, ob97x98 P, ob98x99 P, ob99x100 P, ob100x101 P, ob101x102 P, ob102x103 P, ob103x106 P, ob104x107 P, ob105x108 P, ob106x109 P, ob107x110 P, ob108x111 P, ob109x112 P, b3O 0 P, b3O 1 P, b3O 2 P, b3O 3 P, b3O 4 P, b3O 5 P, b3O 6 P, b3O 7 P, b3O 8 P, b3O 9 P, b3O 10 P, b3O 11 P, b3O 12 P, b3O 13 P, b3O 14 P, b3O 15 P, b3O 16 P, b3O 17 P, b3O 18 P, b3O 19 P, b3O 20 P, b3O 21 P, b3O 22 P, b3O 23 P, b3O 24 P, b3O 25 P, b3O 26 P, b3O 27 P, b3O 28 P, b3O 29 P, b3O 30 P, b3O 31 P, b3O 32 P, b3O 33 P, b3O 34 P, b3O 35 P, b3O 36 P, b3O 37 P, b3O 38 P, ob149x116 P, ob150x117 P, ob151x118 P, ob152x119 P, ob153x120 P, ob154x121 P, ob155x122 P, ob156x124 P, ob157x125 P, ob158x126 P, ob159x127 P, ob160x128 P, ob161x131 P, ob162x132 P, ob163x133 P, ob164x134 P, ob165x135 P, ob166x136 P, ob167x137 P, oc168x127 P, oc169x128 P, oc170x139 P, oc171x140 P, oc172x141 P, oc173x142 P, oc174x143 P, oc175x146 P, oc176x147 P]
noncomputable def stac7 (w : World) (os : OsState) : SharedT := ⟨mkT 12 (lstc7 w.params), 177, {}, #[], {}, 2488, os⟩
noncomputable def cc7 : Code := Code.builtin "set.update.loop" ⟨[Value.ref 175, Value.ref 176], []⟩
noncomputable def cd7 : Code := Code.builtin "set.update.loop" ⟨[Value.ref 175, Value.ref 176], []⟩
noncomputable def psc7 : Pos := ⟨96, 9, 96, 52⟩
noncomputable def lstc8 (P : Params) : List Obj := [boot_o_0 P, boot_o_1 P, boot_o_2 P, ob3x129 P, boot_o_4 P, boot_o_5 P, boot_o_6 P, boot_o_7 P, boot_o_8 P, boot_o_9 P, boot_o_10 P, ob11x0 P, ob12x130 P, ob13x2 P, ob14x3 P, ob15x7 P, ob16x8 P, ob17x9 P, ob18x10 P, ob19x11 P, ob20x12 P, ob21x13 P, ob22x14 P, ob23x15 P, ob24x16 P, ob25x17 P, ob26x18 P, ob27x19 P, ob28x20 P, ob29x21 P, ob30x22 P, ob31x23 P, ob32x24 P, ob33x25 P, ob34x26 P, ob35x27 P, ob36x30 P, ob37x31 P, ob38x32 P, ob39x33 P, ob40x34 P, ob41x35 P, ob42x36 P, ob43x37 P, ob44x38 P, ob45x39 P, ob46x40 P, ob47x41 P, ob48x42 P, ob49x43 P, ob50x46 P, ob51x47 P, ob52x48 P, ob53x49 P, ob54x50 P, ob55x51 P, ob56x52 P, ob57x53 P, ob58x54 P, ob59x55 P, ob60x56 P, ob61x57 P, ob62x58 P, ob63x59 P, ob64x62 P, ob65x63 P, ob66x64 P, ob67x65 P, ob68x66 P, ob69x67 P, ob70x68 P, ob71x69 P, ob72x70 P, ob73x71 P, ob74x72 P, ob75x73 P, ob76x74 P, ob77x75 P, ob78x76 P, ob79x77 P, ob80x78 P, ob81x79 P, ob82x80 P, ob83x81 P, ob84x82 P, ob85x85 P, ob86x86 P, ob87x87 P, ob88x88 P, ob89x89 P, ob90x90 P, ob91x91 P, ob92x93 P, ob93x94 P, ob94x95 P, ob95x96 P, ob96x97 P, ob97x98 P, ob98x99 P, ob99x100 P, ob100x101 P, ob101x102 P, ob102x103 P, ob103x106 P, ob104x107 P, ob105x108 P, ob106x109 P, ob107x110 P, ob108x111 P, ob109x112 P, b3O 0 P, b3O 1 P, b3O 2 P, b3O 3 P, b3O 4 P, b3O 5 P, b3O 6 P, b3O 7 P, b3O 8 P, b3O 9 P, b3O 10 P, b3O 11 P, b3O 12 P, b3O 13 P, b3O 14 P, b3O 15 P, b3O 16 P, b3O 17 P, b3O 18 P, b3O 19 P, b3O 20 P, b3O 21 P, b3O 22 P, b3O 23 P, b3O 24 P, b3O 25 P, b3O 26 P, b3O 27 P, b3O 28 P, b3O 29 P, b3O 30 P, b3O 31 P, b3O 32 P, b3O 33 P, b3O 34 P, b3O 35 P, b3O 36 P, b3O 37 P, b3O 38 P, ob149x116 P, ob150x117 P, ob151x118 P, ob152x119 P, ob153x120 P, ob154x121 P, ob155x122 P, ob156x124 P, ob157x125 P, ob158x126 P, ob159x127 P, ob160x128 P, ob161x131 P, ob162x132 P, ob163x133 P, ob164x134 P, ob165x135 P, ob166x136 P, ob167x137 P, oc168x127 P, oc169x128 P, oc170x139 P, oc171x140 P, oc172x141 P, oc173x142 P, oc174x143 P, oc175x148 P, oc176x149 P]
noncomputable def stac8 (w : World) (os : OsState) : SharedT := ⟨mkT 12 (lstc8 w.params), 177, {}, #[], {}, 2493, os⟩
noncomputable def cc8 : Code := Code.builtin "set.update.loop" ⟨[Value.ref 175, Value.ref 176], []⟩
noncomputable def cd8 : Code := Code.builtin "set.update.loop" ⟨[Value.ref 175, Value.ref 176], []⟩
noncomputable def psc8 : Pos := ⟨96, 9, 96, 52⟩
noncomputable def lstc9 (P : Params) : List Obj := [boot_o_0 P, boot_o_1 P, boot_o_2 P, ob3x129 P, boot_o_4 P, boot_o_5 P, boot_o_6 P, boot_o_7 P, boot_o_8 P, boot_o_9 P, boot_o_10 P, ob11x0 P, ob12x130 P, ob13x2 P, ob14x3 P, ob15x7 P, ob16x8 P, ob17x9 P, ob18x10 P, ob19x11 P, ob20x12 P, ob21x13 P, ob22x14 P, ob23x15 P, ob24x16 P, ob25x17 P, ob26x18 P, ob27x19 P, ob28x20 P, ob29x21 P, ob30x22 P, ob31x23 P, ob32x24 P, ob33x25 P, ob34x26 P, ob35x27 P, ob36x30 P, ob37x31 P, ob38x32 P, ob39x33 P, ob40x34 P, ob41x35 P, ob42x36 P, ob43x37 P, ob44x38 P, ob45x39 P, ob46x40 P, ob47x41 P, ob48x42 P, ob49x43 P, ob50x46 P, ob51x47 P, ob52x48 P, ob53x49 P, ob54x50 P, ob55x51 P, ob56x52 P, ob57x53 P, ob58x54 P, ob59x55 P, ob60x56 P, ob61x57 P, ob62x58 P, ob63x59 P, ob64x62 P, ob65x63 P, ob66x64 P, ob67x65 P, ob68x66 P, ob69x67 P, ob70x68 P, ob71x69 P, ob72x70 P, ob73x71 P, ob74x72 P, ob75x73 P, ob76x74 P, ob77x75 P, ob78x76 P, ob79x77 P, ob80x78 P, ob81x79 P, ob82x80 P, ob83x81 P, ob84x82 P, ob85x85 P, ob86x86 P, ob87x87 P, ob88x88 P, ob89x89 P, ob90x90 P, ob91x91 P, ob92x93 P, ob93x94 P, ob94x95 P, ob95x96 P, ob96x97 P, ob97x98 P, ob98x99 P, ob99x100 P, ob100x101 P, ob101x102 P, ob102x103 P, ob103x106 P, ob104x107 P, ob105x108 P, ob106x109 P, ob107x110 P, ob108x111 P, ob109x112 P, b3O 0 P, b3O 1 P, b3O 2 P, b3O 3 P, b3O 4 P, b3O 5 P, b3O 6 P, b3O 7 P, b3O 8 P, b3O 9 P, b3O 10 P, b3O 11 P, b3O 12 P, b3O 13 P, b3O 14 P, b3O 15 P, b3O 16 P, b3O 17 P, b3O 18 P, b3O 19 P, b3O 20 P, b3O 21 P, b3O 22 P, b3O 23 P, b3O 24 P, b3O 25 P, b3O 26 P, b3O 27 P, b3O 28 P, b3O 29 P, b3O 30 P, b3O 31 P, b3O 32 P, b3O 33 P, b3O 34 P, b3O 35 P, b3O 36 P, b3O 37 P, b3O 38 P, ob149x116 P, ob150x117 P, ob151x118 P, ob152x119 P, ob153x120 P, ob154x121 P, ob155x122 P, ob156x124 P, ob157x125 P, ob158x126 P, ob159x127 P, ob160x128 P, ob161x131 P, ob162x132 P, ob163x133 P, ob164x134 P, ob165x135 P, ob166x136 P, ob167x137 P, oc168x127 P, oc169x128 P, oc170x139 P, oc171x140 P, oc172x141 P, oc173x142 P, oc174x143 P, oc175x150 P, oc176x151 P]
noncomputable def stac9 (w : World) (os : OsState) : SharedT := ⟨mkT 12 (lstc9 w.params), 177, {}, #[], {}, 2498, os⟩
noncomputable def cc9 : Code := Code.builtin "set.update.loop" ⟨[Value.ref 175, Value.ref 176], []⟩
noncomputable def cd9 : Code := Code.builtin "set.update.loop" ⟨[Value.ref 175, Value.ref 176], []⟩
noncomputable def psc9 : Pos := ⟨96, 9, 96, 52⟩
noncomputable def lstc10 (P : Params) : List Obj := [boot_o_0 P, boot_o_1 P, boot_o_2 P, ob3x129 P, boot_o_4 P, boot_o_5 P, boot_o_6 P, boot_o_7 P, boot_o_8 P, boot_o_9 P, boot_o_10 P, ob11x0 P, ob12x130 P, ob13x2 P, ob14x3 P, ob15x7 P, ob16x8 P, ob17x9 P, ob18x10 P, ob19x11 P, ob20x12 P, ob21x13 P, ob22x14 P, ob23x15 P, ob24x16 P, ob25x17 P, ob26x18 P, ob27x19 P, ob28x20 P, ob29x21 P, ob30x22 P, ob31x23 P, ob32x24 P, ob33x25 P, ob34x26 P, ob35x27 P, ob36x30 P, ob37x31 P, ob38x32 P, ob39x33 P, ob40x34 P, ob41x35 P, ob42x36 P, ob43x37 P, ob44x38 P, ob45x39 P, ob46x40 P, ob47x41 P, ob48x42 P, ob49x43 P, ob50x46 P, ob51x47 P, ob52x48 P, ob53x49 P, ob54x50 P, ob55x51 P, ob56x52 P, ob57x53 P, ob58x54 P, ob59x55 P, ob60x56 P, ob61x57 P, ob62x58 P, ob63x59 P, ob64x62 P, ob65x63 P, ob66x64 P, ob67x65 P, ob68x66 P, ob69x67 P, ob70x68 P, ob71x69 P, ob72x70 P, ob73x71 P, ob74x72 P, ob75x73 P, ob76x74 P, ob77x75 P, ob78x76 P, ob79x77 P, ob80x78 P, ob81x79 P, ob82x80 P, ob83x81 P, ob84x82 P, ob85x85 P, ob86x86 P, ob87x87 P, ob88x88 P, ob89x89 P, ob90x90 P, ob91x91 P, ob92x93 P, ob93x94 P, ob94x95 P, ob95x96 P, ob96x97 P, ob97x98 P, ob98x99 P, ob99x100 P, ob100x101 P, ob101x102 P, ob102x103 P, ob103x106 P, ob104x107 P, ob105x108 P, ob106x109 P, ob107x110 P, ob108x111 P, ob109x112 P, b3O 0 P, b3O 1 P, b3O 2 P, b3O 3 P, b3O 4 P, b3O 5 P, b3O 6 P, b3O 7 P, b3O 8 P, b3O 9 P, b3O 10 P, b3O 11 P, b3O 12 P, b3O 13 P, b3O 14 P, b3O 15 P, b3O 16 P, b3O 17 P, b3O 18 P, b3O 19 P, b3O 20 P, b3O 21 P, b3O 22 P, b3O 23 P, b3O 24 P, b3O 25 P, b3O 26 P, b3O 27 P, b3O 28 P, b3O 29 P, b3O 30 P, b3O 31 P, b3O 32 P, b3O 33 P, b3O 34 P, b3O 35 P, b3O 36 P, b3O 37 P, b3O 38 P, ob149x116 P, ob150x117 P, ob151x118 P, ob152x119 P, ob153x120 P, ob154x121 P, ob155x122 P, ob156x124 P, ob157x125 P, ob158x126 P, ob159x127 P, ob160x128 P, ob161x131 P, ob162x132 P, ob163x133 P, ob164x134 P, ob165x135 P, ob166x136 P, ob167x137 P, oc168x127 P, oc169x128 P, oc170x139 P, oc171x140 P, oc172x141 P, oc173x142 P, oc174x143 P, oc175x152 P, oc176x153 P]
noncomputable def stac10 (w : World) (os : OsState) : SharedT := ⟨mkT 12 (lstc10 w.params), 177, {}, #[], {}, 2503, os⟩
noncomputable def cc10 : Code := Code.builtin "set.update.loop" ⟨[Value.ref 175, Value.ref 176], []⟩
noncomputable def cd10 : Code := Code.builtin "set.update.loop" ⟨[Value.ref 175, Value.ref 176], []⟩
noncomputable def psc10 : Pos := ⟨96, 9, 96, 52⟩
noncomputable def lstc11 (P : Params) : List Obj := [boot_o_0 P, boot_o_1 P, boot_o_2 P, ob3x129 P, boot_o_4 P, boot_o_5 P, boot_o_6 P, boot_o_7 P, boot_o_8 P, boot_o_9 P, boot_o_10 P, ob11x0 P, ob12x130 P, ob13x2 P, ob14x3 P, ob15x7 P, ob16x8 P, ob17x9 P, ob18x10 P, ob19x11 P, ob20x12 P, ob21x13 P, ob22x14 P, ob23x15 P, ob24x16 P, ob25x17 P, ob26x18 P, ob27x19 P, ob28x20 P, ob29x21 P, ob30x22 P, ob31x23 P, ob32x24 P, ob33x25 P, ob34x26 P, ob35x27 P, ob36x30 P, ob37x31 P, ob38x32 P, ob39x33 P, ob40x34 P, ob41x35 P, ob42x36 P, ob43x37 P, ob44x38 P, ob45x39 P, ob46x40 P, ob47x41 P, ob48x42 P, ob49x43 P, ob50x46 P, ob51x47 P, ob52x48 P, ob53x49 P, ob54x50 P, ob55x51 P, ob56x52 P, ob57x53 P, ob58x54 P, ob59x55 P, ob60x56 P, ob61x57 P, ob62x58 P, ob63x59 P, ob64x62 P, ob65x63 P, ob66x64 P, ob67x65 P, ob68x66 P, ob69x67 P, ob70x68 P, ob71x69 P, ob72x70 P, ob73x71 P, ob74x72 P, ob75x73 P, ob76x74 P, ob77x75 P, ob78x76 P, ob79x77 P, ob80x78 P, ob81x79 P, ob82x80 P, ob83x81 P, ob84x82 P, ob85x85 P, ob86x86 P, ob87x87 P, ob88x88 P, ob89x89 P, ob90x90 P, ob91x91 P, ob92x93 P, ob93x94 P, ob94x95 P, ob95x96 P, ob96x97 P, ob97x98 P, ob98x99 P, ob99x100 P, ob100x101 P, ob101x102 P, ob102x103 P, ob103x106 P, ob104x107 P, ob105x108 P, ob106x109 P, ob107x110 P, ob108x111 P, ob109x112 P, b3O 0 P, b3O 1 P, b3O 2 P, b3O 3 P, b3O 4 P, b3O 5 P, b3O 6 P, b3O 7 P, b3O 8 P, b3O 9 P, b3O 10 P, b3O 11 P, b3O 12 P, b3O 13 P, b3O 14 P, b3O 15 P, b3O 16 P, b3O 17 P, b3O 18 P, b3O 19 P, b3O 20 P, b3O 21 P, b3O 22 P, b3O 23 P, b3O 24 P, b3O 25 P, b3O 26 P, b3O 27 P, b3O 28 P, b3O 29 P, b3O 30 P, b3O 31 P, b3O 32 P, b3O 33 P, b3O 34 P, b3O 35 P, b3O 36 P, b3O 37 P, b3O 38 P, ob149x116 P, ob150x117 P, ob151x118 P, ob152x119 P, ob153x120 P, ob154x121 P, ob155x122 P, ob156x124 P, ob157x125 P, ob158x126 P, ob159x127 P, ob160x128 P, ob161x131 P, ob162x132 P, ob163x133 P, ob164x134 P, ob165x135 P, ob166x136 P, ob167x137 P, oc168x127 P, oc169x128 P, oc170x139 P, oc171x140 P, oc172x141 P, oc173x142 P, oc174x143 P, oc175x154 P, oc176x155 P]
noncomputable def stac11 (w : World) (os : OsState) : SharedT := ⟨mkT 12 (lstc11 w.params), 177, {}, #[], {}, 2508, os⟩
noncomputable def cc11 : Code := Code.builtin "set.update.loop" ⟨[Value.ref 175, Value.ref 176], []⟩
noncomputable def cd11 : Code := Code.builtin "set.update.loop" ⟨[Value.ref 175, Value.ref 176], []⟩
noncomputable def psc11 : Pos := ⟨96, 9, 96, 52⟩
noncomputable def lstc12 (P : Params) : List Obj := [boot_o_0 P, boot_o_1 P, boot_o_2 P, ob3x129 P, boot_o_4 P, boot_o_5 P, boot_o_6 P, boot_o_7 P, boot_o_8 P, boot_o_9 P, boot_o_10 P, ob11x0 P, ob12x130 P, ob13x2 P, ob14x3 P, ob15x7 P, ob16x8 P, ob17x9 P, ob18x10 P, ob19x11 P, ob20x12 P, ob21x13 P, ob22x14 P, ob23x15 P, ob24x16 P, ob25x17 P, ob26x18 P, ob27x19 P, ob28x20 P, ob29x21 P, ob30x22 P, ob31x23 P, ob32x24 P, ob33x25 P, ob34x26 P, ob35x27 P, ob36x30 P, ob37x31 P, ob38x32 P, ob39x33 P, ob40x34 P, ob41x35 P, ob42x36 P, ob43x37 P, ob44x38 P, ob45x39 P, ob46x40 P, ob47x41 P, ob48x42 P, ob49x43 P, ob50x46 P, ob51x47 P, ob52x48 P, ob53x49 P, ob54x50 P, ob55x51 P, ob56x52 P, ob57x53 P, ob58x54 P, ob59x55 P, ob60x56 P, ob61x57 P, ob62x58 P, ob63x59 P, ob64x62 P, ob65x63 P, ob66x64 P, ob67x65 P, ob68x66 P, ob69x67 P, ob70x68 P, ob71x69 P, ob72x70 P, ob73x71 P, ob74x72 P, ob75x73 P, ob76x74 P, ob77x75 P, ob78x76 P, ob79x77 P, ob80x78 P, ob81x79 P, ob82x80 P, ob83x81 P, ob84x82 P, ob85x85 P, ob86x86 P, ob87x87 P, ob88x88 P, ob89x89 P, ob90x90 P, ob91x91 P, ob92x93 P, ob93x94 P, ob94x95 P, ob95x96 P, ob96x97 P, ob97x98 P, ob98x99 P, ob99x100 P, ob100x101 P, ob101x102 P, ob102x103 P, ob103x106 P, ob104x107 P, ob105x108 P, ob106x109 P, ob107x110 P, ob108x111 P, ob109x112 P, b3O 0 P, b3O 1 P, b3O 2 P, b3O 3 P, b3O 4 P, b3O 5 P, b3O 6 P, b3O 7 P, b3O 8 P, b3O 9 P, b3O 10 P, b3O 11 P, b3O 12 P, b3O 13 P, b3O 14 P, b3O 15 P, b3O 16 P, b3O 17 P, b3O 18 P, b3O 19 P, b3O 20 P, b3O 21 P, b3O 22 P, b3O 23 P, b3O 24 P, b3O 25 P, b3O 26 P, b3O 27 P, b3O 28 P, b3O 29 P, b3O 30 P, b3O 31 P, b3O 32 P, b3O 33 P, b3O 34 P, b3O 35 P, b3O 36 P, b3O 37 P, b3O 38 P, ob149x116 P, ob150x117 P, ob151x118 P, ob152x119 P, ob153x120 P, ob154x121 P, ob155x122 P, ob156x124 P, ob157x125 P, ob158x126 P, ob159x127 P, ob160x128 P, ob161x131 P, ob162x132 P, ob163x133 P, ob164x134 P, ob165x135 P, ob166x136 P, ob167x137 P, oc168x127 P, oc169x128 P, oc170x139 P, oc171x140 P, oc172x141 P, oc173x142 P, oc174x143 P, oc175x156 P, oc176x157 P]
noncomputable def stac12 (w : World) (os : OsState) : SharedT := ⟨mkT 12 (lstc12 w.params), 177, {}, #[], {}, 2513, os⟩
noncomputable def cc12 : Code := Code.builtin "set.update.loop" ⟨[Value.ref 175, Value.ref 176], []⟩
noncomputable def cd12 : Code := Code.builtin "set.update.loop" ⟨[Value.ref 175, Value.ref 176], []⟩
noncomputable def psc12 : Pos := ⟨96, 9, 96, 52⟩
noncomputable def lstc13 (P : Params) : List Obj := [boot_o_0 P, boot_o_1 P, boot_o_2 P, ob3x129 P, boot_o_4 P, boot_o_5 P, boot_o_6 P, boot_o_7 P, boot_o_8 P, boot_o_9 P, boot_o_10 P, ob11x0 P, ob12x130 P, ob13x2 P, ob14x3 P, ob15x7 P, ob16x8 P, ob17x9 P, ob18x10 P, ob19x11 P, ob20x12 P, ob21x13 P, ob22x14 P, ob23x15 P, ob24x16 P, ob25x17 P, ob26x18 P, ob27x19 P, ob28x20 P, ob29x21 P, ob30x22 P, ob31x23 P, ob32x24 P, ob33x25 P, ob34x26 P, ob35x27 P, ob36x30 P, ob37x31 P, ob38x32 P, ob39x33 P, ob40x34 P, ob41x35 P, ob42x36 P, ob43x37 P, ob44x38 P, ob45x39 P, ob46x40 P, ob47x41 P, ob48x42 P, ob49x43 P, ob50x46 P, ob51x47 P, ob52x48 P, ob53x49 P, ob54x50 P, ob55x51 P, ob56x52 P, ob57x53 P, ob58x54 P, ob59x55 P, ob60x56 P, ob61x57 P, ob62x58 P, ob63x59 P, ob64x62 P, ob65x63 P, ob66x64 P, ob67x65 P, ob68x66 P, ob69x67 P, ob70x68 P, ob71x69 P, ob72x70 P, ob73x71 P, ob74x72 P, ob75x73 P, ob76x74 P, ob77x75 P, ob78x76 P, ob79x77 P, ob80x78 P, ob81x79 P, ob82x80 P, ob83x81 P, ob84x82 P, ob85x85 P, ob86x86 P, ob87x87 P, ob88x88 P, ob89x89 P, ob90x90 P, ob91x91 P, ob92x93 P, ob93x94 P, ob94x95 P, ob95x96 P, ob96x97 P, ob97x98 P, ob98x99 P, ob99x100 P, ob100x101 P, ob101x102 P, ob102x103 P, ob103x106 P, ob104x107 P, ob105x108 P, ob106x109 P, ob107x110 P, ob108x111 P, ob109x112 P, b3O 0 P, b3O 1 P, b3O 2 P, b3O 3 P, b3O 4 P, b3O 5 P, b3O 6 P, b3O 7 P, b3O 8 P, b3O 9 P, b3O 10 P, b3O 11 P, b3O 12 P, b3O 13 P, b3O 14 P, b3O 15 P, b3O 16 P, b3O 17 P, b3O 18 P, b3O 19 P, b3O 20 P, b3O 21 P, b3O 22 P, b3O 23 P, b3O 24 P, b3O 25 P, b3O 26 P, b3O 27 P, b3O 28 P, b3O 29 P, b3O 30 P, b3O 31 P, b3O 32 P, b3O 33 P, b3O 34 P, b3O 35 P, b3O 36 P, b3O 37 P, b3O 38 P, ob149x116 P, ob150x117 P, ob151x118 P, ob152x119 P, ob153x120 P, ob154x121 P, ob155x122 P, ob156x124 P, ob157x125 P, ob158x126 P, ob159x127 P, ob160x128 P, ob161x131 P, ob162x132 P, ob163x133 P, ob164x134 P, ob165x135 P, ob166x136 P, ob167x137 P, oc168x127 P, oc169x128 P, oc170x139 P, oc171x140 P, oc172x141 P, oc173x142 P, oc174x143 P, oc175x158 P, oc176x159 P]
noncomputable def stac13 (w : World) (os : OsState) : SharedT := ⟨mkT 12 (lstc13 w.params), 177, {}, #[], {}, 2518, os⟩
noncomputable def cc13 : Code := Code.builtin "set.update.loop" ⟨[Value.ref 175, Value.ref 176], []⟩
noncomputable def cd13 : Code := Code.builtin "set.update.loop" ⟨[Value.ref 175, Value.ref 176], []⟩
noncomputable def psc13 : Pos := ⟨96, 9, 96, 52⟩
noncomputable def lstc14 (P : Params) : List Obj := [boot_o_0 P, boot_o_1 P, boot_o_2 P, ob3x129 P, boot_o_4 P, boot_o_5 P, boot_o_6 P, boot_o_7 P, boot_o_8 P, boot_o_9 P, boot_o_10 P, ob11x0 P, ob12x130 P, ob13x2 P, ob14x3 P, ob15x7 P, ob16x8 P, ob17x9 P, ob18x10 P, ob19x11 P, ob20x12 P, ob21x13 P, ob22x14 P, ob23x15 P, ob24x16 P, ob25x17 P, ob26x18 P, ob27x19 P, ob28x20 P, ob29x21 P, ob30x22 P, ob31x23 P, ob32x24 P, ob33x25 P, ob34x26 P, ob35x27 P, ob36x30 P, ob37x31 P, ob38x32 P, ob39x33 P, ob40x34 P, ob41x35 P, ob42x36 P, ob43x37 P, ob44x38 P, ob45x39 P, ob46x40 P, ob47x41 P, ob48x42 P, ob49x43 P, ob50x46 P, ob51x47 P, ob52x48 P, ob53x49 P, ob54x50 P, ob55x51 P, ob56x52 P, ob57x53 P, ob58x54 P, ob59x55 P, ob60x56 P, ob61x57 P, ob62x58 P, ob63x59 P, ob64x62 P, ob65x63 P, ob66x64 P, ob67x65 P, ob68x66 P, ob69x67 P, ob70x68 P, ob71x69 P, ob72x70 P, ob73x71 P, ob74x72 P, ob75x73 P, ob76x74 P, ob77x75 P, ob78x76 P, ob79x77 P, ob80x78 P, ob81x79 P, ob82x80 P, ob83x81 P, ob84x82 P, ob85x85 P, ob86x86 P, ob87x87 P, ob88x88 P, ob89x89 P, ob90x90 P, ob91x91 P, ob92x93 P, ob93x94 P, ob94x95 P, ob95x96 P, ob96x97 P, ob97x98 P, ob98x99 P, ob99x100 P, ob100x101 P, ob101x102 P, ob102x103 P, ob103x106 P, ob104x107 P, ob105x108 P, ob106x109 P, ob107x110 P, ob108x111 P, ob109x112 P, b3O 0 P, b3O 1 P, b3O 2 P, b3O 3 P, b3O 4 P, b3O 5 P, b3O 6 P, b3O 7 P, b3O 8 P, b3O 9 P, b3O 10 P, b3O 11 P, b3O 12 P, b3O 13 P, b3O 14 P, b3O 15 P, b3O 16 P, b3O 17 P, b3O 18 P, b3O 19 P, b3O 20 P, b3O 21 P, b3O 22 P, b3O 23 P, b3O 24 P, b3O 25 P, b3O 26 P, b3O 27 P, b3O 28 P, b3O 29 P, b3O 30 P, b3O 31 P, b3O 32 P, b3O 33 P, b3O 34 P, b3O 35 P, b3O 36 P, b3O 37 P, b3O 38 P, ob149x116 P, ob150x117 P, ob151x118 P, ob152x119 P, ob153x120 P, ob154x121 P, ob155x122 P, ob156x124 P, ob157x125 P, ob158x126 P, ob159x127 P, ob160x128 P, ob161x131 P, ob162x132 P, ob163x133 P, ob164x134 P, ob165x135 P, ob166x136 P, ob167x137 P, oc168x127 P, oc169x128 P, oc170x139 P, oc171x140 P, oc172x141 P, oc173x142 P, oc174x143 P, oc175x160 P, oc176x161 P]
noncomputable def stac14 (w : World) (os : OsState) : SharedT := ⟨mkT 12 (lstc14 w.params), 177, {}, #[], {}, 2523, os⟩
noncomputable def cc14 : Code := Code.builtin "set.update.loop" ⟨[Value.ref 175, Value.ref 176], []⟩
noncomputable def cd14 : Code := Code.builtin "set.update.loop" ⟨[Value.ref 175, Value.ref 176], []⟩
noncomputable def psc14 : Pos := ⟨96, 9, 96, 52⟩
noncomputable def lstc15 (P : Params) : List Obj := [boot_o_0 P, boot_o_1 P, boot_o_2 P, ob3x129 P, boot_o_4 P, boot_o_5 P, boot_o_6 P, boot_o_7 P, boot_o_8 P, boot_o_9 P, boot_o_10 P, ob11x0 P, ob12x130 P, ob13x2 P, ob14x3 P, ob15x7 P, ob16x8 P, ob17x9 P, ob18x10 P, ob19x11 P, ob20x12 P, ob21x13 P, ob22x14 P, ob23x15 P, ob24x16 P, ob25x17 P, ob26x18 P, ob27x19 P, ob28x20 P, ob29x21 P, ob30x22 P, ob31x23 P, ob32x24 P, ob33x25 P, ob34x26 P, ob35x27 P, ob36x30 P, ob37x31 P, ob38x32 P, ob39x33 P, ob40x34 P, ob41x35 P, ob42x36 P, ob43x37 P, ob44x38 P, ob45x39 P, ob46x40 P, ob47x41 P, ob48x42 P, ob49x43 P, ob50x46 P, ob51x47 P, ob52x48 P, ob53x49 P, ob54x50 P, ob55x51 P, ob56x52 P, ob57x53 P, ob58x54 P, ob59x55 P, ob60x56 P, ob61x57 P, ob62x58 P, ob63x59 P, ob64x62 P, ob65x63 P, ob66x64 P, ob67x65 P, ob68x66 P, ob69x67 P, ob70x68 P, ob71x69 P, ob72x70 P, ob73x71 P, ob74x72 P, ob75x73 P, ob76x74 P, ob77x75 P, ob78x76 P, ob79x77 P, ob80x78 P, ob81x79 P, ob82x80 P, ob83x81 P, ob84x82 P, ob85x85 P, ob86x86 P, ob87x87 P, ob88x88 P, ob89x89 P, ob90x90 P, ob91x91 P, ob92x93 P, ob93x94 P, ob94x95 P, ob95x96 P, ob96x97 P, ob97x98 P, ob98x99 P, ob99x100 P, ob100x101 P, ob101x102 P, ob102x103 P, ob103x106 P, ob104x107 P, ob105x108 P, ob106x109 P, ob107x110 P, ob108x111 P, ob109x112 P, b3O 0 P, b3O 1 P, b3O 2 P, b3O 3 P, b3O 4 P, b3O 5 P, b3O 6 P, b3O 7 P, b3O 8 P, b3O 9 P, b3O 10 P, b3O 11 P, b3O 12 P, b3O 13 P, b3O 14 P, b3O 15 P, b3O 16 P, b3O 17 P, b3O 18 P, b3O 19 P, b3O 20 P, b3O 21 P, b3O 22 P, b3O 23 P, b3O 24 P, b3O 25 P, b3O 26 P, b3O 27 P, b3O 28 P, b3O 29 P, b3O 30 P, b3O 31 P, b3O 32 P, b3O 33 P, b3O 34 P, b3O 35 P, b3O 36 P, b3O 37 P, b3O 38 P, ob149x116 P, ob150x117 P, ob151x118 P, ob152x119 P, ob153x120 P, ob154x121 P, ob155x122 P, ob156x124 P, ob157x125 P, ob158x126 P, ob159x127 P, ob160x128 P, ob161x131 P, ob162x132 P, ob163x133 P, ob164x134 P, ob165x135 P, ob166x136 P, ob167x137 P, oc168x127 P, oc169x128 P, oc170x139 P, oc171x140 P, oc172x141 P, oc173x142 P, oc174x143 P, oc175x162 P, oc176x163 P]
noncomputable def stac15 (w : World) (os : OsState) : SharedT := ⟨mkT 12 (lstc15 w.params), 177, {}, #[], {}, 2528, os⟩
noncomputable def cc15 : Code := Code.builtin "set.update.loop" ⟨[Value.ref 175, Value.ref 176], []⟩
noncomputable def cd15 : Code := Code.builtin "set.update.loop" ⟨[Value.ref 175, Value.ref 176], []⟩
noncomputable def psc15 : Pos := ⟨96, 9, 96, 52⟩
noncomputable def lstc16 (P : Params) : List Obj := [boot_o_0 P, boot_o_1 P, boot_o_2 P, ob3x129 P, boot_o_4 P, boot_o_5 P, boot_o_6 P, boot_o_7 P, boot_o_8 P, boot_o_9 P, boot_o_10 P, ob11x0 P, ob12x130 P, ob13x2 P, ob14x3 P, ob15x7 P, ob16x8 P, ob17x9 P, ob18x10 P, ob19x11 P, ob20x12 P, ob21x13 P, ob22x14 P, ob23x15 P, ob24x16 P, ob25x17 P, ob26x18 P, ob27x19 P, ob28x20 P, ob29x21 P, ob30x22 P, ob31x23 P, ob32x24 P, ob33x25 P, ob34x26 P, ob35x27 P, ob36x30 P, ob37x31 P, ob38x32 P, ob39x33 P, ob40x34 P, ob41x35 P, ob42x36 P, ob43x37 P, ob44x38 P, ob45x39 P, ob46x40 P, ob47x41 P, ob48x42 P, ob49x43 P, ob50x46 P, ob51x47 P, ob52x48 P, ob53x49 P, ob54x50 P, ob55x51 P, ob56x52 P, ob57x53 P, ob58x54 P, ob59x55 P, ob60x56 P, ob61x57 P, ob62x58 P, ob63x59 P, ob64x62 P, ob65x63 P, ob66x64 P, ob67x65 P, ob68x66 P, ob69x67 P, ob70x68 P, ob71x69 P, ob72x70 P, ob73x71 P, ob74x72 P, ob75x73 P, ob76x74 P, ob77x75 P, ob78x76 P, ob79x77 P, ob80x78 P, ob81x79 P, ob82x80 P, ob83x81 P, ob84x82 P, ob85x85 P, ob86x86 P, ob87x87 P, ob88x88 P, ob89x89 P, ob90x90 P, ob91x91 P, ob92x93 P, ob93x94 P, ob94x95 P, ob95x96 P, ob96x97 P, ob97x98 P, ob98x99 P, ob99x100 P, ob100x101 P, ob101x102 P, ob102x103 P, ob103x106 P, ob104x107 P, ob105x108 P, ob106x109 P, ob107x110 P, ob108x111 P, ob109x112 P, b3O 0 P, b3O 1 P, b3O 2 P, b3O 3 P, b3O 4 P, b3O 5 P, b3O 6 P, b3O 7 P, b3O 8 P, b3O 9 P, b3O 10 P, b3O 11 P, b3O 12 P, b3O 13 P, b3O 14 P, b3O 15 P, b3O 16 P, b3O 17 P, b3O 18 P, b3O 19 P, b3O 20 P, b3O 21 P, b3O 22 P, b3O 23 P, b3O 24 P, b3O 25 P, b3O 26 P, b3O 27 P, b3O 28 P, b3O 29 P, b3O 30 P, b3O 31 P, b3O 32 P, b3O 33 P, b3O 34 P, b3O 35 P, b3O 36 P, b3O 37 P, b3O 38 P, ob149x116 P, ob150x117 P, ob151x118 P, ob152x119 P, ob153x120 P, ob154x121 P, ob155x122 P, ob156x124 P, ob157x125 P, ob158x126 P, ob159x127 P, ob160x128 P, ob161x131 P, ob162x132 P, ob163x133 P, ob164x134 P, ob165x135 P, ob166x136 P, ob167x137 P, oc168x127 P, oc169x128 P, oc170x139 P, oc171x140 P, oc172x141 P, oc173x142 P, oc174x143 P, oc175x164 P, oc176x165 P]
noncomputable def stac16 (w : World) (os : OsState) : SharedT := ⟨mkT 12 (lstc16 w.params), 177, {}, #[], {}, 2533, os⟩
noncomputable def cc16 : Code := Code.builtin "set.update.loop" ⟨[Value.ref 175, Value.ref 176], []⟩
noncomputable def cd16 : Code := Code.builtin "set.update.loop" ⟨[Value.ref 175, Value.ref 176], []⟩
noncomputable def psc16 : Pos := ⟨96, 9, 96, 52⟩
noncomputable def lstc17 (P : Params) : List Obj := [boot_o_0 P, boot_o_1 P, boot_o_2 P, ob3x129 P, boot_o_4 P, boot_o_5 P, boot_o_6 P, boot_o_7 P, boot_o_8 P, boot_o_9 P, boot_o_10 P, ob11x0 P, ob12x130 P, ob13x2 P, ob14x3 P, ob15x7 P, ob16x8 P, ob17x9 P, ob18x10 P, ob19x11 P, ob20x12 P, ob21x13 P, ob22x14 P, ob23x15 P, ob24x16 P, ob25x17 P, ob26x18 P, ob27x19 P, ob28x20 P, ob29x21 P, ob30x22 P, ob31x23 P, ob32x24 P, ob33x25 P, ob34x26 P, ob35x27 P, ob36x30 P, ob37x31 P, ob38x32 P, ob39x33 P, ob40x34 P, ob41x35 P, ob42x36 P, ob43x37 P, ob44x38 P, ob45x39 P, ob46x40 P, ob47x41 P, ob48x42 P, ob49x43 P, ob50x46 P, ob51x47 P, ob52x48 P, ob53x49 P, ob54x50 P, ob55x51 P, ob56x52 P, ob57x53 P, ob58x54 P, ob59x55 P, ob60x56 P, ob61x57 P, ob62x58 P, ob63x59 P, ob64x62 P, ob65x63 P, ob66x64 P, ob67x65 P, ob68x66 P, ob69x67 P, ob70x68 P, ob71x69 P, ob72x70 P, ob73x71 P, ob74x72 P, ob75x73 P, ob76x74 P, ob77x75 P, ob78x76 P, ob79x77 P, ob80x78 P, ob81x79 P, ob82x80 P, ob83x81 P, ob84x82 P, ob85x85 P, ob86x86 P, ob87x87 P, ob88x88 P, ob89x89 P, ob90x90 P, ob91x91 P, ob92x93 P, ob93x94 P, ob94x95 P, ob95x96 P, ob96x97 P, ob97x98 P, ob98x99 P, ob99x100 P, ob100x101 P, ob101x102 P, ob102x103 P, ob103x106 P, ob104x107 P, ob105x108 P, ob106x109 P, ob107x110 P, ob108x111 P, ob109x112 P, b3O 0 P, b3O 1 P, b3O 2 P, b3O 3 P, b3O 4 P, b3O 5 P, b3O 6 P, b3O 7 P, b3O 8 P, b3O 9 P, b3O 10 P, b3O 11 P, b3O 12 P, b3O 13 P, b3O 14 P, b3O 15 P, b3O 16 P, b3O 17 P, b3O 18 P, b3O 19 P, b3O 20 P, b3O 21 P, b3O 22 P, b3O 23 P, b3O 24 P, b3O 25 P, b3O 26 P, b3O 27 P, b3O 28 P, b3O 29 P, b3O 30 P, b3O 31 P, b3O 32 P, b3O 33 P, b3O 34 P, b3O 35 P, b3O 36 P, b3O 37 P, b3O 38 P, ob149x116 P, ob150x117 P, ob151x118 P, ob152x119 P, ob153x120 P, ob154x121 P, ob155x122 P, ob156x124 P, ob157x125 P, ob158x126 P, ob159x127 P, ob160x128 P, ob161x131 P, ob162x132 P, ob163x133 P, ob164x134 P, ob165x135 P, ob166x136 P, ob167x137 P, oc168x127 P, oc169x128 P, oc170x139 P, oc171x140 P, oc172x141 P, oc173x142 P, oc174x143 P, oc175x166 P, oc176x167 P]
noncomputable def stac17 (w : World) (os : OsState) : SharedT := ⟨mkT 12 (lstc17 w.params), 177, {}, #[], {}, 2538, os⟩
noncomputable def cc17 : Code := Code.builtin "set.update.loop" ⟨[Value.ref 175, Value.ref 176], []⟩
noncomputable def cd17 : Code := Code.builtin "set.update.loop" ⟨[Value.ref 175, Value.ref 176], []⟩
noncomputable def psc17 : Pos := ⟨96, 9, 96, 52⟩
noncomputable def lstc18 (P : Params) : List Obj := [boot_o_0 P, boot_o_1 P, boot_o_2 P, ob3x129 P, boot_o_4 P, boot_o_5 P, boot_o_6 P, boot_o_7 P, boot_o_8 P, boot_o_9 P, boot_o_10 P, ob11x0 P, ob12x130 P, ob13x2 P, ob14x3 P, ob15x7 P, ob16x8 P, ob17x9 P, ob18x10 P, ob19x11 P, ob20x12 P, ob21x13 P, ob22x14 P, ob23x15 P, ob24x16 P, ob25x17 P, ob26x18 P, ob27x19 P, ob28x20 P, ob29x21 P, ob30x22 P, ob31x23 P, ob32x24 P, ob33x25 P, ob34x26 P, ob35x27 P, ob36x30 P, ob37x31 P, ob38x32 P, ob39x33 P, ob40x34 P, ob41x35 P, ob42x36 P, ob43x37 P, ob44x38 P, ob45x39 P, ob46x40 P, ob47x41 P, ob48x42 P, ob49x43 P, ob50x46 P, ob51x47 P, ob52x48 P, ob53x49 P, ob54x50 P, ob55x51 P, ob56x52 P, ob57x53 P, ob58x54 P, ob59x55 P, ob60x56 P, ob61x57 P, ob62x58 P, ob63x59 P, ob64x62 P, ob65x63 P, ob66x64 P, ob67x65 P, ob68x66 P, ob69x67 P, ob70x68 P, ob71x69 P, ob72x70 P, ob73x71 P, ob74x72 P, ob75x73 P, ob76x74 P, ob77x75 P, ob78x76 P, ob79x77 P, ob80x78 P, ob81x79 P, ob82x80 P, ob83x81 P, ob84x82 P, ob85x85 P, ob86x86 P, ob87x87 P, ob88x88 P, ob89x89 P, ob90x90 P, ob91x91 P, ob92x93 P, ob93x94 P, ob94x95 P, ob95x96 P, ob96x97 P, ob97x98 P, ob98x99 P, ob99x100 P, ob100x101 P, ob101x102 P, ob102x103 P, ob103x106 P, ob104x107 P, ob105x108 P, ob106x109 P, ob107x110 P, ob108x111 P, ob109x112 P, b3O 0 P, b3O 1 P, b3O 2 P, b3O 3 P, b3O 4 P, b3O 5 P, b3O 6 P, b3O 7 P, b3O 8 P, b3O 9 P, b3O 10 P, b3O 11 P, b3O 12 P, b3O 13 P, b3O 14 P, b3O 15 P, b3O 16 P, b3O 17 P, b3O 18 P, b3O 19 P, b3O 20 P, b3O 21 P, b3O 22 P, b3O 23 P, b3O 24 P, b3O 25 P, b3O 26 P, b3O 27 P, b3O 28 P, b3O 29 P, b3O 30 P, b3O 31 P, b3O 32 P, b3O 33 P, b3O 34 P, b3O 35 P, b3O 36 P, b3O 37 P, b3O 38 P, ob149x116 P, ob150x117 P, ob151x118 P, ob152x119 P, ob153x120 P, ob154x121 P, ob155x122 P, ob156x124 P, ob157x125 P, ob158x126 P, ob159x127 P, ob160x128 P, ob161x131 P, ob162x132 P, ob163x133 P, ob164x134 P, ob165x135 P, ob166x136 P, ob167x137 P, oc168x127 P, oc169x128 P, oc170x139 P, oc171x140 P, oc172x141 P, oc173x142 P, oc174x143 P, oc175x168 P, oc176x169 P]
noncomputable def stac18 (w : World) (os : OsState) : SharedT := ⟨mkT 12 (lstc18 w.params), 177, {}, #[], {}, 2543, os⟩
noncomputable def cc18 : Code := Code.builtin "set.update.loop" ⟨[Value.ref 175, Value.ref 176], []⟩
noncomputable def cd18 : Code := Code.builtin "set.update.loop" ⟨[Value.ref 175, Value.ref 176], []⟩
noncomputable def psc18 : Pos := ⟨96, 9, 96, 52⟩
noncomputable def lstc19 (P : Params) : List Obj := [boot_o_0 P, boot_o_1 P, boot_o_2 P, ob3x129 P, boot_o_4 P, boot_o_5 P, boot_o_6 P, boot_o_7 P, boot_o_8 P, boot_o_9 P, boot_o_10 P, ob11x0 P, ob12x130 P, ob13x2 P, ob14x3 P, ob15x7 P, ob16x8 P, ob17x9 P, ob18x10 P, ob19x11 P, ob20x12 P, ob21x13 P, ob22x14 P, ob23x15 P, ob24x16 P, ob25x17 P, ob26x18 P, ob27x19 P, ob28x20 P, ob29x21 P, ob30x22 P, ob31x23 P, ob32x24 P, ob33x25 P, ob34x26 P, ob35x27 P, ob36x30 P, ob37x31 P, ob38x32 P, ob39x33 P, ob40x34 P, ob41x35 P, ob42x36 P, ob43x37 P, ob44x38 P, ob45x39 P, ob46x40 P, ob47x41 P, ob48x42 P, ob49x43 P, ob50x46 P, ob51x47 P, ob52x48 P, ob53x49 P, ob54x50 P, ob55x51 P, ob56x52 P, ob57x53 P, ob58x54 P, ob59x55 P, ob60x56 P, ob61x57 P, ob62x58 P, ob63x59 P, ob64x62 P, ob65x63 P, ob66x64 P, ob67x65 P, ob68x66 P, ob69x67 P, ob70x68 P, ob71x69 P, ob72x70 P, ob73x71 P, ob74x72 P, ob75x73 P, ob76x74 P, ob77x75 P, ob78x76 P, ob79x77 P, ob80x78 P, ob81x79 P, ob82x80 P, ob83x81 P, ob84x82 P, ob85x85 P, ob86x86 P, ob87x87 P, ob88x88 P, ob89x89 P, ob90x90 P, ob91x91 P, ob92x93 P, ob93x94 P, ob94x95 P, ob95x96 P, ob96x97 P, ob97x98 P, ob98x99 P, ob99x100 P, ob100x101 P, ob101x102 P, ob102x103 P, ob103x106 P, ob104x107 P, ob105x108 P, ob106x109 P, ob107x110 P, ob108x111 P, ob109x112 P, b3O 0 P, b3O 1 P, b3O 2 P, b3O 3 P, b3O 4 P, b3O 5 P, b3O 6 P, b3O 7 P, b3O 8 P, b3O 9 P, b3O 10 P, b3O 11 P, b3O 12 P, b3O 13 P, b3O 14 P, b3O 15 P, b3O 16 P, b3O 17 P, b3O 18 P, b3O 19 P, b3O 20 P, b3O 21 P, b3O 22 P, b3O 23 P, b3O 24 P, b3O 25 P, b3O 26 P, b3O 27 P, b3O 28 P, b3O 29 P, b3O 30 P, b3O 31 P, b3O 32 P, b3O 33 P, b3O 34 P, b3O 35 P, b3O 36 P, b3O 37 P, b3O 38 P, ob149x116 P, ob150x117 P, ob151x118 P, ob152x119 P, ob153x120 P, ob154x121 P, ob155x122 P, ob156x124 P, ob157x125 P, ob158x126 P, ob159x127 P, ob160x128 P, ob161x131 P, ob162x132 P, ob163x133 P, ob164x134 P, ob165x135 P, ob166x136 P, ob167x137 P, oc168x127 P, oc169x128 P, oc170x139 P, oc171x140 P, oc172x141 P, oc173x142 P, oc174x143 P, oc175x170 P, oc176x171 P]
noncomputable def stac19 (w : World) (os : OsState) : SharedT := ⟨mkT 12 (lstc19 w.params), 177, {}, #[], {}, 2548, os⟩
noncomputable def cc19 : Code := Code.builtin "set.update.loop" ⟨[Value.ref 175, Value.ref 176], []⟩
noncomputable def cd19 : Code := Code.builtin "set.update.loop" ⟨[Value.ref 175, Value.ref 176], []⟩
noncomputable def psc19 : Pos := ⟨96, 9, 96, 52⟩
noncomputable def lstc20 (P : Params) : List Obj := [boot_o_0 P, boot_o_1 P, boot_o_2 P, ob3x129 P, boot_o_4 P, boot_o_5 P, boot_o_6 P, boot_o_7 P, boot_o_8 P, boot_o_9 P, boot_o_10 P, ob11x0 P, ob12x130 P, ob13x2 P, ob14x3 P, ob15x7 P, ob16x8 P, ob17x9 P, ob18x10 P, ob19x11 P, ob20x12 P, ob21x13 P, ob22x14 P, ob23x15 P, ob24x16 P, ob25x17 P, ob26x18 P, ob27x19 P, ob28x20 P, ob29x21 P, ob30x22 P, ob31x23 P, ob32x24 P, ob33x25 P, ob34x26 P, ob35x27 P, ob36x30 P, ob37x31 P, ob38x32 P, ob39x33 P, ob40x34 P, ob41x35 P, ob42x36 P, ob43x37 P, ob44x38 P, ob45x39 P, ob46x40 P, ob47x41 P, ob48x42 P, ob49x43 P, ob50x46 P, ob51x47 P, ob52x48 P, ob53x49 P, ob54x50 P, ob55x51 P, ob56x52 P, ob57x53 P, ob58x54 P, ob59x55 P, ob60x56 P, ob61x57 P, ob62x58 P, ob63x59 P, ob64x62 P, ob65x63 P, ob66x64 P, ob67x65 P, ob68x66 P, ob69x67 P, ob70x68 P, ob71x69 P, ob72x70 P, ob73x71 P, ob74x72 P, ob75x73 P, ob76x74 P, ob77x75 P, ob78x76 P, ob79x77 P, ob80x78 P, ob81x79 P, ob82x80 P, ob83x81 P, ob84x82 P, ob85x85 P, ob86x86 P, ob87x87 P, ob88x88 P, ob89x89 P, ob90x90 P, ob91x91 P, ob92x93 P, ob93x94 P, ob94x95 P, ob95x96 P, ob96x97 P, ob97x98 P, ob98x99 P, ob99x100 P, ob100x101 P, ob101x102 P, ob102x103 P, ob103x106 P, ob104x107 P, ob105x108 P, ob106x109 P, ob107x110 P, ob108x111 P, ob109x112 P, b3O 0 P, b3O 1 P, b3O 2 P, b3O 3 P, b3O 4 P, b3O 5 P, b3O 6 P, b3O 7 P, b3O 8 P, b3O 9 P, b3O 10 P, b3O 11 P, b3O 12 P, b3O 13 P, b3O 14 P, b3O 15 P, b3O 16 P, b3O 17 P, b3O 18 P, b3O 19 P, b3O 20 P, b3O 21 P, b3O 22 P, b3O 23 P, b3O 24 P, b3O 25 P, b3O 26 P, b3O 27 P, b3O 28 P, b3O 29 P, b3O 30 P, b3O 31 P, b3O 32 P, b3O 33 P, b3O 34 P, b3O 35 P, b3O 36 P, b3O 37 P, b3O 38 P, ob149x116 P, ob150x117 P, ob151x118 P, ob152x119 P, ob153x120 P, ob154x121 P, ob155x122 P, ob156x124 P, ob157x125 P, ob158x126 P, ob159x127 P, ob160x128 P, ob161x131 P, ob162x132 P, ob163x133 P, ob164x134 P, ob165x135 P, ob166x136 P, ob167x137 P, oc168x127 P, oc169x128 P, oc170x139 P, oc171x140 P, oc172x141 P, oc173x142 P, oc174x143 P, oc175x172 P, oc176x173 P]
noncomputable def stac20 (w : World) (os : OsState) : SharedT := ⟨mkT 12 (lstc20 w.params), 177, {}, #[], {}, 2553, os⟩
noncomputable def cc20 : Code := Code.builtin "set.update.loop" ⟨[Value.ref 175, Value.ref 176], []⟩
noncomputable def cd20 : Code := Code.builtin "set.update.loop" ⟨[Value.ref 175, Value.ref 176], []⟩
noncomputable def psc20 : Pos := ⟨96, 9, 96, 52⟩
noncomputable def lstc21 (P : Params) : List Obj := [boot_o_0 P, boot_o_1 P, boot_o_2 P, ob3x129 P, boot_o_4 P, boot_o_5 P, boot_o_6 P, boot_o_7 P, boot_o_8 P, boot_o_9 P, boot_o_10 P, ob11x0 P, ob12x130 P, ob13x2 P, ob14x3 P, ob15x7 P, ob16x8 P, ob17x9 P, ob18x10 P, ob19x11 P, ob20x12 P, ob21x13 P, ob22x14 P, ob23x15 P, ob24x16 P, ob25x17 P, ob26x18 P, ob27x19 P, ob28x20 P, ob29x21 P, ob30x22 P, ob31x23 P, ob32x24 P, ob33x25 P, ob34x26 P, ob35x27 P, ob36x30 P, ob37x31 P, ob38x32 P, ob39x33 P, ob40x34 P, ob41x35 P, ob42x36 P, ob43x37 P, ob44x38 P, ob45x39 P, ob46x40 P, ob47x41 P, ob48x42 P, ob49x43 P, ob50x46 P, ob51x47 P, ob52x48 P, ob53x49 P, ob54x50 P, ob55x51 P, ob56x52 P, ob57x53 P, ob58x54 P, ob59x55 P, ob60x56 P, ob61x57 P, ob62x58 P, ob63x59 P, ob64x62 P, ob65x63 P, ob66x64 P, ob67x65 P, ob68x66 P, ob69x67 P, ob70x68 P, ob71x69 P, ob72x70 P, ob73x71 P, ob74x72 P, ob75x73 P, ob76x74 P, ob77x75 P, ob78x76 P, ob79x77 P, ob80x78 P, ob81x79 P, ob82x80 P, ob83x81 P, ob84x82 P, ob85x85 P, ob86x86 P, ob87x87 P, ob88x88 P, ob89x89 P, ob90x90 P, ob91x91 P, ob92x93 P, ob93x94 P, ob94x95 P, ob95x96 P, ob96x97 P, ob97x98 P, ob98x99 P, ob99x100 P, ob100x101 P, ob101x102 P, ob102x103 P, ob103x106 P, ob104x107 P, ob105x108 P, ob106x109 P, ob107x110 P, ob108x111 P, ob109x112 P, b3O 0 P, b3O 1 P, b3O 2 P, b3O 3 P, b3O 4 P, b3O 5 P, b3O 6 P, b3O 7 P, b3O 8 P, b3O 9 P, b3O 10 P, b3O 11 P, b3O 12 P, b3O 13 P, b3O 14 P, b3O 15 P, b3O 16 P, b3O 17 P, b3O 18 P, b3O 19 P, b3O 20 P, b3O 21 P, b3O 22 P, b3O 23 P, b3O 24 P, b3O 25 P, b3O 26 P, b3O 27 P, b3O 28 P, b3O 29 P, b3O 30 P, b3O 31 P, b3O 32 P, b3O 33 P, b3O 34 P, b3O 35 P, b3O 36 P, b3O 37 P, b3O 38 P, ob149x116 P, ob150x117 P, ob151x118 P, ob152x119 P, ob153x120 P, ob154x121 P, ob155x122 P, ob156x124 P, ob157x125 P, ob158x126 P, ob159x127 P, ob160x128 P, ob161x131 P, ob162x132 P, ob163x133 P, ob164x134 P, ob165x135 P, ob166x136 P, ob167x137 P, oc168x127 P, oc169x128 P, oc170x139 P, oc171x140 P, oc172x141 P, oc173x142 P, oc174x143 P, oc175x174 P, oc176x175 P]
noncomputable def stac21 (w : World) (os : OsState) : SharedT := ⟨mkT 12 (lstc21 w.params), 177, {}, #[], {}, 2558, os⟩
noncomputable def cc21 : Code := Code.builtin "set.update.loop" ⟨[Value.ref 175, Value.ref 176], []⟩
noncomputable def cd21 : Code := Code.builtin "set.update.loop" ⟨[Value.ref 175, Value.ref 176], []⟩
noncomputable def psc21 : Pos := ⟨96, 9, 96, 52⟩
noncomputable def lstc22 (P : Params) : List Obj := [boot_o_0 P, boot_o_1 P, boot_o_2 P, ob3x129 P, boot_o_4 P, boot_o_5 P, boot_o_6 P, boot_o_7 P, boot_o_8 P, boot_o_9 P, boot_o_10 P, ob11x0 P, ob12x130 P, ob13x2 P, ob14x3 P, ob15x7 P, ob16x8 P, ob17x9 P, ob18x10 P, ob19x11 P, ob20x12 P, ob21x13 P, ob22x14 P, ob23x15 P, ob24x16 P, ob25x17 P, ob26x18 P, ob27x19 P, ob28x20 P, ob29x21 P, ob30x22 P, ob31x23 P, ob32x24 P, ob33x25 P, ob34x26 P, ob35x27 P, ob36x30 P, ob37x31 P, ob38x32 P, ob39x33 P, ob40x34 P, ob41x35 P, ob42x36 P, ob43x37 P, ob44x38 P, ob45x39 P, ob46x40 P, ob47x41 P, ob48x42 P, ob49x43 P, ob50x46 P, ob51x47 P, ob52x48 P, ob53x49 P, ob54x50 P, ob55x51 P, ob56x52 P, ob57x53 P, ob58x54 P, ob59x55 P, ob60x56 P, ob61x57 P, ob62x58 P, ob63x59 P, ob64x62 P, ob65x63 P, ob66x64 P, ob67x65 P, ob68x66 P, ob69x67 P, ob70x68 P, ob71x69 P, ob72x70 P, ob73x71 P, ob74x72 P, ob75x73 P, ob76x74 P, ob77x75 P, ob78x76 P, ob79x77 P, ob80x78 P, ob81x79 P, ob82x80 P, ob83x81 P, ob84x82 P, ob85x85 P, ob86x86 P, ob87x87 P, ob88x88 P, ob89x89 P, ob90x90 P, ob91x91 P, ob92x93 P, ob93x94 P, ob94x95 P, ob95x96 P, ob96x97 P, ob97x98 P, ob98x99 P, ob99x100 P, ob100x101 P, ob101x102 P, ob102x103 P, ob103x106 P, ob104x107 P, ob105x108 P, ob106x109 P, ob107x110 P, ob108x111 P, ob109x112 P, b3O 0 P, b3O 1 P, b3O 2 P, b3O 3 P, b3O 4 P, b3O 5 P, b3O 6 P, b3O 7 P, b3O 8 P, b3O 9 P, b3O 10 P, b3O 11 P, b3O 12 P, b3O 13 P, b3O 14 P, b3O 15 P, b3O 16 P, b3O 17 P, b3O 18 P, b3O 19 P, b3O 20 P, b3O 21 P, b3O 22 P, b3O 23 P, b3O 24 P, b3O 25 P, b3O 26 P, b3O 27 P, b3O 28 P, b3O 29 P, b3O 30 P, b3O 31 P, b3O 32 P, b3O 33 P, b3O 34 P, b3O 35 P, b3O 36 P, b3O 37 P, b3O 38 P, ob149x116 P, ob150x117 P, ob151x118 P, ob152x119 P, ob153x120 P, ob154x121 P, ob155x122 P, ob156x124 P, ob157x125 P, ob158x126 P, ob159x127 P, ob160x128 P, ob161x131 P, ob162x132 P, ob163x133 P, ob164x134 P, ob165x135 P, ob166x136 P, ob167x137 P, oc168x127 P, oc169x128 P, oc170x139 P, oc171x140 P, oc172x141 P, oc173x142 P, oc174x143 P, oc175x176 P, oc176x177 P]
noncomputable def stac22 (w : World) (os : OsState) : SharedT := ⟨mkT 12 (lstc22 w.params), 177, {}, #[], {}, 2563, os⟩
noncomputable def cc22 : Code := Code.builtin "set.update.loop" ⟨[Value.ref 175, Value.ref 176], []⟩
noncomputable def cd22 : Code := Code.builtin "set.update.loop" ⟨[Value.ref 175, Value.ref 176], []⟩
noncomputable def psc22 : Pos := ⟨96, 9, 96, 52⟩
noncomputable def lstc23 (P : Params) : List Obj := [boot_o_0 P, boot_o_1 P, boot_o_2 P, ob3x129 P, boot_o_4 P, boot_o_5 P, boot_o_6 P, boot_o_7 P, boot_o_8 P, boot_o_9 P, boot_o_10 P, ob11x0 P, ob12x130 P, ob13x2 P, ob14x3 P, ob15x7 P, ob16x8 P, ob17x9 P, ob18x10 P, ob19x11 P, ob20x12 P, ob21x13 P, ob22x14 P, ob23x15 P, ob24x16 P, ob25x17 P, ob26x18 P, ob27x19 P, ob28x20 P, ob29x21 P, ob30x22 P, ob31x23 P, ob32x24 P, ob33x25 P, ob34x26 P, ob35x27 P, ob36x30 P, ob37x31 P, ob38x32 P, ob39x33 P, ob40x34 P, ob41x35 P, ob42x36 P, ob43x37 P, ob44x38 P, ob45x39 P, ob46x40 P, ob47x41 P, ob48x42 P, ob49x43 P, ob50x46 P, ob51x47 P, ob52x48 P, ob53x49 P, ob54x50 P, ob55x51 P, ob56x52 P, ob57x53 P, ob58x54 P, ob59x55 P, ob60x56 P, ob61x57 P, ob62x58 P, ob63x59 P, ob64x62 P, ob65x63 P, ob66x64 P, ob67x65 P, ob68x66 P, ob69x67 P, ob70x68 P, ob71x69 P, ob72x70 P, ob73x71 P, ob74x72 P, ob75x73 P, ob76x74 P, ob77x75 P, ob78x76 P, ob79x77 P, ob80x78 P, ob81x79 P, ob82x80 P, ob83x81 P, ob84x82 P, ob85x85 P, ob86x86 P, ob87x87 P, ob88x88 P, ob89x89 P, ob90x90 P, ob91x91 P, ob92x93 P, ob93x94 P, ob94x95 P, ob95x96 P, ob96x97 P, ob97x98 P, ob98x99 P, ob99x100 P, ob100x101 P, ob101x102 P, ob102x103 P, ob103x106 P, ob104x107 P, ob105x108 P, ob106x109 P, ob107x110 P, ob108x111 P, ob109x112 P, b3O 0 P, b3O 1 P, b3O 2 P, b3O 3 P, b3O 4 P, b3O 5 P, b3O 6 P, b3O 7 P, b3O 8 P, b3O 9 P, b3O 10 P, b3O 11 P, b3O 12 P, b3O 13 P, b3O 14 P, b3O 15 P, b3O 16 P, b3O 17 P, b3O 18 P, b3O 19 P, b3O 20 P, b3O 21 P, b3O 22 P, b3O 23 P, b3O 24 P, b3O 25 P, b3O 26 P, b3O 27 P, b3O 28 P, b3O 29 P, b3O 30 P, b3O 31 P, b3O 32 P, b3O 33 P, b3O 34 P, b3O 35 P, b3O 36 P, b3O 37 P, b3O 38 P, ob149x116 P, ob150x117 P, ob151x118 P, ob152x119 P, ob153x120 P, ob154x121 P, ob155x122 P, ob156x124 P, ob157x125 P, ob158x126 P, ob159x127 P, ob160x128 P, ob161x131 P, ob162x132 P, ob163x133 P, ob164x134 P, ob165x135 P, ob166x136 P, ob167x137 P, oc168x127 P, oc169x128 P, oc170x139 P, oc171x140 P, oc172x141 P, oc173x142 P, oc174x143 P, oc175x178 P, oc176x179 P]
noncomputable def stac23 (w : World) (os : OsState) : SharedT := ⟨mkT 12 (lstc23 w.params), 177, {}, #[], {}, 2568, os⟩
noncomputable def cc23 : Code := Code.builtin "set.update.loop" ⟨[Value.ref 175, Value.ref 176], []⟩
noncomputable def cd23 : Code := Code.builtin "set.update.loop" ⟨[Value.ref 175, Value.ref 176], []⟩
noncomputable def psc23 : Pos := ⟨96, 9, 96, 52⟩
noncomputable def lstc24 (P : Params) : List Obj := [boot_o_0 P, boot_o_1 P, boot_o_2 P, ob3x129 P, boot_o_4 P, boot_o_5 P, boot_o_6 P, boot_o_7 P, boot_o_8 P, boot_o_9 P, boot_o_10 P, ob11x0 P, ob12x130 P, ob13x2 P, ob14x3 P, ob15x7 P, ob16x8 P, ob17x9 P, ob18x10 P, ob19x11 P, ob20x12 P, ob21x13 P, ob22x14 P, ob23x15 P, ob24x16 P, ob25x17 P, ob26x18 P, ob27x19 P, ob28x20 P, ob29x21 P, ob30x22 P, ob31x23 P, ob32x24 P, ob33x25 P, ob34x26 P, ob35x27 P, ob36x30 P, ob37x31 P, ob38x32 P, ob39x33 P, ob40x34 P, ob41x35 P, ob42x36 P, ob43x37 P, ob44x38 P, ob45x39 P, ob46x40 P, ob47x41 P, ob48x42 P, ob49x43 P, ob50x46 P, ob51x47 P, ob52x48 P, ob53x49 P, ob54x50 P, ob55x51 P, ob56x52 P, ob57x53 P, ob58x54 P, ob59x55 P, ob60x56 P, ob61x57 P, ob62x58 P, ob63x59 P, ob64x62 P, ob65x63 P, ob66x64 P, ob67x65 P, ob68x66 P, ob69x67 P, ob70x68 P, ob71x69 P, ob72x70 P, ob73x71 P, ob74x72 P, ob75x73 P, ob76x74 P, ob77x75 P, ob78x76 P, ob79x77 P, ob80x78 P, ob81x79 P, ob82x80 P, ob83x81 P, ob84x82 P, ob85x85 P, ob86x86 P, ob87x87 P, ob88x88 P, ob89x89 P, ob90x90 P, ob91x91 P, ob92x93 P, ob93x94 P, ob94x95 P, ob95x96 P, ob96x97 P, ob97x98 P, ob98x99 P, ob99x100 P, ob100x101 P, ob101x102 P, ob102x103 P, ob103x106 P, ob104x107 P, ob105x108 P, ob106x109 P, ob107x110 P, ob108x111 P, ob109x112 P, b3O 0 P, b3O 1 P, b3O 2 P, b3O 3 P, b3O 4 P, b3O 5 P, b3O 6 P, b3O 7 P, b3O 8 P, b3O 9 P, b3O 10 P, b3O 11 P, b3O 12 P, b3O 13 P, b3O 14 P, b3O 15 P, b3O 16 P, b3O 17 P, b3O 18 P, b3O 19 P, b3O 20 P, b3O 21 P, b3O 22 P, b3O 23 P, b3O 24 P, b3O 25 P, b3O 26 P, b3O 27 P, b3O 28 P, b3O 29 P, b3O 30 P, b3O 31 P, b3O 32 P, b3O 33 P, b3O 34 P, b3O 35 P, b3O 36 P, b3O 37 P, b3O 38 P, ob149x116 P, ob150x117 P, ob151x118 P, ob152x119 P, ob153x120 P, ob154x121 P, ob155x122 P, ob156x124 P, ob157x125 P, ob158x126 P, ob159x127 P, ob160x128 P, ob161x131 P, ob162x132 P, ob163x133 P, ob164x134 P, ob165x135 P, ob166x136 P, ob167x137 P, oc168x127 P, oc169x128 P, oc170x139 P, oc171x140 P, oc172x141 P, oc173x142 P, oc174x143 P, oc175x180 P, oc176x181 P]
noncomputable def stac24 (w : World) (os : OsState) : SharedT := ⟨mkT 12 (lstc24 w.params), 177, {}, #[], {}, 2573, os⟩
noncomputable def cc24 : Code := Code.builtin "set.update.loop" ⟨[Value.ref 175, Value.ref 176], []⟩
noncomputable def cd24 : Code := Code.builtin "set.update.loop" ⟨[Value.ref 175, Value.ref 176], []⟩
noncomputable def psc24 : Pos := ⟨96, 9, 96, 52⟩
noncomputable def lstc25 (P : Params) : List Obj := [boot_o_0 P, boot_o_1 P, boot_o_2 P, ob3x129 P, boot_o_4 P, boot_o_5 P, boot_o_6 P, boot_o_7 P, boot_o_8 P, boot_o_9 P, boot_o_10 P, ob11x0 P, ob12x130 P, ob13x2 P, ob14x3 P, ob15x7 P, ob16x8 P, ob17x9 P, ob18x10 P, ob19x11 P, ob20x12 P, ob21x13 P, ob22x14 P, ob23x15 P, ob24x16 P, ob25x17 P, ob26x18 P, ob27x19 P, ob28x20 P, ob29x21 P, ob30x22 P, ob31x23 P, ob32x24 P, ob33x25 P, ob34x26 P, ob35x27 P, ob36x30 P, ob37x31 P, ob38x32 P, ob39x33 P, ob40x34 P, ob41x35 P, ob42x36 P, ob43x37 P, ob44x38 P, ob45x39 P, ob46x40 P, ob47x41 P, ob48x42 P, ob49x43 P, ob50x46 P, ob51x47 P, ob52x48 P, ob53x49 P, ob54x50 P, ob55x51 P, ob56x52 P, ob57x53 P, ob58x54 P, ob59x55 P, ob60x56 P, ob61x57 P, ob62x58 P, ob63x59 P, ob64x62 P, ob65x63 P, ob66x64 P, ob67x65 P, ob68x66 P, ob69x67 P, ob70x68 P, ob71x69 P, ob72x70 P, ob73x71 P, ob74x72 P, ob75x73 P, ob76x74 P, ob77x75 P, ob78x76 P, ob79x77 P, ob80x78 P, ob81x79 P, ob82x80 P, ob83x81 P, ob84x82 P, ob85x85 P, ob86x86 P, ob87x87 P, ob88x88 P, ob89x89 P, ob90x90 P, ob91x91 P, ob92x93 P, ob93x94 P, ob94x95 P, ob95x96 P, ob96x97 P, ob97x98 P, ob98x99 P, ob99x100 P, ob100x101 P, ob101x102 P, ob102x103 P, ob103x106 P, ob104x107 P, ob105x108 P, ob106x109 P, ob107x110 P, ob108x111 P, ob109x112 P, b3O 0 P, b3O 1 P, b3O 2 P, b3O 3 P, b3O 4 P, b3O 5 P, b3O 6 P, b3O 7 P, b3O 8 P, b3O 9 P, b3O 10 P, b3O 11 P, b3O 12 P, b3O 13 P, b3O 14 P, b3O 15 P, b3O 16 P, b3O 17 P, b3O 18 P, b3O 19 P, b3O 20 P, b3O 21 P, b3O 22 P, b3O 23 P, b3O 24 P, b3O 25 P, b3O 26 P, b3O 27 P, b3O 28 P, b3O 29 P, b3O 30 P, b3O 31 P, b3O 32 P, b3O 33 P, b3O 34 P, b3O 35 P, b3O 36 P, b3O 37 P, b3O 38 P, ob149x116 P, ob150x117 P, ob151x118 P, ob152x119 P, ob153x120 P, ob154x121 P, ob155x122 P, ob156x124 P, ob157x125 P, ob158x126 P, ob159x127 P, ob160x128 P, ob161x131 P, ob162x132 P, ob163x133 P, ob164x134 P, ob165x135 P, ob166x136 P, ob167x137 P, oc168x127 P, oc169x128 P, oc170x139 P, oc171x140 P, oc172x141 P, oc173x142 P, oc174x143 P, oc175x182 P, oc176x183 P]
noncomputable def stac25 (w : World) (os : OsState) : SharedT := ⟨mkT 12 (lstc25 w.params), 177, {}, #[], {}, 2578, os⟩
noncomputable def cc25 : Code := Code.builtin "set.update.loop" ⟨[Value.ref 175, Value.ref 176], []⟩
noncomputable def cd25 : Code := Code.builtin "set.update.loop" ⟨[Value.ref 175, Value.ref 176], []⟩
noncomputable def psc25 : Pos := ⟨96, 9, 96, 52⟩
noncomputable def lstc26 (P : Params) : List Obj := [boot_o_0 P, boot_o_1 P, boot_o_2 P, ob3x129 P, boot_o_4 P, boot_o_5 P, boot_o_6 P, boot_o_7 P, boot_o_8 P, boot_o_9 P, boot_o_10 P, ob11x0 P, ob12x130 P, ob13x2 P, ob14x3 P, ob15x7 P, ob16x8 P, ob17x9 P, ob18x10 P, ob19x11 P, ob20x12 P, ob21x13 P, ob22x14 P, ob23x15 P, ob24x16 P, ob25x17 P, ob26x18 P, ob27x19 P, ob28x20 P, ob29x21 P, ob30x22 P, ob31x23 P, ob32x24 P, ob33x25 P, ob34x26 P, ob35x27 P, ob36x30 P, ob37x31 P, ob38x32 P, ob39x33 P, ob40x34 P, ob41x35 P, ob42x36 P, ob43x37 P, ob44x38 P, ob45x39 P, ob46x40 P, ob47x41 P, ob48x42 P, ob49x43 P, ob50x46 P, ob51x47 P, ob52x48 P, ob53x49 P, ob54x50 P, ob55x51 P, ob56x52 P, ob57x53 P, ob58x54 P, ob59x55 P, ob60x56 P, ob61x57 P, ob62x58 P, ob63x59 P, ob64x62 P, ob65x63 P, ob66x64 P, ob67x65 P, ob68x66 P, ob69x67 P, ob70x68 P, ob71x69 P, ob72x70 P, ob73x71 P, ob74x72 P, ob75x73 P, ob76x74 P, ob77x75 P, ob78x76 P, ob79x77 P, ob80x78 P, ob81x79 P, ob82x80 P, ob83x81 P, ob84x82 P, ob85x85 P, ob86x86 P, ob87x87 P, ob88x88 P, ob89x89 P, ob90x90 P, ob91x91 P, ob92x93 P, ob93x94 P, ob94x95 P, ob95x96 P, ob96x97 P, ob97x98 P, ob98x99 P, ob99x100 P, ob100x101 P, ob101x102 P, ob102x103 P, ob103x106 P, ob104x107 P, ob105x108 P, ob106x109 P, ob107x110 P, ob108x111 P, ob109x112 P, b3O 0 P, b3O 1 P, b3O 2 P, b3O 3 P, b3O 4 P, b3O 5 P, b3O 6 P, b3O 7 P, b3O 8 P, b3O 9 P, b3O 10 P, b3O 11 P, b3O 12 P, b3O 13 P, b3O 14 P, b3O 15 P, b3O 16 P, b3O 17 P, b3O 18 P, b3O 19 P, b3O 20 P, b3O 21 P, b3O 22 P, b3O 23 P, b3O 24 P, b3O 25 P, b3O 26 P, b3O 27 P, b3O 28 P, b3O 29 P, b3O 30 P, b3O 31 P, b3O 32 P, b3O 33 P, b3O 34 P, b3O 35 P, b3O 36 P, b3O 37 P, b3O 38 P, ob149x116 P, ob150x117 P, ob151x118 P, ob152x119 P, ob153x120 P, ob154x121 P, ob155x122 P, ob156x124 P, ob157x125 P, ob158x126 P, ob159x127 P, ob160x128 P, ob161x131 P, ob162x132 P, ob163x133 P, ob164x134 P, ob165x135 P, ob166x136 P, ob167x137 P, oc168x127 P, oc169x128 P, oc170x139 P, oc171x140 P, oc172x141 P, oc173x142 P, oc174x143 P, oc175x184 P, oc176x185 P]
noncomputable def stac26 (w : World) (os : OsState) : SharedT := ⟨mkT 12 (lstc26 w.params), 177, {}, #[], {}, 2579, os⟩
noncomputable def cc26 : Code := Code.builtin "set.update.loop" ⟨[Value.ref 175, Value.ref 176], []⟩
noncomputable def cd26 : Code := Code.builtin "set.update.loop" ⟨[Value.ref 175, Value.ref 176], []⟩
noncomputable def psc26 : Pos := ⟨96, 9, 96, 52⟩
noncomputable def stkOf : Option (SharedT × Thread) → List Frame
  | some (_, t) => t.stack
  | none => []
noncomputable def fr (l : List Frame) (i : Nat) : Frame := l.getD i (topFrame q0)
noncomputable abbrev ag (c : Code) : Sem Fin := .pure (.again c)
noncomputable def stkA (w : World) (os : OsState) : List Frame := stkOf (@PySem.W.Fast.tw10295753902157049106 PySem.W.Fast.tw14364793385576792824 pw w 11 annB 1 86 (sta24 w os) (piecesOf (sts 24 25) envB cB ps24 stB))
theorem c9_pre_f (w : World) (os : OsState) : segGoT treeTable pw (w.withFollow "special-get-raises" false) 11 annB 1 86 (sta24 (w.withFollow "special-get-raises" false) os) (piecesOf (sts 24 25) envB cB ps24 stB) = some (stac0 (w.withFollow "special-get-raises" false) os, ⟨ag cc0, cd0, psc0, stkA (w.withFollow "special-get-raises" false) os⟩) := by
  rw [tw_go, tw_tab]; kernel_rfl
theorem stkA_eq_f (w : World) (os : OsState) : stkA (w.withFollow "special-get-raises" false) os = fr (stkA (w.withFollow "special-get-raises" false) os) 0 :: fr (stkA (w.withFollow "special-get-raises" false) os) 1 :: (stkA (w.withFollow "special-get-raises" false) os).drop 2 := by kernel_rfl
theorem c9_pre_t (w : World) (os : OsState) : segGoT treeTable pw (w.withFollow "special-get-raises" true) 11 annB 1 86 (sta24 (w.withFollow "special-get-raises" true) os) (piecesOf (sts 24 25) envB cB ps24 stB) = some (stac0 (w.withFollow "special-get-raises" true) os, ⟨ag cc0, cd0, psc0, stkA (w.withFollow "special-get-raises" true) os⟩) := by
  rw [tw_go, tw_tab]; kernel_rfl
theorem stkA_eq_t (w : World) (os : OsState) : stkA (w.withFollow "special-get-raises" true) os = fr (stkA (w.withFollow "special-get-raises" true) os) 0 :: fr (stkA (w.withFollow "special-get-raises" true) os) 1 :: (stkA (w.withFollow "special-get-raises" true) os).drop 2 := by kernel_rfl
theorem c9_0 (w : World) (os : OsState) (x y : Frame) (r : List Frame) : segGoT treeTable pw w 11 annB 1 391 (stac0 w os) ⟨ag cc0, cd0, psc0, x :: y :: r⟩ = some (stac1 w os, ⟨ag cc1, cd1, psc1, x :: y :: r⟩) := by
  rw [tw_go, tw_tab]; kernel_rfl
theorem c9_1 (w : World) (os : OsState) (x y : Frame) (r : List Frame) : segGoT treeTable pw w 11 annB 1 391 (stac1 w os) ⟨ag cc1, cd1, psc1, x :: y :: r⟩ = some (stac2 w os, ⟨ag cc2, cd2, psc2, x :: y :: r⟩) := by
  rw [tw_go, tw_tab]; kernel_rfl
theorem c9_2 (w : World) (os : OsState) (x y : Frame) (r : List Frame) : segGoT treeTable pw w 11 annB 1 391 (stac2 w os) ⟨ag cc2, cd2, psc2, x :: y :: r⟩ = some (stac3 w os, ⟨ag cc3, cd3, psc3, x :: y :: r⟩) := by
  rw [tw_go, tw_tab]; kernel_rfl
theorem c9_3 (w : World) (os : OsState) (x y : Frame) (r : List Frame) : segGoT treeTable pw w 11 annB 1 391 (stac3 w os) ⟨ag cc3, cd3, psc3, x :: y :: r⟩ = some (stac4 w os, ⟨ag cc4, cd4, psc4, x :: y :: r⟩) := by
  rw [tw_go, tw_tab]; kernel_rfl
theorem c9_4 (w : World) (os : OsState) (x y : Frame) (r : List Frame) : segGoT treeTable pw w 11 annB 1 68 (stac4 w os) ⟨ag cc4, cd4, psc4, x :: y :: r⟩ = some (stac5 w os, ⟨ag cc5, cd5, psc5, x :: y :: r⟩) := by
  rw [tw_go, tw_tab]; kernel_rfl
end
end Wu
end
section
namespace Wu
set_option linter.unusedVariables false
noncomputable section
open PySem PySem.Spec PySem.Calls PyProof.Rows PySem.W
noncomputable def stkB (w : World) (os : OsState) : List Frame := stkOf (@PySem.W.Fast.tw10295753902157049106 PySem.W.Fast.tw14364793385576792824 pw w 11 annB 1 60 (stac5 w os) ⟨ag cc5, cd5, psc5, stkA w os⟩)
theorem c9_mid_f (w : World) (os : OsState) : segGoT treeTable pw (w.withFollow "special-get-raises" false) 11 annB 1 60 (stac5 (w.withFollow "special-get-raises" false) os) ⟨ag cc5, cd5, psc5, stkA (w.withFollow "special-get-raises" false) os⟩ = some (stac6 (w.withFollow "special-get-raises" false) os, ⟨denote treeTable cc6, cd6, psc6, stkB (w.withFollow "special-get-raises" false) os⟩) := by
  rw [tw_go, tw_tab]; kernel_rfl
theorem stkB_eq_f (w : World) (os : OsState) : stkB (w.withFollow "special-get-raises" false) os = fr (stkB (w.withFollow "special-get-raises" false) os) 0 :: fr (stkB (w.withFollow "special-get-raises" false) os) 1 :: (stkB (w.withFollow "special-get-raises" false) os).drop 2 := by kernel_rfl
theorem c9_6_f (w : World) (os : OsState) (x y : Frame) (r : List Frame) : segGoT treeTable pw (w.withFollow "special-get-raises" false) 11 annB 1 121 (stac6 (w.withFollow "special-get-raises" false) os) ⟨denote treeTable cc6, cd6, psc6, x :: y :: r⟩ = some (stac7 (w.withFollow "special-get-raises" false) os, ⟨ag cc7, cd7, psc7, x :: y :: r⟩) := by
  rw [tw_go, tw_tab]; kernel_rfl
theorem c9_7_f (w : World) (os : OsState) (x y : Frame) (r : List Frame) : segGoT treeTable pw (w.withFollow "special-get-raises" false) 11 annB 1 100 (stac7 (w.withFollow "special-get-raises" false) os) ⟨ag cc7, cd7, psc7, x :: y :: r⟩ = some (stac8 (w.withFollow "special-get-raises" false) os, ⟨ag cc8, cd8, psc8, x :: y :: r⟩) := by
  rw [tw_go, tw_tab]; kernel_rfl
theorem c9_8_f (w : World) (os : OsState) (x y : Frame) (r : List Frame) : segGoT treeTable pw (w.withFollow "special-get-raises" false) 11 annB 1 100 (stac8 (w.withFollow "special-get-raises" false) os) ⟨ag cc8, cd8, psc8, x :: y :: r⟩ = some (stac9 (w.withFollow "special-get-raises" false) os, ⟨ag cc9, cd9, psc9, x :: y :: r⟩) := by
  rw [tw_go, tw_tab]; kernel_rfl
theorem c9_9_f (w : World) (os : OsState) (x y : Frame) (r : List Frame) : segGoT treeTable pw (w.withFollow "special-get-raises" false) 11 annB 1 102 (stac9 (w.withFollow "special-get-raises" false) os) ⟨ag cc9, cd9, psc9, x :: y :: r⟩ = some (stac10 (w.withFollow "special-get-raises" false) os, ⟨ag cc10, cd10, psc10, x :: y :: r⟩) := by
  rw [tw_go, tw_tab]; kernel_rfl
theorem c9_10_f (w : World) (os : OsState) (x y : Frame) (r : List Frame) : segGoT treeTable pw (w.withFollow "special-get-raises" false) 11 annB 1 100 (stac10 (w.withFollow "special-get-raises" false) os) ⟨ag cc10, cd10, psc10, x :: y :: r⟩ = some (stac11 (w.withFollow "special-get-raises" false) os, ⟨ag cc11, cd11, psc11, x :: y :: r⟩) := by
  rw [tw_go, tw_tab]; kernel_rfl
theorem c9_11_f (w : World) (os : OsState) (x y : Frame) (r : List Frame) : segGoT treeTable pw (w.withFollow "special-get-raises" false) 11 annB 1 100 (stac11 (w.withFollow "special-get-raises" false) os) ⟨ag cc11, cd11, psc11, x :: y :: r⟩ = some (stac12 (w.withFollow "special-get-raises" false) os, ⟨ag cc12, cd12, psc12, x :: y :: r⟩) := by
  rw [tw_go, tw_tab]; kernel_rfl
theorem c9_12_f (w : World) (os : OsState) (x y : Frame) (r : List Frame) : segGoT treeTable pw (w.withFollow "special-get-raises" false) 11 annB 1 100 (stac12 (w.withFollow "special-get-raises" false) os) ⟨ag cc12, cd12, psc12, x :: y :: r⟩ = some (stac13 (w.withFollow "special-get-raises" false) os, ⟨ag cc13, cd13, psc13, x :: y :: r⟩) := by
  rw [tw_go, tw_tab]; kernel_rfl
theorem c9_13_f (w : World) (os : OsState) (x y : Frame) (r : List Frame) : segGoT treeTable pw (w.withFollow "special-get-raises" false) 11 annB 1 100 (stac13 (w.withFollow "special-get-raises" false) os) ⟨ag cc13, cd13, psc13, x :: y :: r⟩ = some (stac14 (w.withFollow "special-get-raises" false) os, ⟨ag cc14, cd14, psc14, x :: y :: r⟩) := by
  rw [tw_go, tw_tab]; kernel_rfl
theorem c9_14_f (w : World) (os : OsState) (x y : Frame) (r : List Frame) : segGoT treeTable pw (w.withFollow "special-get-raises" false) 11 annB 1 100 (stac14 (w.withFollow "special-get-raises" false) os) ⟨ag cc14, cd14, psc14, x :: y :: r⟩ = some (stac15 (w.withFollow "special-get-raises" false) os, ⟨ag cc15, cd15, psc15, x :: y :: r⟩) := by
  rw [tw_go, tw_tab]; kernel_rfl
theorem c9_15_f (w : World) (os : OsState) (x y : Frame) (r : List Frame) : segGoT treeTable pw (w.withFollow "special-get-raises" false) 11 annB 1 100 (stac15 (w.withFollow "special-get-raises" false) os) ⟨ag cc15, cd15, psc15, x :: y :: r⟩ = some (stac16 (w.withFollow "special-get-raises" false) os, ⟨ag cc16, cd16, psc16, x :: y :: r⟩) := by
  rw [tw_go, tw_tab]; kernel_rfl
theorem c9_16_f (w : World) (os : OsState) (x y : Frame) (r : List Frame) : segGoT treeTable pw (w.withFollow "special-get-raises" false) 11 annB 1 100 (stac16 (w.withFollow "special-get-raises" false) os) ⟨ag cc16, cd16, psc16, x :: y :: r⟩ = some (stac17 (w.withFollow "special-get-raises" false) os, ⟨ag cc17, cd17, psc17, x :: y :: r⟩) := by
  rw [tw_go, tw_tab]; kernel_rfl
theorem c9_17_f (w : World) (os : OsState) (x y : Frame) (r : List Frame) : segGoT treeTable pw (w.withFollow "special-get-raises" false) 11 annB 1 100 (stac17 (w.withFollow "special-get-raises" false) os) ⟨ag cc17, cd17, psc17, x :: y :: r⟩ = some (stac18 (w.withFollow "special-get-raises" false) os, ⟨ag cc18, cd18, psc18, x :: y :: r⟩) := by
  rw [tw_go, tw_tab]; kernel_rfl
theorem c9_18_f (w : World) (os : OsState) (x y : Frame) (r : List Frame) : segGoT treeTable pw (w.withFollow "special-get-raises" false) 11 annB 1 100 (stac18 (w.withFollow "special-get-raises" false) os) ⟨ag cc18, cd18, psc18, x :: y :: r⟩ = some (stac19 (w.withFollow "special-get-raises" false) os, ⟨ag cc19, cd19, psc19, x :: y :: r⟩) := by
  rw [tw_go, tw_tab]; kernel_rfl
theorem c9_19_f (w : World) (os : OsState) (x y : Frame) (r : List Frame) : segGoT treeTable pw (w.withFollow "special-get-raises" false) 11 annB 1 100 (stac19 (w.withFollow "special-get-raises" false) os) ⟨ag cc19, cd19, psc19, x :: y :: r⟩ = some (stac20 (w.withFollow "special-get-raises" false) os, ⟨ag cc20, cd20, psc20, x :: y :: r⟩) := by
  rw [tw_go, tw_tab]; kernel_rfl
theorem c9_20_f (w : World) (os : OsState) (x y : Frame) (r : List Frame) : segGoT treeTable pw (w.withFollow "special-get-raises" false) 11 annB 1 100 (stac20 (w.withFollow "special-get-raises" false) os) ⟨ag cc20, cd20, psc20, x :: y :: r⟩ = some (stac21 (w.withFollow "special-get-raises" false) os, ⟨ag cc21, cd21, psc21, x :: y :: r⟩) := by
  rw [tw_go, tw_tab]; kernel_rfl
theorem c9_21_f (w : World) (os : OsState) (x y : Frame) (r : List Frame) : segGoT treeTable pw (w.withFollow "special-get-raises" false) 11 annB 1 102 (stac21 (w.withFollow "special-get-raises" false) os) ⟨ag cc21, cd21, psc21, x :: y :: r⟩ = some (stac22 (w.withFollow "special-get-raises" false) os, ⟨ag cc22, cd22, psc22, x :: y :: r⟩) := by
  rw [tw_go, tw_tab]; kernel_rfl
theorem c9_22_f (w : World) (os : OsState) (x y : Frame) (r : List Frame) : segGoT treeTable pw (w.withFollow "special-get-raises" false) 11 annB 1 100 (stac22 (w.withFollow "special-get-raises" false) os) ⟨ag cc22, cd22, psc22, x :: y :: r⟩ = some (stac23 (w.withFollow "special-get-raises" false) os, ⟨ag cc23, cd23, psc23, x :: y :: r⟩) := by
  rw [tw_go, tw_tab]; kernel_rfl
theorem c9_23_f (w : World) (os : OsState) (x y : Frame) (r : List Frame) : segGoT treeTable pw (w.withFollow "special-get-raises" false) 11 annB 1 100 (stac23 (w.withFollow "special-get-raises" false) os) ⟨ag cc23, cd23, psc23, x :: y :: r⟩ = some (stac24 (w.withFollow "special-get-raises" false) os, ⟨ag cc24, cd24, psc24, x :: y :: r⟩) := by
  rw [tw_go, tw_tab]; kernel_rfl
theorem c9_24_f (w : World) (os : OsState) (x y : Frame) (r : List Frame) : segGoT treeTable pw (w.withFollow "special-get-raises" false) 11 annB 1 100 (stac24 (w.withFollow "special-get-raises" false) os) ⟨ag cc24, cd24, psc24, x :: y :: r⟩ = some (stac25 (w.withFollow "special-get-raises" false) os, ⟨ag cc25, cd25, psc25, x :: y :: r⟩) := by
  rw [tw_go, tw_tab]; kernel_rfl
theorem c9_25_f (w : World) (os : OsState) (x y : Frame) (r : List Frame) : segGoT treeTable pw (w.withFollow "special-get-raises" false) 11 annB 1 20 (stac25 (w.withFollow "special-get-raises" false) os) ⟨ag cc25, cd25, psc25, x :: y :: r⟩ = some (stac26 (w.withFollow "special-get-raises" false) os, ⟨ag cc26, cd26, psc26, x :: y :: r⟩) := by
  rw [tw_go, tw_tab]; kernel_rfl
theorem c9_post_f (w : World) (os : OsState) : segRunT treeTable pw (w.withFollow "special-get-raises" false) 11 annB 1 28 (stac26 (w.withFollow "special-get-raises" false) os) ⟨ag cc26, cd26, psc26, stkB (w.withFollow "special-get-raises" false) os⟩ = some (.next, sta25 (w.withFollow "special-get-raises" false) os, cB, ps25) := by
  rw [tw_run, tw_tab]; kernel_rfl
theorem c9_mid_t (w : World) (os : OsState) : segGoT treeTable pw (w.withFollow "special-get-raises" true) 11 annB 1 60 (stac5 (w.withFollow "special-get-raises" true) os) ⟨ag cc5, cd5, psc5, stkA (w.withFollow "special-get-raises" true) os⟩ = some (stac6 (w.withFollow "special-get-raises" true) os, ⟨denote treeTable cc6, cd6, psc6, stkB (w.withFollow "special-get-raises" true) os⟩) := by
  rw [tw_go, tw_tab]; kernel_rfl
theorem stkB_eq_t (w : World) (os : OsState) : stkB (w.withFollow "special-get-raises" true) os = fr (stkB (w.withFollow "special-get-raises" true) os) 0 :: fr (stkB (w.withFollow "special-get-raises" true) os) 1 :: (stkB (w.withFollow "special-get-raises" true) os).drop 2 := by kernel_rfl
theorem c9_6_t (w : World) (os : OsState) (x y : Frame) (r : List Frame) : segGoT treeTable pw (w.withFollow "special-get-raises" true) 11 annB 1 121 (stac6 (w.withFollow "special-get-raises" true) os) ⟨denote treeTable cc6, cd6, psc6, x :: y :: r⟩ = some (stac7 (w.withFollow "special-get-raises" true) os, ⟨ag cc7, cd7, psc7, x :: y :: r⟩) := by
  rw [tw_go, tw_tab]; kernel_rfl
theorem c9_7_t (w : World) (os : OsState) (x y : Frame) (r : List Frame) : segGoT treeTable pw (w.withFollow "special-get-raises" true) 11 annB 1 100 (stac7 (w.withFollow "special-get-raises" true) os) ⟨ag cc7, cd7, psc7, x :: y :: r⟩ = some (stac8 (w.withFollow "special-get-raises" true) os, ⟨ag cc8, cd8, psc8, x :: y :: r⟩) := by
  rw [tw_go, tw_tab]; kernel_rfl
theorem c9_8_t (w : World) (os : OsState) (x y : Frame) (r : List Frame) : segGoT treeTable pw (w.withFollow "special-get-raises" true) 11 annB 1 100 (stac8 (w.withFollow "special-get-raises" true) os) ⟨ag cc8, cd8, psc8, x :: y :: r⟩ = some (stac9 (w.withFollow "special-get-raises" true) os, ⟨ag cc9, cd9, psc9, x :: y :: r⟩) := by
  rw [tw_go, tw_tab]; kernel_rfl
theorem c9_9_t (w : World) (os : OsState) (x y : Frame) (r : List Frame) : segGoT treeTable pw (w.withFollow "special-get-raises" true) 11 annB 1 102 (stac9 (w.withFollow "special-get-raises" true) os) ⟨ag cc9, cd9, psc9, x :: y :: r⟩ = some (stac10 (w.withFollow "special-get-raises" true) os, ⟨ag cc10, cd10, psc10, x :: y :: r⟩) := by
  rw [tw_go, tw_tab]; kernel_rfl
theorem c9_10_t (w : World) (os : OsState) (x y : Frame) (r : List Frame) : segGoT treeTable pw (w.withFollow "special-get-raises" true) 11 annB 1 100 (stac10 (w.withFollow "special-get-raises" true) os) ⟨ag cc10, cd10, psc10, x :: y :: r⟩ = some (stac11 (w.withFollow "special-get-raises" true) os, ⟨ag cc11, cd11, psc11, x :: y :: r⟩) := by
  rw [tw_go, tw_tab]; kernel_rfl
theorem c9_11_t (w : World) (os : OsState) (x y : Frame) (r : List Frame) : segGoT treeTable pw (w.withFollow "special-get-raises" true) 11 annB 1 100 (stac11 (w.withFollow "special-get-raises" true) os) ⟨ag cc11, cd11, psc11, x :: y :: r⟩ = some (stac12 (w.withFollow "special-get-raises" true) os, ⟨ag cc12, cd12, psc12, x :: y :: r⟩) := by
  rw [tw_go, tw_tab]; kernel_rfl
theorem c9_12_t (w : World) (os : OsState) (x y : Frame) (r : List Frame) : segGoT treeTable pw (w.withFollow "special-get-raises" true) 11 annB 1 100 (stac12 (w.withFollow "special-get-raises" true) os) ⟨ag cc12, cd12, psc12, x :: y :: r⟩ = some (stac13 (w.withFollow "special-get-raises" true) os, ⟨ag cc13, cd13, psc13, x :: y :: r⟩) := by
  rw [tw_go, tw_tab]; kernel_rfl
theorem c9_13_t (w : World) (os : OsState) (x y : Frame) (r : List Frame) : segGoT treeTable pw (w.withFollow "special-get-raises" true) 11 annB 1 100 (stac13 (w.withFollow "special-get-raises" true) os) ⟨ag cc13, cd13, psc13, x :: y :: r⟩ = some (stac14 (w.withFollow "special-get-raises" true) os, ⟨ag cc14, cd14, psc14, x :: y :: r⟩) := by
  rw [tw_go, tw_tab]; kernel_rfl
theorem c9_14_t (w : World) (os : OsState) (x y : Frame) (r : List Frame) : segGoT treeTable pw (w.withFollow "special-get-raises" true) 11 annB 1 100 (stac14 (w.withFollow "special-get-raises" true) os) ⟨ag cc14, cd14, psc14, x :: y :: r⟩ = some (stac15 (w.withFollow "special-get-raises" true) os, ⟨ag cc15, cd15, psc15, x :: y :: r⟩) := by
  rw [tw_go, tw_tab]; kernel_rfl
theorem c9_15_t (w : World) (os : OsState) (x y : Frame) (r : List Frame) : segGoT treeTable pw (w.withFollow "special-get-raises" true) 11 annB 1 100 (stac15 (w.withFollow "special-get-raises" true) os) ⟨ag cc15, cd15, psc15, x :: y :: r⟩ = some (stac16 (w.withFollow "special-get-raises" true) os, ⟨ag cc16, cd16, psc16, x :: y :: r⟩) := by
  rw [tw_go, tw_tab]; kernel_rfl
theorem c9_16_t (w : World) (os : OsState) (x y : Frame) (r : List Frame) : segGoT treeTable pw (w.withFollow "special-get-raises" true) 11 annB 1 100 (stac16 (w.withFollow "special-get-raises" true) os) ⟨ag cc16, cd16, psc16, x :: y :: r⟩ = some (stac17 (w.withFollow "special-get-raises" true) os, ⟨ag cc17, cd17, psc17, x :: y :: r⟩) := by
  rw [tw_go, tw_tab]; kernel_rfl
theorem c9_17_t (w : World) (os : OsState) (x y : Frame) (r : List Frame) : segGoT treeTable pw (w.withFollow "special-get-raises" true) 11 annB 1 100 (stac17 (w.withFollow "special-get-raises" true) os) ⟨ag cc17, cd17, psc17, x :: y :: r⟩ = some (stac18 (w.withFollow "special-get-raises" true) os, ⟨ag cc18, cd18, psc18, x :: y :: r⟩) := by
  rw [tw_go, tw_tab]; kernel_rfl
theorem c9_18_t (w : World) (os : OsState) (x y : Frame) (r : List Frame) : segGoT treeTable pw (w.withFollow "special-get-raises" true) 11 annB 1 100 (stac18 (w.withFollow "special-get-raises" true) os) ⟨ag cc18, cd18, psc18, x :: y :: r⟩ = some (stac19 (w.withFollow "special-get-raises" true) os, ⟨ag cc19, cd19, psc19, x :: y :: r⟩) := by
  rw [tw_go, tw_tab]; kernel_rfl
theorem c9_19_t (w : World) (os : OsState) (x y : Frame) (r : List Frame) : segGoT treeTable pw (w.withFollow "special-get-raises" true) 11 annB 1 100 (stac19 (w.withFollow "special-get-raises" true) os) ⟨ag cc19, cd19, psc19, x :: y :: r⟩ = some (stac20 (w.withFollow "special-get-raises" true) os, ⟨ag cc20, cd20, psc20, x :: y :: r⟩) := by
  rw [tw_go, tw_tab]; kernel_rfl
theorem c9_20_t (w : World) (os : OsState) (x y : Frame) (r : List Frame) : segGoT treeTable pw (w.withFollow "special-get-raises" true) 11 annB 1 100 (stac20 (w.withFollow "special-get-raises" true) os) ⟨ag cc20, cd20, psc20, x :: y :: r⟩ = some (stac21 (w.withFollow "special-get-raises" true) os, ⟨ag cc21, cd21, psc21, x :: y :: r⟩) := by
  rw [tw_go, tw_tab]; kernel_rfl
theorem c9_21_t (w : World) (os : OsState) (x y : Frame) (r : List Frame) : segGoT treeTable pw (w.withFollow "special-get-raises" true) 11 annB 1 102 (stac21 (w.withFollow "special-get-raises" true) os) ⟨ag cc21, cd21, psc21, x :: y :: r⟩ = some (stac22 (w.withFollow "special-get-raises" true) os, ⟨ag cc22, cd22, psc22, x :: y :: r⟩) := by
  rw [tw_go, tw_tab]; kernel_rfl
theorem c9_22_t (w : World) (os : OsState) (x y : Frame) (r : List Frame) : segGoT treeTable pw (w.withFollow "special-get-raises" true) 11 annB 1 100 (stac22 (w.withFollow "special-get-raises" true) os) ⟨ag cc22, cd22, psc22, x :: y :: r⟩ = some (stac23 (w.withFollow "special-get-raises" true) os, ⟨ag cc23, cd23, psc23, x :: y :: r⟩) := by
  rw [tw_go, tw_tab]; kernel_rfl
theorem c9_23_t (w : World) (os : OsState) (x y : Frame) (r : List Frame) : segGoT treeTable pw (w.withFollow "special-get-raises" true) 11 annB 1 100 (stac23 (w.withFollow "special-get-raises" true) os) ⟨ag cc23, cd23, psc23, x :: y :: r⟩ = some (stac24 (w.withFollow "special-get-raises" true) os, ⟨ag cc24, cd24, psc24, x :: y :: r⟩) := by
  rw [tw_go, tw_tab]; kernel_rfl
theorem c9_24_t (w : World) (os : OsState) (x y : Frame) (r : List Frame) : segGoT treeTable pw (w.withFollow "special-get-raises" true) 11 annB 1 100 (stac24 (w.withFollow "special-get-raises" true) os) ⟨ag cc24, cd24, psc24, x :: y :: r⟩ = some (stac25 (w.withFollow "special-get-raises" true) os, ⟨ag cc25, cd25, psc25, x :: y :: r⟩) := by
  rw [tw_go, tw_tab]; kernel_rfl
theorem c9_25_t (w : World) (os : OsState) (x y : Frame) (r : List Frame) : segGoT treeTable pw (w.withFollow "special-get-raises" true) 11 annB 1 20 (stac25 (w.withFollow "special-get-raises" true) os) ⟨ag cc25, cd25, psc25, x :: y :: r⟩ = some (stac26 (w.withFollow "special-get-raises" true) os, ⟨ag cc26, cd26, psc26, x :: y :: r⟩) := by
  rw [tw_go, tw_tab]; kernel_rfl
theorem c9_post_t (w : World) (os : OsState) : segRunT treeTable pw (w.withFollow "special-get-raises" true) 11 annB 1 28 (stac26 (w.withFollow "special-get-raises" true) os) ⟨ag cc26, cd26, psc26, stkB (w.withFollow "special-get-raises" true) os⟩ = some (.next, sta25 (w.withFollow "special-get-raises" true) os, cB, ps25) := by
  rw [tw_run, tw_tab]; kernel_rfl
end
end Wu
end
section
namespace Wu
set_option linter.unusedVariables false
open PySem PySem.Spec PySem.Calls PyProof.Rows PySem.W
theorem gr24_f (w : World) (os : OsState) : segRun treeTable pw (w.withFollow "special-get-raises" false) 11 annB 1 3751 (sta24 (w.withFollow "special-get-raises" false) os).abs (piecesOf (sts 24 25) envB cB ps24 stB) = some (.next, (sta25 (w.withFollow "special-get-raises" false) os).abs, cB, ps25) := by
  have k := segGo_of (c9_pre_f w os)
  rw [stkA_eq_f] at k
  have k0 := segGo_of (c9_0 (w.withFollow "special-get-raises" false) os (fr (stkA (w.withFollow "special-get-raises" false) os) 0) (fr (stkA (w.withFollow "special-get-raises" false) os) 1) ((stkA (w.withFollow "special-get-raises" false) os).drop 2))
  have k1 := segGo_of (c9_1 (w.withFollow "special-get-raises" false) os (fr (stkA (w.withFollow "special-get-raises" false) os) 0) (fr (stkA (w.withFollow "special-get-raises" false) os) 1) ((stkA (w.withFollow "special-get-raises" false) os).drop 2))
  have k2 := segGo_of (c9_2 (w.withFollow "special-get-raises" false) os (fr (stkA (w.withFollow "special-get-raises" false) os) 0) (fr (stkA (w.withFollow "special-get-raises" false) os) 1) ((stkA (w.withFollow "special-get-raises" false) os).drop 2))
  have k3 := segGo_of (c9_3 (w.withFollow "special-get-raises" false) os (fr (stkA (w.withFollow "special-get-raises" false) os) 0) (fr (stkA (w.withFollow "special-get-raises" false) os) 1) ((stkA (w.withFollow "special-get-raises" false) os).drop 2))
  have k4 := segGo_of (c9_4 (w.withFollow "special-get-raises" false) os (fr (stkA (w.withFollow "special-get-raises" false) os) 0) (fr (stkA (w.withFollow "special-get-raises" false) os) 1) ((stkA (w.withFollow "special-get-raises" false) os).drop 2))
  have km := segGo_of (c9_mid_f w os)
  rw [stkA_eq_f, stkB_eq_f] at km
  have k6 := segGo_of (c9_6_f w os (fr (stkB (w.withFollow "special-get-raises" false) os) 0) (fr (stkB (w.withFollow "special-get-raises" false) os) 1) ((stkB (w.withFollow "special-get-raises" false) os).drop 2))
  have k7 := segGo_of (c9_7_f w os (fr (stkB (w.withFollow "special-get-raises" false) os) 0) (fr (stkB (w.withFollow "special-get-raises" false) os) 1) ((stkB (w.withFollow "special-get-raises" false) os).drop 2))
  have k8 := segGo_of (c9_8_f w os (fr (stkB (w.withFollow "special-get-raises" false) os) 0) (fr (stkB (w.withFollow "special-get-raises" false) os) 1) ((stkB (w.withFollow "special-get-raises" false) os).drop 2))
  have k9 := segGo_of (c9_9_f w os (fr (stkB (w.withFollow "special-get-raises" false) os) 0) (fr (stkB (w.withFollow "special-get-raises" false) os) 1) ((stkB (w.withFollow "special-get-raises" false) os).drop 2))
  have k10 := segGo_of (c9_10_f w os (fr (stkB (w.withFollow "special-get-raises" false) os) 0) (fr (stkB (w.withFollow "special-get-raises" false) os) 1) ((stkB (w.withFollow "special-get-raises" false) os).drop 2))
  have k11 := segGo_of (c9_11_f w os (fr (stkB (w.withFollow "special-get-raises" false) os) 0) (fr (stkB (w.withFollow "special-get-raises" false) os) 1) ((stkB (w.withFollow "special-get-raises" false) os).drop 2))
  have k12 := segGo_of (c9_12_f w os (fr (stkB (w.withFollow "special-get-raises" false) os) 0) (fr (stkB (w.withFollow "special-get-raises" false) os) 1) ((stkB (w.withFollow "special-get-raises" false) os).drop 2))
  have k13 := segGo_of (c9_13_f w os (fr (stkB (w.withFollow "special-get-raises" false) os) 0) (fr (stkB (w.withFollow "special-get-raises" false) os) 1) ((stkB (w.withFollow "special-get-raises" false) os).drop 2))
  have k14 := segGo_of (c9_14_f w os (fr (stkB (w.withFollow "special-get-raises" false) os) 0) (fr (stkB (w.withFollow "special-get-raises" false) os) 1) ((stkB (w.withFollow "special-get-raises" false) os).drop 2))
  have k15 := segGo_of (c9_15_f w os (fr (stkB (w.withFollow "special-get-raises" false) os) 0) (fr (stkB (w.withFollow "special-get-raises" false) os) 1) ((stkB (w.withFollow "special-get-raises" false) os).drop 2))
  have k16 := segGo_of (c9_16_f w os (fr (stkB (w.withFollow "special-get-raises" false) os) 0) (fr (stkB (w.withFollow "special-get-raises" false) os) 1) ((stkB (w.withFollow "special-get-raises" false) os).drop 2))
  have k17 := segGo_of (c9_17_f w os (fr (stkB (w.withFollow "special-get-raises" false) os) 0) (fr (stkB (w.withFollow "special-get-raises" false) os) 1) ((stkB (w.withFollow "special-get-raises" false) os).drop 2))
  have k18 := segGo_of (c9_18_f w os (fr (stkB (w.withFollow "special-get-raises" false) os) 0) (fr (stkB (w.withFollow "special-get-raises" false) os) 1) ((stkB (w.withFollow "special-get-raises" false) os).drop 2))
  have k19 := segGo_of (c9_19_f w os (fr (stkB (w.withFollow "special-get-raises" false) os) 0) (fr (stkB (w.withFollow "special-get-raises" false) os) 1) ((stkB (w.withFollow "special-get-raises" false) os).drop 2))
  have k20 := segGo_of (c9_20_f w os (fr (stkB (w.withFollow "special-get-raises" false) os) 0) (fr (stkB (w.withFollow "special-get-raises" false) os) 1) ((stkB (w.withFollow "special-get-raises" false) os).drop 2))
  have k21 := segGo_of (c9_21_f w os (fr (stkB (w.withFollow "special-get-raises" false) os) 0) (fr (stkB (w.withFollow "special-get-raises" false) os) 1) ((stkB (w.withFollow "special-get-raises" false) os).drop 2))
  have k22 := segGo_of (c9_22_f w os (fr (stkB (w.withFollow "special-get-raises" false) os) 0) (fr (stkB (w.withFollow "special-get-raises" false) os) 1) ((stkB (w.withFollow "special-get-raises" false) os).drop 2))
  have k23 := segGo_of (c9_23_f w os (fr (stkB (w.withFollow "special-get-raises" false) os) 0) (fr (stkB (w.withFollow "special-get-raises" false) os) 1) ((stkB (w.withFollow "special-get-raises" false) os).drop 2))
  have k24 := segGo_of (c9_24_f w os (fr (stkB (w.withFollow "special-get-raises" false) os) 0) (fr (stkB (w.withFollow "special-get-raises" false) os) 1) ((stkB (w.withFollow "special-get-raises" false) os).drop 2))
  have k25 := segGo_of (c9_25_f w os (fr (stkB (w.withFollow "special-get-raises" false) os) 0) (fr (stkB (w.withFollow "special-get-raises" false) os) 1) ((stkB (w.withFollow "special-get-raises" false) os).drop 2))
  have kp := segRun_of (c9_post_f w os)
  rw [stkB_eq_f] at kp
  have r1 := seg_go k25 kp
  have r2 := seg_go k24 r1
  have r3 := seg_go k23 r2
  have r4 := seg_go k22 r3
  have r5 := seg_go k21 r4
  have r6 := seg_go k20 r5
  have r7 := seg_go k19 r6
  have r8 := seg_go k18 r7
  have r9 := seg_go k17 r8
  have r10 := seg_go k16 r9
  have r11 := seg_go k15 r10
  have r12 := seg_go k14 r11
  have r13 := seg_go k13 r12
  have r14 := seg_go k12 r13
  have r15 := seg_go k11 r14
  have r16 := seg_go k10 r15
  have r17 := seg_go k9 r16
  have r18 := seg_go k8 r17
  have r19 := seg_go k7 r18
  have r20 := seg_go k6 r19
  have r21 := seg_go km r20
  have r22 := seg_go k4 r21
  have r23 := seg_go k3 r22
  have r24 := seg_go k2 r23
  have r25 := seg_go k1 r24
  have r26 := seg_go k0 r25
  have r27 := seg_go k r26
  exact r27
theorem gr24_t (w : World) (os : OsState) : segRun treeTable pw (w.withFollow "special-get-raises" true) 11 annB 1 3751 (sta24 (w.withFollow "special-get-raises" true) os).abs (piecesOf (sts 24 25) envB cB ps24 stB) = some (.next, (sta25 (w.withFollow "special-get-raises" true) os).abs, cB, ps25) := by
  have k := segGo_of (c9_pre_t w os)
  rw [stkA_eq_t] at k
  have k0 := segGo_of (c9_0 (w.withFollow "special-get-raises" true) os (fr (stkA (w.withFollow "special-get-raises" true) os) 0) (fr (stkA (w.withFollow "special-get-raises" true) os) 1) ((stkA (w.withFollow "special-get-raises" true) os).drop 2))
  have k1 := segGo_of (c9_1 (w.withFollow "special-get-raises" true) os (fr (stkA (w.withFollow "special-get-raises" true) os) 0) (fr (stkA (w.withFollow "special-get-raises" true) os) 1) ((stkA (w.withFollow "special-get-raises" true) os).drop 2))
  have k2 := segGo_of (c9_2 (w.withFollow "special-get-raises" true) os (fr (stkA (w.withFollow "special-get-raises" true) os) 0) (fr (stkA (w.withFollow "special-get-raises" true) os) 1) ((stkA (w.withFollow "special-get-raises" true) os).drop 2))
  have k3 := segGo_of (c9_3 (w.withFollow "special-get-raises" true) os (fr (stkA (w.withFollow "special-get-raises" true) os) 0) (fr (stkA (w.withFollow "special-get-raises" true) os) 1) ((stkA (w.withFollow "special-get-raises" true) os).drop 2))
  have k4 := segGo_of (c9_4 (w.withFollow "special-get-raises" true) os (fr (stkA (w.withFollow "special-get-raises" true) os) 0) (fr (stkA (w.withFollow "special-get-raises" true) os) 1) ((stkA (w.withFollow "special-get-raises" true) os).drop 2))
  have km := segGo_of (c9_mid_t w os)
  rw [stkA_eq_t, stkB_eq_t] at km
  have k6 := segGo_of (c9_6_t w os (fr (stkB (w.withFollow "special-get-raises" true) os) 0) (fr (stkB (w.withFollow "special-get-raises" true) os) 1) ((stkB (w.withFollow "special-get-raises" true) os).drop 2))
  have k7 := segGo_of (c9_7_t w os (fr (stkB (w.withFollow "special-get-raises" true) os) 0) (fr (stkB (w.withFollow "special-get-raises" true) os) 1) ((stkB (w.withFollow "special-get-raises" true) os).drop 2))
  have k8 := segGo_of (c9_8_t w os (fr (stkB (w.withFollow "special-get-raises" true) os) 0) (fr (stkB (w.withFollow "special-get-raises" true) os) 1) ((stkB (w.withFollow "special-get-raises" true) os).drop 2))
  have k9 := segGo_of (c9_9_t w os (fr (stkB (w.withFollow "special-get-raises" true) os) 0) (fr (stkB (w.withFollow "special-get-raises" true) os) 1) ((stkB (w.withFollow "special-get-raises" true) os).drop 2))
  have k10 := segGo_of (c9_10_t w os (fr (stkB (w.withFollow "special-get-raises" true) os) 0) (fr (stkB (w.withFollow "special-get-raises" true) os) 1) ((stkB (w.withFollow "special-get-raises" true) os).drop 2))
  have k11 := segGo_of (c9_11_t w os (fr (stkB (w.withFollow "special-get-raises" true) os) 0) (fr (stkB (w.withFollow "special-get-raises" true) os) 1) ((stkB (w.withFollow "special-get-raises" true) os).drop 2))
  have k12 := segGo_of (c9_12_t w os (fr (stkB (w.withFollow "special-get-raises" true) os) 0) (fr (stkB (w.withFollow "special-get-raises" true) os) 1) ((stkB (w.withFollow "special-get-raises" true) os).drop 2))
  have k13 := segGo_of (c9_13_t w os (fr (stkB (w.withFollow "special-get-raises" true) os) 0) (fr (stkB (w.withFollow "special-get-raises" true) os) 1) ((stkB (w.withFollow "special-get-raises" true) os).drop 2))
  have k14 := segGo_of (c9_14_t w os (fr (stkB (w.withFollow "special-get-raises" true) os) 0) (fr (stkB (w.withFollow "special-get-raises" true) os) 1) ((stkB (w.withFollow "special-get-raises" true) os).drop 2))
  have k15 := segGo_of (c9_15_t w os (fr (stkB (w.withFollow "special-get-raises" true) os) 0) (fr (stkB (w.withFollow "special-get-raises" true) os) 1) ((stkB (w.withFollow "special-get-raises" true) os).drop 2))
  have k16 := segGo_of (c9_16_t w os (fr (stkB (w.withFollow "special-get-raises" true) os) 0) (fr (stkB (w.withFollow "special-get-raises" true) os) 1) ((stkB (w.withFollow "special-get-raises" true) os).drop 2))
  have k17 := segGo_of (c9_17_t w os (fr (stkB (w.withFollow "special-get-raises" true) os) 0) (fr (stkB (w.withFollow "special-get-raises" true) os) 1) ((stkB (w.withFollow "special-get-raises" true) os).drop 2))
  have k18 := segGo_of (c9_18_t w os (fr (stkB (w.withFollow "special-get-raises" true) os) 0) (fr (stkB (w.withFollow "special-get-raises" true) os) 1) ((stkB (w.withFollow "special-get-raises" true) os).drop 2))
  have k19 := segGo_of (c9_19_t w os (fr (stkB (w.withFollow "special-get-raises" true) os) 0) (fr (stkB (w.withFollow "special-get-raises" true) os) 1) ((stkB (w.withFollow "special-get-raises" true) os).drop 2))
  have k20 := segGo_of (c9_20_t w os (fr (stkB (w.withFollow "special-get-raises" true) os) 0) (fr (stkB (w.withFollow "special-get-raises" true) os) 1) ((stkB (w.withFollow "special-get-raises" true) os).drop 2))
  have k21 := segGo_of (c9_21_t w os (fr (stkB (w.withFollow "special-get-raises" true) os) 0) (fr (stkB (w.withFollow "special-get-raises" true) os) 1) ((stkB (w.withFollow "special-get-raises" true) os).drop 2))
  have k22 := segGo_of (c9_22_t w os (fr (stkB (w.withFollow "special-get-raises" true) os) 0) (fr (stkB (w.withFollow "special-get-raises" true) os) 1) ((stkB (w.withFollow "special-get-raises" true) os).drop 2))
  have k23 := segGo_of (c9_23_t w os (fr (stkB (w.withFollow "special-get-raises" true) os) 0) (fr (stkB (w.withFollow "special-get-raises" true) os) 1) ((stkB (w.withFollow "special-get-raises" true) os).drop 2))
  have k24 := segGo_of (c9_24_t w os (fr (stkB (w.withFollow "special-get-raises" true) os) 0) (fr (stkB (w.withFollow "special-get-raises" true) os) 1) ((stkB (w.withFollow "special-get-raises" true) os).drop 2))
  have k25 := segGo_of (c9_25_t w os (fr (stkB (w.withFollow "special-get-raises" true) os) 0) (fr (stkB (w.withFollow "special-get-raises" true) os) 1) ((stkB (w.withFollow "special-get-raises" true) os).drop 2))
  have kp := segRun_of (c9_post_t w os)
  rw [stkB_eq_t] at kp
  have r1 := seg_go k25 kp
  have r2 := seg_go k24 r1
  have r3 := seg_go k23 r2
  have r4 := seg_go k22 r3
  have r5 := seg_go k21 r4
  have r6 := seg_go k20 r5
  have r7 := seg_go k19 r6
  have r8 := seg_go k18 r7
  have r9 := seg_go k17 r8
  have r10 := seg_go k16 r9
  have r11 := seg_go k15 r10
  have r12 := seg_go k14 r11
  have r13 := seg_go k13 r12
  have r14 := seg_go k12 r13
  have r15 := seg_go k11 r14
  have r16 := seg_go k10 r15
  have r17 := seg_go k9 r16
  have r18 := seg_go k8 r17
  have r19 := seg_go k7 r18
  have r20 := seg_go k6 r19
  have r21 := seg_go km r20
  have r22 := seg_go k4 r21
  have r23 := seg_go k3 r22
  have r24 := seg_go k2 r23
  have r25 := seg_go k1 r24
  have r26 := seg_go k0 r25
  have r27 := seg_go k r26
  exact r27
theorem gr24 (w : World) (os : OsState) : segRun treeTable pw w 11 annB 1 3751 (sta24 w os).abs (piecesOf (sts 24 25) envB cB ps24 stB) = some (.next, (sta25 w os).abs, cB, ps25) :=
  byRow2 "special-get-raises" (P := fun w => segRun treeTable pw w 11 annB 1 3751 (sta24 w os).abs (piecesOf (sts 24 25) envB cB ps24 stB) = some (.next, (sta25 w os).abs, cB, ps25)) (fun w => gr24_f w os) (fun w => gr24_t w os) w
end Wu
end
section
namespace Wu
set_option linter.unusedVariables false
open PySem PySem.Spec PySem.Calls PyProof.Rows PySem.W
open Sem (bind_eq_wrap wrap_wrap keep_eq_wrap onRaise_eq_wrap tryCatch_eq_wrap)
/-- x runs from s to a at s', at the text's own level -/
structure R {α : Type} (w : World) (n : Nat) (x : Sem α) (s : Shared) (p : Pos) (a : α) (s' : Shared) (p' : Pos) : Prop where
  go : ∀ (K : α → Sem Fin) (H : Value → Sem Fin) (gd : Bool → Bool) (lv : List Value → List Value), segGo treeTable pw w 11 annB 1 n s ⟨x.wrap K H gd lv, cB, p, stB⟩ = some (s', ⟨K a, cB, p', stB⟩)
theorem seg_trans {tb : String → Option Builtin} {p : Program} {w : World} {n₀ : Nat} {ann : Option Value} {b : Nat} : ∀ {n m : Nat} {s s₁ : Shared} {t t₁ : Thread} {r : Option (Shared × Thread)}, segGo tb p w n₀ ann b n s t = some (s₁, t₁) → segGo tb p w n₀ ann b m s₁ t₁ = r → segGo tb p w n₀ ann b (n + m) s t = r
  | 0, m, s, s₁, t, t₁, r, h, k => by
    obtain ⟨rfl, rfl⟩ : s = s₁ ∧ t = t₁ := by simpa [segGo] using h
    rw [Nat.zero_add]; exact k
  | n + 1, m, s, s₁, t, t₁, r, h, k => by
    rw [show n + 1 + m = n + m + 1 by omega]
    unfold segGo at h ⊢
    cases he : endAt b t with
    | some f => rw [he] at h; cases h
    | none =>
      rw [he] at h
      cases hk : stepOk n₀ ann t with
      | false => rw [hk] at h; cases h
      | true =>
        rw [hk] at h
        cases hs : step (denote tb) p w s t with
        | halt o s₂ => rw [hs] at h; cases h
        | go s₂ t₂ => rw [hs] at h; exact seg_trans h k
section
variable {α β : Type} {w : World} {n m : Nat} {s s' s1 : Shared} {p p' p1 : Pos}
theorem R.pure {a : α} : R w 0 (.pure a) s p a s p := ⟨fun _ _ _ _ => rfl⟩
theorem R.bind {x : Sem α} {f : α → Sem β} {a : α} {b : β} (h1 : R w n x s p a s1 p1) (h2 : R w m (f a) s1 p1 b s' p') : R w (n + m) (x.bind f) s p b s' p' := ⟨fun K H gd lv => by
  rw [bind_eq_wrap, wrap_wrap]
  exact seg_trans (h1.go _ _ _ _) (h2.go K H gd lv)⟩
theorem R.map {x : Sem α} {f : α → β} {a : α} (h1 : R w n x s p a s' p') : R w n (x.bind fun a => .pure (f a)) s p (f a) s' p' := R.bind (f := fun a => Sem.pure (f a)) h1 R.pure
theorem R.keep {x : Sem α} {a : α} {vs : List Value} (h : R w n x s p a s' p') : R w n (x.keep vs) s p a s' p' := ⟨fun K H gd lv => by
  rw [keep_eq_wrap, wrap_wrap]
  exact h.go _ _ _ _⟩
theorem R.hold {x : Sem α} {a : α} {vs : List Value} (h : R w n x s p a s' p') : R w n (holding vs x) s p a s' p' := by
  unfold holding
  split
  · exact h
  · exact h.keep
theorem R.onRaise {x : Sem α} {a : α} {f : Value → Sem Unit} (h : R w n x s p a s' p') : R w n (x.onRaise f) s p a s' p' := ⟨fun K H gd lv => by
  rw [onRaise_eq_wrap, wrap_wrap]
  exact h.go _ _ _ _⟩
theorem R.forNil {f : α → β → Sem (ForInStep β)} {b : β} : R w 0 (forIn ([] : List α) b f) s p b s p := R.pure
theorem R.forCons {f : α → β → Sem (ForInStep β)} {x : α} {l : List α} {b b' c : β} (h1 : R w n (f x b) s p (.yield b') s1 p1) (h2 : R w m (forIn l b' f) s1 p1 c s' p') : R w (n + m) (forIn (x :: l) b f) s p c s' p' := by
  rw [List.forIn_cons]
  exact R.bind h1 h2
theorem seg1 {s s' : Shared} {t t' : Thread} (he : endAt 1 t = none) (hk : stepOk 11 annB t = true) (hs : step (denote treeTable) pw w s t = .go s' t') : segGo treeTable pw w 11 annB 1 1 s t = some (s', t') := by
  unfold segGo; rw [he, hk, hs]; rfl
variable {h : Heap} {g : Array GenState} {dr : Drawn} {tk : Nat} {os : OsState}
theorem R.at {q : Pos} : R w 1 (standAt q) ⟨h, g, dr, tk, os⟩ p () ⟨h, g, dr, tk, os⟩ q := ⟨fun K H gd lv => seg1 rfl rfl rfl⟩
theorem R.rule {x : String} : R w 1 (PySem.rule x) ⟨h, g, dr, tk, os⟩ p () ⟨h, g, dr, tk, os⟩ p := ⟨fun K H gd lv => seg1 rfl rfl rfl⟩
theorem R.fresh : R w 1 PySem.fresh ⟨h, g, dr, tk, os⟩ p tk ⟨h, g, dr, tk + 1, os⟩ p := ⟨fun K H gd lv => seg1 rfl rfl rfl⟩
theorem R.alloc {o : Obj} : R w 1 (PySem.alloc o) ⟨h, g, dr, tk, os⟩ p h.objs.size ⟨h.push o, g, dr, tk, os⟩ p := ⟨fun K H gd lv => seg1 rfl rfl rfl⟩
theorem R.loadPart {a : Addr} {part : Option Value} {o : Obj} (e : h.get? a = some o) : R w 1 (PySem.loadPart a part) ⟨h, g, dr, tk, os⟩ p o ⟨h, g, dr, tk, os⟩ p := ⟨fun K H gd lv => seg1 rfl rfl (by
  show (match h.get? a with | some o => Step.go _ _ | none => _) = _
  rw [e]; rfl)⟩
theorem R.updatePart {a : Addr} {part : Option Value} {f : Obj → Obj} {o : Obj} (e : h.get? a = some o) (ha : Nat.ble 11 a = true) : R w 1 (PySem.updatePart a part f) ⟨h, g, dr, tk, os⟩ p () ⟨h.update a f, g, dr, tk, os⟩ p := ⟨fun K H gd lv => seg1 rfl (by
  show ((_ : Bool) && (Nat.ble 11 a || a == mainNs || a == cStatics || annB == some (.ref a))) = true
  rw [ha]; rfl) (by
  show (if (h.get? a).isSome = true then Step.go _ _ else _) = _
  rw [e]; rfl)⟩
theorem R.mkInt {i : Int} : R w 1 (PySem.mkInt i) ⟨h, g, dr, tk, os⟩ p (.int i tk) ⟨h, g, dr, tk + 1, os⟩ p := R.map R.fresh
theorem R.mkText {x : Str} : R w 1 (PySem.mkText x) ⟨h, g, dr, tk, os⟩ p (.str x tk) ⟨h, g, dr, tk + 1, os⟩ p := R.map R.fresh
end
end Wu
end
section
namespace Wu
set_option linter.unusedVariables false
open PySem PySem.Spec PySem.Calls PyProof.Rows PySem.W
theorem tw_gos : @segGo = @PySem.W.Fast.tw3277212676724774461 := PySem.W.Fast.te3277212676724774461
noncomputable def hInt (x : Int) : Int := if (if x < 0 then -((x.natAbs % (2 ^ 61 - 1 : Nat) : Nat) : Int) else ((x.natAbs % (2 ^ 61 - 1 : Nat) : Nat) : Int)) == -1 then -2 else (if x < 0 then -((x.natAbs % (2 ^ 61 - 1 : Nat) : Nat) : Int) else ((x.natAbs % (2 ^ 61 - 1 : Nat) : Nat) : Int))
section
variable {w : World} {p : Pos} {h : Heap} {g : Array GenState} {dr : Drawn} {tk : Nat} {os : OsState}
theorem hash5 (w : World) (k : Int) (t : Tok) (p : Pos) (h : Heap) (g : Array GenState) (dr : Drawn) (tk : Nat) (os : OsState) (K : Int → Sem Fin) (H : Value → Sem Fin) (gd : Bool → Bool) (lv : List Value → List Value) :
    segGo treeTable pw w 11 annB 1 5 ⟨h, g, dr, tk, os⟩ ⟨(pyHash (.int k t)).wrap K H gd lv, cB, p, stB⟩ = some (⟨h, g, dr, tk + 1, os⟩, ⟨(pyHashByItsType.reduced (hInt k)).wrap K H gd lv, cB, p, stB⟩) := by
  revert w
  refine byRow2 "special-get-raises" (fun w => ?_) (fun w => ?_)
  · rw [tw_gos, tw_tab]; kernel_rfl
  · rw [tw_gos, tw_tab]; kernel_rfl
theorem hInt_small {k : Int} (h0 : 0 ≤ k) (h1 : k < 2 ^ 60) : hInt k = k := by
  unfold hInt
  have e1 : ¬ k < 0 := by omega
  have e2 : ((k.natAbs % (2 ^ 61 - 1 : Nat) : Nat) : Int) = k := by omega
  rw [if_neg e1, e2]
  have : (k == -1) = false := by simp; omega
  rw [this]; rfl
theorem reduced_small {k : Int} (h0 : 0 ≤ k) (h1 : k < 2 ^ 60) : pyHashByItsType.reduced k = .pure k := by
  unfold pyHashByItsType.reduced
  have e1 : (decide (-(2 ^ 63 : Int) ≤ k) && decide (k < 2 ^ 63)) = true := by simp; omega
  rw [if_pos e1]
  have : (k == -1) = false := by simp; omega
  rw [this]; rfl
theorem R.hash {k : Int} {t : Tok} (h0 : 0 ≤ k) (h1 : k < 2 ^ 60) : R w 5 (pyHash (.int k t)) ⟨h, g, dr, tk, os⟩ p k ⟨h, g, dr, tk + 1, os⟩ p := ⟨fun K H gd lv => by
  rw [hash5, hInt_small h0 h1, reduced_small h0 h1]; rfl⟩
end
end Wu
end
section
namespace Wu
set_option linter.unusedVariables false
open PySem PySem.Spec PySem.Calls PyProof.Rows PySem.W
noncomputable def hput (h : Heap) (a : Addr) (o : Obj) : Heap := h.update a fun _ => o
noncomputable def mkD (es : List DictEntry) (n : Nat) : Obj := { cls := .type "dict", data := .dict es.toArray n }
theorem mkD_o (es : List DictEntry) : mkD es es.length = dictO es := rfl
theorem get_of {h : Heap} {a : Addr} {es : List DictEntry} {n : Nat} (e : h.objs[a]? = some (mkD es n)) : h.get? a = some (mkD es n) := by
  unfold Heap.get?; rw [e]; rfl
theorem objs_of {h : Heap} {a : Addr} {o : Obj} (e : h.get? a = some o) : h.objs[a]? = some o := by
  unfold Heap.get? at e
  cases q : h.objs[a]? with
  | none => rw [q] at e; cases e
  | some x =>
    rw [q] at e
    obtain ⟨c, d, dt, sl⟩ := x
    cases dt <;> first | exact e | cases e
theorem get_put {h : Heap} {a : Addr} {o : Obj} {es : List DictEntry} {n : Nat} (e : h.get? a = some o) : (hput h a (mkD es n)).get? a = some (mkD es n) := by
  refine get_of ?_
  obtain ⟨objs, life⟩ := h
  show (objs.modify a _)[a]? = _
  have := objs_of e
  rw [Array.getElem?_modify, if_pos rfl]
  show Option.map _ objs[a]? = _
  rw [show objs[a]? = some o from this]; rfl
theorem get_put_ne {h : Heap} {a b : Addr} {o : Obj} (ne : b ≠ a) : (hput h a o).get? b = h.get? b := Heap.get?_update_ne h b a _ ne
theorem upd_put {h : Heap} {a : Addr} {f : Obj → Obj} {o : Obj} (e : h.get? a = some o) : h.update a f = hput h a (f o) := by
  obtain ⟨objs, life⟩ := h
  have e := objs_of e
  show Heap.mk _ _ = Heap.mk _ _
  congr 1
  apply Array.ext_getElem?
  intro i
  rw [Array.getElem?_modify, Array.getElem?_modify]
  by_cases q : a = i
  · subst q
    rw [if_pos rfl, if_pos rfl]
    rw [show objs[a]? = some o from e]; rfl
  · rw [if_neg q, if_neg q]
theorem put_put {h : Heap} {a : Addr} {o o' : Obj} : hput (hput h a o) a o' = hput h a o' := by
  obtain ⟨objs, life⟩ := h
  show Heap.mk _ _ = Heap.mk _ _
  congr 1
  apply Array.ext_getElem?
  intro i
  rw [Array.getElem?_modify, Array.getElem?_modify, Array.getElem?_modify]
  by_cases q : a = i
  · subst q
    simp only [if_true]
    cases objs[a]? <;> rfl
  · simp only [if_neg q]
theorem put_size {h : Heap} {a : Addr} {o : Obj} : (hput h a o).objs.size = h.objs.size := by
  obtain ⟨objs, life⟩ := h
  exact Array.size_modify
theorem push_get {h : Heap} {es : List DictEntry} {n : Nat} : (h.push (mkD es n)).get? h.objs.size = some (mkD es n) := by
  refine get_of ?_
  obtain ⟨objs, life⟩ := h
  show (objs.push _)[objs.size]? = _
  simp
theorem put_push {h : Heap} {o o' : Obj} : hput (h.push o) h.objs.size o' = h.push o' := by
  obtain ⟨objs, life⟩ := h
  show Heap.mk _ _ = Heap.mk _ _
  congr 1
  apply Array.ext_getElem?
  intro i
  show ((objs.push o).modify objs.size _)[i]? = _
  rw [Array.getElem?_modify, Array.getElem?_push, Array.getElem?_push]
  by_cases q : objs.size = i
  · subst q; simp
  · rw [if_neg q, if_neg (Ne.symm q), if_neg (Ne.symm q)]
theorem places_none {es : List DictEntry} {k : Int} (hk : ∀ e ∈ es, e.hash ≠ k) : placesWithHash es.toArray.size (fun i => es.toArray[i]?.map (·.hash)) k = [] := by
  unfold placesWithHash
  refine List.filter_eq_nil_iff.mpr fun i _ => ?_
  simp
  intro x hx
  exact hk x (List.mem_of_getElem? hx)
section
variable {w : World} {p : Pos} {h : Heap} {g : Array GenState} {dr : Drawn} {tk : Nat} {os : OsState} {d : Addr} {es : List DictEntry} {n : Nat}
theorem R.dictEntries {part : Option Value} (e : h.get? d = some (mkD es n)) : R w 1 (PySem.dictEntries d part) ⟨h, g, dr, tk, os⟩ p es.toArray ⟨h, g, dr, tk, os⟩ p := R.bind (m := 0) (R.loadPart e) R.pure
theorem R.dictEpoch {part : Option Value} (e : h.get? d = some (mkD es n)) : R w 1 (PySem.dictEpoch d part) ⟨h, g, dr, tk, os⟩ p n ⟨h, g, dr, tk, os⟩ p := R.bind (m := 0) (R.loadPart e) R.pure
theorem R.updKeys {part : Option Value} {x : DictEntry} (e : h.get? d = some (mkD es n)) (hd : Nat.ble 11 d = true) (hl : es.length ≤ 10000) : R w 3 (updateDictKeys d (·.push x) part) ⟨h, g, dr, tk, os⟩ p () ⟨hput h d (mkD (es ++ [x]) (n + 1)), g, dr, tk, os⟩ p := by
  have eo : Obj.mapDictKeys (·.push x) (mkD es n) = mkD (es ++ [x]) (n + 1) := by
    show Obj.mk _ _ _ _ = Obj.mk _ _ _ _
    simp
  have u : R w 1 (PySem.updatePart d part (Obj.mapDictKeys (·.push x))) ⟨h, g, dr, tk, os⟩ p () ⟨hput h d (mkD (es ++ [x]) (n + 1)), g, dr, tk, os⟩ p := by
    have := R.updatePart (w := w) (p := p) (g := g) (dr := dr) (tk := tk) (os := os) (part := part) (f := Obj.mapDictKeys (·.push x)) e hd
    rw [upd_put e, eo] at this
    exact this
  refine R.bind (n := 1) (m := 2) (R.loadPart e) ?_
  refine R.bind (n := 1) (m := 1) u ?_
  refine R.bind (n := 1) (m := 0) (R.loadPart (get_put e)) ?_
  have : (mkD (es ++ [x]) (n + 1)).data.pastItsLine = none := by
    show (if (es ++ [x]).toArray.size > sizeLine + 1 then some _ else none) = none
    rw [if_neg]
    simp [sizeLine]
    omega
  rw [this]
  exact R.pure
theorem R.find0 {k : Int} {t : Tok} (e : h.get? d = some (mkD es n)) (hk : ∀ x ∈ es, x.hash ≠ k) : R w 1 (dictFind d (.int k t) k) ⟨h, g, dr, tk, os⟩ p none ⟨h, g, dr, tk, os⟩ p := by
  unfold dictFind
  refine R.hold (R.bind (n := 1) (m := 0) (R.dictEntries e) ?_)
  dsimp only
  rw [places_none hk]
  exact R.pure
theorem R.dictSet {k : Int} {t : Tok} {v : Value} (e : h.get? d = some (mkD es n)) (hd : Nat.ble 11 d = true) (hl : es.length ≤ 10000) (hk : ∀ x ∈ es, x.hash ≠ k) (h0 : 0 ≤ k) (h1 : k < 2 ^ 60) :
    R w 10 (PySem.dictSet d (.int k t) v) ⟨h, g, dr, tk, os⟩ p () ⟨hput h d (mkD (es ++ [⟨k, .int k t, v⟩]) (n + 1)), g, dr, tk + 1, os⟩ p := by
  unfold PySem.dictSet
  refine R.hold (R.bind (n := 5) (m := 5) (R.hash h0 h1) ?_)
  unfold dictSetHashed
  refine R.hold (R.bind (n := 1) (m := 4) (R.find0 e hk) ?_)
  dsimp only
  exact R.bind (n := 1) (m := 3) R.rule (R.updKeys e hd hl)
theorem R.dictPut {k : Int} {t : Tok} {v : Value} (e : h.get? d = some (mkD es n)) (hd : Nat.ble 11 d = true) (hl : es.length ≤ 10000) (hk : ∀ x ∈ es, x.hash ≠ k) :
    R w 4 (PySem.dictPut d k (.int k t) v) ⟨h, g, dr, tk, os⟩ p () ⟨hput h d (mkD (es ++ [⟨k, .int k t, v⟩]) (n + 1)), g, dr, tk, os⟩ p := by
  unfold PySem.dictPut
  refine R.bind (n := 1) (m := 3) (R.find0 e hk) ?_
  dsimp only
  exact R.updKeys e hd hl
end
end Wu
end
section
namespace Wu
set_option linter.unusedVariables false
open PySem PySem.Spec PySem.Calls PyProof.Rows PySem.W
/-- a pair of a display: a whole number and a text, both constants -/
noncomputable def pr (q : Pos) (kv : Int × Str) : Sem Value × Sem Value := (PySem.mkInt kv.1, (PySem.mkText kv.2).bind fun x => (standAt q).bind fun _ => .pure x)
noncomputable def asc : Int → List (Int × Str) → Prop
  | _, [] => True
  | b, kv :: l => b < kv.1 ∧ kv.1 < 2 ^ 60 ∧ asc kv.1 l
/-- the ends of a list of entries -/
noncomputable def below (b : Int) (es : List DictEntry) : Prop := ∀ e ∈ es, e.hash ≤ b
theorem below_mono {b b' : Int} {es : List DictEntry} (h : below b es) (l : b ≤ b') : below b' es := fun e he => Int.le_trans (h e he) l
theorem below_snoc {b : Int} {es : List DictEntry} {x : DictEntry} (h : below b es) (l : x.hash ≤ b) : below b (es ++ [x]) := by
  intro e he
  rcases List.mem_append.mp he with he | he
  · exact h e he
  · rw [List.mem_singleton.mp he]; exact l
section
variable {w : World} {q : Pos} {g : Array GenState} {dr : Drawn} {os : OsState} {d : Addr}
theorem R.val {h : Heap} {tk : Nat} {p : Pos} {x : Str} : R w 2 ((PySem.mkText x).bind fun x => (standAt q).bind fun _ => .pure x) ⟨h, g, dr, tk, os⟩ p (.str x tk) ⟨h, g, dr, tk + 1, os⟩ q :=
  R.bind (n := 1) (m := 1) R.mkText (R.bind (n := 1) (m := 0) R.at R.pure)
noncomputable def subBody (d : Addr) : (Sem Value × Sem Value) → PUnit → Sem (ForInStep PUnit) := fun x _ => do
  let kv ← x.1
  let vv ← holding [kv] x.2
  holding [kv, vv] (PySem.dictSet d kv vv)
  pure (.yield PUnit.unit)
theorem R.loop3 {h : Heap} {o : Obj} (e : h.get? d = some o) (hd : Nat.ble 11 d = true) : ∀ (l : List (Int × Str)) (b : Int) (es : List DictEntry) (n tk : Nat), 0 ≤ b → asc b l → below b es → es.length + l.length ≤ 10000 →
    R w (13 * l.length) (forIn (l.map (pr q)) PUnit.unit (subBody d)) ⟨hput h d (mkD es n), g, dr, tk, os⟩ q PUnit.unit ⟨hput h d (mkD (es ++ ents3 tk l) (n + l.length)), g, dr, tk + 3 * l.length, os⟩ q
  | [], b, es, n, tk, _, _, _, _ => by
    rw [ents3, List.append_nil]
    exact R.forNil
  | kv :: l, b, es, n, tk, b0, ha, hb, hl => by
    obtain ⟨a1, a2, a3⟩ := ha
    have hne : ∀ x ∈ es, x.hash ≠ kv.1 := fun x hx => by have := hb x hx; omega
    rw [List.length_cons] at hl
    have s1 : R w 13 (subBody d (pr q kv) PUnit.unit) ⟨hput h d (mkD es n), g, dr, tk, os⟩ q (.yield PUnit.unit) ⟨hput h d (mkD (es ++ [⟨kv.1, .int kv.1 tk, .str kv.2 (tk + 1)⟩]) (n + 1)), g, dr, tk + 3, os⟩ q := by
      refine R.bind (n := 1) (m := 12) R.mkInt (R.bind (n := 2) (m := 10) (R.hold R.val) (R.bind (n := 10) (m := 0) (a := ()) (R.hold ?_) R.pure))
      have := R.dictSet (w := w) (p := q) (g := g) (dr := dr) (tk := tk + 2) (os := os) (t := tk) (v := .str kv.2 (tk + 1)) (get_put (es := es) (n := n) e) hd (by omega) hne (by omega) a2
      rw [put_put] at this
      exact this
    have s2 := R.loop3 e hd l kv.1 (es ++ [⟨kv.1, .int kv.1 tk, .str kv.2 (tk + 1)⟩]) (n + 1) (tk + 3) (by omega) a3 (below_snoc (below_mono hb (by omega)) (Int.le_refl _)) (by rw [List.length_append, List.length_singleton]; omega)
    have e1 : 13 * (kv :: l).length = 13 + 13 * l.length := by rw [List.length_cons]; omega
    have e2 : n + (kv :: l).length = n + 1 + l.length := by rw [List.length_cons]; omega
    have e3 : tk + 3 * (kv :: l).length = tk + 3 + 3 * l.length := by rw [List.length_cons]; omega
    have e4 : es ++ ents3 tk (kv :: l) = es ++ [⟨kv.1, .int kv.1 tk, .str kv.2 (tk + 1)⟩] ++ ents3 (tk + 3) l := by rw [ents3, List.append_assoc]; rfl
    rw [e1, e2, e3, e4]
    exact R.forCons s1 s2
theorem size_big {h : Heap} (hs : 11 ≤ h.objs.size) : Nat.ble 11 h.objs.size = true := Nat.ble_eq_true_of_le hs
/-- a long run of a display -/
theorem R.subLong {h : Heap} {l : List (Int × Str)} {tk : Nat} (hs : 11 ≤ h.objs.size) (hl : 15 < l.length) (hl2 : l.length ≤ 10000) {b : Int} (b0 : 0 ≤ b) (ha : asc b l) :
    R w (2 + 13 * l.length) (subDict (l.map (pr q))) ⟨h, g, dr, tk, os⟩ q h.objs.size ⟨h.push (mkD (ents3 tk l) l.length), g, dr, tk + 3 * l.length, os⟩ q := by
  have e : 2 + 13 * l.length = 1 + ((1 + 13 * l.length) + 0) := by omega
  rw [e]
  unfold subDict
  refine R.bind R.alloc (R.bind (a := PUnit.unit) (R.hold ?_) R.pure)
  rw [List.length_map, if_neg (by omega)]
  refine R.bind R.rule ?_
  have x := R.loop3 (w := w) (q := q) (g := g) (dr := dr) (os := os) (d := h.objs.size) (h := h.push (mkD [] 0)) (push_get) (size_big hs) l b [] 0 tk b0 ha (fun _ h => by cases h) (by rw [List.length_nil]; omega)
  rw [put_push, put_push, List.nil_append, Nat.zero_add] at x
  exact R.bind (n := 13 * l.length) (m := 0) x R.pure
end
end Wu
end
section
namespace Wu
set_option linter.unusedVariables false
open PySem PySem.Spec PySem.Calls PyProof.Rows PySem.W
noncomputable def vals2 : Nat → List (Int × Str) → List (Value × Value)
  | _, [] => []
  | t, kv :: l => (.int kv.1 t, .str kv.2 (t + 1)) :: vals2 (t + 2) l
section
variable {w : World} {q : Pos} {g : Array GenState} {dr : Drawn} {os : OsState} {d a : Addr}
theorem R.evalP {h : Heap} : ∀ (l : List (Int × Str)) (tk : Nat), R w (3 * l.length) (evalPairs (l.map (pr q))) ⟨h, g, dr, tk, os⟩ q (vals2 tk l) ⟨h, g, dr, tk + 2 * l.length, os⟩ q
  | [], tk => R.pure
  | kv :: l, tk => by
    have e1 : 3 * (kv :: l).length = 1 + (2 + (3 * l.length + 0)) := by rw [List.length_cons]; omega
    have e2 : tk + 2 * (kv :: l).length = tk + 1 + 1 + 2 * l.length := by rw [List.length_cons]; omega
    rw [e1, e2]
    exact R.bind R.mkInt (R.bind (R.hold R.val) (R.bind (R.hold (R.evalP l (tk + 2))) R.pure))
noncomputable def putBody (d : Addr) : (Value × Value) → PUnit → Sem (ForInStep PUnit) := fun x _ => do
  PySem.dictSet d x.1 x.2
  pure (.yield PUnit.unit)
theorem R.loop2 {h : Heap} {o : Obj} (e : h.get? d = some o) (hd : Nat.ble 11 d = true) : ∀ (l : List (Int × Str)) (b : Int) (es : List DictEntry) (n tk t : Nat), 0 ≤ b → asc b l → below b es → es.length + l.length ≤ 10000 →
    R w (10 * l.length) (forIn (vals2 t l) PUnit.unit (putBody d)) ⟨hput h d (mkD es n), g, dr, tk, os⟩ q PUnit.unit ⟨hput h d (mkD (es ++ ents2 t l) (n + l.length)), g, dr, tk + l.length, os⟩ q
  | [], b, es, n, tk, t, _, _, _, _ => by
    rw [ents2, List.append_nil]
    exact R.forNil
  | kv :: l, b, es, n, tk, t, b0, ha, hb, hl => by
    obtain ⟨a1, a2, a3⟩ := ha
    have hne : ∀ x ∈ es, x.hash ≠ kv.1 := fun x hx => by have := hb x hx; omega
    rw [List.length_cons] at hl
    have s1 : R w 10 (putBody d (.int kv.1 t, .str kv.2 (t + 1)) PUnit.unit) ⟨hput h d (mkD es n), g, dr, tk, os⟩ q (.yield PUnit.unit) ⟨hput h d (mkD (es ++ [⟨kv.1, .int kv.1 t, .str kv.2 (t + 1)⟩]) (n + 1)), g, dr, tk + 1, os⟩ q := by
      refine R.bind (n := 10) (m := 0) (a := ()) ?_ R.pure
      have := R.dictSet (w := w) (p := q) (g := g) (dr := dr) (tk := tk) (os := os) (t := t) (v := .str kv.2 (t + 1)) (get_put (es := es) (n := n) e) hd (by omega) hne (by omega) a2
      rw [put_put] at this
      exact this
    have s2 := R.loop2 e hd l kv.1 (es ++ [⟨kv.1, .int kv.1 t, .str kv.2 (t + 1)⟩]) (n + 1) (tk + 1) (t + 2) (by omega) a3 (below_snoc (below_mono hb (by omega)) (Int.le_refl _)) (by rw [List.length_append, List.length_singleton]; omega)
    have e1 : 10 * (kv :: l).length = 10 + 10 * l.length := by rw [List.length_cons]; omega
    have e2 : n + (kv :: l).length = n + 1 + l.length := by rw [List.length_cons]; omega
    have e3 : tk + (kv :: l).length = tk + 1 + l.length := by rw [List.length_cons]; omega
    have e4 : es ++ ents2 t (kv :: l) = es ++ [⟨kv.1, .int kv.1 t, .str kv.2 (t + 1)⟩] ++ ents2 (t + 2) l := by rw [ents2, List.append_assoc]; rfl
    rw [e1, e2, e3, e4]
    exact R.forCons s1 s2
/-- a short run of a display -/
theorem R.subShort {h : Heap} {l : List (Int × Str)} {tk : Nat} (hs : 11 ≤ h.objs.size) (hl : l.length ≤ 15) {b : Int} (b0 : 0 ≤ b) (ha : asc b l) :
    R w (1 + 13 * l.length) (subDict (l.map (pr q))) ⟨h, g, dr, tk, os⟩ q h.objs.size ⟨h.push (mkD (ents2 tk l) l.length), g, dr, tk + 3 * l.length, os⟩ q := by
  have e : 1 + 13 * l.length = 1 + ((3 * l.length + 10 * l.length) + 0) := by omega
  rw [e]
  unfold subDict
  refine R.bind R.alloc (R.bind (a := PUnit.unit) (R.hold ?_) R.pure)
  rw [List.length_map, if_pos (by omega)]
  refine R.bind (R.evalP l tk) (R.hold ?_)
  have x := R.loop2 (w := w) (q := q) (g := g) (dr := dr) (os := os) (d := h.objs.size) (h := h.push (mkD [] 0)) (push_get) (size_big hs) l b [] 0 (tk + 2 * l.length) tk b0 ha (fun _ h => by cases h) (by rw [List.length_nil]; omega)
  rw [put_push, put_push, List.nil_append, Nat.zero_add] at x
  have e3 : tk + 3 * l.length = tk + 2 * l.length + l.length := by omega
  rw [e3]
  exact R.bind (n := 10 * l.length) (m := 0) x R.pure
/-- entries keyed by whole numbers, upwards -/
noncomputable def ascE : Int → List DictEntry → Prop
  | _, [] => True
  | b, e :: l => b < e.hash ∧ (∃ t, e.key = .int e.hash t) ∧ ascE e.hash l
theorem sub_dict : isSubtype (.type "dict") (.type "dict") = pure true := by rw [isSubtype_type]; kernel_rfl
theorem look_iter : typeLookup (.type "dict") "__iter__" = pure (some (.builtin "dict.__iter__")) := by rw [typeLookup_type, builtinLookup_eq_fast]; kernel_rfl
theorem R.typeOf {h : Heap} {tk : Nat} {p : Pos} {es : List DictEntry} {n : Nat} (e : h.get? a = some (mkD es n)) : R w 1 (PySem.typeOf (.ref a)) ⟨h, g, dr, tk, os⟩ p (.type "dict") ⟨h, g, dr, tk, os⟩ p := R.bind (n := 1) (m := 0) (R.loadPart e) R.pure
theorem r_inst {h : Heap} {tk : Nat} {p : Pos} {es : List DictEntry} {n : Nat} (e : h.get? a = some (mkD es n)) : R w 1 (isInstance (.ref a) (.type "dict")) ⟨h, g, dr, tk, os⟩ p true ⟨h, g, dr, tk, os⟩ p := by
  unfold isInstance
  refine R.bind (n := 1) (m := 0) (R.typeOf e) ?_
  rw [sub_dict]; exact R.pure
theorem r_spec {h : Heap} {tk : Nat} {p : Pos} {es : List DictEntry} {n : Nat} (e : h.get? a = some (mkD es n)) : R w 1 (specialOf (.ref a) "__iter__") ⟨h, g, dr, tk, os⟩ p (some (.builtin "dict.__iter__")) ⟨h, g, dr, tk, os⟩ p := by
  unfold specialOf
  refine R.bind (n := 1) (m := 0) (R.typeOf e) ?_
  rw [look_iter]; exact R.pure
theorem iter_eq : ((some (Value.builtin "dict.__iter__")) == some (Value.builtin "dict.__iter__")) = true := by decide +kernel
end
end Wu
end
section
namespace Wu
set_option linter.unusedVariables false
open PySem PySem.Spec PySem.Calls PyProof.Rows PySem.W
theorem put_self {h : Heap} {a : Addr} {o : Obj} (e : h.get? a = some o) : hput h a o = h := by
  obtain ⟨objs, life⟩ := h
  have e := objs_of e
  show Heap.mk _ _ = Heap.mk _ _
  congr 1
  apply Array.ext_getElem?
  intro i
  rw [Array.getElem?_modify]
  by_cases q : a = i
  · subst q
    rw [if_pos rfl, show objs[a]? = some o from e]; rfl
  · rw [if_neg q]
theorem ascE_at : ∀ {L : List DictEntry} {b : Int} {M : List DictEntry} {i : Nat} {e : DictEntry}, ascE b L → below b M → L[i]? = some e → (∃ t, e.key = .int e.hash t) ∧ ∀ x ∈ M ++ L.take i, x.hash ≠ e.hash
  | [], _, _, _, _, _, _, h => by simp at h
  | x :: L, b, M, 0, e, ha, hb, h => by
    obtain ⟨a1, a2, a3⟩ := ha
    have : x = e := by simpa using h
    subst this
    refine ⟨a2, fun y hy => ?_⟩
    rw [List.take_zero, List.append_nil] at hy
    have := hb y hy
    omega
  | x :: L, b, M, i + 1, e, ha, hb, h => by
    obtain ⟨a1, a2, a3⟩ := ha
    have h' : L[i]? = some e := by simpa using h
    have r := ascE_at (M := M ++ [x]) a3 (below_snoc (below_mono hb (by omega)) (Int.le_refl _)) h'
    refine ⟨r.1, fun y hy => r.2 y ?_⟩
    rw [List.take_succ_cons] at hy
    simpa using hy
section
variable {w : World} {q : Pos} {g : Array GenState} {dr : Drawn} {os : OsState} {d a : Addr}
theorem r_range {f : Nat → PUnit → Sem (ForInStep PUnit)} {St : Nat → Shared} {n : Nat} (hstep : ∀ i < n, R w 6 (f i PUnit.unit) (St i) q (.yield PUnit.unit) (St (i + 1)) q) : ∀ m k, k + m = n → R w (6 * m) (forIn (List.range' k m) PUnit.unit f) (St k) q PUnit.unit (St n) q
  | 0, k, h => by
    have : k = n := by omega
    subst this
    exact R.forNil
  | m + 1, k, h => by
    have e : 6 * (m + 1) = 6 + 6 * m := by omega
    rw [e, List.range'_succ]
    exact R.forCons (hstep k (by omega)) (r_range hstep m (k + 1) (by omega))
theorem r_merge {h : Heap} {tk : Nat} {M L : List DictEntry} {n m : Nat} (ed : h.get? d = some (mkD M n)) (ea : h.get? a = some (mkD L m)) (ne : a ≠ d) (hd : Nat.ble 11 d = true) (hs : (a == sysModules) = false) (hM : M ≠ []) {b : Int} (hb : below b M) (hL : ascE b L) (hl : M.length + L.length ≤ 10000) :
    R w (5 + 6 * L.length) (mergeMapping d (.ref a) false) ⟨h, g, dr, tk, os⟩ q () ⟨hput h d (mkD (M ++ L) (n + L.length)), g, dr, tk, os⟩ q := by
  have e : 5 + 6 * L.length = 1 + (1 + (0 + (1 + (1 + (1 + (6 * L.length + 0)))))) := by omega
  rw [e]
  unfold mergeMapping
  refine R.bind (r_inst ea) ?_
  rw [if_pos rfl]
  refine R.bind (r_spec ea) ?_
  rw [iter_eq]
  refine R.bind (n := 0) R.pure ?_
  dsimp only
  rw [if_neg (by rw [hs]; decide)]
  refine R.bind (R.dictEntries ed) ?_
  have hne : ¬ (M.toArray.isEmpty = true) := by
    cases M with
    | nil => exact absurd rfl hM
    | cons x M => simp
  rw [if_neg hne]
  refine R.bind (R.dictEntries ea) (R.bind (R.dictEpoch ea) ?_)
  have z : (⟨h, g, dr, tk, os⟩ : Shared) = ⟨hput h d (mkD (M ++ L.take 0) (n + 0)), g, dr, tk, os⟩ := by rw [List.take_zero, List.append_nil, Nat.add_zero, put_self ed]
  have z2 : (⟨hput h d (mkD (M ++ L) (n + L.length)), g, dr, tk, os⟩ : Shared) = ⟨hput h d (mkD (M ++ L.take L.length) (n + L.length)), g, dr, tk, os⟩ := by rw [List.take_length]
  rw [z, z2, List.size_toArray, List.range_eq_range']
  refine R.bind (n := 6 * L.length) (m := 0) (a := PUnit.unit) (r_range (n := L.length) (St := fun i => ⟨hput h d (mkD (M ++ L.take i) (n + i)), g, dr, tk, os⟩) (fun i hi => ?_) L.length 0 (Nat.zero_add _)) R.pure
  have ea' : (hput h d (mkD (M ++ L.take i) (n + i))).get? a = some (mkD L m) := by rw [get_put_ne ne]; exact ea
  have ed' := get_put (es := M ++ L.take i) (n := n + i) ed
  refine R.bind (n := 1) (m := 5) (R.dictEntries ea') ?_
  have hx : L.toArray[i]? = some L[i] := by simp [hi]
  obtain ⟨⟨t, hk⟩, hdist⟩ := ascE_at (i := i) (e := L[i]) hL hb (by simp [hi])
  rw [hx]
  dsimp only
  refine R.bind (n := 4) (m := 1) (a := ()) (s1 := ⟨hput h d (mkD (M ++ L.take (i + 1)) (n + (i + 1))), g, dr, tk, os⟩) (p1 := q) (R.hold ?_) ?_
  · rw [if_neg (by decide)]
    have len : (M ++ L.take i).length ≤ 10000 := by rw [List.length_append, List.length_take]; omega
    have := R.dictPut (w := w) (p := q) (g := g) (dr := dr) (tk := tk) (os := os) (t := t) (v := L[i].val) ed' hd len hdist
    rw [put_put] at this
    have ex : (⟨L[i].hash, .int L[i].hash t, L[i].val⟩ : DictEntry) = L[i] := by rw [← hk]
    rw [ex, hk.symm, List.append_assoc, ← List.take_succ_eq_append_getElem hi] at this
    exact this
  · have ea2 : (hput h d (mkD (M ++ L.take (i + 1)) (n + (i + 1)))).get? a = some (mkD L m) := by rw [get_put_ne ne]; exact ea
    refine R.bind (n := 1) (m := 0) (R.dictEpoch ea2) ?_
    rw [if_neg (by simp)]
    exact R.pure
end
end Wu
end
section
namespace Wu
set_option linter.unusedVariables false
open PySem PySem.Spec PySem.Calls PyProof.Rows PySem.W
noncomputable abbrev DSt := Option Addr × List (Sem Value × Sem Value)
theorem dd : ∃ (f : Option (Sem Value) × Sem Value → DSt → Sem (ForInStep DSt)) (tail : DSt → Sem Value) (hdl : Addr → Value → Sem Unit),
    (∀ items, dictDisplay items = (forIn items ((none, []) : DSt) f).bind tail) ∧
    (∀ k v m r, r.length ≠ 16 → f (some k, v) (m, r) = .pure (.yield (m, r ++ [(k, v)]))) ∧
    (∀ k v r, r.length = 16 → f (some k, v) (none, r) = ((subDict (r ++ [(k, v)])).bind fun d => .pure (some d)).bind fun m => .pure (.yield (m, []))) ∧
    (∀ k v r d, r.length = 16 → f (some k, v) (some d, r) = ((holding [.ref d] (subDict (r ++ [(k, v)]))).bind fun sub => ((holding [.ref d, .ref sub] (mergeMapping d (.ref sub) false)).onRaise (hdl d)).bind fun _ => .pure (some d)).bind fun m => .pure (.yield (m, []))) ∧
    (∀ r d, r ≠ [] → tail (some d, r) = ((holding [.ref d] (subDict r)).bind fun sub => ((holding [.ref d, .ref sub] (mergeMapping d (.ref sub) false)).onRaise (hdl d)).bind fun _ => .pure (some d)).bind fun o => match o with | some d => .pure (.ref d) | none => newDict) := by
  refine ⟨_, _, fun d x => (holding [.ref d, x] (runValue (.builtin "proto.let_go" {}))).bind fun _ => .pure (), fun items => rfl, ?_, ?_, ?_, ?_⟩
  · intro k v m r h
    dsimp only
    rw [if_neg (by rw [List.length_append, List.length_singleton]; simp; exact h)]
    rfl
  · intro k v r h
    dsimp only
    rw [if_pos (by rw [List.length_append, List.length_singleton, h]; rfl), if_neg (by cases r <;> simp)]
    rfl
  · intro k v r d h
    dsimp only
    rw [if_pos (by rw [List.length_append, List.length_singleton, h]; rfl), if_neg (by cases r <;> simp)]
    rfl
  · intro r d h
    dsimp only
    rw [if_neg (by cases r with | nil => exact absurd rfl h | cons => simp)]
    rfl
end Wu
end
section
namespace Wu
set_option linter.unusedVariables false
open PySem PySem.Spec PySem.Calls PyProof.Rows PySem.W
noncomputable def lastK : Int → List (Int × Str) → Int
  | b, [] => b
  | _, kv :: l => lastK kv.1 l
theorem asc_app : ∀ {b : Int} {l1 l2 : List (Int × Str)}, asc b (l1 ++ l2) → asc b l1 ∧ asc (lastK b l1) l2 ∧ b ≤ lastK b l1
  | b, [], l2, h => ⟨trivial, h, Int.le_refl _⟩
  | b, kv :: l1, l2, h => by
    obtain ⟨a1, a2, a3⟩ := h
    obtain ⟨r1, r2, r3⟩ := asc_app (l1 := l1) a3
    exact ⟨⟨a1, a2, r1⟩, r2, by show b ≤ lastK kv.1 l1; omega⟩
theorem ents3_facts : ∀ {b : Int} {l : List (Int × Str)} (t : Nat), asc b l → ascE b (ents3 t l) ∧ below (lastK b l) (ents3 t l) ∧ b ≤ lastK b l
  | b, [], t, h => ⟨trivial, (by intro e he; cases he), Int.le_refl _⟩
  | b, kv :: l, t, h => by
    obtain ⟨a1, a2, a3⟩ := h
    obtain ⟨r1, r2, r3⟩ := ents3_facts (t + 3) a3
    refine ⟨⟨a1, ⟨t, rfl⟩, r1⟩, fun e he => ?_, by show b ≤ lastK kv.1 l; omega⟩
    rcases List.mem_cons.mp he with rfl | he
    · exact r3
    · exact r2 e he
theorem ents2_facts : ∀ {b : Int} {l : List (Int × Str)} (t : Nat), asc b l → ascE b (ents2 t l)
  | b, [], t, h => trivial
  | b, kv :: l, t, h => by
    obtain ⟨a1, a2, a3⟩ := h
    exact ⟨a1, ⟨t, rfl⟩, ents2_facts (t + 2) a3⟩
theorem ents3_len : ∀ (t : Nat) (l : List (Int × Str)), (ents3 t l).length = l.length
  | _, [] => rfl
  | t, kv :: l => by rw [ents3, List.length_cons, ents3_len, List.length_cons]
theorem ents2_len : ∀ (t : Nat) (l : List (Int × Str)), (ents2 t l).length = l.length
  | _, [] => rfl
  | t, kv :: l => by rw [ents2, List.length_cons, ents2_len, List.length_cons]
/-- a heap: below, the main table, then its parts -/
noncomputable def HH (A : Array Obj) (life : Life) (M : Obj) (subs : List Obj) : Heap := ⟨A.push M ++ subs.toArray, life⟩
section
variable {A : Array Obj} {life : Life} {M M' o : Obj} {subs : List Obj} {es : List DictEntry} {n : Nat}
theorem HH_size : (HH A life M subs).objs.size = A.size + 1 + subs.length := by
  show (A.push M ++ subs.toArray).size = _
  simp
  omega
theorem HH_push : (HH A life M subs).push o = HH A life M (subs ++ [o]) := by
  show Heap.mk _ _ = Heap.mk _ _
  congr 1
  simp
theorem HH_main : (HH A life (mkD es n) subs).get? A.size = some (mkD es n) := by
  refine get_of ?_
  show (A.push (mkD es n) ++ subs.toArray)[A.size]? = _
  rw [Array.getElem?_append_left (by simp)]
  simp
theorem HH_last : (HH A life M (subs ++ [mkD es n])).get? (A.size + 1 + subs.length) = some (mkD es n) := by
  refine get_of ?_
  show (A.push M ++ (subs ++ [mkD es n]).toArray)[A.size + 1 + subs.length]? = _
  rw [Array.getElem?_append_right (by simp)]
  simp
theorem HH_put : hput (HH A life M subs) A.size M' = HH A life M' subs := by
  show Heap.mk _ _ = Heap.mk _ _
  congr 1
  apply Array.ext_getElem?
  intro i
  rw [Array.getElem?_modify]
  by_cases q : A.size = i
  · subst q
    rw [if_pos rfl, Array.getElem?_append_left (by simp), Array.getElem?_append_left (by simp)]
    simp
  · rw [if_neg q]
    by_cases l : i < A.size
    · rw [Array.getElem?_append_left (by simp; omega), Array.getElem?_append_left (by simp; omega), Array.getElem?_push, Array.getElem?_push, if_neg (by omega), if_neg (by omega)]
    · rw [Array.getElem?_append_right (by simp; omega), Array.getElem?_append_right (by simp; omega)]
      simp
end
noncomputable abbrev itm (q : Pos) (kv : Int × Str) : Option (Sem Value) × Sem Value := (some (pr q kv).1, (pr q kv).2)
section
variable {w : World} {q : Pos} {g : Array GenState} {dr : Drawn} {os : OsState} {A : Array Obj} {life : Life}
variable {f : Option (Sem Value) × Sem Value → DSt → Sem (ForInStep DSt)} {hdl : Addr → Value → Sem Unit}
theorem skip_eq (P1 : ∀ k v m r, r.length ≠ 16 → f (some k, v) (m, r) = .pure (.yield (m, r ++ [(k, v)]))) : ∀ (l rest : List (Int × Str)) (m : Option Addr) (r : List (Sem Value × Sem Value)), r.length + l.length ≤ 16 →
    forIn (m := Sem) ((l ++ rest).map (itm q)) ((m, r) : DSt) f = forIn (rest.map (itm q)) ((m, r ++ l.map (pr q)) : DSt) f
  | [], rest, m, r, h => by rw [List.map_nil, List.append_nil, List.nil_append]
  | kv :: l, rest, m, r, h => by
    rw [List.length_cons] at h
    rw [List.cons_append, List.map_cons, List.forIn_cons, P1 _ _ _ _ (by omega)]
    show forIn ((l ++ rest).map (itm q)) ((m, r ++ [((pr q kv).1, (pr q kv).2)]) : DSt) f = _
    rw [skip_eq P1 l rest m _ (by rw [List.length_append, List.length_singleton]; omega), List.append_assoc]
    rfl
theorem group_eq (P1 : ∀ k v m r, r.length ≠ 16 → f (some k, v) (m, r) = .pure (.yield (m, r ++ [(k, v)]))) {l rest : List (Int × Str)} {m : Option Addr} (h : l.length = 17) :
    ∃ (l' : List (Int × Str)) (kv : Int × Str), l = l' ++ [kv] ∧ l'.length = 16 ∧ forIn (m := Sem) ((l ++ rest).map (itm q)) ((m, []) : DSt) f = (f (itm q kv) (m, l'.map (pr q))).bind fun s => match s with | .done b => .pure b | .yield b => forIn (rest.map (itm q)) b f := by
  have hne : l ≠ [] := by rintro rfl; simp at h
  refine ⟨l.dropLast, l.getLast hne, (List.dropLast_concat_getLast hne).symm, by rw [List.length_dropLast, h], ?_⟩
  conv => lhs; rw [← List.dropLast_concat_getLast hne, List.append_assoc]
  rw [skip_eq P1 _ _ _ _ (by rw [List.length_nil, List.length_dropLast, h]; decide), List.nil_append, List.singleton_append, List.map_cons, List.forIn_cons]
  exact congrArg (Sem.bind _) (funext fun s => by cases s <;> rfl)
theorem pr_snoc {l' : List (Int × Str)} {kv : Int × Str} : l'.map (pr q) ++ [((itm q kv).1.getD (.pure .none), (itm q kv).2)] = (l' ++ [kv]).map (pr q) := by rw [List.map_append]; rfl
/-- one more group into the main table -/
theorem r_group (P4 : ∀ k v r d, r.length = 16 → f (some k, v) (some d, r) = ((holding [.ref d] (subDict (r ++ [(k, v)]))).bind fun sub => ((holding [.ref d, .ref sub] (mergeMapping d (.ref sub) false)).onRaise (hdl d)).bind fun _ => .pure (some d)).bind fun m => .pure (.yield (m, [])))
    (P1 : ∀ k v m r, r.length ≠ 16 → f (some k, v) (m, r) = .pure (.yield (m, r ++ [(k, v)])))
    (hA : 11 ≤ A.size) {l rest : List (Int × Str)} (hl : l.length = 17) {M : List DictEntry} {subs : List Obj} {tk : Nat} {b : Int} (b0 : 0 ≤ b) (ha : asc b l) (hM : M ≠ []) (hb : below b M) (hml : M.length ≤ 5000)
    {k : Nat} {c : DSt} {s' : Shared} {p' : Pos} (K : R w k (forIn (rest.map (itm q)) ((some A.size, []) : DSt) f) ⟨HH A life (dictO (M ++ ents3 tk l)) (subs ++ [dictO (ents3 tk l)]), g, dr, tk + 51, os⟩ q c s' p') :
    R w (330 + k) (forIn ((l ++ rest).map (itm q)) ((some A.size, []) : DSt) f) ⟨HH A life (dictO M) subs, g, dr, tk, os⟩ q c s' p' := by
  obtain ⟨l', kv, e1, e2, e3⟩ := group_eq (q := q) (f := f) P1 (l := l) (rest := rest) (m := some A.size) hl
  rw [e3, show itm q kv = (some (pr q kv).1, (pr q kv).2) from rfl, P4 _ _ _ _ (by rw [List.length_map]; exact e2)]
  have er : l'.map (pr q) ++ [((pr q kv).1, (pr q kv).2)] = l.map (pr q) := by rw [e1, List.map_append]; rfl
  rw [er]
  have e : 330 + k = (((2 + 13 * 17) + ((5 + 6 * 17) + 0)) + 0) + k := by omega
  rw [e]
  have s1 := R.subLong (w := w) (q := q) (g := g) (dr := dr) (os := os) (tk := tk) (h := HH A life (dictO M) subs) (l := l) (by rw [HH_size]; omega) (by omega) (by omega) b0 ha
  rw [hl, HH_push, HH_size] at s1
  have ef : ents3_len tk l = ents3_len tk l := rfl
  have el : (ents3 tk l).length = 17 := by rw [ents3_len, hl]
  obtain ⟨f1, f2, f3⟩ := ents3_facts tk ha
  have s2 := r_merge (w := w) (q := q) (g := g) (dr := dr) (os := os) (tk := tk + 51) (h := HH A life (dictO M) (subs ++ [mkD (ents3 tk l) 17])) (d := A.size) (a := A.size + 1 + subs.length) (M := M) (n := M.length) (L := ents3 tk l) (m := 17) HH_main HH_last (by show A.size + 1 + subs.length ≠ A.size; omega) (Nat.ble_eq_true_of_le hA)
    (beq_eq_false_iff_ne.mpr (by show A.size + 1 + subs.length ≠ sysModules; unfold sysModules; omega)) hM hb f1 (by rw [el]; omega)
  rw [el, HH_put] at s2
  have eD : mkD (M ++ ents3 tk l) (M.length + 17) = dictO (M ++ ents3 tk l) := by rw [← mkD_o, List.length_append, el]
  have eS : mkD (ents3 tk l) 17 = dictO (ents3 tk l) := by rw [← mkD_o, el]
  rw [eD, eS] at s2
  rw [eS] at s1
  refine R.bind (R.bind (R.bind (R.hold s1) (R.bind (R.onRaise (R.hold s2)) R.pure)) R.pure) K
theorem r_groups (P4 : ∀ k v r d, r.length = 16 → f (some k, v) (some d, r) = ((holding [.ref d] (subDict (r ++ [(k, v)]))).bind fun sub => ((holding [.ref d, .ref sub] (mergeMapping d (.ref sub) false)).onRaise (hdl d)).bind fun _ => .pure (some d)).bind fun m => .pure (.yield (m, [])))
    (P1 : ∀ k v m r, r.length ≠ 16 → f (some k, v) (m, r) = .pure (.yield (m, r ++ [(k, v)])))
    (hA : 11 ≤ A.size) {rest : List (Int × Str)} {k : Nat} {c : DSt} {s' : Shared} {p' : Pos} : ∀ (gs : List (List (Int × Str))) (M : List DictEntry) (subs : List Obj) (tk : Nat) (b : Int), (∀ l ∈ gs, l.length = 17) → 0 ≤ b → asc b gs.flatten → M ≠ [] → below b M → M.length + 17 * gs.length ≤ 5000 →
    R w k (forIn (rest.map (itm q)) ((some A.size, []) : DSt) f) ⟨HH A life (dictO (M ++ entsG tk gs)) (subs ++ subsG tk gs), g, dr, tk + 51 * gs.length, os⟩ q c s' p' →
    R w (330 * gs.length + k) (forIn ((gs.flatten ++ rest).map (itm q)) ((some A.size, []) : DSt) f) ⟨HH A life (dictO M) subs, g, dr, tk, os⟩ q c s' p'
  | [], M, subs, tk, b, _, _, _, _, _, _, K => by
    rw [entsG, subsG, List.append_nil, List.append_nil] at K
    rw [List.length_nil, Nat.mul_zero, Nat.zero_add]
    exact K
  | l :: gs, M, subs, tk, b, h17, b0, ha, hM, hb, hl, K => by
    rw [List.flatten_cons] at ha
    obtain ⟨a1, a2, a3⟩ := asc_app ha
    have hl0 := h17 l (List.mem_cons_self ..)
    obtain ⟨f1, f2, f3⟩ := ents3_facts tk a1
    rw [List.length_cons] at hl
    have el : (ents3 tk l).length = 17 := by rw [ents3_len, hl0]
    have e : 330 * (l :: gs).length + k = 330 + (330 * gs.length + k) := by rw [List.length_cons]; omega
    rw [e, List.flatten_cons, List.append_assoc]
    refine r_group P4 P1 hA hl0 b0 a1 hM hb (by omega) ?_
    refine r_groups P4 P1 hA gs (M ++ ents3 tk l) (subs ++ [dictO (ents3 tk l)]) (tk + 51) (lastK b l) (fun x hx => h17 x (List.mem_cons_of_mem _ hx)) (by omega) a2 (by cases M with | nil => exact absurd rfl hM | cons => simp) ?_ (by rw [List.length_append, el]; omega) ?_
    · intro x hx
      rcases List.mem_append.mp hx with hx | hx
      · have := hb x hx; omega
      · exact f2 x hx
    · have e1 : tk + 51 * (l :: gs).length = tk + 51 + 51 * gs.length := by rw [List.length_cons]; omega
      rw [e1, entsG, subsG, ← List.append_assoc] at K
      rw [List.append_assoc subs]
      exact K
end
end Wu
end
section
namespace Wu
set_option linter.unusedVariables false
open PySem PySem.Spec PySem.Calls PyProof.Rows PySem.W
theorem odds_get : ∀ (l : List Obj) (j : Nat), (odds l)[j]? = l[2 * j]?
  | [], j => by simp [odds]
  | [x], 0 => by simp [odds]
  | [x], j + 1 => by simp [odds, show 2 * (j + 1) = 2 * j + 1 + 1 by omega]
  | x :: y :: l, 0 => by simp [odds]
  | x :: y :: l, j + 1 => by
    rw [odds, List.getElem?_cons_succ, odds_get l j, show 2 * (j + 1) = 2 * j + 1 + 1 by omega, List.getElem?_cons_succ, List.getElem?_cons_succ]
theorem evens_get : ∀ (l : List Obj) (j : Nat), (evens l)[j]? = l[2 * j + 1]?
  | [], j => by simp [evens]
  | [x], j => by simp [evens]
  | x :: y :: l, 0 => by simp [evens]
  | x :: y :: l, j + 1 => by
    rw [evens, List.getElem?_cons_succ, evens_get l j, show 2 * (j + 1) + 1 = 2 * j + 1 + 1 + 1 by omega, List.getElem?_cons_succ, List.getElem?_cons_succ]
theorem odds_len : ∀ (l : List Obj), (odds l).length = (l.length + 1) / 2
  | [] => rfl
  | [x] => by simp [odds]
  | x :: y :: l => by rw [odds, List.length_cons, odds_len l, List.length_cons, List.length_cons]; omega
theorem evens_len : ∀ (l : List Obj), (evens l).length = l.length / 2
  | [] => rfl
  | [x] => by simp [evens]
  | x :: y :: l => by rw [evens, List.length_cons, evens_len l, List.length_cons, List.length_cons]; omega
theorem mkT_get : ∀ (f : Nat) (l : List Obj) (i : Nat), l.length < 2 ^ f → (mkT f l).get i = l[i]?
  | 0, l, i, h => by
    have : l = [] := List.length_eq_zero_iff.mp (by simpa using h)
    subst this; simp [mkT, BT.get]
  | f + 1, [], i, h => by simp [mkT, BT.get]
  | f + 1, o :: l, i, h => by
    rw [List.length_cons, Nat.pow_succ] at h
    rw [mkT, BT.get_node, mkT_get f _ _ (by rw [odds_len]; omega), mkT_get f _ _ (by rw [evens_len]; omega), odds_get, evens_get]
    by_cases h0 : i = 0
    · subst h0; simp
    · rw [if_neg h0]
      by_cases h1 : i % 2 = 1
      · rw [if_pos h1]
        have : i = 2 * (i / 2) + 1 := by omega
        conv => rhs; rw [this, List.getElem?_cons_succ]
      · rw [if_neg h1]
        have : i = 2 * (i / 2 - 1) + 1 + 1 := by omega
        conv => rhs; rw [this, List.getElem?_cons_succ]
theorem abs_list {l : List Obj} {n : Nat} {life : Life} (h : l.length = n) (hn : n < 2 ^ 12) : absHeap (mkT 12 l) n life = ⟨l.toArray, life⟩ := by
  show Heap.mk _ _ = Heap.mk _ _
  congr 1
  apply Array.ext_getElem?
  intro i
  have := absHeap_at (mkT 12 l) n life i
  change (absHeap (mkT 12 l) n life).objs[i]? = _
  rw [this, mkT_get 12 l i (by omega)]
  by_cases q : i < n
  · rw [if_pos q, List.getElem?_toArray, List.getElem?_eq_getElem (by omega)]; rfl
  · rw [if_neg q, List.getElem?_toArray, List.getElem?_eq_none (by omega)]
theorem chunks_join : ∀ (n : Nat) (l : List (Int × Str)), (chunks n l).flatten ++ l.drop (17 * n) = l
  | 0, l => by simp [chunks]
  | n + 1, l => by
    rw [chunks, List.flatten_cons, List.append_assoc, show 17 * (n + 1) = 17 + 17 * n by omega, ← List.drop_drop, chunks_join n (l.drop 17), List.take_append_drop]
theorem chunks_len : ∀ (n : Nat) (l : List (Int × Str)), 17 * n ≤ l.length → (∀ x ∈ chunks n l, x.length = 17) ∧ (chunks n l).length = n
  | 0, l, _ => ⟨(fun x hx => by cases hx), rfl⟩
  | n + 1, l, h => by
    obtain ⟨r1, r2⟩ := chunks_len n (l.drop 17) (by rw [List.length_drop]; omega)
    refine ⟨fun x hx => ?_, by rw [chunks, List.length_cons, r2]⟩
    rw [chunks] at hx
    rcases List.mem_cons.mp hx with rfl | hx
    · rw [List.length_take]; omega
    · exact r1 x hx
noncomputable def ascB : Int → List (Int × Str) → Bool
  | _, [] => true
  | b, kv :: l => decide (b < kv.1) && (decide (kv.1 < 2 ^ 60) && ascB kv.1 l)
theorem asc_of : ∀ {b : Int} {l : List (Int × Str)}, ascB b l = true → asc b l
  | _, [], _ => trivial
  | b, kv :: l, h => by
    obtain ⟨h1, h2⟩ := Bool.and_eq_true_iff.mp h
    obtain ⟨h2, h3⟩ := Bool.and_eq_true_iff.mp h2
    exact ⟨of_decide_eq_true h1, of_decide_eq_true h2, asc_of h3⟩
theorem kvs_asc : asc 0 kvs := asc_of (by kernel_rfl)
theorem kvs_len : kvs.length = 650 := by kernel_rfl
set_option maxHeartbeats 1000000 in
/-- the whole display -/
theorem r_display {w : World} {q : Pos} {g : Array GenState} {dr : Drawn} {os : OsState} {A : Array Obj} {life : Life} (hA : 11 ≤ A.size) :
    R w 12515 (dictDisplay (kvs.map (itm q))) ⟨⟨A, life⟩, g, dr, 386, os⟩ q (.ref A.size) ⟨HH A life b3Main b3Subs, g, dr, 2336, os⟩ q := by
  obtain ⟨f, tail, hdl, E, P1, P3, P4, T⟩ := dd
  have hl := kvs_len
  have ha := kvs_asc
  have e0 : kvs = kvs.take 17 ++ ((chunks 37 (kvs.drop 17)).flatten ++ kvs.drop 646) := by
    have := chunks_join 37 (kvs.drop 17)
    rw [List.drop_drop] at this
    rw [this, List.take_append_drop]
  have c := chunks_len 37 (kvs.drop 17) (by rw [List.length_drop]; omega)
  have l0 : (kvs.take 17).length = 17 := by rw [List.length_take]; omega
  have lr : (kvs.drop 646).length = 4 := by rw [List.length_drop]; omega
  rw [e0] at ha
  obtain ⟨a1, a2, a3⟩ := asc_app ha
  obtain ⟨b1, b2, b3⟩ := asc_app a2
  obtain ⟨f1, f2, f3⟩ := ents3_facts 386 a1
  rw [E]
  conv => arg 3; rw [e0]
  unfold b3Main b3Subs b3Es
  generalize hk0 : kvs.take 17 = k0 at *
  generalize hgs : chunks 37 (kvs.drop 17) = gs at *
  generalize hrs : kvs.drop 646 = rs at *
  clear e0 E hk0 hgs hrs
  have el : (ents3 386 k0).length = 17 := by rw [ents3_len, l0]
  -- the first run
  obtain ⟨l', kv, e1, e2, e3⟩ := group_eq (q := q) (f := f) P1 (l := k0) (rest := gs.flatten ++ rs) (m := none) l0
  rw [e3, show itm q kv = (some (pr q kv).1, (pr q kv).2) from rfl, P3 _ _ _ (by rw [List.length_map]; exact e2)]
  have er : l'.map (pr q) ++ [((pr q kv).1, (pr q kv).2)] = k0.map (pr q) := by rw [e1, List.map_append]; rfl
  rw [er]
  have en : 12515 = ((((2 + 13 * 17) + 0) + 0) + (330 * 37 + 0)) + (((1 + 13 * 4) + ((5 + 6 * 4) + 0)) + 0) := by decide
  rw [en]
  have s1 := R.subLong (w := w) (q := q) (g := g) (dr := dr) (os := os) (tk := 386) (h := ⟨A, life⟩) (l := k0) hA (by omega) (by omega) (Int.le_refl 0) a1
  rw [l0] at s1
  have eH : (Heap.mk A life).push (mkD (ents3 386 k0) 17) = HH A life (dictO (ents3 386 k0)) [] := by
    show Heap.mk _ _ = Heap.mk _ _
    rw [← mkD_o, el]
    simp
  rw [eH] at s1
  have hM : ents3 386 k0 ≠ [] := by intro z; rw [z] at el; cases el
  have skip : forIn (m := Sem) (rs.map (itm q)) ((some A.size, []) : DSt) f = .pure (some A.size, rs.map (pr q)) := by
    have := skip_eq (q := q) P1 rs [] (some A.size) [] (by rw [List.length_nil]; omega)
    rw [List.append_nil, List.nil_append] at this
    rw [this]
    rfl
  have gr := r_groups (w := w) (q := q) (g := g) (dr := dr) (os := os) (A := A) (life := life) (f := f) (hdl := hdl) P4 P1 hA (rest := rs) (k := 0) (c := (some A.size, rs.map (pr q))) gs (ents3 386 k0) [] 437 (lastK 0 k0) c.1 f3 b1 hM f2 (by rw [el, c.2]; decide)
    (by rw [skip]; exact R.pure)
  rw [c.2, List.nil_append] at gr
  refine R.bind (R.bind (R.bind (R.bind s1 R.pure) R.pure) gr) ?_
  rw [T _ _ (by intro z; have := congrArg List.length z; rw [List.length_map, lr] at this; cases this)]
  have hlast : below (lastK (lastK 0 k0) gs.flatten) (ents3 386 k0 ++ entsG 437 gs) ∧ 0 ≤ lastK (lastK 0 k0) gs.flatten := by
    have key : ∀ (gs : List (List (Int × Str))) (t : Nat) (b : Int), asc b gs.flatten → below (lastK b gs.flatten) (entsG t gs) ∧ b ≤ lastK b gs.flatten := by
      intro gs
      induction gs with
      | nil => intro t b h; exact ⟨(by intro e he; cases he), Int.le_refl _⟩
      | cons l gs ih =>
        intro t b h
        rw [List.flatten_cons] at h ⊢
        obtain ⟨x1, x2, x3⟩ := asc_app h
        obtain ⟨y1, y2, y3⟩ := ents3_facts t x1
        obtain ⟨z1, z2⟩ := ih (t + 51) _ x2
        have ea : ∀ (b : Int) (l1 l2 : List (Int × Str)), lastK b (l1 ++ l2) = lastK (lastK b l1) l2 := by
          intro b l1
          induction l1 generalizing b with
          | nil => intro l2; rfl
          | cons kv l1 ih => intro l2; exact ih kv.1 l2
        rw [ea]
        refine ⟨fun e he => ?_, by omega⟩
        rw [entsG] at he
        rcases List.mem_append.mp he with he | he
        · have := y2 e he; omega
        · exact z1 e he
    obtain ⟨z1, z2⟩ := key gs 437 (lastK 0 k0) b1
    refine ⟨fun e he => ?_, by omega⟩
    rcases List.mem_append.mp he with he | he
    · have := f2 e he; omega
    · exact z1 e he
  have lenE : ∀ (gs : List (List (Int × Str))) (t : Nat), (∀ x ∈ gs, x.length = 17) → (entsG t gs).length = 17 * gs.length ∧ (subsG t gs).length = gs.length := by
    intro gs
    induction gs with
    | nil => intro t _; exact ⟨rfl, rfl⟩
    | cons l gs ih =>
      intro t h
      obtain ⟨i1, i2⟩ := ih (t + 51) (fun x hx => h x (List.mem_cons_of_mem _ hx))
      rw [entsG, subsG, List.length_append, ents3_len, h l (List.mem_cons_self ..), i1, List.length_cons, List.length_cons, i2]
      omega
  obtain ⟨le1, le2⟩ := lenE gs 437 c.1
  have s2 := R.subShort (w := w) (q := q) (g := g) (dr := dr) (os := os) (tk := 437 + 51 * 37) (h := HH A life (dictO (ents3 386 k0 ++ entsG 437 gs)) (subsG 437 gs)) (l := rs) (by rw [HH_size]; omega) (by omega) hlast.2 b2
  rw [lr, HH_push, HH_size] at s2
  have el2 : (ents2 (437 + 51 * 37) rs).length = 4 := by rw [ents2_len, lr]
  have s3 := r_merge (w := w) (q := q) (g := g) (dr := dr) (os := os) (tk := 437 + 51 * 37 + 3 * 4) (h := HH A life (dictO (ents3 386 k0 ++ entsG 437 gs)) (subsG 437 gs ++ [mkD (ents2 (437 + 51 * 37) rs) 4])) (d := A.size) (a := A.size + 1 + (subsG 437 gs).length) (M := ents3 386 k0 ++ entsG 437 gs) (n := (ents3 386 k0 ++ entsG 437 gs).length) (L := ents2 (437 + 51 * 37) rs) (m := 4) HH_main HH_last
    (by show A.size + 1 + (subsG 437 gs).length ≠ A.size; omega) (Nat.ble_eq_true_of_le hA) (beq_eq_false_iff_ne.mpr (by show A.size + 1 + (subsG 437 gs).length ≠ sysModules; unfold sysModules; omega))
    (by intro z; exact hM (List.append_eq_nil_iff.mp z).1) hlast.1 (ents2_facts _ b2) (by rw [el2, List.length_append, el, le1, c.2]; decide)
  rw [el2, HH_put] at s3
  have eS : mkD (ents2 (437 + 51 * 37) rs) 4 = dictO (ents2 2324 rs) := by rw [← mkD_o, ents2_len, lr]
  have eM : mkD (ents3 386 k0 ++ entsG 437 gs ++ ents2 (437 + 51 * 37) rs) ((ents3 386 k0 ++ entsG 437 gs).length + 4) = dictO (ents3 386 k0 ++ entsG 437 gs ++ ents2 2324 rs) := by
    rw [← mkD_o, List.length_append (as := ents3 386 k0 ++ entsG 437 gs), ents2_len, lr]
  rw [eM, eS] at s3
  rw [eS] at s2
  exact R.bind (R.bind (R.hold s2) (R.bind (R.onRaise (R.hold s3)) R.pure)) R.pure
end Wu
end
section
namespace Wu
set_option linter.unusedVariables false
open PySem PySem.Spec PySem.Calls PyProof.Rows PySem.W
noncomputable section
noncomputable def lstD (P : Params) : List Obj := [boot_o_0 P, boot_o_1 P, boot_o_2 P, ob3x104 P, boot_o_4 P, boot_o_5 P, boot_o_6 P, boot_o_7 P, boot_o_8 P, boot_o_9 P, boot_o_10 P, ob11x0 P, ob12x105 P, ob13x2 P, ob14x3 P, ob15x7 P, ob16x8 P, ob17x9 P, ob18x10 P, ob19x11 P, ob20x12 P, ob21x13 P, ob22x14 P, ob23x15 P, ob24x16 P, ob25x17 P, ob26x18 P, ob27x19 P, ob28x20 P, ob29x21 P, ob30x22 P, ob31x23 P, ob32x24 P, ob33x25 P, ob34x26 P, ob35x27 P, ob36x30 P, ob37x31 P, ob38x32 P, ob39x33 P, ob40x34 P, ob41x35 P, ob42x36 P, ob43x37 P, ob44x38 P, ob45x39 P, ob46x40 P, ob47x41 P, ob48x42 P, ob49x43 P, ob50x46 P, ob51x47 P, ob52x48 P, ob53x49 P, ob54x50 P, ob55x51 P, ob56x52 P, ob57x53 P, ob58x54 P, ob59x55 P, ob60x56 P, ob61x57 P, ob62x58 P, ob63x59 P, ob64x62 P, ob65x63 P, ob66x64 P, ob67x65 P, ob68x66 P, ob69x67 P, ob70x68 P, ob71x69 P, ob72x70 P, ob73x71 P, ob74x72 P, ob75x73 P, ob76x74 P, ob77x75 P, ob78x76 P, ob79x77 P, ob80x78 P, ob81x79 P, ob82x80 P, ob83x81 P, ob84x82 P, ob85x85 P, ob86x86 P, ob87x87 P, ob88x88 P, ob89x89 P, ob90x90 P, ob91x91 P, ob92x93 P, ob93x94 P, ob94x95 P, ob95x96 P, ob96x97 P, ob97x98 P, ob98x99 P, ob99x100 P, ob100x101 P, ob101x102 P, ob102x103 P, ob103x106 P, ob104x107 P, ob105x108 P, ob106x109 P, ob107x110 P, ob108x111 P, ob109x112 P, b3O 0 P, b3O 1 P, b3O 2 P, b3O 3 P, b3O 4 P, b3O 5 P, b3O 6 P, b3O 7 P, b3O 8 P, b3O 9 P, b3O 10 P, b3O 11 P, b3O 12 P, b3O 13 P, b3O 14 P, b3O 15 P, b3O 16 P, b3O 17 P, b3O 18 P, b3O 19 P, b3O 20 P, b3O 21 P, b3O 22 P, b3O 23 P, b3O 24 P, b3O 25 P, b3O 26 P, b3O 27 P, b3O 28 P, b3O 29 P, b3O 30 P, b3O 31 P, b3O 32 P, b3O 33 P, b3O 34 P, b3O 35 P, b3O 36 P, b3O 37 P, b3O 38 P]
noncomputable def staD (w : World) (os : OsState) : SharedT := ⟨mkT 12 (lstD w.params), 149, {}, #[], {}, 2336, os⟩
noncomputable def a20 : List PySem.Expr × Pos × Pos := match (pw.main.body[20]? : Option PySem.Stmt) with
  | some (PySem.Stmt.Assign ts (PySem.Expr.Dict _ _ dp) p) => (ts, dp, p)
  | _ => ([], ⟨0, 0, 0, 0⟩, ⟨0, 0, 0, 0⟩)
noncomputable abbrev e20 : PySem.Expr := .Dict b3Dict.1 b3Dict.2 a20.2.1
theorem st20 : sts 20 21 = [.Assign a20.1 e20 a20.2.2] := by kernel_rfl
noncomputable def isK : Option PySem.Expr → Bool
  | some (.Constant (.int _) _ _) => true
  | _ => false
noncomputable def isV : PySem.Expr → Bool
  | .Constant (.str _) _ _ => true
  | _ => false
noncomputable def okIV (ks : List (Option PySem.Expr)) (vs : List PySem.Expr) : Bool := ks.all isK && vs.all isV
theorem evK {env : Env} {k : Option PySem.Expr} (h : isK k = true) : evalOpt k env = some (PySem.mkInt (keyD k)) := by
  cases k with
  | none => cases h
  | some e =>
    cases e <;> first | (cases h; done) | skip
    rename_i c a b
    cases c <;> first | (cases h; done) | rfl
theorem evV {env : Env} {v : PySem.Expr} (h : isV v = true) : eval v env = PySem.mkText (valD v) := by
  cases v <;> first | (cases h; done) | skip
  rename_i c a b
  cases c <;> first | (cases h; done) | rfl
theorem items_eq {env : Env} {q : Pos} (ks : List (Option PySem.Expr)) : ∀ (vs : List PySem.Expr), okIV ks vs = true →
    (evalEachOpt ks env).zip ((evalEach vs env).map fun v => (do let x ← v; standAt q; pure x : Sem Value)) = (kvOf ks vs).map (itm q) := by
  induction ks with
  | nil => intro vs _; rfl
  | cons k ks ih =>
    intro vs h
    cases vs with
    | nil => rfl
    | cons v vs =>
      obtain ⟨h1, h2⟩ := Bool.and_eq_true_iff.mp h
      rw [List.all_cons] at h1 h2
      obtain ⟨a1, a2⟩ := Bool.and_eq_true_iff.mp h1
      obtain ⟨b1, b2⟩ := Bool.and_eq_true_iff.mp h2
      have ih' := ih vs (Bool.and_eq_true_iff.mpr ⟨a2, b2⟩)
      have e : (evalOpt k env, (do let x ← eval v env; standAt q; pure x : Sem Value)) = itm q (keyD k, valD v) := by
        rw [evK a1, evV b1]; rfl
      exact congr (congrArg List.cons e) ih'
theorem ok20 : okIV b3Dict.1 b3Dict.2 = true := by kernel_rfl
theorem sw20 : swapsWithSole a20.1 e20 a20.2.2.line envB = Sem.pure false := by kernel_rfl
theorem lstD_eq (P : Params) : lstD P = lst20 P ++ b3Main :: b3Subs := by kernel_rfl
noncomputable def post20 (v : Value) : Sem Flow := (swappedStores a20.1 e20 envB).bind fun sw => assignStores envB v sw ((assignEach a20.1 envB).map (·.2))
theorem run20 (w : World) (os : OsState) (K : Flow → Sem Fin) (H : Value → Sem Fin) (gd : Bool → Bool) (lv : List Value → List Value) :
    segGoT treeTable pw w 11 annB 1 7 (staD w os) ⟨(post20 (.ref 110)).wrap K H gd lv, cB, a20.2.1, stB⟩ = some (sta21 w os, ⟨K .next, cB, ps21, stB⟩) := by
  rw [tw_go, tw_tab]; kernel_rfl
end
end Wu
end
section
namespace Wu
set_option linter.unusedVariables false
open PySem PySem.Spec PySem.Calls PyProof.Rows PySem.W
theorem lst20_len (P : Params) : (lst20 P).length = 110 := by kernel_rfl
theorem abs20 (w : World) (os : OsState) : (sta20 w os).abs = ⟨⟨(lst20 w.params).toArray, {}⟩, #[], {}, 386, os⟩ := by
  show Shared.mk (absHeap (mkT 12 (lst20 w.params)) 110 {}) #[] {} 386 os = _
  rw [abs_list (lst20_len _) (by decide)]
theorem lstD_len (P : Params) : (lstD P).length = 149 := by kernel_rfl
theorem absD (w : World) (os : OsState) : (staD w os).abs = ⟨HH (lst20 w.params).toArray {} b3Main b3Subs, #[], {}, 2336, os⟩ := by
  show Shared.mk (absHeap (mkT 12 (lstD w.params)) 149 {}) #[] {} 2336 os = _
  rw [abs_list (lstD_len _) (by decide), lstD_eq]
  have : (⟨(lst20 w.params ++ b3Main :: b3Subs).toArray, {}⟩ : Heap) = HH (lst20 w.params).toArray {} b3Main b3Subs := by
    show Heap.mk _ _ = Heap.mk _ _
    simp
  rw [this]
theorem exec20 {env : Env} {ts : List PySem.Expr} {v : PySem.Expr} {p : Pos} : exec (.Assign ts v p) env = (standAt p).bind fun _ => (swapsWithSole ts v p.line env).bind fun b => if b = true then (evalThenUse v env fun x => assignAll x ((assignEach ts env).map (·.2))).bind fun _ => .pure .next else (eval v env).bind fun x => (swappedStores ts v env).bind fun sw => assignStores env x sw ((assignEach ts env).map (·.2)) := rfl
theorem r20 (w : World) (os : OsState) : R w 12524 (exec (.Assign a20.1 e20 a20.2.2) envB) (sta20 w os).abs ps20 .next (sta21 w os).abs ps21 := by
  rw [exec20, sw20]
  have e : 12524 = 1 + (0 + ((1 + 12515) + 7)) := by decide
  rw [e, abs20]
  refine R.bind R.at (R.bind R.pure ?_)
  rw [if_neg (by decide)]
  have hd : R w (1 + 12515) (eval e20 envB) ⟨⟨(lst20 w.params).toArray, {}⟩, #[], {}, 386, os⟩ a20.2.2 (.ref 110) ⟨HH (lst20 w.params).toArray {} b3Main b3Subs, #[], {}, 2336, os⟩ a20.2.1 := by
    have hz : (lst20 w.params).toArray.size = 110 := by rw [List.size_toArray, lst20_len]
    have hr := r_display (w := w) (q := a20.2.1) (g := #[]) (dr := {}) (os := os) (A := (lst20 w.params).toArray) (life := {}) (by rw [hz]; decide)
    rw [hz] at hr
    have he : eval e20 envB = (standAt a20.2.1).bind fun _ => dictDisplay (kvs.map (itm a20.2.1)) := by
      show (standAt a20.2.1).bind (fun _ => dictDisplay ((evalEachOpt b3Dict.1 envB).zip ((evalEach b3Dict.2 envB).map fun v => (do let x ← v; standAt a20.2.1; pure x : Sem Value)))) = _
      rw [items_eq _ _ ok20]
      rfl
    rw [he]
    exact R.bind R.at hr
  refine R.bind hd ?_
  have hp : R w 7 (post20 (.ref 110)) (staD w os).abs a20.2.1 .next (sta21 w os).abs ps21 := ⟨fun K H gd lv => segGo_of (run20 w os K H gd lv)⟩
  rw [absD] at hp
  exact hp
theorem seg_end {w : World} {n : Nat} {s s' : Shared} {t : Thread} {p' : Pos} (h : segGo treeTable pw w 11 annB 1 n s t = some (s', ⟨doneF .next, cB, p', stB⟩)) : segRun treeTable pw w 11 annB 1 (n + 1) s t = some (.next, s', cB, p') :=
  seg_go (N := 1) h rfl
theorem one_stmt (st : PySem.Stmt) (env : Env) : (execs [st] env).wrap doneF deadEnd id id = (exec st env).wrap doneF deadEnd id id := by
  rw [execs_cons_wrap]
  exact Sem.wrap_congr _ _ _ (fun f => by cases f <;> rfl) (fun _ => rfl)
theorem gr20 (w : World) (os : OsState) : segRun treeTable pw w 11 annB 1 12525 (sta20 w os).abs (piecesOf (sts 20 21) envB cB ps20 stB) = some (.next, (sta21 w os).abs, cB, ps21) := by
  have h := (r20 w os).go doneF deadEnd id id
  refine seg_end (n := 12524) ?_
  rw [st20]
  unfold piecesOf
  rw [one_stmt]
  exact h
end Wu
end
section
namespace Wu
set_option linter.unusedVariables false
noncomputable section
open PySem PySem.Spec PySem.Calls PyProof.Rows PySem.W PyProof.V
/-- the heap behind the top -/
noncomputable def hp35 (P : Params) : Heap := ⟨(lst35 P).toArray, {}⟩
noncomputable def ns35 (P : Params) (x : Str) : Option Value := (hp35 P).nsMap mainGlobals x
theorem look1 (P : Params) : ns35 P "b1_set" = some (.ref 99) := by kernel_rfl
theorem look2 (P : Params) : ns35 P "c7_set" = some (.ref 157) := by kernel_rfl
theorem look3 (P : Params) : ns35 P "c9_set" = some (.ref 175) := by kernel_rfl
theorem look4 (P : Params) : ns35 P "b3_exceptions" = some (.ref 110) := by kernel_rfl
/-- a set's elements are the whole numbers of L -/
noncomputable def setB (es : List (Int × Value)) (L : List Int) : Bool :=
  es.all (fun e => match e.2 with | .int k _ => decide (e.1 = hashInt k) && L.any (fun j => decide (j = k)) | _ => false) && L.all (fun k => es.any fun e => Value.isInt k e.2)
theorem setOf_of {prog : Program} {w : World} {h : Heap} {a : Addr} {o : Obj} {es : Array (Int × Value)} {ep : Nat} {t : SetTable} {L : List Int}
    (ho : h.get? a = some o) (hx : o.ExactSet) (hd : o.data = .set es ep t) (hb : setB es.toList L = true) (hs : Nat.blt es.size 4096 = true) (ht : t.fits es.size = true) : ∃ n, h.SetOf (intKind prog w) a (fun i => decide (i ∈ L)) n := by
  obtain ⟨b1, b2⟩ := Bool.and_eq_true_iff.mp hb
  have key : ∀ e ∈ es.toList, ∃ k tk, e.2 = .int k tk ∧ e.1 = hashInt k ∧ k ∈ L := by
    intro e he
    have q := List.all_eq_true.mp b1 e he
    obtain ⟨e1, e2⟩ := e
    cases e2 with
    | int k tk =>
      obtain ⟨q1, q2⟩ := Bool.and_eq_true_iff.mp q
      obtain ⟨j, hj, q3⟩ := List.any_eq_true.mp q2
      have := of_decide_eq_true q3
      exact ⟨k, tk, rfl, of_decide_eq_true q1, this ▸ hj⟩
    | _ => cases q
  refine ⟨es.size, o, es, ep, t, ho, hx, hd, fun e he => ?_, fun k => ?_, Nat.blt_eq.mp hs, ht, rfl⟩
  · obtain ⟨k, tk, h1, h2, h3⟩ := key e he
    refine ⟨⟨k, ?_, h2⟩, by rw [h1]; rfl⟩
    rw [h1]; exact intKind_is prog w k tk
  · rw [decide_eq_true_iff]
    constructor
    · intro hk
      obtain ⟨e, he, q⟩ := List.any_eq_true.mp (List.all_eq_true.mp b2 k hk)
      exact ⟨e, he, q⟩
    · rintro ⟨e, he, q⟩
      obtain ⟨k', tk, h1, h2, h3⟩ := key e he
      rw [h1] at q
      have : k' = k := by
        have : (k' == k) = true := q
        exact beq_iff_eq.mp this
      exact this ▸ h3
noncomputable def setE (o : Obj) : Array (Int × Value) := match o.data with | .set es _ _ => es | _ => #[]
noncomputable def setEp (o : Obj) : Nat := match o.data with | .set _ n _ => n | _ => 0
noncomputable def setT (o : Obj) : SetTable := match o.data with | .set _ _ t => t | _ => ⟨0, #[], #[], 0, false, 0, false⟩
noncomputable def at35 (P : Params) (a : Nat) : Obj := (lst35 P).getD a b3Main
/-- dictionary of the table -/
theorem ents3_app : ∀ (t : Nat) (l1 l2 : List (Int × Str)), ents3 t (l1 ++ l2) = ents3 t l1 ++ ents3 (t + 3 * l1.length) l2
  | t, [], l2 => rfl
  | t, kv :: l1, l2 => by
    rw [List.cons_append, ents3, ents3, ents3_app, List.cons_append, List.length_cons, show t + 3 + 3 * l1.length = t + 3 * (l1.length + 1) by omega]
/-- entries that hold the pairs -/
inductive Holds : List DictEntry → List (Int × Str) → Prop
  | nil : Holds [] []
  | cons {k : Int} {s : Str} {t u : Tok} {es : List DictEntry} {l : List (Int × Str)} : Holds es l → Holds (⟨k, .int k t, .str s u⟩ :: es) ((k, s) :: l)
theorem Holds.e3 : ∀ (t : Nat) (l : List (Int × Str)), Holds (ents3 t l) l
  | t, [] => .nil
  | t, kv :: l => .cons (Holds.e3 (t + 3) l)
theorem Holds.e2 : ∀ (t : Nat) (l : List (Int × Str)), Holds (ents2 t l) l
  | t, [] => .nil
  | t, kv :: l => .cons (Holds.e2 (t + 2) l)
theorem Holds.app {es es' : List DictEntry} {l l' : List (Int × Str)} (h : Holds es l) (h' : Holds es' l') : Holds (es ++ es') (l ++ l') := by
  induction h with
  | nil => exact h'
  | cons _ ih => exact .cons ih
theorem Holds.eG : ∀ (t : Nat) (gs : List (List (Int × Str))), Holds (entsG t gs) gs.flatten
  | t, [] => .nil
  | t, g :: gs => by rw [entsG, List.flatten_cons]; exact (Holds.e3 t g).app (Holds.eG (t + 51) gs)
theorem b3_holds : Holds b3Es kvs := by
  have h := ((Holds.e3 386 (kvs.take 17)).app (Holds.eG 437 (chunks 37 (kvs.drop 17)))).app (Holds.e2 2324 (kvs.drop 646))
  have e0 : kvs.take 17 ++ (chunks 37 (kvs.drop 17)).flatten ++ kvs.drop 646 = kvs := by
    have := chunks_join 37 (kvs.drop 17)
    rw [List.drop_drop] at this
    rw [List.append_assoc, this, List.take_append_drop]
  rw [e0] at h
  exact h
theorem hash_small {k : Int} (h0 : 0 < k) (h1 : k < 2 ^ 60) : hashInt k = k := by
  have e2 : ((k.natAbs : Int) % ((2 ^ 61 - 1 : Nat) : Int)) = k := by omega
  unfold hashInt rawHash
  simp only [e2]
  simp [show ¬ k < 0 by omega, show ¬ k = -1 by omega]
theorem asc_bd : ∀ {l : List (Int × Str)} {b : Int}, 0 ≤ b → asc b l → (∀ x ∈ l, b < x.1 ∧ x.1 < 2 ^ 60) ∧ (l.map (·.1)).Nodup
  | [], b, _, _ => ⟨fun x hx => (by cases hx), List.nodup_nil⟩
  | kv :: l, b, b0, h => by
    obtain ⟨a1, a2, a3⟩ := h
    obtain ⟨r1, r2⟩ := asc_bd (by omega) a3
    refine ⟨fun x hx => ?_, ?_⟩
    · rcases List.mem_cons.mp hx with rfl | hx
      · exact ⟨a1, a2⟩
      · have := r1 x hx; omega
    · rw [List.map_cons, List.nodup_cons]
      refine ⟨fun q => ?_, r2⟩
      obtain ⟨y, hy, e⟩ := List.mem_map.mp q
      have := r1 y hy
      omega
theorem Holds.tab {prog : Program} {w : World} {es : List DictEntry} {l : List (Int × Str)} (h : Holds es l) (hk : ∀ x ∈ l, 0 < x.1 ∧ x.1 < 2 ^ 60) : ∃ vs : List (Int × Value), (∀ e ∈ es, ∃ k, (intKind prog w).is k e.key = true ∧ e.hash = (intKind prog w).hash k) ∧ Pairs (intKind prog w) es vs ∧ vs.map (·.1) = l.map (·.1) ∧ FlatPairs PyData.int vs (l.map fun p => (.int p.1, .str p.2)) := by
  induction h with
  | nil => exact ⟨[], fun e he => (by cases he), .nil, rfl, .nil⟩
  | @cons k s t u es l _ ih =>
    obtain ⟨vs, i1, i2, i3, i4⟩ := ih fun x hx => hk x (List.mem_cons_of_mem _ hx)
    have hk0 := hk (k, s) (List.mem_cons_self ..)
    refine ⟨(k, .str s u) :: vs, fun e he => ?_, .cons (intKind_is prog w k t) rfl i2, by rw [List.map_cons, List.map_cons, i3], .cons (Flat.str s u) i4⟩
    rcases List.mem_cons.mp he with rfl | he
    · exact ⟨k, intKind_is prog w k t, (hash_small hk0.1 hk0.2).symm⟩
    · exact i1 e he
theorem b3L_kvs : b3L = kvs := by kernel_rfl
theorem b3_tab {prog : Program} {w : World} {h : Heap} (e : h.get? 110 = some b3Main) : IntTab prog w h 110 (b3L.map fun p => (.int p.1, .str p.2)) := by
  obtain ⟨r1, r2⟩ := asc_bd (Int.le_refl 0) kvs_asc
  obtain ⟨vs, i1, i2, i3, i4⟩ := b3_holds.tab (prog := prog) (w := w) r1
  rw [b3L_kvs]
  refine TabAt.ofObj (by decide) e ⟨b3Es.toArray, b3Es.length, ⟨rfl, rfl, rfl⟩, rfl, fun e he => i1 e (by simpa using he), by simpa using i2, by rw [i3]; exact r2⟩ i4
theorem mo35 (P : Params) : Mo (ns35 P) (hp35 P) where
  b1 := fun prog w => by
    obtain ⟨n, h⟩ := setOf_of (prog := prog) (w := w) (h := hp35 P) (a := 99) (o := at35 P 99) (es := setE (at35 P 99)) (ep := setEp (at35 P 99)) (t := setT (at35 P 99)) (L := b1L) (by kernel_rfl) ⟨by kernel_rfl, by kernel_rfl, by kernel_rfl⟩ (by kernel_rfl) (by kernel_rfl) (by kernel_rfl) (by kernel_rfl)
    exact ⟨99, n, look1 P, h⟩
  c7 := fun prog w => by
    obtain ⟨n, h⟩ := setOf_of (prog := prog) (w := w) (h := hp35 P) (a := 157) (o := at35 P 157) (es := setE (at35 P 157)) (ep := setEp (at35 P 157)) (t := setT (at35 P 157)) (L := c7L) (by kernel_rfl) ⟨by kernel_rfl, by kernel_rfl, by kernel_rfl⟩ (by kernel_rfl) (by kernel_rfl) (by kernel_rfl) (by kernel_rfl)
    exact ⟨157, n, look2 P, h⟩
  c9 := fun prog w => by
    obtain ⟨n, h⟩ := setOf_of (prog := prog) (w := w) (h := hp35 P) (a := 175) (o := at35 P 175) (es := setE (at35 P 175)) (ep := setEp (at35 P 175)) (t := setT (at35 P 175)) (L := c9L) (by kernel_rfl) ⟨by kernel_rfl, by kernel_rfl, by kernel_rfl⟩ (by kernel_rfl) (by kernel_rfl) (by kernel_rfl) (by kernel_rfl)
    exact ⟨175, n, look3 P, h⟩
  b3 := fun prog w => ⟨110, look4 P, b3_tab (by kernel_rfl)⟩
  f1 := ⟨_, (by kernel_rfl : ns35 P "ONE_THIRD" = some (.float 0x3FD5555555555555 191))⟩
  f2 := ⟨_, (by kernel_rfl : ns35 P "ONE_SIXTH" = some (.float 0x3FC5555555555555 195))⟩
  f3 := ⟨_, (by kernel_rfl : ns35 P "TWO_THIRD" = some (.float 0x3FE5555555555555 199))⟩
theorem free35 (P : Params) : Free (ns35 P) := ⟨by kernel_rfl, by kernel_rfl, by kernel_rfl, by kernel_rfl, by kernel_rfl, by kernel_rfl, by kernel_rfl, by kernel_rfl, by kernel_rfl, by kernel_rfl⟩
end
end Wu
end
section
namespace Wu
set_option linter.unusedVariables false
noncomputable section
open PySem PySem.Spec PySem.Calls PyProof.Rows PySem.W PyProof.V
theorem tw_tg : @topGo = @PySem.W.Fast.tw15667345088766844465 := PySem.W.Fast.te15667345088766844465
theorem tw_tr : @topRun = @PySem.W.Fast.tw14082659384304107361 := PySem.W.Fast.te14082659384304107361
theorem tw_sr : @segRun = @PySem.W.Fast.tw14374325043358763698 := PySem.W.Fast.te14374325043358763698
theorem tw_den : @denote = @PySem.W.Fast.tw11892475500146522536 := PySem.W.Fast.te11892475500146522536
theorem open35 : ∀ w : World, (fencedOpening treeTable pw w 40000).map (fun s => (s.heap, s.gens, s.drawn, s.toks)) = some (boot_heap w.params, Array.mk [], boot_drawn, boot_toks) :=
  boot_open (p := pw) (N := 40000) (by kernel_rfl) (by decide +kernel) (fun s => by kernel_rfl)
theorem size35 (w : World) : ((boot_heap w.params).isNs mainGlobals && (Array.mk [] : Array GenState).size == 0, (boot_heap w.params).objs.size, (boot_heap w.params).nsMap mainGlobals "__annotations__") = (true, 11, annB) := by kernel_rfl
theorem lst0_len (P : Params) : (lst0 P).length = 15 := by kernel_rfl
theorem abs0 (w : World) (os : OsState) : (sta0 w os).abs = ⟨⟨(lst0 w.params).toArray, {}⟩, #[], {}, 187, os⟩ := by
  show Shared.mk (absHeap (mkT 12 (lst0 w.params)) 15 {}) #[] {} 187 os = _
  rw [abs_list (lst0_len _) (by decide)]
theorem pre35 (w : World) (os : OsState) : topGo treeTable pw w 11 annB 12 ⟨boot_heap w.params, Array.mk [], boot_drawn, boot_toks, os⟩ (topStub pw) = some (⟨⟨(lst0 w.params).toArray, {}⟩, #[], {}, 187, os⟩, ⟨denote treeTable cB, cB, ps0, stB⟩) := by
  rw [tw_tg, tw_tab, tw_den]; kernel_rfl
theorem block35 (w : World) (os : OsState) : segRun treeTable pw w 11 annB 1 1 (sta0 w os).abs (blockOf bodyB envB cB ps0 stB) = some (.next, (sta0 w os).abs, cB, ps0) := by
  rw [tw_sr, tw_tab]; kernel_rfl
theorem fin35 (w : World) (os : OsState) : topRun treeTable pw w 11 annB 2 (sta35 w os).abs ⟨doneF .next, cB, ps35, stB⟩ = some (sta35 w os).abs := by
  rw [tw_tr, tw_tab]; kernel_rfl
theorem lst35_len (P : Params) : (lst35 P).length = 238 := by kernel_rfl
theorem abs35 (w : World) (os : OsState) : (sta35 w os).abs = ⟨hp35 w.params, #[], {}, 2667, os⟩ := by
  show Shared.mk (absHeap (mkT 12 (lst35 w.params)) 238 {}) #[] {} 2667 os = _
  rw [abs_list (lst35_len _) (by decide)]
  rfl
end
end Wu
end
section
namespace Wu
set_option linter.unusedVariables false
noncomputable section
open PySem PySem.Spec PySem.Calls PyProof.Rows PySem.W PyProof.V
noncomputable def keepL : List Nat := [4, 5, 6, 7, 9, 10, 12, 13, 14, 15, 16, 19, 21, 23, 25, 27, 28, 29, 30, 31, 32, 33, 34]
noncomputable def looseL : List Str := ["ONE_THIRD", "ONE_SIXTH", "TWO_THIRD", "b1_set", "b3_exceptions", "c7_set", "c9_set"]
/-- the view -/
noncomputable def qv : Program := view pw keepL
/-- the head's own test -/
noncomputable def XtH (s : Shared) : Bool := @decide (HeadX (s.heap.nsMap mainGlobals) s.heap) (Classical.propDecidable _)
theorem XtH_say (s : Shared) (h : XtH s = true) : HeadX (s.heap.nsMap mainGlobals) s.heap := by
  unfold XtH at h
  exact @of_decide_eq_true _ (Classical.propDecidable _) h
noncomputable def fin (w : World) (os : OsState) : Shared := ⟨hp35 w.params, #[], {}, 2667, os⟩
theorem XtH_fin (w : World) (os : OsState) : XtH (fin w os) = true := by
  unfold XtH
  exact @decide_eq_true _ (Classical.propDecidable _) ⟨mo35 w.params, free35 w.params⟩
noncomputable abbrev modsL : List Str := importedModules pw.main.body
theorem lk1 (w : World) (os : OsState) : (staticsOk modsL (boot_heap w.params) (hp35 w.params) && namesBound pw (hp35 w.params) && gensDone (fin w os) && laidKept (boot_heap w.params) (hp35 w.params)) = true := by kernel_rfl
theorem lk2 (w : World) (os : OsState) : seen ((recsOf qv).map (·.name)) (ownsOf qv) [] { fin w os with gens := #[] } = expectedOf qv := by kernel_rfl
theorem lk3 (w : World) (os : OsState) : (fin w os).heap.bltView = bltViewBooted := by kernel_rfl
theorem lk4 (w : World) (os : OsState) : ((fin w os).heap.keysOk (looseW qv looseL) ((recsOf qv).map (·.name)) ((litsOf qv).map (·.1)) ((clssOf qv (looseW qv looseL)).map (·.name)) && (fin w os).heap.accountedOkI modsL && (fin w os).heap.isNs mainGlobals && (fin w os).heap.isNs builtinsNs && tablesOk qv (fin w os).heap) = true := by kernel_rfl
theorem lk5 (w : World) (os : OsState) : (tabsOk qv (fin w os), pinSeenD qv (drecsOf qv) (fin w os), plainSeenE qv (looseW qv looseL) (fin w os), plainSeenD qv looseL (fin w os), wideSeen qv (fin w os), clsSeenW qv looseL (fin w os)) = (true, pinGoodD (drecsOf qv), plainGoodE qv (looseW qv looseL), plainGoodD qv looseL, wideGood qv, clsGoodW qv looseL) := by kernel_rfl
end
end Wu
end
section
namespace Wu
set_option linter.unusedVariables false
noncomputable section
open PySem PySem.Spec PySem.Calls PyProof.Rows PySem.W PyProof.V
theorem drop_eq {a b : Nat} (h : a ≤ b) : bodyB.drop a = sts a b ++ bodyB.drop b := by
  unfold sts
  generalize bodyB = l
  have e : l.drop b = (l.drop a).drop (b - a) := by rw [List.drop_drop]; congr 1; omega
  rw [e, List.take_append_drop]
theorem step_app {w : World} {a b n N : Nat} (hab : a ≤ b) {s s' r : Shared} {pos p' : Pos} (h : segRun treeTable pw w 11 annB 1 n s (piecesOf (sts a b) envB cB pos stB) = some (.next, s', cB, p'))
    (k : topRun treeTable pw w 11 annB N s' (restOf (bodyB.drop b) envB cB p' stB) = some r) : topRun treeTable pw w 11 annB (n + N) s (restOf (bodyB.drop a) envB cB pos stB) = some r := by
  rw [drop_eq hab]
  exact piece_app h k
theorem drop35 : bodyB.drop 35 = [] := by kernel_rfl
theorem end35 (w : World) (os : OsState) : topRun treeTable pw w 11 annB 2 (sta35 w os).abs (restOf (bodyB.drop 35) envB cB ps35 stB) = some (sta35 w os).abs := by
  rw [drop35]
  exact piece_nil (fin35 w os)
theorem run35 (w : World) (os : OsState) : ∃ M, Nat.ble M 40000 = true ∧ topRun treeTable pw w 11 annB M ⟨boot_heap w.params, Array.mk [], boot_drawn, boot_toks, os⟩ (topStub pw) = some (fin w os) := by
  have r0 := step_app (a := 31) (b := 35) (by decide) (segRun_of (gr31 w os)) (end35 w os)
  have r1 := step_app (a := 28) (b := 31) (by decide) (segRun_of (gr28 w os)) (r0)
  have r2 := step_app (a := 25) (b := 28) (by decide) (segRun_of (gr25 w os)) (r1)
  have r3 := step_app (a := 24) (b := 25) (by decide) (gr24 w os) (r2)
  have r4 := step_app (a := 23) (b := 24) (by decide) (segRun_of (gr23 w os)) (r3)
  have r5 := step_app (a := 22) (b := 23) (by decide) (segRun_of (gr22 w os)) (r4)
  have r6 := step_app (a := 21) (b := 22) (by decide) (segRun_of (gr21 w os)) (r5)
  have r7 := step_app (a := 20) (b := 21) (by decide) (gr20 w os) (r6)
  have r8 := step_app (a := 19) (b := 20) (by decide) (segRun_of (gr19 w os)) (r7)
  have r9 := step_app (a := 18) (b := 19) (by decide) (segRun_of (gr18 w os)) (r8)
  have r10 := step_app (a := 16) (b := 18) (by decide) (segRun_of (gr16 w os)) (r9)
  have r11 := step_app (a := 13) (b := 16) (by decide) (segRun_of (gr13 w os)) (r10)
  have r12 := step_app (a := 10) (b := 13) (by decide) (segRun_of (gr10 w os)) (r11)
  have r13 := step_app (a := 7) (b := 10) (by decide) (segRun_of (gr7 w os)) (r12)
  have r14 := step_app (a := 4) (b := 7) (by decide) (segRun_of (gr4 w os)) (r13)
  have r15 := step_app (a := 0) (b := 4) (by decide) (segRun_of (gr0 w os)) (r14)
  have hb := block35 w os
  rw [abs0] at hb r15
  have p := piece_block hb r15
  have g := go_top (pre35 w os) p
  rw [abs35] at g
  exact ⟨_, by decide, g⟩
end
end Wu
end
section
namespace Wu
set_option linter.unusedVariables false
noncomputable section
open PySem PySem.Spec PySem.Calls PyProof.Rows PySem.W PyProof.V
theorem run40 (w : World) (os : OsState) : topRun treeTable pw w 11 annB 40000 ⟨boot_heap w.params, Array.mk [], boot_drawn, boot_toks, os⟩ (topStub pw) = some (fin w os) := by
  obtain ⟨M, hM, h⟩ := run35 w os
  have := topRun_mono (40000 - M) _ _ _ _ h
  rw [show M + (40000 - M) = 40000 by have := Nat.le_of_ble_eq_true hM; omega] at this
  exact this
theorem lk6 (w : World) (os : OsState) : openSeen qv looseL modsL XtH true (fin w os) = openGood qv looseL := by
  have h4 := lk4 w os
  have h5 := lk5 w os
  obtain ⟨p1, p2, p3, p4, p5, p6⟩ : _ ∧ _ ∧ _ ∧ _ ∧ _ ∧ _ := by simpa only [Prod.mk.injEq] using h5
  unfold openSeen openGood
  rw [lk2, lk3, h4, XtH_fin, p1, p2, p3, p4, p5, p6]
  rfl
theorem left35 : LeftO pw qv looseL XtH (fun _ => ()) (fun _ => ()) 40000 :=
  LeftO.of_pieces (H₀ := boot_heap) (H₁ := hp35) (gs₀ := Array.mk []) (gs₁ := #[]) (d₀ := boot_drawn) (d₁ := {}) (k₀ := boot_toks) (k₁ := 2667) (m₀ := 11) (ann := annB) (M := 40000) open35 size35 run40 (by decide)
    fun w => funext fun os => by
      have h1 := lk1 w os
      have h6 := lk6 w os
      unfold fin at h1 h6
      rw [h1, h6]
theorem recs_eq : recsOf qv = fnsW := by kernel_rfl
theorem hdef35 : defOf qv rowL.name = some (dr 34, []) := by kernel_rfl
theorem hp34 : rowL.prog.theDef rowL.name = some ((dr 34).params, (dr 34).body, (dr 34).scope) := by kernel_rfl
theorem hk34 : kwWritten? (dr 34).params.kwonlyargs (dr 34).params.kw_defaults = some [] := by kernel_rfl
theorem ok35 : (chainsOk qv && opensWell rowL.prog && (frees rowL.toRowW && rowL.within.isEmpty)) = true := by kernel_rfl
theorem bare35 : rowL.prog.bare := ⟨rfl, rfl, rfl, rfl, rfl, by decide +kernel⟩
theorem prom35 : rowL.toRowW.promised := ⟨[.list [.int 3, .int 1]], by decide +kernel, by decide +kernel⟩
end
end Wu
end
section
namespace Wu
set_option linter.unusedVariables false
noncomputable section
open PySem PySem.Spec PySem.Calls PyProof.Rows PySem.W PyProof.V
theorem okLaw : PySem.Challenge.rw_wu0091_01.wellSaid = true := by kernel_rfl
theorem the_end : PySem.Challenge.rw_wu0091_01.Holds :=
  holds_law okLaw fun k1 => holds_open (r := rowL) (q := qv) (loose := looseL) (Xt := XtH) (XP := HeadX) (Yf := fun _ => ()) (Ya := fun _ => ()) (YP := fun _ _ => True) (d := dr 34) (kwd := []) (N := 40000) left35
    (fun _ _ _ => trivial) (fun _ _ _ _ _ => trivial) XtH_say HeadX.keeps hdef35 hp34 hk34 (fun s _ => recFacts_nil rfl) rfl k1 ok35 bare35 prom35
    (the_walk (fun script _ => plain_all script) (fun d hd => recs_eq ▸ hd) (recs_eq ▸ dr_mem rfl))
end
end Wu
end

theorem PySem.Challenge.cw_wu0091_01_holds : PySem.Challenge.rw_wu0091_01.Holds :=
  Wu.the_end
