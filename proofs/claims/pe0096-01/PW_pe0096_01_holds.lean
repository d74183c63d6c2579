import PyProof.Rows.All
import Wide.All
import OpenK.AllK
import Wide.FinOn
import PySem.Challenge.RW_pe0096_01
open PySem PySem.W PySem.Calls PySem.Spec PyProof.Rows
set_option Elab.async false
set_option maxRecDepth 100000

section
namespace Mine

/-- plain data -/
inductive D where
  | none
  | bool (b : Bool)
  | int (i : Int)
  | str (x : Str)
  | tup (l : List D)
  | list (l : List D)
  | dict (l : List (Str × Int))
  | cmp (t : Int)

/-- what a step keeps -/
structure Kp (F : List Addr) (G : List Nat) (s s' : Shared) : Prop where
  heap : ∀ b o, b ∉ F → s.heap.get? b = some o → s'.heap.get? b = some o
  gens : ∀ g x, g ∉ G → s.gens[g]? = some x → s'.gens[g]? = some x
  bare : AllBare s.gens → AllBare s'.gens
  os : s'.os = s.os

theorem Kp.refl {F G s} : Kp F G s s := ⟨fun _ _ _ e => e, fun _ _ _ e => e, id, rfl⟩
theorem Kp.trans {F G s s' s''} (x : Kp F G s s') (y : Kp F G s' s'') : Kp F G s s'' :=
  ⟨fun b o hb e => y.heap b o hb (x.heap b o hb e), fun g v hg e => y.gens g v hg (x.gens g v hg e), fun e => y.bare (x.bare e), y.os.trans x.os⟩
theorem Kp.mono {F F' G G' s s'} (x : Kp F G s s') (h : ∀ b ∈ F, b ∈ F') (hg : ∀ b ∈ G, b ∈ G') : Kp F' G' s s' :=
  ⟨fun b o hb e => x.heap b o (fun m => hb (h b m)) e, fun g v hgg e => x.gens g v (fun m => hgg (hg g m)) e, x.bare, x.os⟩
theorem Kp.keep {s s'} (x : Kp [] [] s s') : ∀ b o, s.heap.get? b = some o → s'.heap.get? b = some o := fun b o e => x.heap b o (by simp) e
theorem Kp.any {F G s s'} (x : Kp [] [] s s') : Kp F G s s' := x.mono (by simp) (by simp)
theorem Kp.of_heap {F : List Addr} {G : List Nat} {s : Shared} {h' : Heap} {tk : Nat} (hk : ∀ b o, b ∉ F → s.heap.get? b = some o → h'.get? b = some o) : Kp F G s { s with heap := h', toks := tk } :=
  ⟨hk, fun _ _ _ e => e, id, rfl⟩
theorem Kp.toks {F : List Addr} {G : List Nat} {s : Shared} {tk : Nat} : Kp F G s { s with toks := tk } := ⟨fun _ _ _ e => e, fun _ _ _ e => e, id, rfl⟩
theorem Kp.push {F : List Addr} {G : List Nat} {s : Shared} {o : Obj} {tk : Nat} : Kp F G s { s with heap := s.heap.push o, toks := tk } := .of_heap fun _ _ _ e => Heap.get?_push_of_some _ e
theorem Kp.push0 {F : List Addr} {G : List Nat} {s : Shared} {o : Obj} : Kp F G s { s with heap := s.heap.push o } := Kp.push (tk := s.toks)
theorem Kp.same {F : List Addr} {G : List Nat} {s : Shared} {a : Addr} {h' : Heap} {tk : Nat} (hs : Heap.SameBut a s.heap h') (ha : a ∈ F) : Kp F G s { s with heap := h', toks := tk } :=
  .of_heap fun b _ hb e => (hs.2 b (fun q => hb (q ▸ ha))).trans e
/-- objects that did not stand before may be forgotten -/
theorem Kp.drop {F F' : List Addr} {G G' : List Nat} {s s'} (x : Kp F G s s') (h : ∀ b ∈ F, b ∈ F' ∨ s.heap.get? b = none) (hg : ∀ g ∈ G, g ∈ G' ∨ s.gens[g]? = none) : Kp F' G' s s' :=
  ⟨fun b o hb e => x.heap b o (fun m => (h b m).elim hb fun q => by rw [q] at e; cases e) e,
   fun g v hgg e => x.gens g v (fun m => (hg g m).elim hgg fun q => by rw [q] at e; cases e) e, x.bare, x.os⟩

/-- the program's own runs stay far under the limits -/
def Ok (n : Nat) (A : Around) : Prop := A.handled = Option.none ∧ A.depth + n < recursionLimit ∧ A.units + 16 * n < cLine
theorem Ok.h {n A} (x : Ok n A) : A.handled = Option.none := x.1
theorem Ok.room {n A} (x : Ok n A) : A.depth < recursionLimit := by have := x.2.1; omega
theorem Ok.units {n A} (x : Ok n A) : A.units < cLine := by have := x.2.2; omega
theorem Ok.le {n m A} (x : Ok n A) (h : m ≤ n) : Ok m A := ⟨x.1, by have := x.2.1; omega, by have := x.2.2; omega⟩
theorem Ok.in1 {n A} (x : Ok (n + 1) A) : Ok n A.in1 := ⟨x.1, by have := x.2.1; simp only; omega, by have := x.2.2; simp only; omega⟩
theorem Ok.deeper {n A env} (x : Ok (n + 1) A) : Ok n (A.deeper env) := ⟨x.1, by have := x.2.1; simp only [Around.deeper]; omega, by have := x.2.2; simp only [Around.deeper]; omega⟩


/-- the run at hand: the program, the world, what stands at the top -/
structure Cx where
  P : Program
  V : Program
  w : World
  loose : List Str
  mean : ExcName → Option Value
  mg : Str → Option Value
  mb : Str → Option Value
  K : Frag
  CC : Addr
  h0 : Heap
  T : Top V loose mean mg mb h0
  KI : K.In h0

abbrev wpF {α : Type} (X : Cx) (A : Around) (t : Sem α) (Q : α → Shared → Prop) (s : Shared) : Prop := wpAny (model X.P X.w) A t Q (fun _ _ => False) s

/-- a state of the run: what stood at first stands, and W is a list of objects of the run's own -/
structure Wok (X : Cx) (W : List Addr) (s : Shared) : Prop where
  base : ∀ b o, X.h0.get? b = some o → s.heap.get? b = some o
  wex : ∀ b ∈ W, ∃ o, s.heap.get? b = some o
  wb : ∀ b ∈ W, X.h0.get? b = Option.none
theorem Wok.kp {X : Cx} {W : List Addr} {s s' : Shared} (x : Wok X W s) (k : Kp [] [] s s') : Wok X W s' :=
  ⟨fun b o e => k.keep _ _ (x.base b o e), fun b hb => let ⟨o, ho⟩ := x.wex b hb; ⟨o, k.keep _ _ ho⟩, x.wb⟩
theorem Wok.fresh {X : Cx} {W : List Addr} {s : Shared} (i : Wok X W s) : s.heap.objs.size ∉ W := fun m =>
  let ⟨_, ho⟩ := i.wex _ m; Nat.lt_irrefl _ (Heap.lt_size ho)
theorem Wok.g {X : Cx} {W : List Addr} {s : Shared} (i : Wok X W s) : s.heap.Ns mainGlobals X.mg := X.T.g.keeps i.base
theorem Wok.b {X : Cx} {W : List Addr} {s : Shared} (i : Wok X W s) : s.heap.Ns builtinsNs X.mb := X.T.b.keeps i.base
theorem Wok.nolimit {X : Cx} {W : List Addr} {s : Shared} (i : Wok X W s) : s.heap.NoLimit := X.T.nolimit.keeps i.base
theorem Wok.sub {X : Cx} {W W' : List Addr} {s : Shared} (i : Wok X W s) (h : ∀ b ∈ W', b ∈ W) : Wok X W' s := ⟨i.base, fun b hb => i.wex b (h b hb), fun b hb => i.wb b (h b hb)⟩
theorem none_of_size {h : Heap} {a : Addr} (ha : h.objs.size ≤ a) : h.get? a = Option.none := by
  cases e : h.get? a with
  | none => rfl
  | some o => exact absurd (Heap.lt_size e) (Nat.not_lt.mpr ha)
theorem Wok.new {X : Cx} {W : List Addr} {s : Shared} (i : Wok X W s) {b : Addr} (hb : s.heap.get? b = Option.none) : X.h0.get? b = Option.none := by
  cases e : X.h0.get? b with
  | none => rfl
  | some o => rw [i.base b o e] at hb; cases hb

/-- the entries of a dict of strs and ints -/
def dvals (l : List (Str × Int × Tok)) : List (Str × Value) := l.map fun x => (x.1, Value.int x.2.1 x.2.2)
def dkeys (l : List (Str × Int × Tok)) : List (Str × Int) := l.map fun x => (x.1, x.2.1)

/-- a plain list object -/
def LEx (h : Heap) (a : Addr) (vs : List Value) : Prop := ∃ k, h.get? a = some ⟨.type "list", Option.none, .seq vs.toArray k, #[]⟩
theorem LEx.isList {h : Heap} {a : Addr} {vs : List Value} (x : LEx h a vs) : h.IsList a vs.toArray := let ⟨k, e⟩ := x; ⟨_, e, rfl, k, rfl⟩
theorem LEx.plain {h : Heap} {a : Addr} {vs : List Value} (x : LEx h a vs) : PlainL h a vs.toArray := let ⟨k, e⟩ := x; ⟨_, k, e, rfl, rfl, rfl⟩

/-- an object of the class at C: its own dict at dx, the list of what to compare in it -/
def CmpAt (C : Addr) (h : Heap) (x dx : Addr) (v : Value) : Prop :=
  h.get? x = some (instObj C dx) ∧ ∃ od es n, h.get? dx = some od ∧ od.data = .dict es n ∧ lookIn "comp_select_list" od = some (some v) ∧ lookIn "compare" od = some none

mutual
/-- v is d in the heap h, by objects that do not stand in W -/
inductive Rep (X : Cx) (W : List Addr) (h : Heap) : Value → D → Prop where
  | none : Rep X W h .none .none
  | bool (b : Bool) : Rep X W h (.bool b) (.bool b)
  | int (i : Int) (t : Tok) : Rep X W h (.int i t) (.int i)
  | str (x : Str) (t : Tok) : Rep X W h (.str x t) (.str x)
  | tup {a : Addr} {vs : List Value} {ds : List D} : h.IsTuple a vs.toArray → a ∉ W → Reps X W h vs ds → Rep X W h (.ref a) (.tup ds)
  | list {a : Addr} {vs : List Value} {ds : List D} : LEx h a vs → a ∉ W → Reps X W h vs ds → Rep X W h (.ref a) (.list ds)
  | dict {a : Addr} {l : List (Str × Int × Tok)} : h.DictOf (strKind X.P X.w) a (dvals l) → (a == sysModules) = false → a ∉ W → Rep X W h (.ref a) (.dict (dkeys l))
  | cmp {x dx : Addr} {v : Value} {t : Int} : CmpAt X.CC h x dx v → x ∉ W → dx ∉ W → Rep X W h v (.tup [.tup [.int 0, .int t], .tup [.int 1, .int (-t)]]) → Rep X W h (.ref x) (.cmp t)
inductive Reps (X : Cx) (W : List Addr) (h : Heap) : List Value → List D → Prop where
  | nil : Reps X W h [] []
  | cons {v : Value} {d : D} {vs : List Value} {ds : List D} : Rep X W h v d → Reps X W h vs ds → Reps X W h (v :: vs) (d :: ds)
end

variable {X : Cx} {W W' : List Addr} {h h' : Heap}

/-- an object that stays makes the data stay -/
theorem Rep.mono (hk : ∀ b o, b ∉ W → h.get? b = some o → h'.get? b = some o) {v : Value} {d : D} (r : Rep X W h v d) : Rep X W h' v d := by
  refine Rep.rec (motive_1 := fun v d _ => Rep X W h' v d) (motive_2 := fun vs ds _ => Reps X W h' vs ds) ?_ ?_ ?_ ?_ ?_ ?_ ?_ ?_ ?_ ?_ r
  · exact .none
  · exact fun b => .bool b
  · exact fun i t => .int i t
  · exact fun x t => .str x t
  · intro a vs ds ⟨o, ho, r⟩ ha _ ih; exact .tup ⟨o, hk _ _ ha ho, r⟩ ha ih
  · intro a vs ds ⟨o, ho⟩ ha _ ih; exact .list ⟨o, hk _ _ ha ho⟩ ha ih
  · intro a l ⟨o, es, ep, ho, r⟩ hs ha; exact .dict ⟨o, es, ep, hk _ _ ha ho, r⟩ hs ha
  · intro x dx v t ⟨h1, od, es, n, h2, r⟩ hx hd _ ih; exact .cmp ⟨hk _ _ hx h1, od, es, n, hk _ _ hd h2, r⟩ hx hd ih
  · exact .nil
  · intro v d vs ds _ _ h1 h2; exact .cons h1 h2
theorem Reps.mono (hk : ∀ b o, b ∉ W → h.get? b = some o → h'.get? b = some o) : ∀ {vs : List Value} {ds : List D}, Reps X W h vs ds → Reps X W h' vs ds
  | _, _, .nil => .nil
  | _, _, .cons r1 r2 => .cons (r1.mono hk) (Reps.mono hk r2)
theorem Rep.sub (hw : ∀ b ∈ W', b ∈ W) {v : Value} {d : D} (r : Rep X W h v d) : Rep X W' h v d := by
  refine Rep.rec (motive_1 := fun v d _ => Rep X W' h v d) (motive_2 := fun vs ds _ => Reps X W' h vs ds) ?_ ?_ ?_ ?_ ?_ ?_ ?_ ?_ ?_ ?_ r
  · exact .none
  · exact fun b => .bool b
  · exact fun i t => .int i t
  · exact fun x t => .str x t
  · intro a vs ds r ha _ ih; exact .tup r (fun m => ha (hw _ m)) ih
  · intro a vs ds r ha _ ih; exact .list r (fun m => ha (hw _ m)) ih
  · intro a l r hs ha; exact .dict r hs (fun m => ha (hw _ m))
  · intro x dx v t r hx hd _ ih; exact .cmp r (fun m => hx (hw _ m)) (fun m => hd (hw _ m)) ih
  · exact .nil
  · intro v d vs ds _ _ h1 h2; exact .cons h1 h2
theorem Reps.sub (hw : ∀ b ∈ W', b ∈ W) : ∀ {vs : List Value} {ds : List D}, Reps X W h vs ds → Reps X W' h vs ds
  | _, _, .nil => .nil
  | _, _, .cons r1 r2 => .cons (r1.sub hw) (Reps.sub hw r2)
/-- fresh addresses may be barred too -/
theorem Rep.bar {N : List Addr} (hN : ∀ b ∈ N, h.get? b = Option.none) {v : Value} {d : D} (r : Rep X W h v d) : Rep X (N ++ W) h v d := by
  have out : ∀ a o, h.get? a = some o → a ∉ W → a ∉ N ++ W := fun a o e ha m => (List.mem_append.mp m).elim (fun q => by rw [hN a q] at e; cases e) ha
  refine Rep.rec (motive_1 := fun v d _ => Rep X (N ++ W) h v d) (motive_2 := fun vs ds _ => Reps X (N ++ W) h vs ds) ?_ ?_ ?_ ?_ ?_ ?_ ?_ ?_ ?_ ?_ r
  · exact .none
  · exact fun b => .bool b
  · exact fun i t => .int i t
  · exact fun x t => .str x t
  · intro a vs ds r ha _ ih; exact .tup r (let ⟨o, ho, _⟩ := r; out a o ho ha) ih
  · intro a vs ds r ha _ ih; exact .list r (let ⟨_, ho⟩ := r; out a _ ho ha) ih
  · intro a l r hs ha; exact .dict r hs (let ⟨o, _, _, ho, _⟩ := r; out a o ho ha)
  · intro x dx v t r hx hd _ ih; exact .cmp r (out x _ r.1 hx) (let ⟨_, od, _, _, h2, _⟩ := r; out dx od h2 hd) ih
  · exact .nil
  · intro v d vs ds _ _ h1 h2; exact .cons h1 h2
theorem Reps.bar {N : List Addr} (hN : ∀ b ∈ N, h.get? b = Option.none) : ∀ {vs : List Value} {ds : List D}, Reps X W h vs ds → Reps X (N ++ W) h vs ds
  | _, _, .nil => .nil
  | _, _, .cons r1 r2 => .cons (r1.bar hN) (Reps.bar hN r2)
theorem Rep.kp {s s' : Shared} {F : List Addr} {G : List Nat} (k : Kp F G s s') (hF : ∀ b ∈ F, b ∈ W) {v : Value} {d : D} (r : Rep X W s.heap v d) : Rep X W s'.heap v d :=
  r.mono fun b o hb e => k.heap b o (fun m => hb (hF b m)) e
theorem Reps.kp {s s' : Shared} {F : List Addr} {G : List Nat} (k : Kp F G s s') (hF : ∀ b ∈ F, b ∈ W) {v : List Value} {d : List D} (r : Reps X W s.heap v d) : Reps X W s'.heap v d :=
  r.mono fun b o hb e => k.heap b o (fun m => hb (hF b m)) e
theorem Rep.kp0 {s s' : Shared} (k : Kp [] [] s s') {v : Value} {d : D} (r : Rep X W s.heap v d) : Rep X W s'.heap v d := r.kp k (by simp)
theorem Reps.kp0 {s s' : Shared} (k : Kp [] [] s s') {v : List Value} {d : List D} (r : Reps X W s.heap v d) : Reps X W s'.heap v d := r.kp k (by simp)
theorem Reps.length : ∀ {vs : List Value} {ds : List D}, Reps X W h vs ds → vs.length = ds.length
  | _, _, .nil => rfl
  | _, _, .cons _ r => by simp [Reps.length r]
theorem Reps.get : ∀ {vs : List Value} {ds : List D}, Reps X W h vs ds → ∀ {i : Nat} {d : D}, ds[i]? = some d → ∃ v, vs[i]? = some v ∧ Rep X W h v d
  | _, _, .nil, i, d, e => by simp at e
  | _, _, .cons r rs, 0, d, e => by simp at e; subst e; exact ⟨_, by simp, r⟩
  | _, _, .cons r rs, i + 1, d, e => by
    simp at e
    obtain ⟨v, h1, h2⟩ := Reps.get rs e
    exact ⟨v, by simpa using h1, h2⟩
theorem Reps.append : ∀ {vs vs' : List Value} {ds ds' : List D}, Reps X W h vs ds → Reps X W h vs' ds' → Reps X W h (vs ++ vs') (ds ++ ds')
  | _, _, _, _, .nil, r => r
  | _, _, _, _, .cons r rs, r' => .cons r (Reps.append rs r')
theorem Reps.take : ∀ {vs : List Value} {ds : List D}, Reps X W h vs ds → ∀ n, Reps X W h (vs.take n) (ds.take n)
  | _, _, .nil, n => by simp; exact .nil
  | _, _, .cons r rs, 0 => by simp; exact .nil
  | _, _, .cons r rs, n + 1 => by simp; exact .cons r (Reps.take rs n)
theorem Reps.drop : ∀ {vs : List Value} {ds : List D}, Reps X W h vs ds → ∀ n, Reps X W h (vs.drop n) (ds.drop n)
  | _, _, .nil, n => by simp; exact .nil
  | _, _, .cons r rs, 0 => by simp; exact .cons r rs
  | _, _, .cons r rs, n + 1 => by simp; exact Reps.drop rs n
end Mine

end
section
namespace Mine
variable {X : Cx}

structure EnvB (env : Env) : Prop where
  kind : env.scope.kind = .function
  gl : env.globals = mainGlobals
  bi : env.builtins = builtinsNs

abbrev Vars := List (Str × D)

def Bound (env : Env) (h : Heap) (x : Str) (v : Value) : Prop :=
  (env.kindOf x = some .local ∧ ∃ m, h.Ns env.locals m ∧ m x = some v) ∨
  ((env.kindOf x = some .cell ∨ (env.kindOf x = some .free ∧ (x == ("__classdict__" : Str)) = false)) ∧ ∃ c, env.cells.lookup x = some c ∧ h.IsCell c (some v))

theorem Bound.keeps {env : Env} {h h' : Heap} {x : Str} {v : Value} (b : Bound env h x v) (hk : ∀ b o, h.get? b = some o → h'.get? b = some o) : Bound env h' x v := by
  rcases b with ⟨h1, m, h2, h3⟩ | ⟨h1, c, h2, h3⟩
  · exact .inl ⟨h1, m, h2.keeps hk, h3⟩
  · exact .inr ⟨h1, c, h2, h3.keeps hk⟩

theorem Bound.load {env : Env} {A : Around} {s : Shared} {x : Str} {v : Value} {Q : Value → Shared → Prop} (b : Bound env s.heap x v) (hk : env.scope.kind = .function) (h : Q v s) : wpF X A (loadName env x) Q s := by
  rcases b with ⟨h1, m, h2, h3⟩ | ⟨h1 | ⟨h1, hc⟩, c, h2, h3⟩
  · exact wpAny_loadName_local hk h1 h2 h3 h
  · exact wpAny_loadName_cell hk h1 h2 h3 h
  · exact wpAny_loadName_free hk h1 h2 h3 h hc

structure Iv (X : Cx) (env : Env) (ρ : Vars) (W : List Addr) (s : Shared) : Prop where
  eb : EnvB env
  wok : Wok X W s
  vars : ∀ x d, ρ.lookup x = some d → ∃ v, Bound env s.heap x v ∧ Rep X W s.heap v d

theorem Iv.kp {env : Env} {ρ : Vars} {W : List Addr} {s s' : Shared} (i : Iv X env ρ W s) (k : Kp [] [] s s') : Iv X env ρ W s' where
  eb := i.eb
  wok := i.wok.kp k
  vars := fun x d e => let ⟨v, h1, h2⟩ := i.vars x d e; ⟨v, h1.keeps k.keep, h2.kp0 k⟩
/-- a fresh address stands in no W -/
theorem Iv.fresh {env : Env} {ρ : Vars} {W : List Addr} {s : Shared} (i : Iv X env ρ W s) : s.heap.objs.size ∉ W := i.wok.fresh

/-- e gives d -/
structure Ev (X : Cx) (n : Nat) (env : Env) (ρ : Vars) (e : Expr) (d : D) : Prop where
  run : ∀ (A : Around) (W : List Addr) (s : Shared) (Q : Value → Shared → Prop), Ok n A → Iv X env ρ W s →
    (∀ v s', Kp [] [] s s' → Iv X env ρ W s' → Rep X W s'.heap v d → Q v s') → wpF X A (eval e env) Q s
/-- the test e comes out as b -/
structure Ts (X : Cx) (n : Nat) (env : Env) (ρ : Vars) (e : Expr) (b : Bool) : Prop where
  run : ∀ (A : Around) (W : List Addr) (s : Shared) (Q : Bool → Shared → Prop), Ok n A → Iv X env ρ W s →
    (∀ s', Kp [] [] s s' → Iv X env ρ W s' → Q b s') → wpF X A (isTrue e env (eval e env)) Q s
/-- the arguments give ds -/
structure Evs (X : Cx) (n : Nat) (env : Env) (ρ : Vars) (es : List Expr) (ds : List D) : Prop where
  run : ∀ (A : Around) (W : List Addr) (s : Shared) (pos : Pos) (Q : List Value → Shared → Prop), Ok n A → Iv X env ρ W s →
    (∀ vs s', Kp [] [] s s' → Iv X env ρ W s' → Reps X W s'.heap vs ds → Q vs s') → wpF X A (spliced (backTo pos (starEach es env))) Q s

section
variable {n : Nat} {env : Env} {ρ : Vars}

theorem Ev.int {i : Int} {k : Nat} {pos : Pos} : Ev X n env ρ (.Constant (.int i) k pos) (.int i) := .mk fun _ _ _ _ _ iv h =>
  wpAny_Constant_int (h _ _ .toks (iv.kp .toks) (.int _ _))
theorem Ev.bool {b : Bool} {k : Nat} {pos : Pos} : Ev X n env ρ (.Constant (.bool b) k pos) (.bool b) := .mk fun _ _ _ _ _ iv h =>
  wpAny_Constant_bool (h _ _ .refl iv (.bool _))
theorem Ev.str {x : Str} {k : Nat} {pos : Pos} : Ev X n env ρ (.Constant (.str x) k pos) (.str x) := .mk fun _ _ _ _ _ iv h =>
  wpAny_Constant_str (h _ _ .toks (iv.kp .toks) (.str _ _))
theorem Ev.non {k : Nat} {pos : Pos} : Ev X n env ρ (.Constant .none k pos) .none := .mk fun _ _ _ _ _ iv h =>
  wpAny_Constant_none (h _ _ .refl iv .none)
theorem Ev.name {x : Str} {pos : Pos} {d : D} (hx : ρ.lookup x = some d) (hd : (x == ("__debug__" : Str)) = false := by decide) : Ev X n env ρ (.Name x pos) d := .mk fun _ _ _ _ _ iv h => by
  obtain ⟨v, hb, hr⟩ := iv.vars x d hx
  exact wpAny_Name (hb.load iv.eb.kind (h _ _ .refl iv hr)) hd

/-- two operands -/
theorem Ev.bin {l r : Expr} {op : Operator} {pos : Pos} {a b d : D} (hl : Ev X n env ρ l a) (hr : Ev X n env ρ r b)
    (hop : ∀ (A : Around) (W : List Addr) (s : Shared) (u v : Value) (Q : Value → Shared → Prop), Ok n A → Iv X env ρ W s → Rep X W s.heap u a → Rep X W s.heap v b →
      (∀ v' s', Kp [] [] s s' → Rep X W s'.heap v' d → Q v' s') → wpF X A (binaryOp op u v) Q s) : Ev X n env ρ (.BinOp l op r pos) d := .mk fun A W s Q ok iv h => by
  refine wpAny_BinOp (hl.run A W s _ ok iv fun u s₁ k₁ iv₁ r₁ => hr.run A W s₁ _ ok iv₁ fun v s₂ k₂ iv₂ r₂ => ?_)
  exact hop A W s₂ u v _ ok iv₂ (r₁.kp0 k₂) r₂ fun v' s' k r => h _ _ ((k₁.trans k₂).trans k) (iv₂.kp k) r
theorem Ev.add {l r : Expr} {pos : Pos} {a b : Int} (hl : Ev X n env ρ l (.int a)) (hr : Ev X n env ρ r (.int b)) : Ev X n env ρ (.BinOp l .Add r pos) (.int (a + b)) :=
  hl.bin hr fun A W s u v Q ok iv ru rv h => by cases ru; cases rv; exact add_int (h _ _ .toks (.int _ _))
theorem Ev.sub {l r : Expr} {pos : Pos} {a b : Int} (hl : Ev X n env ρ l (.int a)) (hr : Ev X n env ρ r (.int b)) : Ev X n env ρ (.BinOp l .Sub r pos) (.int (a - b)) :=
  hl.bin hr fun A W s u v Q ok iv ru rv h => by cases ru; cases rv; exact PyProof.Rows.sub_int (h _ _ .toks (.int _ _))
theorem Ev.mul {l r : Expr} {pos : Pos} {a b : Int} (hl : Ev X n env ρ l (.int a)) (hr : Ev X n env ρ r (.int b)) (hm : IntMulOk a b) : Ev X n env ρ (.BinOp l .Mult r pos) (.int (a * b)) :=
  hl.bin hr fun A W s u v Q ok iv ru rv h => by cases ru; cases rv; exact PyProof.Rows.mul_int (h _ _ .toks (.int _ _)) hm
theorem Ev.mod {l r : Expr} {pos : Pos} {a b : Int} (hl : Ev X n env ρ l (.int a)) (hr : Ev X n env ρ r (.int b)) (hb : b ≠ 0) : Ev X n env ρ (.BinOp l .Mod r pos) (.int (a.fmod b)) :=
  hl.bin hr fun A W s u v Q ok iv ru rv h => by cases ru; cases rv; exact mod_int' hb (h _ _ .toks (.int _ _))
theorem Ev.div {l r : Expr} {pos : Pos} {a b : Int} (hl : Ev X n env ρ l (.int a)) (hr : Ev X n env ρ r (.int b)) (hb : b ≠ 0) (hp : Builtin.divisionGoesByPylong a b = false) : Ev X n env ρ (.BinOp l .FloorDiv r pos) (.int (a.fdiv b)) :=
  hl.bin hr fun A W s u v Q ok iv ru rv h => by cases ru; cases rv; exact floordiv_int hb (h _ _ .toks (.int _ _)) (.inl hp)
theorem Ev.subb {l r : Expr} {pos : Pos} {a b : Bool} (hl : Ev X n env ρ l (.bool a)) (hr : Ev X n env ρ r (.bool b))
    (hs : ∀ (A : Around) (s : Shared) (Q : Value → Shared → Prop), Q (.int ((if a then 1 else 0) - (if b then 1 else 0)) s.toks) { s with toks := s.toks + 1 } → wpF X A (binaryOp .Sub (.bool a) (.bool b)) Q s) : Ev X n env ρ (.BinOp l .Sub r pos) (.int ((if a then 1 else 0) - (if b then 1 else 0))) :=
  hl.bin hr fun A W s u v Q ok iv ru rv h => by cases ru; cases rv; exact hs _ _ _ (h _ _ .toks (.int _ _))
theorem Ev.cat {l r : Expr} {pos : Pos} {a b : Str} (hl : Ev X n env ρ l (.str a)) (hr : Ev X n env ρ r (.str b)) (hz : a.length + b.length ≤ sizeLine) : Ev X n env ρ (.BinOp l .Add r pos) (.str (a ++ b)) :=
  hl.bin hr fun A W s u v Q ok iv ru rv h => by cases ru; cases rv; exact PyProof.Rows.add_str (fun _ _ => h _ _ .toks (.str _ _)) hz
theorem Ev.neg {e : Expr} {pos : Pos} {a : Int} (he : Ev X n env ρ e (.int a)) : Ev X n env ρ (.UnaryOp .USub e pos) (.int (-a)) := .mk fun A W s Q ok iv h => by
  show wpAny _ _ (eval e env >>= _) _ _ _
  refine wpAny_bind (he.run A W s _ ok iv fun v s₁ k₁ iv₁ r₁ => ?_)
  cases r₁
  exact wpAny_bind (wpAny_standAt (wpAny_holding (PyProof.Rows.neg_int (h _ _ (k₁.trans .toks) (iv₁.kp .toks) (.int _ _)))))

/-- one comparison -/
theorem Ev.cmp {l r : Expr} {op : CmpOp} {pos : Pos} {a b d : D} (hl : Ev X n env ρ l a) (hr : Ev X n env ρ r b)
    (hop : ∀ (A : Around) (W : List Addr) (s : Shared) (u v : Value) (Q : Value → Shared → Prop), Ok n A → Iv X env ρ W s → Rep X W s.heap u a → Rep X W s.heap v b →
      (∀ v' s', Kp [] [] s s' → Rep X W s'.heap v' d → Q v' s') → wpF X A (compareOp op u v) Q s) (hm : behindInMarks op r = false := by with_unfolding_all rfl) : Ev X n env ρ (.Compare l [op] [r] pos) d := .mk fun A W s Q ok iv h => by
  refine wpAny_Compare1 (hl.run A W s _ ok iv fun u s₁ k₁ iv₁ r₁ => hr.run A W s₁ _ ok iv₁ fun v s₂ k₂ iv₂ r₂ => ?_) hm
  exact hop A W s₂ u v _ ok iv₂ (r₁.kp0 k₂) r₂ fun v' s' k r => h _ _ ((k₁.trans k₂).trans k) (iv₂.kp k) r
theorem Ts.cmp {l r : Expr} {op : CmpOp} {pos : Pos} {a b : D} {c : Bool} (hl : Ev X n env ρ l a) (hr : Ev X n env ρ r b)
    (hop : ∀ (A : Around) (W : List Addr) (s : Shared) (u v : Value) (Q : Value → Shared → Prop), Ok n A → Iv X env ρ W s → Rep X W s.heap u a → Rep X W s.heap v b →
      (∀ v' s', Kp [] [] s s' → Rep X W s'.heap v' (.bool c) → Q v' s') → wpF X A (compareOp op u v) Q s) (hm : behindInMarks op r = false := by with_unfolding_all rfl) : Ts X n env ρ (.Compare l [op] [r] pos) c := .mk fun A W s Q ok iv h => by
  refine wpAny_isTrue_Compare1 (hl.run A W s _ ok iv fun u s₁ k₁ iv₁ r₁ => hr.run A W s₁ _ ok iv₁ fun v s₂ k₂ iv₂ r₂ => ?_) hm
  refine hop A W s₂ u v _ ok iv₂ (r₁.kp0 k₂) r₂ fun v' s' k r => ?_
  cases r
  exact wpAny_truthy_bool (h _ ((k₁.trans k₂).trans k) (iv₂.kp k))

def CmpI (X : Cx) (n : Nat) (env : Env) (ρ : Vars) (op : CmpOp) (a b : D) (c : Bool) : Prop :=
  ∀ (A : Around) (W : List Addr) (s : Shared) (u v : Value) (Q : Value → Shared → Prop), Ok n A → Iv X env ρ W s → Rep X W s.heap u a → Rep X W s.heap v b →
      (∀ v' s', Kp [] [] s s' → Rep X W s'.heap v' (.bool c) → Q v' s') → wpF X A (compareOp op u v) Q s
theorem CmpI.lt {a b : Int} : CmpI X n env ρ .Lt (.int a) (.int b) (decide (a < b)) := fun A W s u v Q ok iv ru rv h => by
  cases ru; cases rv; exact PyProof.Rows.lt_int (h _ _ .refl (.bool _))
theorem CmpI.gt {a b : Int} : CmpI X n env ρ .Gt (.int a) (.int b) (decide (b < a)) := fun A W s u v Q ok iv ru rv h => by
  cases ru; cases rv; exact PyProof.Rows.gt_int (h _ _ .refl (.bool _))
theorem CmpI.eq {a b : Int} : CmpI X n env ρ .Eq (.int a) (.int b) (a == b) := fun A W s u v Q ok iv ru rv h => by
  cases ru; cases rv; exact PyProof.Rows.eq_int (h _ _ .refl (.bool _))
theorem CmpI.ne {a b : Int} : CmpI X n env ρ .NotEq (.int a) (.int b) (a != b) := fun A W s u v Q ok iv ru rv h => by
  cases ru; cases rv; exact PyProof.Rows.ne_int (h _ _ .refl (.bool _))
theorem CmpI.eqs {a b : Str} : CmpI X n env ρ .Eq (.str a) (.str b) (a == b) := fun A W s u v Q ok iv ru rv h => by
  cases ru; cases rv; exact PyProof.Rows.eq_str (h _ _ .refl (.bool _))

/-- a value's truth -/
theorem Ts.bool {e : Expr} {b : Bool} (he : Ev X n env ρ e (.bool b)) (hp : isTrue e env (eval e env) = (do let v ← eval e env; standAt e.pos; holding [v] (truthy v)) := by rfl) : Ts X n env ρ e b := .mk fun A W s Q ok iv h => by
  rw [hp]
  refine wpAny_bind (he.run A W s _ ok iv fun v s₁ k₁ iv₁ r₁ => ?_)
  cases r₁
  exact wpAny_bind (wpAny_standAt (wpAny_holding (wpAny_truthy_bool (h _ k₁ iv₁))))
theorem Ts.int {e : Expr} {a : Int} (he : Ev X n env ρ e (.int a)) (hp : isTrue e env (eval e env) = (do let v ← eval e env; standAt e.pos; holding [v] (truthy v)) := by rfl) : Ts X n env ρ e (a != 0) := .mk fun A W s Q ok iv h => by
  rw [hp]
  refine wpAny_bind (he.run A W s _ ok iv fun v s₁ k₁ iv₁ r₁ => ?_)
  cases r₁
  exact wpAny_bind (wpAny_standAt (wpAny_holding (P.truthy_int (h _ k₁ iv₁))))
theorem Ts.not {e : Expr} {pos : Pos} {b : Bool} (he : Ts X n env ρ e b) : Ts X n env ρ (.UnaryOp .Not e pos) (!b) := .mk fun A W s Q ok iv h =>
  wpAny_isTrue_Not (he.run A W s _ ok iv fun s₁ k₁ iv₁ => h _ k₁ iv₁)
theorem Ts.or {e f : Expr} {pos : Pos} {a b : Bool} (he : Ts X n env ρ e a) (hf : a = false → Ts X n env ρ f b) : Ts X n env ρ (.BoolOp .Or [e, f] pos) (a || b) := .mk fun A W s Q ok iv h => by
  show wpAny _ _ (allTrue .Or [e, f] env) _ _ _
  show wpAny _ _ (isTrue e env (eval e env) >>= _) _ _ _
  refine wpAny_bind (he.run A W s _ ok iv fun s₁ k₁ iv₁ => ?_)
  cases a with
  | true => exact wpAny_pure (h _ k₁ iv₁)
  | false =>
    show wpAny _ _ (isTrue f env (eval f env) >>= _) _ _ _
    refine wpAny_bind ((hf rfl).run A W s₁ _ ok iv₁ fun s₂ k₂ iv₂ => ?_)
    cases b with
    | true => exact wpAny_pure (h _ (k₁.trans k₂) iv₂)
    | false => exact wpAny_pure (h _ (k₁.trans k₂) iv₂)
theorem Ts.and {e f : Expr} {pos : Pos} {a b : Bool} (he : Ts X n env ρ e a) (hf : a = true → Ts X n env ρ f b) : Ts X n env ρ (.BoolOp .And [e, f] pos) (a && b) := .mk fun A W s Q ok iv h => by
  show wpAny _ _ (allTrue .And [e, f] env) _ _ _
  show wpAny _ _ (isTrue e env (eval e env) >>= _) _ _ _
  refine wpAny_bind (he.run A W s _ ok iv fun s₁ k₁ iv₁ => ?_)
  cases a with
  | false => exact wpAny_pure (h _ k₁ iv₁)
  | true =>
    show wpAny _ _ (isTrue f env (eval f env) >>= _) _ _ _
    refine wpAny_bind ((hf rfl).run A W s₁ _ ok iv₁ fun s₂ k₂ iv₂ => ?_)
    cases b with
    | true => exact wpAny_pure (h _ (k₁.trans k₂) iv₂)
    | false => exact wpAny_pure (h _ (k₁.trans k₂) iv₂)
theorem Ev.ifexp {t a b : Expr} {pos : Pos} {c : Bool} {d e : D} (ht : Ts X n env ρ t c) (ha : c = true → Ev X n env ρ a d) (hb : c = false → Ev X n env ρ b e) : Ev X n env ρ (.IfExp t a b pos) (if c then d else e) := .mk fun A W s Q ok iv h => by
  refine wpAny_IfExp (ht.run A W s _ ok iv fun s₁ k₁ iv₁ => ?_)
  cases c with
  | true => exact (ha rfl).run A W s₁ _ ok iv₁ fun v s₂ k₂ iv₂ r => h _ _ (k₁.trans k₂) iv₂ r
  | false => exact (hb rfl).run A W s₁ _ ok iv₁ fun v s₂ k₂ iv₂ r => h _ _ (k₁.trans k₂) iv₂ r

theorem Evs.nil : Evs X n env ρ [] [] := .mk fun _ _ _ _ _ _ iv h => spliced_nil (h _ _ .refl iv .nil)
theorem Evs.cons {e : Expr} {es : List Expr} {d : D} {ds : List D} (he : Ev X n env ρ e d) (hes : Evs X n env ρ es ds)
    (hst : ∀ env, starEach (e :: es) env = (false, eval e env) :: starEach es env := by intro _; rfl) : Evs X n env ρ (e :: es) (d :: ds) := .mk fun A W s pos Q ok iv h => by
  refine spliced_more (he.run A W s _ ok iv fun v s₁ k₁ iv₁ r₁ => hes.run A W s₁ pos _ ok iv₁ fun vs s₂ k₂ iv₂ r₂ => ?_) (hst env)
  exact h _ _ (k₁.trans k₂) iv₂ (.cons (r₁.kp0 k₂) r₂)
theorem Ev.tuple {es : List Expr} {k : Nat} {pos : Pos} {ds : List D} (hes : Evs X n env ρ es ds) (hz : ds.length ≤ sizeLine := by decide) : Ev X n env ρ (.Tuple es k pos) (.tup ds) := .mk fun A W s Q ok iv h => by
  refine Tuple_ (hes.run A W s pos _ ok iv fun vs s₁ k₁ iv₁ r₁ => ?_)
  refine wpAny_newTuple (h _ _ (k₁.trans .push0) (iv₁.kp .push0) (.tup ⟨_, Heap.get?_push_size _ rfl, rfl, 0, rfl⟩ iv₁.fresh (r₁.kp0 .push0))) (by rw [r₁.length]; exact hz)
theorem Ev.listd {es : List Expr} {pos : Pos} {ds : List D} (hes : Evs X n env ρ es ds) (hz : ds.length ≤ sizeLine := by decide) : Ev X n env ρ (.List es pos) (.list ds) := .mk fun A W s Q ok iv h => by
  refine List_ (hes.run A W s pos _ ok iv fun vs s₁ k₁ iv₁ r₁ => ?_)
  refine wpAny_newList (h _ _ (k₁.trans .push0) (iv₁.kp .push0) (.list ⟨0, Heap.get?_push_size _ rfl⟩ iv₁.fresh (r₁.kp0 .push0))) (by rw [r₁.length]; exact hz)
end
end Mine

end
section
namespace Mine
variable {X : Cx}

inductive OV where
  | list (ds : List D)
  | dict (l : List (Str × Int))
abbrev Own := List (Str × Addr × OV)

def OwnIs (X : Cx) (W : List Addr) (h : Heap) (a : Addr) : OV → Prop
  | .list ds => ∃ vs, LEx h a vs ∧ Reps X W h vs ds
  | .dict l => ∃ l', dkeys l' = l ∧ h.DictOf (strKind X.P X.w) a (dvals l') ∧ (a == sysModules) = false
theorem OwnIs.mono {W : List Addr} {h h' : Heap} {a : Addr} {o : OV} (x : OwnIs X W h a o) (hk : ∀ b o, b ∉ W → h.get? b = some o → h'.get? b = some o) (ha : ∀ o, h.get? a = some o → h'.get? a = some o) : OwnIs X W h' a o := by
  cases o with
  | list ds => obtain ⟨vs, ⟨k, e⟩, r⟩ := x; exact ⟨vs, ⟨k, ha _ e⟩, r.mono hk⟩
  | dict l => obtain ⟨l', e, ⟨o, es, ep, ho, r⟩, hs⟩ := x; exact ⟨l', e, ⟨o, es, ep, ha _ ho, r⟩, hs⟩

theorem ns_unique {h : Heap} {a : Addr} {m m' : Str → Option Value} (x : h.Ns a m) (y : h.Ns a m') : m = m' := by
  obtain ⟨o, es, ep, ho, hd, _, hf⟩ := x
  obtain ⟨o', es', ep', ho', hd', _, hf'⟩ := y
  rw [ho] at ho'; cases ho'
  rw [hd] at hd'; cases hd'
  funext y; rw [← hf, ← hf']

/-- the state of a body: its names, and the lists and dicts that it alone holds and still changes -/
structure Sv (X : Cx) (oc : List Str) (env : Env) (ρ : Vars) (ω : Own) (F W : List Addr) (s : Shared) : Prop where
  iv : Iv X env ρ W s
  ns : ∃ m, s.heap.Ns env.locals m
  lF : env.locals ∈ F
  lW : env.locals ∈ W
  fb : ∀ b ∈ F, X.h0.get? b = Option.none
  fex : ∀ b ∈ F, ∃ o, s.heap.get? b = some o
  fW : ∀ b ∈ F, b ∈ W
  cF : ∀ x c, env.cells.lookup x = some c → (x ∈ oc → c ∈ F) ∧ c ≠ env.locals ∧ ∃ v, s.heap.IsCell c v
  cI : ∀ x y c, x ∈ oc → env.cells.lookup x = some c → env.cells.lookup y = some c → y = x
  own : ∀ x a o, (x, a, o) ∈ ω → a ∈ F ∧ a ∈ W ∧ a ≠ env.locals ∧ (∀ y c, env.cells.lookup y = some c → a ≠ c) ∧ Bound env s.heap x (.ref a) ∧ OwnIs X W s.heap a o
  ownA : (ω.map fun p => p.2.1).Nodup

section
variable {oc : List Str} {env : Env} {ρ ρ' : Vars} {ω : Own} {F W : List Addr} {s s' : Shared} {n : Nat} {A : Around}

theorem Sv.kp (v : Sv X oc env ρ ω F W s) (k : Kp [] [] s s') : Sv X oc env ρ ω F W s' where
  iv := v.iv.kp k
  ns := let ⟨m, h⟩ := v.ns; ⟨m, h.keeps k.keep⟩
  lF := v.lF
  lW := v.lW
  fb := v.fb
  fex := fun b hb => let ⟨o, ho⟩ := v.fex b hb; ⟨o, k.keep _ _ ho⟩
  fW := v.fW
  cF := fun x c e => let ⟨h1, h3, u, h4⟩ := v.cF x c e; ⟨h1, h3, u, h4.keeps k.keep⟩
  cI := v.cI
  own := fun x a o e => let ⟨h1, h2, h3, h4, h5, h6⟩ := v.own x a o e; ⟨h1, h2, h3, h4, h5.keeps k.keep, h6.mono (fun b o _ e => k.keep b o e) fun o e => k.keep _ o e⟩
  ownA := v.ownA

/-- only the frame's own dict changes -/
theorem Wok.sameBut {a : Addr} {h' : Heap} {tk : Nat} (x : Wok X W s) (hs : Heap.SameBut a s.heap h') (ha : X.h0.get? a = Option.none) (hex : ∃ o, h'.get? a = some o) : Wok X W { s with heap := h', toks := tk } where
  base := fun b o e => (hs.2 b (fun q => by rw [q, ha] at e; cases e)).trans (x.base b o e)
  wex := fun b hb => by
    by_cases q : b = a
    · subst q; exact hex
    · obtain ⟨o, ho⟩ := x.wex b hb; exact ⟨o, (hs.2 b q).trans ho⟩
  wb := x.wb

theorem Sv.storeL {x : Str} {d : D} {v : Value} {Q : Unit → Shared → Prop} (sv : Sv X oc env ρ ω F W s) (hk : env.kindOf x = some .local) (hr : Rep X W s.heap v d) (hω : x ∉ ω.map (·.1))
    (h : ∀ s', Kp F [] s s' → Sv X oc env ((x, d) :: ρ) ω F W s' → Q () s') : wpF X A (storeName env x v) Q s := by
  obtain ⟨m, hm⟩ := sv.ns
  refine wpAny_storeName_local hk hm (fun h' hn hs => ?_) (by rw [sv.iv.eb.kind]; rfl)
  have hex : ∃ o, h'.get? env.locals = some o := let ⟨o, _, _, ho, _⟩ := hn; ⟨o, ho⟩
  have kp : ∀ b o, b ∉ W → s.heap.get? b = some o → h'.get? b = some o := fun b o hb e => (hs.2 b (fun q => hb (q ▸ sv.lW))).trans e
  have bd : ∀ y u, y ≠ x → Bound env s.heap y u → Bound env h' y u := fun y u hy b => by
    rcases b with ⟨h1, m', h2, h3⟩ | ⟨h1, c, h2, h3⟩
    · refine .inl ⟨h1, _, hn, ?_⟩
      rw [if_neg hy, ns_unique hm h2]; exact h3
    · exact .inr ⟨h1, c, h2, h3.sameBut hs (sv.cF y c h2).2.1⟩
  refine h _ (.same hs sv.lF) ⟨⟨sv.iv.eb, sv.iv.wok.sameBut hs (sv.fb _ sv.lF) hex, fun y e hl => ?_⟩, ⟨_, hn⟩, sv.lF, sv.lW, sv.fb, fun b hb => (if q : b = env.locals then q ▸ hex else let ⟨o, ho⟩ := sv.fex b hb; ⟨o, (hs.2 b q).trans ho⟩), sv.fW, fun y c e => ?_, sv.cI, fun y a o e => ?_, sv.ownA⟩
  · rw [List.lookup_cons] at hl
    by_cases hy : y = x
    · subst hy
      simp only [BEq.rfl, Option.some.injEq] at hl
      subst hl
      exact ⟨v, .inl ⟨hk, _, hn, by simp⟩, hr.mono kp⟩
    · have hb : (y == x) = false := beq_eq_false_iff_ne.mpr hy
      simp only [hb] at hl
      obtain ⟨u, h1, h2⟩ := sv.iv.vars y e hl
      exact ⟨u, bd y u hy h1, h2.mono kp⟩
  · obtain ⟨h1, h3, u, h4⟩ := sv.cF y c e
    exact ⟨h1, h3, u, h4.sameBut hs h3⟩
  · obtain ⟨h1, h2, h3, h4, h5, h6⟩ := sv.own y a o e
    refine ⟨h1, h2, h3, h4, bd y _ (fun q => hω (q ▸ List.mem_map_of_mem (f := fun p : Str × Addr × OV => p.1) e)) h5, h6.mono kp fun o e => (hs.2 a h3).trans e⟩

theorem Sv.storeC {x : Str} {c : Addr} {d : D} {v : Value} {Q : Unit → Shared → Prop} (sv : Sv X oc env ρ ω F W s) (hk : env.kindOf x = some .cell) (hoc : x ∈ oc) (hc : env.cells.lookup x = some c) (hr : Rep X W s.heap v d) (hω : x ∉ ω.map (·.1))
    (h : ∀ s', Kp F [] s s' → Sv X oc env ((x, d) :: ρ) ω F W s' → Q () s') : wpF X A (storeName env x v) Q s := by
  obtain ⟨cF, cL, v₀, hv⟩ := sv.cF x c hc
  have cF := cF hoc
  have cW := sv.fW c cF
  refine wpAny_storeName_cell sv.iv.eb.kind hk hc hv fun h' hn hs => ?_
  have hex : ∃ o, h'.get? c = some o := let ⟨o, ho, _⟩ := hn; ⟨o, ho⟩
  have kp : ∀ b o, b ∉ W → s.heap.get? b = some o → h'.get? b = some o := fun b o hb e => (hs.2 b (fun q => hb (q ▸ cW))).trans e
  have bd : ∀ y u, y ≠ x → Bound env s.heap y u → Bound env h' y u := fun y u hy b => by
    rcases b with ⟨h1, m', h2, h3⟩ | ⟨h1, c', h2, h3⟩
    · exact .inl ⟨h1, _, h2.sameBut hs (Ne.symm cL), h3⟩
    · exact .inr ⟨h1, c', h2, h3.sameBut hs fun q => hy (sv.cI x y c hoc hc (q ▸ h2))⟩
  refine h _ (.same (tk := s.toks) hs cF) ⟨⟨sv.iv.eb, sv.iv.wok.sameBut (tk := s.toks) hs (sv.fb _ cF) hex, fun y e hl => ?_⟩, let ⟨m, hm⟩ := sv.ns; ⟨m, hm.sameBut hs (Ne.symm cL)⟩, sv.lF, sv.lW, sv.fb, fun b hb => (if q : b = c then q ▸ hex else let ⟨o, ho⟩ := sv.fex b hb; ⟨o, (hs.2 b q).trans ho⟩), sv.fW, fun y c' e => ?_, sv.cI, fun y a o e => ?_, sv.ownA⟩
  · rw [List.lookup_cons] at hl
    by_cases hy : y = x
    · subst hy
      simp only [BEq.rfl, Option.some.injEq] at hl
      subst hl
      exact ⟨v, .inr ⟨.inl hk, c, hc, hn⟩, hr.mono kp⟩
    · have hb : (y == x) = false := beq_eq_false_iff_ne.mpr hy
      simp only [hb] at hl
      obtain ⟨u, h1, h2⟩ := sv.iv.vars y e hl
      exact ⟨u, bd y u hy h1, h2.mono kp⟩
  · obtain ⟨h1, h3, u, h4⟩ := sv.cF y c' e
    by_cases q : c' = c
    · subst q; exact ⟨h1, h3, _, hn⟩
    · exact ⟨h1, h3, u, h4.sameBut hs q⟩
  · obtain ⟨h1, h2, h3, h4, h5, h6⟩ := sv.own y a o e
    exact ⟨h1, h2, h3, h4, bd y _ (fun q => hω (q ▸ List.mem_map_of_mem (f := fun p : Str × Addr × OV => p.1) e)) h5, h6.mono kp fun o e => (hs.2 a (h4 x c hc)).trans e⟩

/-- a name that a body may store -/
def Stor (oc : List Str) (env : Env) (x : Str) : Prop := env.kindOf x = some .local ∨ (env.kindOf x = some .cell ∧ x ∈ oc ∧ ∃ c, env.cells.lookup x = some c)
theorem Sv.store {x : Str} {d : D} {v : Value} {Q : Unit → Shared → Prop} (sv : Sv X oc env ρ ω F W s) (hk : Stor oc env x) (hr : Rep X W s.heap v d) (hω : x ∉ ω.map (·.1))
    (h : ∀ s', Kp F [] s s' → Sv X oc env ((x, d) :: ρ) ω F W s' → Q () s') : wpF X A (storeName env x v) Q s := by
  rcases hk with hk | ⟨hk, ho, c, hc⟩
  · exact sv.storeL hk hr hω h
  · exact sv.storeC hk ho hc hr hω h

/-- objects of W that are none of the frame's may change -/
theorem Sv.other {F' : List Addr} {G : List Nat} (sv : Sv X oc env ρ ω F W s) (k : Kp F' G s s') (hW : ∀ b ∈ F', b ∈ W) (hex : ∀ b ∈ F', ∃ o, s'.heap.get? b = some o) (hl : env.locals ∉ F') (hc : ∀ x c, env.cells.lookup x = some c → c ∉ F') (hω : ∀ x a o, (x, a, o) ∈ ω → a ∉ F') : Sv X oc env ρ ω F W s' := by
  have kp : ∀ b o, b ∉ W → s.heap.get? b = some o → s'.heap.get? b = some o := fun b o hb e => k.heap b o (fun m => hb (hW b m)) e
  have bd : ∀ y u, Bound env s.heap y u → Bound env s'.heap y u := fun y u b => by
    rcases b with ⟨h1, m', ⟨o, es, ep, ho, r⟩, h3⟩ | ⟨h1, c, h2, o, ho, r⟩
    · exact .inl ⟨h1, m', ⟨o, es, ep, k.heap _ _ hl ho, r⟩, h3⟩
    · exact .inr ⟨h1, c, h2, o, k.heap _ _ (hc y c h2) ho, r⟩
  refine ⟨⟨sv.iv.eb, ⟨fun b o e => k.heap _ _ (fun m => ?_) (sv.iv.wok.base b o e), fun b hb => ?_, sv.iv.wok.wb⟩, fun y e hl => ?_⟩, ?_, sv.lF, sv.lW, sv.fb, fun b hb => (if q : b ∈ F' then hex b q else let ⟨o, ho⟩ := sv.fex b hb; ⟨o, k.heap _ _ q ho⟩), sv.fW, fun y c e => ?_, sv.cI, fun y a o e => ?_, sv.ownA⟩
  · rw [sv.iv.wok.wb b (hW b m)] at e; cases e
  · by_cases q : b ∈ F'
    · exact hex b q
    · exact let ⟨o, ho⟩ := sv.iv.wok.wex b hb; ⟨o, k.heap _ _ q ho⟩
  · obtain ⟨u, h1, h2⟩ := sv.iv.vars y e hl
    exact ⟨u, bd y u h1, h2.mono kp⟩
  · obtain ⟨m, o, es, ep, ho, r⟩ := sv.ns
    exact ⟨m, o, es, ep, k.heap _ _ hl ho, r⟩
  · obtain ⟨h1, h3, u, o, ho, r⟩ := sv.cF y c e
    exact ⟨h1, h3, u, o, k.heap _ _ (hc y c e) ho, r⟩
  · obtain ⟨h1, h2, h3, h4, h5, h6⟩ := sv.own y a o e
    exact ⟨h1, h2, h3, h4, bd y _ h5, h6.mono kp fun o' e' => k.heap _ _ (hω y a o e) e'⟩
/-- more addresses may be barred -/
theorem Sv.bar {N : List Addr} (sv : Sv X oc env ρ ω F W s) (hN : ∀ b ∈ N, ∃ o, s.heap.get? b = some o) (h0 : ∀ b ∈ N, X.h0.get? b = Option.none)
    (hr : ∀ v d, Rep X W s.heap v d → Rep X (N ++ W) s.heap v d) (hrs : ∀ v d, Reps X W s.heap v d → Reps X (N ++ W) s.heap v d) : Sv X oc env ρ ω F (N ++ W) s := by
  refine ⟨⟨sv.iv.eb, ⟨sv.iv.wok.base, fun b hb => (List.mem_append.mp hb).elim (hN b) (sv.iv.wok.wex b), fun b hb => (List.mem_append.mp hb).elim (h0 b) (sv.iv.wok.wb b)⟩, fun y e hl => ?_⟩, sv.ns, sv.lF, List.mem_append_right _ sv.lW, sv.fb, sv.fex, fun b hb => List.mem_append_right _ (sv.fW b hb), fun y c e => ?_, sv.cI, fun y a o e => ?_, sv.ownA⟩
  · obtain ⟨u, h1, h2⟩ := sv.iv.vars y e hl
    exact ⟨u, h1, hr _ _ h2⟩
  · exact sv.cF y c e
  · obtain ⟨h1, h2, h3, h4, h5, h6⟩ := sv.own y a o e
    refine ⟨h1, List.mem_append_right _ h2, h3, h4, h5, ?_⟩
    cases o with
    | list ds => obtain ⟨vs, l, r⟩ := h6; exact ⟨vs, l, hrs _ _ r⟩
    | dict l => exact h6
/-- a loop's own objects go, with whatever became of them -/
theorem Sv.leave {N : List Addr} {G : List Nat} (sv : Sv X oc env ρ ω F (N ++ W) s) (k : Kp N G s s') (hNW : ∀ b ∈ N, b ∉ W) (hl : env.locals ∈ W) (hc : ∀ x c, env.cells.lookup x = some c → c ∉ N) (hω : ∀ x a o, (x, a, o) ∈ ω → a ∈ W) (hF : ∀ b ∈ F, b ∉ N) : Sv X oc env ρ ω F W s' := by
  have sub : ∀ b ∈ W, b ∈ N ++ W := fun b hb => List.mem_append_right _ hb
  have out : ∀ b ∈ W, b ∉ N := fun b hb q => hNW b q hb
  have kp : ∀ b o, b ∉ N ++ W → s.heap.get? b = some o → s'.heap.get? b = some o := fun b o hb e => k.heap b o (fun m => hb (List.mem_append_left _ m)) e
  have bd : ∀ y u, Bound env s.heap y u → Bound env s'.heap y u := fun y u b => by
    rcases b with ⟨h1, m', ⟨o, es, ep, ho, r⟩, h3⟩ | ⟨h1, c, h2, o, ho, r⟩
    · exact .inl ⟨h1, m', ⟨o, es, ep, k.heap _ _ (out _ hl) ho, r⟩, h3⟩
    · exact .inr ⟨h1, c, h2, o, k.heap _ _ (hc y c h2) ho, r⟩
  refine ⟨⟨sv.iv.eb, ⟨fun b o e => k.heap _ _ (fun m => ?_) (sv.iv.wok.base b o e), fun b hb => ?_, fun b hb => sv.iv.wok.wb b (sub b hb)⟩, fun y e hl => ?_⟩, ?_, sv.lF, hl, sv.fb, fun b hb => let ⟨o, ho⟩ := sv.fex b hb; ⟨o, k.heap _ _ (hF b hb) ho⟩, fun b hb => (List.mem_append.mp (sv.fW b hb)).elim (fun q => absurd q (hF b hb)) id, fun y c e => ?_, sv.cI, fun y a o e => ?_, sv.ownA⟩
  · rw [sv.iv.wok.wb b (List.mem_append_left _ m)] at e; cases e
  · exact let ⟨o, ho⟩ := sv.iv.wok.wex b (sub b hb); ⟨o, k.heap _ _ (out b hb) ho⟩
  · obtain ⟨u, h1, h2⟩ := sv.iv.vars y e hl
    exact ⟨u, bd y u h1, (h2.mono kp).sub sub⟩
  · obtain ⟨m, o, es, ep, ho, r⟩ := sv.ns
    exact ⟨m, o, es, ep, k.heap _ _ (out _ hl) ho, r⟩
  · obtain ⟨h1, h3, u, o, ho, r⟩ := sv.cF y c e
    exact ⟨h1, h3, u, o, k.heap _ _ (hc y c e) ho, r⟩
  · obtain ⟨h1, h2, h3, h4, h5, h6⟩ := sv.own y a o e
    refine ⟨h1, hω y a o e, h3, h4, bd y _ h5, ?_⟩
    have h6' := h6.mono kp fun o' e' => k.heap _ _ (out _ (hω y a o e)) e'
    cases o with
    | list ds => obtain ⟨vs, l, r⟩ := h6'; exact ⟨vs, l, r.sub sub⟩
    | dict l => exact h6'

theorem Sv.weaken (sv : Sv X oc env ρ ω F W s) (h : ∀ x d, ρ'.lookup x = some d → ρ.lookup x = some d) : Sv X oc env ρ' ω F W s :=
  { sv with iv := { sv.iv with vars := fun x d e => sv.iv.vars x d (h x d e) } }

/-- a body's statements: what they may hand back, in what state they may end -/
structure Ex (X : Cx) (n : Nat) (env : Env) (ρ : Vars) (ω : Own) (ss : List Stmt) (KR : D → Prop) (KN : Vars → Own → Prop) : Prop where
  run : ∀ (A : Around) (F W : List Addr) (s : Shared) (Q : Flow → Shared → Prop), Ok n A → Sv X (env.cells.map (·.1)) env ρ ω F W s →
    (∀ d v s', KR d → Kp F [] s s' → (∀ U, (∀ b ∈ U, b ∈ W ∧ b ∉ F) → Rep X U s'.heap v d) → Q (.ret v) s') →
    (∀ ρ' ω' s', KN ρ' ω' → Kp F [] s s' → Sv X (env.cells.map (·.1)) env ρ' ω' F W s' → Q .next s') → wpF X A (execs ss env) Q s
end

section
variable {n : Nat} {env : Env} {ρ ρ' : Vars} {ω : Own} {KR : D → Prop} {KN : Vars → Own → Prop} {rest : List Stmt}

theorem Ex.nil (h : KN ρ ω) : Ex X n env ρ ω [] KR KN := .mk fun _ _ _ _ _ _ sv _ hN => wpAny_execs_nil (hN _ _ _ h .refl sv)
theorem Ex.weaken {ss : List Stmt} (x : Ex X n env ρ' ω ss KR KN) (h : ∀ x d, ρ'.lookup x = some d → ρ.lookup x = some d) : Ex X n env ρ ω ss KR KN :=
  .mk fun A F W s Q ok sv hR hN => x.run A F W s Q ok (sv.weaken h) hR hN
theorem Ex.mono {ss : List Stmt} {KR' : D → Prop} {KN' : Vars → Own → Prop} (x : Ex X n env ρ ω ss KR KN) (h1 : ∀ d, KR d → KR' d) (h2 : ∀ ρ ω, KN ρ ω → KN' ρ ω) : Ex X n env ρ ω ss KR' KN' :=
  .mk fun A F W s Q ok sv hR hN => x.run A F W s Q ok sv (fun d v s' k => hR d v s' (h1 d k)) fun ρ ω s' k => hN ρ ω s' (h2 ρ ω k)
theorem Ex.ret {e : Expr} {pos : Pos} {d : D} (he : Ev X n env ρ e d) (h : KR d) : Ex X n env ρ ω (.Return (some e) pos :: rest) KR KN := .mk fun A F W s Q ok sv hR hN => by
  refine wpAny_execs_cons (wpAny_Return_some (he.run A W s _ ok sv.iv fun v s' k iv r => ?_))
  exact hR d v s' h k.any fun U hU => r.sub fun b hb => (hU b hb).1
/-- a statement that is followed by others -/
theorem Ex.step {st : Stmt}
    (h : ∀ (A : Around) (F W : List Addr) (s : Shared) (Q : Flow → Shared → Prop), Ok n A → Sv X (env.cells.map (·.1)) env ρ ω F W s →
      (∀ ρ' ω' s', Kp F [] s s' → Sv X (env.cells.map (·.1)) env ρ' ω' F W s' → Ex X n env ρ' ω' rest KR KN → Q .next s') → wpF X A (exec st env) Q s) : Ex X n env ρ ω (st :: rest) KR KN := .mk fun A F W s Q ok sv hR hN => by
  refine wpAny_execs_cons (h A F W s _ ok sv fun ρ' ω' s' k sv' x => ?_)
  exact x.run A F W s' Q ok sv' (fun d v s'' kd k' r => hR d v s'' kd (k.trans k') r) fun ρ'' ω'' s'' kn k' sv'' => hN _ _ _ kn (k.trans k') sv''
theorem Ex.assign {x : Str} {e : Expr} {p pos : Pos} {d : D} (he : Ev X n env ρ e d) (hx : Stor (env.cells.map (·.1)) env x) (hω : x ∉ ω.map (·.1)) (h : Ex X n env ((x, d) :: ρ) ω rest KR KN)
    (hs : swapsWith e (some (.Name x p)) pos.line env = pure false := by rfl) : Ex X n env ρ ω (.Assign [.Name x p] e pos :: rest) KR KN := .step fun A F W s Q ok sv hQ => by
  refine wpAny_Assign_Name (he.run A W s _ ok sv.iv fun v s₁ k₁ iv₁ r₁ => ?_) hs
  exact (sv.kp k₁).store hx r₁ hω fun s₂ k₂ sv₂ => hQ _ _ _ (k₁.any.trans k₂) sv₂ h
theorem Ex.aug {x : Str} {op : Operator} {e : Expr} {p pos : Pos} {a b c : D} (hl : ρ.lookup x = some a) (he : Ev X n env ρ e b)
    (hop : ∀ (A : Around) (W : List Addr) (s : Shared) (u v : Value) (Q : Value → Shared → Prop), Ok n A → Iv X env ρ W s → Rep X W s.heap u a → Rep X W s.heap v b →
      (∀ v' s', Kp [] [] s s' → Rep X W s'.heap v' c → Q v' s') → wpF X A (inplaceOp op u v) Q s)
    (hx : Stor (env.cells.map (·.1)) env x) (hω : x ∉ ω.map (·.1)) (h : Ex X n env ((x, c) :: ρ) ω rest KR KN) : Ex X n env ρ ω (.AugAssign (.Name x p) op e pos :: rest) KR KN := .step fun A F W s Q ok sv hQ => by
  obtain ⟨u, hb, hr⟩ := sv.iv.vars x a hl
  refine wpAny_AugAssign_Name (hb.load sv.iv.eb.kind (he.run A W s _ ok sv.iv fun v s₁ k₁ iv₁ r₁ => ?_))
  refine hop A W s₁ u v _ ok iv₁ (hr.kp0 k₁) r₁ fun v' s₂ k₂ r₂ => ?_
  exact ((sv.kp k₁).kp k₂).store hx r₂ hω fun s₃ k₃ sv₃ => hQ _ _ _ ((k₁.trans k₂).any.trans k₃) sv₃ h
theorem Ex.augAdd {x : Str} {e : Expr} {p pos : Pos} {a b : Int} (hl : ρ.lookup x = some (.int a)) (he : Ev X n env ρ e (.int b)) (hx : Stor (env.cells.map (·.1)) env x) (hω : x ∉ ω.map (·.1)) (h : Ex X n env ((x, .int (a + b)) :: ρ) ω rest KR KN) :
    Ex X n env ρ ω (.AugAssign (.Name x p) .Add e pos :: rest) KR KN :=
  .aug hl he (fun A W s u v Q ok iv ru rv hQ => by cases ru; cases rv; exact PyProof.Rows.iadd_int (hQ _ _ .toks (.int _ _))) hx hω h
theorem Ex.augSub {x : Str} {e : Expr} {p pos : Pos} {a b : Int} (hl : ρ.lookup x = some (.int a)) (he : Ev X n env ρ e (.int b)) (hx : Stor (env.cells.map (·.1)) env x) (hω : x ∉ ω.map (·.1)) (h : Ex X n env ((x, .int (a - b)) :: ρ) ω rest KR KN) :
    Ex X n env ρ ω (.AugAssign (.Name x p) .Sub e pos :: rest) KR KN :=
  .aug hl he (fun A W s u v Q ok iv ru rv hQ => by cases ru; cases rv; exact P.isub_int (hQ _ _ .toks (.int _ _))) hx hω h

theorem execs_append (a b : List Stmt) (env : Env) : execs (a ++ b) env = (execs a env >>= fun f => match f with | .next => execs b env | f => pure f) := by
  induction a with
  | nil => rw [List.nil_append, execs_nil, pure_bind]
  | cons st rest ih =>
    rw [List.cons_append, execs_cons, execs_cons, bind_assoc]
    congr 1
    funext f
    cases f with
    | next => exact ih
    | brk => simp only [pure_bind]
    | cont => simp only [pure_bind]
    | ret v => simp only [pure_bind]
theorem Ex.ite {test : Expr} {body orelse : List Stmt} {pos : Pos} {b : Bool} (ht : Ts X n env ρ test b) (h1 : b = true → Ex X n env ρ ω (body ++ rest) KR KN) (h2 : b = false → Ex X n env ρ ω (orelse ++ rest) KR KN) :
    Ex X n env ρ ω (.If test body orelse pos :: rest) KR KN := .mk fun A F W s Q ok sv hR hN => by
  rw [execs_cons, exec_If, bind_assoc]
  refine wpAny_bind (wpAny_standAt ?_)
  rw [bind_assoc]
  refine wpAny_bind (ht.run A W s _ ok sv.iv fun s₁ k₁ iv₁ => ?_)
  have sv₁ := sv.kp k₁
  cases b with
  | true =>
    rw [if_pos rfl]
    have g := (h1 rfl).run A F W s₁ Q ok sv₁ (fun d v s' kd k r => hR d v s' kd (k₁.any.trans k) r) fun ρ' ω' s' kn k sv' => hN _ _ _ kn (k₁.any.trans k) sv'
    rw [execs_append] at g
    exact g
  | false =>
    rw [if_neg (by simp)]
    have g := (h2 rfl).run A F W s₁ Q ok sv₁ (fun d v s' kd k r => hR d v s' kd (k₁.any.trans k) r) fun ρ' ω' s' kn k sv' => hN _ _ _ kn (k₁.any.trans k) sv'
    rw [execs_append] at g
    exact g
end
end Mine

end
section
namespace Mine
variable {X : Cx}

/-- a call of the function f upon args gives r -/
structure Fn (X : Cx) (n : Nat) (f : Str) (args : List D) (r : D) : Prop where
  run : ∀ (A : Around) (W : List Addr) (s : Shared) (vs : List Value) (a : Addr) (Q : Value → Shared → Prop), Ok n A → Wok X W s → Reps X W s.heap vs args → X.mg f = some (.ref a) →
    (∀ v s', Kp [] [] s s' → Rep X W s'.heap v r → Q v s') → wpF X A (call (.ref a) vs) Q s

theorem frOf_Sv {W : List Addr} {s : Shared} {h₁ : Heap} {env : Env} {ρ : Vars} {m : Str → Option Value} {tk : Nat} (wok : Wok X W s) (F : Fr s.heap s.heap.objs.size h₁ m) (hL : env.locals = s.heap.objs.size) (eb : EnvB env) (hc : env.cells = [])
    (hv : ∀ x d, ρ.lookup x = some d → ∃ v, env.kindOf x = some .local ∧ m x = some v ∧ Rep X W s.heap v d) :
    Sv X (env.cells.map (·.1)) env ρ [] [env.locals] (env.locals :: W) { s with heap := h₁, toks := tk } := by
  have hn : s.heap.get? env.locals = Option.none := none_of_size (Nat.le_of_eq hL.symm)
  have ns : h₁.Ns env.locals m := hL ▸ F.ns
  have h0 : X.h0.get? env.locals = Option.none := wok.new hn
  refine ⟨⟨eb, ⟨fun b o e => F.keep _ _ (wok.base b o e), fun b hb => ?_, fun b hb => ?_⟩, fun x d e => ?_⟩, ⟨m, ns⟩, List.mem_singleton.mpr rfl, List.mem_cons_self, fun b hb => ?_, fun b hb => (by rw [List.mem_singleton.mp hb]; exact let ⟨o, _, _, ho, _⟩ := ns; ⟨o, ho⟩), fun b hb => (by rw [List.mem_singleton.mp hb]; exact List.mem_cons_self), fun x c e => ?_, fun x y c _ e => ?_, fun x a o e => ?_, List.nodup_nil⟩
  · rcases List.mem_cons.mp hb with rfl | hb
    · exact let ⟨o, _, _, ho, _⟩ := ns; ⟨o, ho⟩
    · exact let ⟨o, ho⟩ := wok.wex b hb; ⟨o, F.keep _ _ ho⟩
  · rcases List.mem_cons.mp hb with rfl | hb
    · exact h0
    · exact wok.wb b hb
  · obtain ⟨v, hk, hm, hr⟩ := hv x d e
    refine ⟨v, .inl ⟨hk, m, ns, hm⟩, ?_⟩
    exact (hr.bar (N := [env.locals]) (fun b hb => by rw [List.mem_singleton.mp hb]; exact hn)).mono fun b o _ e => F.keep b o e
  · rw [List.mem_singleton.mp hb]; exact h0
  · rw [hc] at e; cases e
  · rw [hc] at e; cases e
  · cases e

theorem Fn.enter {n : Nat} {dr : DefRec} (hd : dr ∈ recsOf X.V) {args : List D} {r : D} {ρ : Vars} {bs : List Value → List (Str × Value)}
    (hb : ∀ pm cd doc W (h : Heap) vs, Reps X W h vs args → bindArgs (docDef dr.name dr.params dr.body dr.scope pm cd doc) ⟨vs, []⟩ = pure (bs vs) ∧ (∀ x ∈ bs vs, dr.scope.names.lookup x.1 = some .local) ∧
      ∀ x d, ρ.lookup x = some d → ∃ v, dr.scope.names.lookup x = some .local ∧ (bs vs).reverse.lookup x = some v ∧ Rep X W h v d)
    (body : ∀ L a cd, Ex X n (envOf dr.name dr.scope L a cd) ρ [] dr.body (fun r' => r' = r) (fun _ _ => False))
    (hco : dr.scope.isCoroutine = false := by rfl) (hgen : dr.scope.isGenerator = false := by rfl) (hk : dr.scope.kind = .function := by rfl)
    (hcell : ∀ x ∈ dr.scope.names, x.2 ≠ .cell := by decide) : Fn X (n + 1) dr.name args r := by
  refine .mk fun A W s vs a Q ok wok rs ha hQ => ?_
  obtain ⟨a', o, pm, code, doc, hmg, hget, hdata, hcode⟩ := X.T.fn dr hd
  rw [ha] at hmg
  cases hmg
  obtain ⟨hbind, hloc, hvars⟩ := hb pm code doc W s.heap vs rs
  have hn : s.heap.get? s.heap.objs.size = Option.none := none_of_size (Nat.le_refl _)
  refine wpAny_call (call_plain_ret ok.room (wok.base _ _ hget) hdata wok.nolimit (hcode.keeps wok.base) hbind hloc (fun h₁ F => ?_) hco hgen hk hcell)
  have sv := frOf_Sv (env := envOf dr.name dr.scope s.heap.objs.size a code) (tk := s.toks + (bs vs).length) wok F rfl ⟨hk, rfl, rfl⟩ rfl hvars
  refine (body _ _ _).run _ _ _ _ _ ok.deeper sv (fun d v s' kd k hrep => ?_) fun ρ' ω' s' kn _ _ => kn.elim
  subst kd
  refine hQ v s' ?_ (hrep W fun b hb => ⟨List.mem_cons_of_mem _ hb, fun q => ?_⟩)
  · have k0 : Kp [] [] s { s with heap := h₁, toks := s.toks + (bs vs).length } := .of_heap fun b o _ e => F.keep b o e
    refine Kp.drop (k0.any.trans k) (fun b hb => .inr ?_) (fun _ hg => nomatch hg)
    rw [List.mem_singleton.mp hb]; exact hn
  · rw [List.mem_singleton.mp q] at hb
    exact wok.fresh hb

theorem Fn.of1 {n : Nat} {dr : DefRec} (hd : dr ∈ recsOf X.V) {p : Str} {d r : D} (hb : ∀ pm cd doc v, bindArgs (docDef dr.name dr.params dr.body dr.scope pm cd doc) ⟨[v], []⟩ = pure [(p, v)]) (hp : dr.scope.names.lookup p = some .local)
    (body : ∀ L a cd, Ex X n (envOf dr.name dr.scope L a cd) [(p, d)] [] dr.body (fun r' => r' = r) (fun _ _ => False))
    (hco : dr.scope.isCoroutine = false := by rfl) (hgen : dr.scope.isGenerator = false := by rfl) (hk : dr.scope.kind = .function := by rfl)
    (hcell : ∀ x ∈ dr.scope.names, x.2 ≠ .cell := by decide) : Fn X (n + 1) dr.name [d] r := by
  refine Fn.enter hd (bs := fun vs => [(p, vs.headD .none)]) (fun pm cd doc W h vs rs => ?_) body hco hgen hk hcell
  cases rs with
  | cons r1 rs =>
    cases rs
    refine ⟨hb _ _ _ _, fun x hx => ?_, fun x d' e => ?_⟩
    · rw [List.mem_singleton.mp hx]; exact hp
    · rw [List.lookup_cons] at e
      by_cases hx : x = p
      · subst hx
        simp only [BEq.rfl, Option.some.injEq] at e
        subst e
        exact ⟨_, hp, by simp, r1⟩
      · have hb : (x == p) = false := beq_eq_false_iff_ne.mpr hx
        simp [hb] at e
theorem Fn.of2 {n : Nat} {dr : DefRec} (hd : dr ∈ recsOf X.V) {p q : Str} {d e r : D} (hb : ∀ pm cd doc v u, bindArgs (docDef dr.name dr.params dr.body dr.scope pm cd doc) ⟨[v, u], []⟩ = pure [(p, v), (q, u)]) (hp : dr.scope.names.lookup p = some .local) (hq : dr.scope.names.lookup q = some .local) (hpq : (p == q) = false)
    (body : ∀ L a cd, Ex X n (envOf dr.name dr.scope L a cd) [(p, d), (q, e)] [] dr.body (fun r' => r' = r) (fun _ _ => False))
    (hco : dr.scope.isCoroutine = false := by rfl) (hgen : dr.scope.isGenerator = false := by rfl) (hk : dr.scope.kind = .function := by rfl)
    (hcell : ∀ x ∈ dr.scope.names, x.2 ≠ .cell := by decide) : Fn X (n + 1) dr.name [d, e] r := by
  refine Fn.enter hd (bs := fun vs => [(p, vs.headD .none), (q, vs.tail.headD .none)]) (fun pm cd doc W h vs rs => ?_) body hco hgen hk hcell
  cases rs with
  | cons r1 rs =>
    cases rs with
    | cons r2 rs =>
      cases rs
      refine ⟨hb _ _ _ _ _, fun x hx => ?_, fun x d' e' => ?_⟩
      · rcases List.mem_cons.mp hx with rfl | hx
        · exact hp
        · rw [List.mem_singleton.mp hx]; exact hq
      · rw [List.lookup_cons] at e'
        by_cases hx : x = p
        · subst hx
          simp only [BEq.rfl, Option.some.injEq] at e'
          subst e'
          exact ⟨_, hp, by simp [List.lookup_cons, hpq], r1⟩
        · have hb : (x == p) = false := beq_eq_false_iff_ne.mpr hx
          simp only [hb, List.lookup_cons] at e'
          by_cases hx' : x = q
          · subst hx'
            simp only [BEq.rfl, Option.some.injEq] at e'
            subst e'
            exact ⟨_, hq, by simp [List.lookup_cons], r2⟩
          · have hb' : (x == q) = false := beq_eq_false_iff_ne.mpr hx'
            simp [hb'] at e'

/-- a global name of the body's -/
def GN (env : Env) (x : Str) : Prop := env.kindOf x = some .globalImplicit

section
variable {n : Nat} {env : Env} {ρ : Vars}
theorem Iv.global {W : List Addr} {s : Shared} {A : Around} {x : Str} {pos : Pos} {v : Value} {Q : Value → Shared → Prop} (iv : Iv X env ρ W s) (hx : GN env x) (hv : X.mg x = some v) (h : Q v s) (hd : (x == ("__debug__" : Str)) = false := by decide) :
    wpF X A (eval (.Name x pos) env) Q s := Name_function_global iv.eb.kind hx (loadGlobal_global (by rw [iv.eb.gl]; exact iv.wok.g) hv h) hd
theorem Iv.builtin {W : List Addr} {s : Shared} {A : Around} {x : Str} {pos : Pos} {v : Value} {Q : Value → Shared → Prop} (iv : Iv X env ρ W s) (hx : GN env x) (hm : X.mg x = Option.none) (hv : X.mb x = some v) (h : Q v s) (hd : (x == ("__debug__" : Str)) = false := by decide) :
    wpF X A (eval (.Name x pos) env) Q s := Name_function_global iv.eb.kind hx (loadGlobal_builtin (by rw [iv.eb.gl]; exact iv.wok.g) hm (by rw [iv.eb.bi]; exact iv.wok.b) hv h) hd

theorem Ev.callf {dr : DefRec} (hd : dr ∈ recsOf X.V) {e : Expr} {es : List Expr} {p pos : Pos} {ds : List D} {r : D} (hx : GN env dr.name) (hes : Evs X n env ρ (e :: es) ds) (hf : Fn X n dr.name ds r)
    (hst : ∀ env, starEach (e :: es) env = (false, eval e env) :: starEach es env := by intro _; rfl) (hdb : (dr.name == ("__debug__" : Str)) = false := by decide) :
    Ev X n env ρ (.Call (.Name dr.name p) (e :: es) [] pos) r := .mk fun A W s Q ok iv h => by
  obtain ⟨a, o, pm, code, doc, hmg, hget, hdata, hcode⟩ := X.T.fn dr hd
  refine Call_ (iv.global hx hmg ?_ hdb) rfl
  refine callWith_def hdata (hes.run A W s pos _ ok iv fun vs s₁ k₁ iv₁ r₁ => ⟨iv₁.wok.base _ _ hget, ?_⟩) (hst env)
  exact hf.run A W s₁ vs a Q ok iv₁.wok r₁ hmg fun v s₂ k₂ r₂ => h _ _ (k₁.trans k₂) (iv₁.kp k₂) r₂
end
end Mine

end
section
namespace Mine
variable {X : Cx}

theorem seqIndex_at {k : Int} {n : Nat} (h0 : 0 ≤ k) (h1 : k < n) : seqIndex? k n = some k.toNat := by
  unfold seqIndex?
  simp only []
  split <;> simp_all <;> omega

section
variable {n : Nat} {env : Env} {ρ : Vars}

theorem Ev.itemL {value slice : Expr} {pos : Pos} {ds : List D} {k : Int} {d : D} (hv : Ev X n env ρ value (.list ds)) (hk : Ev X n env ρ slice (.int k)) (h0 : 0 ≤ k) (h1 : k < 2 ^ 63) (hd : ds[k.toNat]? = some d)
    (hs : ∀ o i, subscripted slice false o i = operate [o, i] (getItem o i) := by intro _ _; rfl) : Ev X n env ρ (.Subscript value slice pos) d := .mk fun A W s Q ok iv h => by
  refine Subscript_ (hv.run A W s _ ok iv fun o s₁ k₁ iv₁ r₁ => hk.run A W s₁ _ ok iv₁ fun i s₂ k₂ iv₂ r₂ => ?_)
  have r₁ := r₁.kp0 k₂
  cases r₁ with
  | list hl ha rs =>
    cases r₂
    obtain ⟨v, hv, hr⟩ := rs.get hd
    exact tail_any hl.isList.typeIs slot_list_getitem.lookup (wpAny_getItem_list hl.isList h0 h1 (by simpa using hv) (h _ _ (k₁.trans k₂) iv₂ hr)) (hs _ _)
theorem Ev.itemT {value slice : Expr} {pos : Pos} {ds : List D} {k : Int} {d : D} (hv : Ev X n env ρ value (.tup ds)) (hk : Ev X n env ρ slice (.int k)) (h0 : 0 ≤ k) (h1 : k < 2 ^ 63) (hd : ds[k.toNat]? = some d)
    (hs : ∀ o i, subscripted slice false o i = operate [o, i] (getItem o i) := by intro _ _; rfl) : Ev X n env ρ (.Subscript value slice pos) d := .mk fun A W s Q ok iv h => by
  refine Subscript_ (hv.run A W s _ ok iv fun o s₁ k₁ iv₁ r₁ => hk.run A W s₁ _ ok iv₁ fun i s₂ k₂ iv₂ r₂ => ?_)
  have r₁ := r₁.kp0 k₂
  cases r₁ with
  | tup hl ha rs =>
    cases r₂
    obtain ⟨v, hv, hr⟩ := rs.get hd
    have hlt := (List.getElem?_eq_some_iff.mp hd).1
    have hlen := rs.length
    exact tail_any (T := "tuple") (let ⟨o, ho, hc, _⟩ := hl; ⟨o, ho, hc⟩) PyProof.Rows.slot_tuple_getitem.lookup (PyProof.Rows.getItem_tuple hl (by omega) h1 (seqIndex_at h0 (by rw [List.size_toArray]; omega)) (by simpa using hv) (h _ _ (k₁.trans k₂) iv₂ hr)) (hs _ _)

theorem Ev.upto {x : Str} {e : Expr} {p p' pos : Pos} {ds : List D} {k : Int} (hv : Ev X n env ρ (.Name x p') (.list ds)) (hk : Ev X n env ρ e (.int k)) (h0 : 0 ≤ k) (hz : ds.length ≤ sizeLine) :
    Ev X n env ρ (.Subscript (.Name x p') (.Slice none (some e) none p) pos) (.list (ds.take k.toNat)) := .mk fun A W s Q ok iv h => by
  refine wpAny_Subscript_list_slice (hv.run A W s _ ok iv fun o s₁ k₁ iv₁ r₁ => ?_)
  rw [evalPart_none, evalPart_some]
  refine wpAny_pure (hk.run A W s₁ _ ok iv₁ fun i s₂ k₂ iv₂ r₂ => ?_)
  have r₁ := r₁.kp0 k₂
  cases r₁ with
  | @list a vs _ hl ha rs =>
    cases r₂ with | int _ t =>
    have kp : Kp [] [] s₂ { s₂ with heap := (s₂.heap.push { cls := .type "slice", data := .fields #[.none, .int k t, .none] }).push { cls := .type "list", data := .seq (slicePick vs.toArray none (some k) none) } } :=
      .of_heap (tk := s₂.toks) fun b o _ e => Heap.get?_push_of_some _ (Heap.get?_push_of_some _ e)
    refine ⟨a, vs.toArray, _, _, rfl, hl.isList, by rw [List.size_toArray, rs.length]; exact hz, .none, .int _ _, ?_⟩
    refine h _ _ ((k₁.trans k₂).trans kp) (iv₂.kp kp) (.list (vs := vs.take k.toNat) ⟨0, ?_⟩ (fun m => ?_) ((rs.take _).kp0 kp))
    · have hp : slicePick vs.toArray none (some k) none = (vs.take k.toNat).toArray := by
        have := slicePick_upto' vs.toArray k.toNat
        rwa [Int.toNat_of_nonneg h0] at this
      rw [hp]
      have := Heap.get?_push_size (s₂.heap.push { cls := .type "slice", data := .fields #[.none, .int k t, .none] }) (o := { cls := .type "list", data := .seq (vs.take k.toNat).toArray }) rfl
      rw [Heap.size_push] at this
      exact this
    · obtain ⟨o, ho⟩ := iv₂.wok.wex _ m
      exact Nat.not_succ_le_self _ (Nat.le_trans (Nat.le_succ _) (Heap.lt_size ho))
theorem Ev.onward {x : Str} {e : Expr} {p p' pos : Pos} {ds : List D} {k : Int} (hv : Ev X n env ρ (.Name x p') (.list ds)) (hk : Ev X n env ρ e (.int k)) (h0 : 0 ≤ k) (hz : ds.length ≤ sizeLine) :
    Ev X n env ρ (.Subscript (.Name x p') (.Slice (some e) none none p) pos) (.list (ds.drop k.toNat)) := .mk fun A W s Q ok iv h => by
  refine wpAny_Subscript_list_slice (hv.run A W s _ ok iv fun o s₁ k₁ iv₁ r₁ => ?_)
  rw [evalPart_none, evalPart_some]
  refine hk.run A W s₁ _ ok iv₁ fun i s₂ k₂ iv₂ r₂ => wpAny_pure ?_
  have r₁ := r₁.kp0 k₂
  cases r₁ with
  | @list a vs _ hl ha rs =>
    cases r₂ with | int _ t =>
    have kp : Kp [] [] s₂ { s₂ with heap := (s₂.heap.push { cls := .type "slice", data := .fields #[.int k t, .none, .none] }).push { cls := .type "list", data := .seq (slicePick vs.toArray (some k) none none) } } :=
      .of_heap (tk := s₂.toks) fun b o _ e => Heap.get?_push_of_some _ (Heap.get?_push_of_some _ e)
    refine ⟨a, vs.toArray, _, _, rfl, hl.isList, by rw [List.size_toArray, rs.length]; exact hz, .int _ _, .none, ?_⟩
    refine h _ _ ((k₁.trans k₂).trans kp) (iv₂.kp kp) (.list (vs := vs.drop k.toNat) ⟨0, ?_⟩ (fun m => ?_) ((rs.drop _).kp0 kp))
    · have hp : slicePick vs.toArray (some k) none none = (vs.drop k.toNat).toArray := by
        have := slicePick_from' vs.toArray k.toNat
        rwa [Int.toNat_of_nonneg h0] at this
      rw [hp]
      have := Heap.get?_push_size (s₂.heap.push { cls := .type "slice", data := .fields #[.int k t, .none, .none] }) (o := { cls := .type "list", data := .seq (vs.drop k.toNat).toArray }) rfl
      rw [Heap.size_push] at this
      exact this
    · obtain ⟨o, ho⟩ := iv₂.wok.wex _ m
      exact Nat.not_succ_le_self _ (Nat.le_trans (Nat.le_succ _) (Heap.lt_size ho))

theorem Ev.addL {l r : Expr} {pos : Pos} {a b : List D} (hl : Ev X n env ρ l (.list a)) (hr : Ev X n env ρ r (.list b)) (hz : a.length + b.length ≤ sizeLine) : Ev X n env ρ (.BinOp l .Add r pos) (.list (a ++ b)) :=
  hl.bin hr fun A W s u v Q ok iv ru rv h => by
    cases ru with
    | list hu hau rsu =>
      cases rv with
      | list hv hav rsv =>
        obtain ⟨ku, eu⟩ := hu
        obtain ⟨kv, ev⟩ := hv
        refine PySem.P.add_list eu ev (h _ _ .push0 (.list ⟨0, ?_⟩ iv.fresh ((rsu.append rsv).kp0 .push0))) (by simp only [List.size_toArray, rsu.length, rsv.length]; exact hz)
        rw [Heap.get?_push_size _ rfl]
        simp
theorem glue_copies (x : Value) : ∀ k : Nat, (List.replicate k #[x]).foldl (fun u v => u ++ v) #[] = (List.replicate k x).toArray := by
  have grow : ∀ (k : Nat) (u : List Value), (List.replicate k #[x]).foldl (fun u v => u ++ v) u.toArray = (u ++ List.replicate k x).toArray := fun k => by
    induction k with
    | zero => intro u; simp
    | succ k ih =>
      intro u
      have e : u.toArray ++ #[x] = (u ++ [x]).toArray := by simp
      rw [List.replicate_succ, List.foldl_cons, e, ih, List.append_assoc]; rfl
  exact fun k => grow k []
theorem Reps.replicate {W : List Addr} {h : Heap} {v : Value} {d : D} (r : Rep X W h v d) : ∀ k : Nat, Reps X W h (List.replicate k v) (List.replicate k d)
  | 0 => .nil
  | k + 1 => .cons r (Reps.replicate r k)
/-- a list of one item, k times: int's own answer is that it can't, then list's -/
theorem copies_of_one {A : Around} {s : Shared} {l : Addr} {x : Value} {n : Nat} {k : Int} {t : Tok} {Q : Value → Shared → Prop} (e : s.heap.get? l = some ⟨.type "list", Option.none, .seq #[x] n, #[]⟩) (h0 : 0 ≤ k) (h1 : k ≤ 2 ^ 24)
    (h : ∀ h', (∀ b o, s.heap.get? b = some o → h'.get? b = some o) → LEx h' s.heap.objs.size (List.replicate k.toNat x) → Q (.ref s.heap.objs.size) { s with heap := h' }) : wpF X A (binaryOp .Mult (.ref l) (.int k t)) Q s := by
  have isL : s.TypeIs (.ref l) "list" := ⟨_, e, rfl⟩
  refine wpAny_binaryOp_repeat_ref (by decide) isL (fun s' => typeIs_int s' k t) noFill_list_mul F.fills_int_mul F.slot_int_rmul repeat_list F.slot_int_index.lookup ?_
  refine call_meets F.slot_int_rmul (typeIs_int s k t) F.entry_int_rmul (F.args_int_rmul_2 _ _) (int___rmul___int_list k t l #[x] n) ⟨e, rfl, isL, ?_⟩
  have few : (#[x] : Array Value).size = 1 := rfl
  refine call_meets F.slot_list_mul isL F.entry_list_mul (F.args_list_mul_2 _ _) (AutoListH.list___mul___list_int_3 l #[x] n k t ?_ ?_ ?_) ⟨e, ?_⟩
  · simp [Builtin.List.listFitsIndex]; omega
  · rw [few]; omega
  · simp [Builtin.List.listTooLong, sizeLine]; omega
  · refine h _ (fun b o q => Heap.get?_push_of_some _ q) ⟨0, ?_⟩
    rw [Heap.get?_push_size _ rfl, if_neg (by simp), glue_copies]
theorem Ev.mulL {l r : Expr} {pos : Pos} {a : D} {k : Int} (hl : Ev X n env ρ l (.list [a])) (hr : Ev X n env ρ r (.int k)) (h0 : 0 ≤ k) (h1 : k ≤ 2 ^ 24) : Ev X n env ρ (.BinOp l .Mult r pos) (.list (List.replicate k.toNat a)) :=
  hl.bin hr fun A W s u v Q ok iv ru rv h => by
    cases ru with
    | list hu hau rsu =>
      cases rv
      obtain ⟨ku, eu⟩ := hu
      cases rsu with
      | cons r1 rs =>
        cases rs
        refine copies_of_one eu h0 h1 fun h' hk hL => ?_
        have kp : Kp [] [] s { s with heap := h' } := .of_heap (tk := s.toks) fun b o _ q => hk b o q
        exact h _ _ kp (.list hL iv.fresh ((Reps.replicate r1 _).kp0 kp))

/-- a builtin upon arguments -/
theorem Ev.callb {x : Str} {id : String} {e : Expr} {es : List Expr} {p pos : Pos} {ds : List D} {r : D} (hx : GN env x) (hm : X.mg x = Option.none) (hv : X.mb x = some (.builtin id)) (hes : Evs X n env ρ (e :: es) ds)
    (hf : ∀ (A : Around) (W : List Addr) (s : Shared) (vs : List Value) (Q : Value → Shared → Prop), Ok n A → Iv X env ρ W s → Reps X W s.heap vs ds → (∀ v s', Kp [] [] s s' → Rep X W s'.heap v r → Q v s') → wpF X A (call (.builtin id) vs) Q s)
    (hst : ∀ env, starEach (e :: es) env = (false, eval e env) :: starEach es env := by intro _; rfl) (hst2 : ∀ env, ((backTo pos (starEach es env)).any (·.1)) = false := by intro _; rfl) (hdb : (x == ("__debug__" : Str)) = false := by decide) :
    Ev X n env ρ (.Call (.Name x p) (e :: es) [] pos) r := .mk fun A W s Q ok iv h => by
  refine Call_ (iv.builtin hx hm hv ?_ hdb) rfl
  refine PyProof.Rows.callWith_builtin1 (hes.run A W s pos _ ok iv fun vs s₁ k₁ iv₁ r₁ => ?_) (hst env) (hst2 env)
  exact hf A W s₁ vs Q ok iv₁ r₁ fun v s₂ k₂ r₂ => h _ _ (k₁.trans k₂) (iv₁.kp k₂) r₂
theorem Ev.lenL {x : Str} {e : Expr} {p pos : Pos} {ds : List D} (hx : GN env x) (hm : X.mg x = Option.none) (hv : X.mb x = some (.builtin "len")) (he : Ev X n env ρ e (.list ds)) (hz : ds.length ≤ sizeLine)
    (hst : ∀ env, starEach [e] env = [(false, eval e env)] := by intro _; rfl) (hdb : (x == ("__debug__" : Str)) = false := by decide) : Ev X n env ρ (.Call (.Name x p) [e] [] pos) (.int ds.length) :=
  .callb hx hm hv (.cons he .nil hst) (fun A W s vs Q ok iv rs h => by
    cases rs with
    | cons r1 rs =>
      cases rs
      cases r1 with
      | list hl ha rs =>
        have := rs.length
        refine call_len_list hl.isList (by simp only [List.size_toArray]; rw [this]; simp only [sizeLine] at hz; omega) ?_
        simp only [List.size_toArray]
        rw [this]
        exact h _ _ .toks (.int _ _)) hst (fun _ => rfl) hdb
theorem Ev.lenS {x : Str} {e : Expr} {p pos : Pos} {y : Str} (hx : GN env x) (hm : X.mg x = Option.none) (hv : X.mb x = some (.builtin "len")) (he : Ev X n env ρ e (.str y)) (hz : y.length ≤ sizeLine)
    (hst : ∀ env, starEach [e] env = [(false, eval e env)] := by intro _; rfl) (hdb : (x == ("__debug__" : Str)) = false := by decide) : Ev X n env ρ (.Call (.Name x p) [e] [] pos) (.int y.length) :=
  .callb hx hm hv (.cons he .nil hst) (fun A W s vs Q ok iv rs h => by
    cases rs with
    | cons r1 rs =>
      cases rs
      cases r1
      exact PySem.P.len_str (by simp only [sizeLine] at hz; omega) (h _ _ .toks (.int _ _))) hst (fun _ => rfl) hdb
end
end Mine

end
section
namespace Mine
variable {X : Cx}

/-- what a step of an iterator keeps: all but F, and but what a generator has made behind β for its own run -/
structure Kb (F : List Addr) (β : Nat) (G : List Nat) (s s' : Shared) : Prop where
  heap : ∀ b o, b ∉ F → (β ≤ b → ∀ vs, o.data ≠ .fields vs) → s.heap.get? b = some o → s'.heap.get? b = some o
  gens : ∀ (g : Nat) (x : GenState), g ∉ G → s.gens[g]? = some x → s'.gens[g]? = some x
  bare : AllBare s.gens → AllBare s'.gens
  os : s'.os = s.os
theorem Kp.b {F : List Addr} {β : Nat} {G : List Nat} {s s' : Shared} (x : Kp F G s s') : Kb F β G s s' := ⟨fun b o hb _ e => x.heap b o hb e, x.gens, x.bare, x.os⟩

/-- an iterator at I that will give ds; it changes objects of its own alone (wr, which may grow) and the generators G -/
structure Itr (X : Cx) (A : Around) (W : List Addr) (I : Addr) (β : Nat) (G : List Nat) (ds : List D) (tu : Bool) (St : Nat → List Addr → Shared → Prop) : Prop where
  live : ∀ i wr (s : Shared), St i wr s → ∀ b ∈ wr, ∃ o, s.heap.get? b = some o
  frame : ∀ i wr (s s' : Shared), St i wr s → (∀ b ∈ W, ∀ o, s.heap.get? b = some o → β ≤ b → ∀ vs, o.data ≠ .fields vs) → (∀ b o, b ∈ wr ∨ b ∉ wr ++ W → s.heap.get? b = some o → s'.heap.get? b = some o) → (∀ b o, X.h0.get? b = some o → s'.heap.get? b = some o) → (∀ (g : Nat) (x : GenState), s.gens[g]? = some x → s'.gens[g]? = some x) → St i wr s'
  step : ∀ i wr s d target (Q : Value → Shared → Prop), ds[i]? = some d → St i wr s → Wok X (wr ++ W) s → (∀ b ∈ W, ∀ o, s.heap.get? b = some o → β ≤ b → ∀ vs, o.data ≠ .fields vs) → (tu = true → ∃ es k p, target = Expr.Tuple es k p) →
    (∀ v wr' s', (∀ b ∈ wr', b ∈ wr ∨ s.heap.get? b = none) → (∀ b ∈ wr, b ∈ wr') → Rep X (wr' ++ W) s'.heap v d → St (i + 1) wr' s' → Kb wr β G s s' → Q v s') →
    wpF X A (pyNext (.ref I)) (fun r s₁ => match r with | none => False | some v => wpF X A (letOwnedTupleGo target (.ref I) v) (fun _ s₂ => Q v s₂) s₁) s
  done : ∀ wr s (Q : Shared → Prop), St ds.length wr s → Wok X (wr ++ W) s → (∀ s', Kb wr β G s s' → Q s') → wpF X A (pyNext (.ref I)) (fun r s₁ => match r with | none => Q s₁ | some _ => False) s
  self : ∀ i wr s (Q : Value → Shared → Prop), St i wr s → Q (.ref I) s → wpF X A (pyIter (.ref I)) Q s

/-- the expression is a source that gives ds -/
structure It (X : Cx) (n : Nat) (env : Env) (ρ : Vars) (iter : Expr) (ds : List D) (tu : Bool) : Prop where
  run : ∀ (A : Around) (W : List Addr) (s : Shared) (Q : Value → Shared → Prop), Ok n A → Iv X env ρ W s →
    (∀ I wr β G s', Kp [] [] s s' → (∀ b o, s.heap.get? b = some o → b < β) → (∀ b ∈ wr, s.heap.get? b = none) → (∀ g ∈ G, s.gens[g]? = none) → (∀ N, (∀ b ∈ N, s'.heap.get? b = none) → ∃ St, Itr X A (N ++ W) I β G ds tu St ∧ St 0 wr s') → Q (.ref I) s') →
    wpF X A (eval iter env) (fun x s₁ => wpF X A (pyIter x) Q s₁) s

theorem Kp.thenB {F F' : List Addr} {β : Nat} {G' : List Nat} {s s₁ s₂ : Shared} (x : Kp F [] s s₁) (y : Kb F' β G' s₁ s₂) (hβ : ∀ b o, s.heap.get? b = some o → b < β) (hF : ∀ b ∈ F', b ∈ F ∨ s.heap.get? b = none) (hG : ∀ g ∈ G', s.gens[g]? = none) : Kp F [] s s₂ :=
  ⟨fun b o hb e => y.heap b o (fun m => (hF b m).elim hb fun q => by rw [q] at e; cases e) (fun q => absurd (Nat.lt_of_lt_of_le (hβ b o e) q) (Nat.lt_irrefl _)) (x.heap b o hb e),
   fun g v hg e => y.gens g v (fun m => by rw [hG g m] at e; cases e) (x.gens g v hg e), fun e => y.bare (x.bare e), y.os.trans x.os⟩
theorem Rep.mono' {W : List Addr} {h h' : Heap} (hk : ∀ b o, b ∉ W → (∀ vs, o.data ≠ .fields vs) → h.get? b = some o → h'.get? b = some o) {v : Value} {d : D} (r : Rep X W h v d) : Rep X W h' v d := by
  refine Rep.rec (motive_1 := fun v d _ => Rep X W h' v d) (motive_2 := fun vs ds _ => Reps X W h' vs ds) ?_ ?_ ?_ ?_ ?_ ?_ ?_ ?_ ?_ ?_ r
  · exact .none
  · exact fun b => .bool b
  · exact fun i t => .int i t
  · exact fun x t => .str x t
  · intro a vs ds ⟨o, ho, hc, n, hd⟩ ha _ ih; exact .tup ⟨o, hk _ _ ha (fun vs q => by rw [hd] at q; cases q) ho, hc, n, hd⟩ ha ih
  · intro a vs ds ⟨o, ho⟩ ha _ ih; exact .list ⟨o, hk _ _ ha (fun vs q => by cases q) ho⟩ ha ih
  · intro a l ⟨o, es, ep, ho, hc, hd, r⟩ hs ha; exact .dict ⟨o, es, ep, hk _ _ ha (fun vs q => by rw [hd] at q; cases q) ho, hc, hd, r⟩ hs ha
  · intro x dx v t ⟨h1, od, es, n, h2, hd', r⟩ hx hd _ ih; exact .cmp ⟨hk _ _ hx (fun vs q => by cases q) h1, od, es, n, hk _ _ hd (fun vs q => by rw [hd'] at q; cases q) h2, hd', r⟩ hx hd ih
  · exact .nil
  · intro v d vs ds _ _ h1 h2; exact .cons h1 h2
theorem Reps.mono' {W : List Addr} {h h' : Heap} (hk : ∀ b o, b ∉ W → (∀ vs, o.data ≠ .fields vs) → h.get? b = some o → h'.get? b = some o) : ∀ {vs : List Value} {ds : List D}, Reps X W h vs ds → Reps X W h' vs ds
  | _, _, .nil => .nil
  | _, _, .cons r1 r2 => .cons (r1.mono' hk) (Reps.mono' hk r2)
theorem Kp.thenNew {F F' : List Addr} {G' : List Nat} {s s₁ s₂ : Shared} (x : Kp F [] s s₁) (y : Kp F' G' s₁ s₂) (hF : ∀ b ∈ F', b ∈ F ∨ s.heap.get? b = none) (hG : ∀ g ∈ G', s.gens[g]? = none) : Kp F [] s s₂ :=
  ⟨fun b o hb e => y.heap b o (fun m => (hF b m).elim hb fun q => by rw [q] at e; cases e) (x.heap b o hb e),
   fun g v hg e => y.gens g v (fun m => by rw [hG g m] at e; cases e) (x.gens g v hg e), fun e => y.bare (x.bare e), y.os.trans x.os⟩
/-- the state of a body, with more addresses barred that did not stand before -/
theorem Sv.widen {oc : List Str} {env : Env} {ρ : Vars} {ω : Own} {F W N : List Addr} {s s₁ : Shared} (sv : Sv X oc env ρ ω F W s) (k₁ : Kp [] [] s s₁) (hwr : ∀ b ∈ N, s.heap.get? b = none) (hex : ∀ b ∈ N, ∃ o, s₁.heap.get? b = some o) : Sv X oc env ρ ω F (N ++ W) s₁ := by
  have sv₁ := sv.kp k₁
  have r1 : ∀ v d, Rep X W s.heap v d → Rep X (N ++ W) s₁.heap v d := fun v d r => (r.bar hwr).kp0 k₁
  have r2 : ∀ v d, Reps X W s.heap v d → Reps X (N ++ W) s₁.heap v d := fun v d r => (r.bar hwr).kp0 k₁
  refine ⟨⟨sv.iv.eb, ⟨sv₁.iv.wok.base, fun b hb => (List.mem_append.mp hb).elim (hex b) (sv₁.iv.wok.wex b), fun b hb => (List.mem_append.mp hb).elim (fun q => sv.iv.wok.new (hwr b q)) (sv.iv.wok.wb b)⟩, fun y e hl => ?_⟩, sv₁.ns, sv.lF, List.mem_append_right _ sv.lW, sv.fb, sv₁.fex, fun b hb => List.mem_append_right _ (sv.fW b hb), fun y c e => sv₁.cF y c e, sv.cI, fun y a o e => ?_, sv.ownA⟩
  · obtain ⟨u, h1, h2⟩ := sv.iv.vars y e hl
    exact ⟨u, h1.keeps k₁.keep, r1 _ _ h2⟩
  · obtain ⟨h1, h2, h3, h4, h5, h6⟩ := sv₁.own y a o e
    refine ⟨h1, List.mem_append_right _ h2, h3, h4, h5, ?_⟩
    have h6' := (sv.own y a o e).2.2.2.2.2
    cases o with
    | list ds => obtain ⟨vs, ⟨k, l⟩, r⟩ := h6'; exact ⟨vs, ⟨k, k₁.keep _ _ l⟩, r2 _ _ r⟩
    | dict l => exact h6
theorem Rep.more {W wr wr' : List Addr} {h : Heap} (hn : ∀ b ∈ wr', b ∈ wr ∨ h.get? b = Option.none) {v : Value} {d : D} (r : Rep X (wr ++ W) h v d) : Rep X (wr' ++ W) h v d := by
  have r2 := r.bar (N := wr'.filter fun b => decide (h.get? b = Option.none)) fun b hb => by simpa using (List.mem_filter.mp hb).2
  refine r2.sub fun b hb => ?_
  rcases List.mem_append.mp hb with q | q
  · by_cases hq : h.get? b = Option.none
    · exact List.mem_append_left _ (List.mem_filter.mpr ⟨q, by simpa using hq⟩)
    · exact List.mem_append_right _ (List.mem_append_left _ ((hn b q).resolve_right hq))
  · exact List.mem_append_right _ (List.mem_append_right _ q)
theorem Reps.more {W wr wr' : List Addr} {h : Heap} (hn : ∀ b ∈ wr', b ∈ wr ∨ h.get? b = none) : ∀ {vs : List Value} {ds : List D}, Reps X (wr ++ W) h vs ds → Reps X (wr' ++ W) h vs ds
  | _, _, .nil => .nil
  | _, _, .cons r1 r2 => .cons (r1.more hn) (Reps.more hn r2)
/-- one step of an iterator, seen from a body -/
theorem Sv.stepped {oc : List Str} {env : Env} {ρ : Vars} {ω : Own} {F W wr wr' : List Addr} {β : Nat} {G : List Nat} {s s' : Shared} (sv : Sv X oc env ρ ω F (wr ++ W) s) (k : Kb wr β G s s') (hβ : ∀ b o, X.h0.get? b = some o → b < β) (hWk : ∀ b ∈ W, b ∉ wr → ∀ o, s.heap.get? b = some o → β ≤ b → ∀ vs, o.data ≠ .fields vs) (hn : ∀ b ∈ wr', b ∈ wr ∨ s.heap.get? b = none) (hsub : ∀ b ∈ wr, b ∈ wr') (hex : ∀ b ∈ wr', ∃ o, s'.heap.get? b = some o)
    (hl : env.locals ∉ wr) (hc : ∀ x c, env.cells.lookup x = some c → c ∉ wr) (hF : ∀ b ∈ F, b ∉ wr) : Sv X oc env ρ ω F (wr' ++ W) s' := by
  have inW : ∀ b ∈ wr ++ W, b ∈ wr' ++ W := fun b hb => (List.mem_append.mp hb).elim (fun q => List.mem_append_left _ (hsub b q)) fun q => List.mem_append_right _ q
  have kp : ∀ b o, b ∉ wr' ++ W → (∀ vs, o.data ≠ .fields vs) → s.heap.get? b = some o → s'.heap.get? b = some o := fun b o hb hd e => k.heap b o (fun m => hb (List.mem_append_left _ (hsub b m))) (fun _ => hd) e
  have bd : ∀ y u, Bound env s.heap y u → Bound env s'.heap y u := fun y u b => by
    rcases b with ⟨h1, m', ⟨o, es, ep, ho, hd, r⟩, h3⟩ | ⟨h1, c, h2, o, ho, r⟩
    · exact .inl ⟨h1, m', ⟨o, es, ep, k.heap _ _ hl (fun _ vs q => by rw [hd] at q; cases q) ho, hd, r⟩, h3⟩
    · exact .inr ⟨h1, c, h2, o, k.heap _ _ (hc y c h2) (fun _ vs q => by rw [r] at q; cases q) ho, r⟩
  refine ⟨⟨sv.iv.eb, ⟨fun b o e => k.heap _ _ (fun m => ?_) (fun q => absurd (Nat.lt_of_lt_of_le (hβ b o e) q) (Nat.lt_irrefl _)) (sv.iv.wok.base b o e), fun b hb => ?_, fun b hb => ?_⟩, fun y e hl => ?_⟩, ?_, sv.lF, inW _ sv.lW, sv.fb, fun b hb => let ⟨o, ho⟩ := sv.fex b hb; ⟨o, k.heap _ _ (hF b hb) (hWk b ((List.mem_append.mp (sv.fW b hb)).resolve_left (hF b hb)) (hF b hb) o ho) ho⟩, fun b hb => inW b (sv.fW b hb), fun y c e => ?_, sv.cI, fun y a o e => ?_, sv.ownA⟩
  · rw [sv.iv.wok.wb b (List.mem_append_left _ m)] at e; cases e
  · rcases List.mem_append.mp hb with q | q
    · exact hex b q
    · by_cases hw : b ∈ wr
      · exact hex b (hsub b hw)
      · exact let ⟨o, ho⟩ := sv.iv.wok.wex b (List.mem_append_right _ q); ⟨o, k.heap _ _ hw (hWk b q hw o ho) ho⟩
  · rcases List.mem_append.mp hb with q | q
    · rcases hn b q with q | q
      · exact sv.iv.wok.wb b (List.mem_append_left _ q)
      · exact sv.iv.wok.new q
    · exact sv.iv.wok.wb b (List.mem_append_right _ q)
  · obtain ⟨u, h1, h2⟩ := sv.iv.vars y e hl
    exact ⟨u, bd y u h1, (h2.more hn).mono' kp⟩
  · obtain ⟨m, o, es, ep, ho, hd, r⟩ := sv.ns
    exact ⟨m, o, es, ep, k.heap _ _ hl (fun _ vs q => by rw [hd] at q; cases q) ho, hd, r⟩
  · obtain ⟨h1, h3, u, o, ho, r⟩ := sv.cF y c e
    exact ⟨h1, h3, u, o, k.heap _ _ (hc y c e) (fun _ vs q => by rw [r] at q; cases q) ho, r⟩
  · obtain ⟨h1, h2, h3, h4, h5, h6⟩ := sv.own y a o e
    refine ⟨h1, inW a h2, h3, h4, bd y _ h5, ?_⟩
    have ha := hF a h1
    cases o with
    | list ds => obtain ⟨vs, ⟨kk, l⟩, r⟩ := h6; exact ⟨vs, ⟨kk, k.heap _ _ ha (fun _ vs q => by cases q) l⟩, (r.more hn).mono' kp⟩
    | dict l => obtain ⟨l', e, ⟨o, es, ep, ho, hc', hd, r⟩, hs⟩ := h6; exact ⟨l', e, ⟨o, es, ep, k.heap _ _ ha (fun _ vs q => by rw [hd] at q; cases q) ho, hc', hd, r⟩, hs⟩

/-- a loop's own objects go, with whatever became of them -/
theorem Sv.leaveB {oc : List Str} {env : Env} {ρ : Vars} {ω : Own} {F W N : List Addr} {β : Nat} {G : List Nat} {s s' : Shared} (sv : Sv X oc env ρ ω F (N ++ W) s) (k : Kb N β G s s') (hβ : ∀ b o, X.h0.get? b = some o → b < β) (hWk : ∀ b ∈ W, b ∉ N → ∀ o, s.heap.get? b = some o → β ≤ b → ∀ vs, o.data ≠ .fields vs)
    (hNW : ∀ b ∈ N, b ∉ W) (hl : env.locals ∈ W) (hc : ∀ x c, env.cells.lookup x = some c → c ∉ N) (hω : ∀ x a o, (x, a, o) ∈ ω → a ∈ W) (hF : ∀ b ∈ F, b ∉ N) : Sv X oc env ρ ω F W s' := by
  have sub : ∀ b ∈ W, b ∈ N ++ W := fun b hb => List.mem_append_right _ hb
  have out : ∀ b ∈ W, b ∉ N := fun b hb q => hNW b q hb
  have kp : ∀ b o, b ∉ N ++ W → (∀ vs, o.data ≠ .fields vs) → s.heap.get? b = some o → s'.heap.get? b = some o := fun b o hb hd e => k.heap b o (fun m => hb (List.mem_append_left _ m)) (fun _ => hd) e
  have bd : ∀ y u, Bound env s.heap y u → Bound env s'.heap y u := fun y u b => by
    rcases b with ⟨h1, m', ⟨o, es, ep, ho, hd, r⟩, h3⟩ | ⟨h1, c, h2, o, ho, r⟩
    · exact .inl ⟨h1, m', ⟨o, es, ep, k.heap _ _ (out _ hl) (fun _ vs q => by rw [hd] at q; cases q) ho, hd, r⟩, h3⟩
    · exact .inr ⟨h1, c, h2, o, k.heap _ _ (hc y c h2) (fun _ vs q => by rw [r] at q; cases q) ho, r⟩
  have fW : ∀ b ∈ F, b ∈ W := fun b hb => (List.mem_append.mp (sv.fW b hb)).resolve_left (hF b hb)
  refine ⟨⟨sv.iv.eb, ⟨fun b o e => k.heap _ _ (fun m => ?_) (fun q => absurd (Nat.lt_of_lt_of_le (hβ b o e) q) (Nat.lt_irrefl _)) (sv.iv.wok.base b o e), fun b hb => ?_, fun b hb => sv.iv.wok.wb b (sub b hb)⟩, fun y e hl => ?_⟩, ?_, sv.lF, hl, sv.fb, fun b hb => let ⟨o, ho⟩ := sv.fex b hb; ⟨o, k.heap _ _ (hF b hb) (hWk b (fW b hb) (hF b hb) o ho) ho⟩, fW, fun y c e => ?_, sv.cI, fun y a o e => ?_, sv.ownA⟩
  · rw [sv.iv.wok.wb b (List.mem_append_left _ m)] at e; cases e
  · exact let ⟨o, ho⟩ := sv.iv.wok.wex b (sub b hb); ⟨o, k.heap _ _ (out b hb) (hWk b hb (out b hb) o ho) ho⟩
  · obtain ⟨u, h1, h2⟩ := sv.iv.vars y e hl
    exact ⟨u, bd y u h1, (h2.mono' kp).sub sub⟩
  · obtain ⟨m, o, es, ep, ho, hd, r⟩ := sv.ns
    exact ⟨m, o, es, ep, k.heap _ _ (out _ hl) (fun _ vs q => by rw [hd] at q; cases q) ho, hd, r⟩
  · obtain ⟨h1, h3, u, o, ho, r⟩ := sv.cF y c e
    exact ⟨h1, h3, u, o, k.heap _ _ (hc y c e) (fun _ vs q => by rw [r] at q; cases q) ho, r⟩
  · obtain ⟨h1, h2, h3, h4, h5, h6⟩ := sv.own y a o e
    refine ⟨h1, hω y a o e, h3, h4, bd y _ h5, ?_⟩
    have ha := hF a h1
    cases o with
    | list ds => obtain ⟨vs, ⟨kk, l⟩, r⟩ := h6; exact ⟨vs, ⟨kk, k.heap _ _ ha (fun _ vs q => by cases q) l⟩, (r.mono' kp).sub sub⟩
    | dict l => obtain ⟨l', e, ⟨o, es, ep, ho, hc', hd, r⟩, hs⟩ := h6; exact ⟨l', e, ⟨o, es, ep, k.heap _ _ ha (fun _ vs q => by rw [hd] at q; cases q) ho, hc', hd, r⟩, hs⟩

/-- the target takes d -/
structure Asg (X : Cx) (n : Nat) (oc : List Str) (env : Env) (target : Expr) (d : D) (ρ : Vars) (ω : Own) (ρ' : Vars) : Prop where
  run : ∀ (A : Around) (F W : List Addr) (s : Shared) (v : Value) (Q : Unit → Shared → Prop), Ok n A → Sv X oc env ρ ω F W s → Rep X W s.heap v d →
    (∀ s', Kp F [] s s' → Sv X oc env ρ' ω F W s' → Q () s') → wpF X A (PySem.assign target env v) Q s

section
variable {n : Nat} {oc : List Str} {env : Env} {ρ ρ' : Vars} {ω : Own} {KR : D → Prop} {KN : Vars → Own → Prop} {rest : List Stmt}

theorem Asg.name {x : Str} {p : Pos} {d : D} (hx : Stor oc env x) (hω : x ∉ ω.map (·.1)) : Asg X n oc env (.Name x p) d ρ ω ((x, d) :: ρ) := .mk fun _ _ _ _ _ _ _ sv r h =>
  wpAny_assign_Name (sv.store hx r hω h)
theorem Asg.pair {x y : Str} {px py pos : Pos} {k : Nat} {a b : D} (hx : Stor oc env x) (hy : Stor oc env y) (hωx : x ∉ ω.map (·.1)) (hωy : y ∉ ω.map (·.1)) :
    Asg X n oc env (.Tuple [.Name x px, .Name y py] k pos) (.tup [a, b]) ρ ω ((y, b) :: (x, a) :: ρ) := .mk fun A F W s v Q ok sv r h => by
  cases r with
  | tup ht ha rs =>
    cases rs with
    | cons r1 rs =>
      cases rs with
      | cons r2 rs =>
        cases rs
        refine wpAny_assign_Tuple ok.h ht rfl rfl fun h' hx' => ?_
        have k0 : Kp [] [] s { s with heap := h' } := .of_heap (tk := s.toks) fun b o _ e => hx' b o (fun q => Nat.lt_irrefl _ (q ▸ Heap.lt_size e)) e
        refine wpAny_assignInOrder_more (wpAny_assign_Name ((sv.kp k0).store hx (r1.kp0 k0) hωx fun s₂ k₂ sv₂ => ?_))
        have r2' : Rep X W s₂.heap _ b := (r2.kp0 k0).mono fun c o hc e => k₂.heap c o (fun m => ?_) e
        · exact wpAny_assignInOrder_more (wpAny_assign_Name (sv₂.store hy r2' hωy fun s₃ k₃ sv₃ => wpAny_assignInOrder_none (h _ ((k0.any.trans k₂).trans k₃) sv₃)))
        · exact hc (sv.fW c m)

/-- a for over a source, by what holds between the turns -/
theorem Ex.for {target iter : Expr} {body : List Stmt} {pos : Pos} {ds : List D} {tu : Bool} (it : It X n env ρ iter ds tu) (J : Nat → Vars → Own → Prop) (h0 : J 0 ρ ω)
    (turn : ∀ i d ρ' ω', ds[i]? = some d → J i ρ' ω' → ∃ ρ'', Asg X n (env.cells.map (·.1)) env target d ρ' ω' ρ'' ∧ Ex X n env ρ'' ω' body KR (J (i + 1)))
    (fin : ∀ ρ' ω', J ds.length ρ' ω' → Ex X n env ρ' ω' rest KR KN) (htu : tu = true → ∃ es k p, target = Expr.Tuple es k p)
    (hs : ∀ x, foldedSetIterable iter env x = pure x := by intro _; rfl) : Ex X n env ρ ω (.For target iter body [] pos :: rest) KR KN := .mk fun A F W s Q ok sv hR hN => by
  refine wpAny_execs_cons (wpAny_For (it.run A W s _ ok sv.iv fun I wr₀ β G s₁ k₁ hβ hwr hG hit => ?_) hs)
  have hβ0 : ∀ b o, X.h0.get? b = some o → b < β := fun b o e => hβ b o (sv.iv.wok.base b o e)
  have hβW : ∀ b ∈ W, b < β := fun b hb => let ⟨_, ho⟩ := sv.iv.wok.wex b hb; hβ _ _ ho
  obtain ⟨St, itr, st₁⟩ := hit [] (fun _ h => nomatch h)
  have itr : Itr X A W I β G ds tu St := itr
  have freshW : ∀ (wr : List Addr), (∀ b ∈ wr, s.heap.get? b = none) → ∀ b ∈ wr, b ∉ W := fun wr h b hb hw => let ⟨o, ho⟩ := sv.iv.wok.wex b hw; by rw [h b hb] at ho; cases ho
  have freshF : ∀ (wr : List Addr), (∀ b ∈ wr, s.heap.get? b = none) → ∀ b ∈ F, b ∉ wr := fun wr h b hb hw => freshW wr h b hw (sv.fW b hb)
  have hl : env.locals ∈ W := sv.lW
  have hc : ∀ x c, env.cells.lookup x = some c → c ∈ W := fun x c e => sv.fW c ((sv.cF x c e).1 (List.mem_map.mpr ⟨(x, c), mem_of_lookup e, rfl⟩))
  have hbar := sv.widen k₁ hwr (itr.live 0 _ s₁ st₁)
  refine codeAny_forLoop_any (fun k s' => ∃ i wr ρ' ω', k = ds.length + 1 - i ∧ i ≤ ds.length ∧ J i ρ' ω' ∧ St i wr s' ∧ (∀ b ∈ wr, s.heap.get? b = none) ∧ Sv X (env.cells.map (·.1)) env ρ' ω' F (wr ++ W) s' ∧ Kp F [] s s') ?_ (ds.length + 1) ⟨0, wr₀, ρ, ω, rfl, Nat.zero_le _, h0, st₁, hwr, hbar, k₁.any⟩
  rintro k s' ⟨i, wr, ρ', ω', rfl, hi, hJ, st', hwr', sv', kp'⟩
  have noE : ∀ (e : Value) (s' : Shared), (fun _ _ => False : Value → Shared → Prop) e s' → notedBy (model X.P X.w) A env (fun e s' => cameBackBy (model X.P X.w) A env (fun _ _ => False) e s') e s' := fun _ _ q => q.elim
  rcases Nat.lt_or_ge i ds.length with hlt | hge
  · -- a turn
    have hd : ds[i]? = some ds[i] := List.getElem?_eq_getElem hlt
    obtain ⟨ρ'', asg, ex⟩ := turn i ds[i] ρ' ω' hd hJ
    have stp := itr.step i wr s' ds[i] target (fun v s₂ => wpF X A (PySem.assign target env v) (fun _ s₂ => wpF X A (execs body env) (fun f s₃ => match f with
            | .next | .cont => ∃ m, m < ds.length + 1 - i ∧ ∃ i wr ρ' ω', m = ds.length + 1 - i ∧ i ≤ ds.length ∧ J i ρ' ω' ∧ St i wr s₃ ∧ (∀ b ∈ wr, s.heap.get? b = none) ∧ Sv X (env.cells.map (·.1)) env ρ' ω' F (wr ++ W) s₃ ∧ Kp F [] s s₃
            | .brk => False
            | .ret v => Q (.ret v) s₃) s₂) s₂) hd st' sv'.iv.wok (fun b hb o _ q => absurd (Nat.lt_of_lt_of_le (hβW b hb) q) (Nat.lt_irrefl _)) htu fun v wr₂ s₂ hn₂ hsub₂ r st₂ k₂ => ?_
    · refine wpAny_mono stp (fun r s₂ h => ?_) noE
      cases r with
      | none => exact h.elim
      | some v =>
        refine wpAny_mono h (fun _ s₃ h₃ => wpAny_mono h₃ (fun _ s₄ h₄ => wpAny_mono h₄ (fun f s₅ h₅ => ?_) noE) noE) noE
        cases f with
        | next => exact h₅
        | cont => exact h₅
        | brk => exact h₅.elim
        | ret v => exact h₅
    · have hwr₂ : ∀ b ∈ wr₂, s.heap.get? b = none := fun b hb => by
        rcases hn₂ b hb with q | q
        · exact hwr' b q
        · cases e : s.heap.get? b with
          | none => rfl
          | some o =>
            by_cases hF : b ∈ F
            · obtain ⟨o', ho'⟩ := sv'.fex b hF; rw [q] at ho'; cases ho'
            · have := kp'.heap b o hF e; rw [q] at this; cases this
      have hFw := freshF wr hwr'
      have hFw₂ := freshF wr₂ hwr₂
      have sv₂ := sv'.stepped k₂ hβ0 (fun b hb _ o _ q => absurd (Nat.lt_of_lt_of_le (hβW b hb) q) (Nat.lt_irrefl _)) hn₂ hsub₂ (itr.live _ _ _ st₂) (fun m => freshW wr hwr' _ m hl) (fun x c e m => freshW wr hwr' _ m (hc x c e)) hFw
      have kp₂ : Kp F [] s s₂ := kp'.thenB k₂ hβ (fun b hb => .inr (hwr' b hb)) hG
      refine asg.run A F (wr₂ ++ W) s₂ v _ ok sv₂ r fun s₃ k₃ sv₃ => ?_
      have frm : ∀ t t', Kp F [] t t' → (∀ b o, X.h0.get? b = some o → t'.heap.get? b = some o) → St (i + 1) wr₂ t → St (i + 1) wr₂ t' := fun t t' kk hb0 st =>
        itr.frame _ _ _ _ st (fun b hb o _ q => absurd (Nat.lt_of_lt_of_le (hβW b hb) q) (Nat.lt_irrefl _)) (fun b o hb e => kk.heap b o (fun m => hb.elim (fun q => hFw₂ b m q) fun q => q (List.mem_append_right _ (sv.fW b m))) e) hb0 fun g x e => kk.gens g x (by simp) e
      have st₃ := frm _ _ k₃ sv₃.iv.wok.base st₂
      have kp₃ : Kp F [] s s₃ := kp₂.trans k₃
      refine ex.run A F (wr₂ ++ W) s₃ _ ok sv₃ (fun d v s₄ kd k₄ r₄ => ?_) fun ρ₄ ω₄ s₄ kn k₄ sv₄ => ?_
      · refine hR d v s₄ kd (kp₃.trans k₄) fun U hU => r₄ U fun b hb => ⟨List.mem_append_right _ (hU b hb).1, (hU b hb).2⟩
      · have st₄ := frm _ _ k₄ sv₄.iv.wok.base st₃
        exact ⟨ds.length + 1 - (i + 1), by omega, i + 1, wr₂, ρ₄, ω₄, rfl, hlt, kn, st₄, hwr₂, sv₄, kp₃.trans k₄⟩
  · -- the end
    have hin : i = ds.length := by omega
    subst hin
    have hFw := freshF wr hwr'
    refine wpAny_mono (itr.done wr s' (fun s₂ => Kb wr β G s' s₂) st' sv'.iv.wok fun s₂ k => k) (fun r s₂ h => ?_) noE
    cases r with
    | some v => exact h.elim
    | none =>
      refine wpAny_execs_nil ?_
      have sv₂ : Sv X (env.cells.map (·.1)) env ρ' ω' F W s₂ := sv'.leaveB h hβ0 (fun b hb _ o _ q => absurd (Nat.lt_of_lt_of_le (hβW b hb) q) (Nat.lt_irrefl _)) (freshW wr hwr') hl (fun x c e m => freshW wr hwr' _ m (hc x c e)) (fun x a o e => (List.mem_append.mp (sv'.own x a o e).2.1).elim (fun q => absurd q (hFw a (sv'.own x a o e).1)) id) hFw
      have kp₂ : Kp F [] s s₂ := kp'.thenB h hβ (fun b hb => .inr (hwr' b hb)) hG
      exact (fin ρ' ω' hJ).run A F W s₂ Q ok sv₂ (fun d v s'' kd k' r => hR d v s'' kd (kp₂.trans k') r) fun ρ'' ω'' s'' kn k' sv'' => hN _ _ _ kn (kp₂.trans k') sv''
end
end Mine

end
section
namespace Mine
variable {X : Cx}

/-- the iterators met here that hold no tuple of their own -/
def otherIters : List String := ["list_iterator", "tuple_iterator", "range_iterator", "dict_valueiterator", "generator"]

theorem goNo {A : Around} {s : Shared} {I : Addr} {o : Obj} {c : String} {target : Expr} {v : Value} {Q : Unit → Shared → Prop} (ho : s.heap.get? I = some o) (hc : o.cls = .type c) (hn : c ∈ otherIters) (h : Q () s) :
    wpF X A (letOwnedTupleGo target (.ref I) v) Q s := by
  have hn' : c = "list_iterator" ∨ c = "tuple_iterator" ∨ c = "range_iterator" ∨ c = "dict_valueiterator" ∨ c = "generator" := by simpa [otherIters] using hn
  unfold letOwnedTupleGo
  cases target <;> first
    | exact wpAny_pure h
    | (cases v <;> first
        | exact wpAny_pure h
        | (refine wpAny_bind (wpAny_load ho ?_)
           rw [hc]
           cases o.data <;> first
             | exact wpAny_pure h
             | (rcases hn' with rfl | rfl | rfl | rfl | rfl <;> (dsimp only; rw [if_neg (by simp)]; exact wpAny_pure h))))

/-- an iterator of the library's own kind -/
theorem Itr.walks {β : Nat} {A : Around} {W : List Addr} {I : Addr} {fp wr : List Addr} {m : Nat} {Pv : Nat → Value → Prop} {St : Nat → Heap → Prop} {ds : List D} {RD : Heap → Prop} {c : String} (wk : Walks X.P X.w A I fp wr m Pv St) (hm : m = ds.length)
    (hfp : ∀ b ∈ fp, b ∈ wr ∨ b ∉ wr ++ W) (hI : ∀ i h, St i h → ∃ o, h.get? I = some o ∧ o.cls = .type c) (hc : c ∈ otherIters) (hlive : ∀ i h, St i h → ∀ b ∈ wr, ∃ o, h.get? b = some o)
    (hRD : ∀ h h' : Heap, RD h → (∀ b o, b ∉ wr ++ W → h.get? b = some o → h'.get? b = some o) → RD h') (hP : ∀ i v d h, Pv i v → ds[i]? = some d → RD h → Rep X (wr ++ W) h v d) :
    Itr X A W I β [] ds false (fun i wr' s => wr' = wr ∧ St i s.heap ∧ RD s.heap) where
  live := fun i _ s st => by obtain ⟨rfl, st⟩ := st; exact hlive i _ st.1
  frame := fun i _ s s' st _ hk _ _ => by obtain ⟨rfl, st⟩ := st; exact ⟨rfl, wk.frame i _ _ st.1 fun b hb o e => hk b o (hfp b hb) e, hRD _ _ st.2 fun b o hb e => hk b o (.inr hb) e⟩
  step := fun i _ s d target Q hd st wok _ _ hQ => by
    obtain ⟨rfl, st⟩ := st
    have hlt := (List.getElem?_eq_some_iff.mp hd).1
    refine wk.item i s _ _ (by omega) st.1 fun v h' tk hp st' hk => ?_
    obtain ⟨o, ho, hcl⟩ := hI _ _ st'
    have rd' : RD h' := hRD _ _ st.2 fun b o hb e => hk b o (fun q => hb (List.mem_append_left _ q)) e
    exact goNo ho hcl hc (hQ v _ _ (fun b hb => .inl hb) (fun b hb => hb) (hP i v d h' hp hd rd') ⟨rfl, st', rd'⟩ (Kp.of_heap fun b o hb e => hk b o hb e).b)
  done := fun _ s Q st wok hQ => by
    obtain ⟨rfl, st⟩ := st
    refine wk.done s _ _ (hm ▸ st.1) fun h' tk hk => hQ _ (Kp.of_heap fun b o hb e => hk b o hb e).b
  self := fun i _ s Q st h => by obtain ⟨rfl, st⟩ := st; exact wk.self i s _ _ st.1 h
theorem Itr.walksT {β : Nat} {A : Around} {W : List Addr} {I : Addr} {fp wr : List Addr} {m : Nat} {Pt : Nat → Array Value → Prop} {St : Nat → Heap → Prop} {Mid : Nat → Addr → Heap → Prop} {ds : List D} {RD : Heap → Prop} (wk : WalksT X.P X.w A I fp wr m Pt St Mid) (hm : m = ds.length)
    (hfp : ∀ b ∈ fp, b ∈ wr ∨ b ∉ wr ++ W) (hlive : ∀ i h, St i h → ∀ b ∈ wr, ∃ o, h.get? b = some o)
    (hRD : ∀ h h' : Heap, RD h → (∀ b o, b ∉ wr ++ W → h.get? b = some o → h'.get? b = some o) → RD h') (hP : ∀ i vals d h, Pt i vals → ds[i]? = some d → RD h → ∃ cs, d = .tup cs ∧ Reps X (wr ++ W) h vals.toList cs) :
    Itr X A W I β [] ds true (fun i wr' s => wr' = wr ∧ St i s.heap ∧ RD s.heap) where
  live := fun i _ s st => by obtain ⟨rfl, st⟩ := st; exact hlive i _ st.1
  frame := fun i _ s s' st _ hk _ _ => by obtain ⟨rfl, st⟩ := st; exact ⟨rfl, wk.frame i _ _ st.1 fun b hb o e => hk b o (hfp b hb) e, hRD _ _ st.2 fun b o hb e => hk b o (.inr hb) e⟩
  step := fun i _ s d target Q hd st wok _ ht hQ => by
    obtain ⟨rfl, st⟩ := st
    obtain ⟨es, k, p, rfl⟩ := ht rfl
    have hlt := (List.getElem?_eq_some_iff.mp hd).1
    refine wk.item i s _ _ (by omega) st.1 fun T vals h' tk hp hT hT' hmid hk => ?_
    have hTW : T ∉ _ := fun q => let ⟨o, ho⟩ := wok.wex T q; Nat.lt_irrefl _ (Nat.lt_of_lt_of_le (Heap.lt_size ho) hT)
    have hap := wk.apart i T h' hmid
    refine wk.go es k p i T { s with heap := h', toks := tk } _ _ hmid fun h'' st'' hk'' => ?_
    have rd' : RD h'' := hRD _ _ st.2 fun b o hb e => hk'' b o (fun q => hb (List.mem_append_left _ q)) (hk b o (fun q => hb (List.mem_append_left _ q)) e)
    obtain ⟨cs, rfl, rs⟩ := hP i vals d h'' hp hd rd'
    refine hQ (.ref T) _ _ (fun b hb => .inl hb) (fun b hb => hb) (.tup (vs := vals.toList) ?_ hTW rs) ⟨rfl, st'', rd'⟩ (Kp.of_heap fun b o hb e => hk'' b o hb (hk b o hb e)).b
    obtain ⟨o, ho, r⟩ := hT'
    exact ⟨o, hk'' _ _ hap ho, r⟩
  done := fun _ s Q st wok hQ => by
    obtain ⟨rfl, st⟩ := st
    refine wk.done s _ _ (hm ▸ st.1) fun h' tk hk => hQ _ (Kp.of_heap fun b o hb e => hk b o hb e).b
  self := fun i _ s Q st h => by obtain ⟨rfl, st⟩ := st; exact wk.self i s _ _ st.1 h

section
variable {n : Nat} {env : Env} {ρ : Vars}

theorem It.list {iter : Expr} {ds : List D} (he : Ev X n env ρ iter (.list ds)) : It X n env ρ iter ds false := .mk fun A W s Q ok iv h => by
  refine he.run A W s _ ok iv fun v s₁ k₁ iv₁ r₁ => ?_
  cases r₁ with
  | @list a vs _ hl ha rs =>
    have hn : s₁.heap.get? s₁.heap.objs.size = none := none_of_size (Nat.le_refl _)
    have hne : a ≠ s₁.heap.objs.size := fun q => by obtain ⟨k, e⟩ := hl; rw [q, hn] at e; cases e
    refine wpAny_pyIter_list hl.isList ?_
    have k₂ : Kp [] [] s₁ { s₁ with heap := s₁.heap.push { cls := .type "list_iterator", data := .fields #[.ref a, .int 0 0] } } := .push0
    refine h s₁.heap.objs.size [s₁.heap.objs.size] s.heap.objs.size [] _ (k₁.trans k₂) (fun _ _ e => Heap.lt_size e) (fun b hb => ?_) (fun _ hg => nomatch hg) fun N hN => ⟨_, 
      (Itr.walks (c := "list_iterator") (RD := fun h => Reps X ([s₁.heap.objs.size] ++ (N ++ W)) h vs ds) (Walks.list ok.h s₁.heap.objs.size a hne vs.toArray) (by rw [List.size_toArray, rs.length]) (fun b hb => ?_) ?_ (by decide) ?_ ?_ ?_), rfl, ?_⟩
    · rw [List.mem_singleton.mp hb]
      cases e : s.heap.get? s₁.heap.objs.size with
      | none => rfl
      | some o => rw [k₁.keep _ _ e] at hn; cases hn
    · rcases List.mem_cons.mp hb with rfl | hb
      · exact .inl (List.mem_singleton.mpr rfl)
      · rw [List.mem_singleton.mp hb]
        refine .inr fun q => (List.mem_append.mp q).elim (fun q => hne (List.mem_singleton.mp q)) fun q => (List.mem_append.mp q).elim (fun q => ?_) ha
        have hn' := hN _ q
        obtain ⟨k, e⟩ := hl; rw [k₂.keep _ _ e] at hn'; cases hn'
    · intro i h st; obtain ⟨o, ho, hc, _⟩ := st.1; exact ⟨o, ho, hc⟩
    · intro i h st b hb; obtain ⟨o, ho, _⟩ := st.1; rw [List.mem_singleton.mp hb]; exact ⟨o, ho⟩
    · intro h h' rd hk; exact rd.mono hk
    · intro i v d h hp hd rd
      obtain ⟨v', hv', hr⟩ := rd.get hd
      have : vs[i]? = some v := by simpa using hp
      rw [this] at hv'; cases hv'; exact hr
    · refine ⟨⟨⟨_, Heap.get?_push_size _ rfl, rfl, rfl⟩, (hl.isList).push _⟩, ?_⟩
      have hN' : ∀ b ∈ N, s₁.heap.get? b = none := fun b hb => by
        cases e : s₁.heap.get? b with
        | none => rfl
        | some o => have := hN b hb; rw [k₂.keep _ _ e] at this; cases this
      exact ((rs.bar hN').bar (fun b hb => by rw [List.mem_singleton.mp hb]; exact hn)).kp0 k₂
theorem It.tup {iter : Expr} {ds : List D} (he : Ev X n env ρ iter (.tup ds)) : It X n env ρ iter ds false := .mk fun A W s Q ok iv h => by
  refine he.run A W s _ ok iv fun v s₁ k₁ iv₁ r₁ => ?_
  cases r₁ with
  | @tup a vs _ hl ha rs =>
    have hn : s₁.heap.get? s₁.heap.objs.size = none := none_of_size (Nat.le_refl _)
    have hne : a ≠ s₁.heap.objs.size := fun q => by obtain ⟨o, e, _⟩ := hl; rw [q, hn] at e; cases e
    refine wpAny_pyIter_tuple hl ?_
    have k₂ : Kp [] [] s₁ { s₁ with heap := s₁.heap.push { cls := .type "tuple_iterator", data := .fields #[.ref a, .int 0 0] } } := .push0
    refine h s₁.heap.objs.size [s₁.heap.objs.size] s.heap.objs.size [] _ (k₁.trans k₂) (fun _ _ e => Heap.lt_size e) (fun b hb => ?_) (fun _ hg => nomatch hg) fun N hN => ⟨_, 
      (Itr.walks (c := "tuple_iterator") (RD := fun h => Reps X ([s₁.heap.objs.size] ++ (N ++ W)) h vs ds) (Walks.tuple ok.h s₁.heap.objs.size a hne vs.toArray) (by rw [List.size_toArray, rs.length]) (fun b hb => ?_) ?_ (by decide) ?_ ?_ ?_), rfl, ?_⟩
    · rw [List.mem_singleton.mp hb]
      cases e : s.heap.get? s₁.heap.objs.size with
      | none => rfl
      | some o => rw [k₁.keep _ _ e] at hn; cases hn
    · rcases List.mem_cons.mp hb with rfl | hb
      · exact .inl (List.mem_singleton.mpr rfl)
      · rw [List.mem_singleton.mp hb]
        refine .inr fun q => (List.mem_append.mp q).elim (fun q => hne (List.mem_singleton.mp q)) fun q => (List.mem_append.mp q).elim (fun q => ?_) ha
        have hn' := hN _ q
        obtain ⟨o, e, _⟩ := hl; rw [k₂.keep _ _ e] at hn'; cases hn'
    · intro i h st; obtain ⟨o, ho, hc, _⟩ := st.1; exact ⟨o, ho, hc⟩
    · intro i h st b hb; obtain ⟨o, ho, _⟩ := st.1; rw [List.mem_singleton.mp hb]; exact ⟨o, ho⟩
    · intro h h' rd hk; exact rd.mono hk
    · intro i v d h hp hd rd
      obtain ⟨v', hv', hr⟩ := rd.get hd
      have : vs[i]? = some v := by simpa using hp
      rw [this] at hv'; cases hv'; exact hr
    · obtain ⟨o, ho, r⟩ := hl
      refine ⟨⟨⟨_, Heap.get?_push_size _ rfl, rfl, rfl⟩, ⟨o, Heap.get?_push_of_some _ ho, r⟩⟩, ?_⟩
      have hN' : ∀ b ∈ N, s₁.heap.get? b = none := fun b hb => by
        cases e : s₁.heap.get? b with
        | none => rfl
        | some o => have := hN b hb; rw [k₂.keep _ _ e] at this; cases this
      exact ((rs.bar hN').bar (fun b hb => by rw [List.mem_singleton.mp hb]; exact hn)).kp0 k₂

theorem callType {x : Str} {T : String} {e : Expr} {es : List Expr} {p pos : Pos} {ds : List D} {A : Around} {W : List Addr} {s : Shared} {Q : Value → Shared → Prop} (ok : Ok n A) (iv : Iv X env ρ W s) (hx : GN env x) (hm : X.mg x = Option.none) (hv : X.mb x = some (.type T))
    (hes : Evs X n env ρ (e :: es) ds) (h : ∀ vs s', Kp [] [] s s' → Iv X env ρ W s' → Reps X W s'.heap vs ds → wpF X A (call (.type T) vs) Q s')
    (hst : ∀ env, starEach (e :: es) env = (false, eval e env) :: starEach es env := by intro _; rfl) (hst2 : ∀ env, ((backTo pos (starEach es env)).any (·.1)) = false := by intro _; rfl) (hdb : (x == ("__debug__" : Str)) = false := by decide) :
    wpF X A (eval (.Call (.Name x p) (e :: es) [] pos) env) Q s := by
  refine Call_ (iv.builtin hx hm hv ?_ hdb) rfl
  refine PyProof.Rows.callWith_type1 (hes.run A W s pos _ ok iv fun vs s₁ k₁ iv₁ r₁ => h _ _ k₁ iv₁ r₁) (hst env) (hst2 env)

def rng (m : Nat) : List D := (List.range m).map fun i => D.int (i : Nat)
theorem It.range {x : Str} {e : Expr} {p pos : Pos} {m : Nat} (hx : GN env x) (hmg : X.mg x = Option.none) (hv : X.mb x = some (.type "range")) (he : Ev X n env ρ e (.int m)) (hz : m ≤ sizeLine)
    (hst : ∀ env, starEach [e] env = [(false, eval e env)] := by intro _; rfl) (hdb : (x == ("__debug__" : Str)) = false := by decide) : It X n env ρ (.Call (.Name x p) [e] [] pos) (rng m) false := .mk fun A W s Q ok iv h => by
  refine callType ok iv hx hmg hv (.cons he .nil hst) (fun vs s₁ k₁ iv₁ rs => ?_) hst (fun _ => rfl) hdb
  cases rs with
  | cons r1 rs =>
    cases rs
    cases r1 with
    | int _ t =>
      refine call_range_1 ?_
      have hsm : Builtin.Range.small 0 m 1 = true := small_one (by decide) (by decide) (by omega) (by simp only [sizeLine] at hz; omega)
      have hsz : Builtin.Range.rangeSize 0 (m : Int) 1 = (m : Nat) := by rw [rangeSize_one]; split <;> omega
      refine wpAny_pyIter_range (IsRange.new ..) hsm ?_
      rw [Heap.size_push]
      have hn : ∀ k, s₁.heap.get? (s₁.heap.objs.size + k) = none := fun k => none_of_size (Nat.le_add_right _ _)
      refine h (s₁.heap.objs.size + 1) [s₁.heap.objs.size + 1] s.heap.objs.size [] _ (k₁.trans (.of_heap fun b o _ e => Heap.get?_push_of_some _ (Heap.get?_push_of_some _ e))) (fun _ _ e => Heap.lt_size e) (fun b hb => ?_) (fun _ hg => nomatch hg) fun N hN => ⟨_,
        (Itr.walks (c := "range_iterator") (RD := fun _ => True) (Walks.range ok.h (s₁.heap.objs.size + 1) 0 1 m) (by simp [rng]) (fun b hb => .inl hb) ?_ (by decide) ?_ ?_ ?_), rfl, ?_⟩
      · rw [List.mem_singleton.mp hb]
        cases e : s.heap.get? (s₁.heap.objs.size + 1) with
        | none => rfl
        | some o => have := k₁.keep _ _ e; rw [hn 1] at this; cases this
      · intro i h st; exact ⟨_, st, rfl⟩
      · intro i h st b hb; rw [List.mem_singleton.mp hb]; exact ⟨_, st⟩
      · intros; trivial
      · intro i v d h hp hd rd
        obtain ⟨hlt, t, rfl⟩ := hp
        simp only [rng, List.getElem?_map, Option.map_eq_some_iff] at hd
        obtain ⟨j, hj, rfl⟩ := hd
        obtain ⟨hj1, hj2⟩ := List.getElem?_eq_some_iff.mp hj
        simp only [List.getElem_range] at hj2
        subst hj2
        have : (0 : Int) + (i : Int) * 1 = i := by omega
        rw [this]
        exact .int _ _
      · refine ⟨?_, trivial⟩
        have e := Heap.get?_push_size (s₁.heap.push { cls := .type "range", data := .fields #[.int 0 s₁.toks, .int m t, .int 1 (s₁.toks + 1)] }) (o := { cls := .type "range_iterator", data := .fields #[rawInt 0, rawInt (Builtin.Range.rangeSize 0 (m : Int) 1), rawInt 1] }) rfl
        rw [Heap.size_push] at e
        show IsRangeIter _ _ _ _ _
        have e1 : (0 : Int) + ((0 : Nat) : Int) * 1 = 0 := by omega
        have e2 : ((rng m).length : Int) - ((0 : Nat) : Int) = Builtin.Range.rangeSize 0 (m : Int) 1 := by rw [hsz]; simp [rng]
        have e3 : (m : Int) - ((0 : Nat) : Int) = Builtin.Range.rangeSize 0 (m : Int) 1 := by rw [hsz]; omega
        rw [e1, e3]
        exact e

theorem It.zip {x : Str} {e f : Expr} {p pos : Pos} {as bs : List D} (hx : GN env x) (hmg : X.mg x = Option.none) (hv : X.mb x = some (.type "zip")) (he : Ev X n env ρ e (.list as)) (hf : Ev X n env ρ f (.list bs))
    (hst : ∀ env, starEach [e, f] env = (false, eval e env) :: starEach [f] env := by intro _; rfl) (hst1 : ∀ env, starEach [f] env = [(false, eval f env)] := by intro _; rfl) (hst2 : ∀ env, ((backTo pos (starEach [f] env)).any (·.1)) = false := by intro _; rfl) (hdb : (x == ("__debug__" : Str)) = false := by decide) :
    It X n env ρ (.Call (.Name x p) [e, f] [] pos) ((as.zip bs).map fun q => D.tup [q.1, q.2]) true := .mk fun A W s Q ok iv h => by
  refine callType ok iv hx hmg hv (.cons he (.cons hf .nil hst1) hst) (fun vs s₁ k₁ iv₁ rs => ?_) hst hst2 hdb
  cases rs with
  | cons r1 rs =>
    cases rs with
    | cons r2 rs =>
      cases rs
      cases r1 with
      | @list l1 xs _ hl1 ha1 rs1 =>
        cases r2 with
        | @list l2 ys _ hl2 ha2 rs2 =>
          refine call_zip_2 hl1.isList hl2.isList fun h' hz hTI hTO hi1 hi2 hsz hk => ?_
          have k₂ : Kp [] [] s₁ { s₁ with heap := h' } := .of_heap (tk := s₁.toks) fun b o _ e => hk b o e
          refine wpAny_pyIter_zip hz ?_
          have hlt1 : l1 < s₁.heap.objs.size := let ⟨_, e⟩ := hl1; Heap.lt_size e
          have hlt2 : l2 < s₁.heap.objs.size := let ⟨_, e⟩ := hl2; Heap.lt_size e
          have hn : ∀ k, s₁.heap.get? (s₁.heap.objs.size + k) = none := fun k => none_of_size (Nat.le_add_right _ _)
          have hn' : ∀ b, s₁.heap.objs.size ≤ b → s₁.heap.get? b = none := fun b hb => none_of_size hb
          generalize hS : s₁.heap.objs.size = S at *
          have hmem : ∀ b, b ∈ [S + 4, S + 3, S, S + 1] → S ≤ b := fun b hb => by
            simp only [List.mem_cons, List.not_mem_nil, or_false] at hb
            rcases hb with rfl | rfl | rfl | rfl
            · exact Nat.le_add_right _ _
            · exact Nat.le_add_right _ _
            · exact Nat.le_refl _
            · exact Nat.le_add_right _ _
          have DA : ZipApart (S + 4) (S + 2) (S + 3) S (S + 1) l1 l2 := by
            have a1 : @LT.lt Nat _ l1 S := hlt1
            have a2 : @LT.lt Nat _ l2 S := hlt2
            constructor <;> (refine neN ?_; omega)
          have hW : ∀ b, S ≤ b → b ∉ W := fun b hb q => let ⟨o, ho⟩ := iv₁.wok.wex b q; by rw [hn' b hb] at ho; cases ho
          have hfresh : ∀ b, S ≤ b → s.heap.get? b = none := fun b hb => by
            cases e : s.heap.get? b with
            | none => rfl
            | some o => have := k₁.keep _ _ e; rw [hn' b hb] at this; cases this
          have len1 := rs1.length
          have len2 := rs2.length
          refine h (S + 4) [S + 4, S + 3, S, S + 1] s.heap.objs.size [] _ (k₁.trans k₂) (fun _ _ e => Heap.lt_size e) (fun b hb => hfresh b (hmem b hb)) (fun _ hg => nomatch hg) fun N hN => ⟨_,
            (Itr.walksT (RD := fun h => Reps X ([S + 4, S + 3, S, S + 1] ++ (N ++ W)) h xs as ∧ Reps X ([S + 4, S + 3, S, S + 1] ++ (N ++ W)) h ys bs) (WalksT.zip2 ok.h (S + 4) (S + 2) (S + 3) S (S + 1) l1 l2 DA xs.toArray ys.toArray) ?_ (fun b hb => ?_) ?_ ?_ ?_), rfl, ?_⟩
          · simp [len1, len2]
          · simp only [List.mem_cons, List.not_mem_nil, or_false] at hb
            rcases hb with rfl | rfl | rfl | rfl | rfl | rfl | rfl
            · exact .inl (by simp)
            · refine .inr fun q => (List.mem_append.mp q).elim (fun q => ?_) fun q => (List.mem_append.mp q).elim (fun q => ?_) (hW _ (Nat.le_add_right _ _))
              · simp at q
              · have := hN _ q; rw [hTI] at this; cases this
            · exact .inl (by simp)
            · exact .inl (by simp)
            · exact .inl (by simp)
            · refine .inr fun q => (List.mem_append.mp q).elim (fun q => Nat.lt_irrefl _ (Nat.lt_of_lt_of_le hlt1 (hmem _ q))) fun q => (List.mem_append.mp q).elim (fun q => ?_) ha1
              have := hN _ q; obtain ⟨k, e⟩ := hl1; rw [hk _ _ e] at this; cases this
            · refine .inr fun q => (List.mem_append.mp q).elim (fun q => Nat.lt_irrefl _ (Nat.lt_of_lt_of_le hlt2 (hmem _ q))) fun q => (List.mem_append.mp q).elim (fun q => ?_) ha2
              have := hN _ q; obtain ⟨k, e⟩ := hl2; rw [hk _ _ e] at this; cases this
          · intro i h st b hb
            obtain ⟨z1, z2, ⟨a, b', z3⟩, ⟨o1, z4, _⟩, ⟨o2, z5, _⟩, _⟩ := st
            simp only [List.mem_cons, List.not_mem_nil, or_false] at hb
            rcases hb with rfl | rfl | rfl | rfl
            · exact ⟨_, z1⟩
            · exact ⟨_, z3⟩
            · exact ⟨_, z4⟩
            · exact ⟨_, z5⟩
          · intro h h' rd hk; exact ⟨rd.1.mono hk, rd.2.mono hk⟩
          · intro i vals d h hp hd rd
            obtain ⟨a, b, h1, h2, rfl⟩ := hp
            simp only [List.getElem?_map, Option.map_eq_some_iff] at hd
            obtain ⟨⟨da, db⟩, hj, rfl⟩ := hd
            obtain ⟨h3, h4⟩ := List.getElem?_zip_eq_some.mp hj
            obtain ⟨v1, e1, q1⟩ := rd.1.get h3
            obtain ⟨v2, e2, q2⟩ := rd.2.get h4
            have f1 : xs[i]? = some a := by simpa using h1
            have f2 : ys[i]? = some b := by simpa using h2
            rw [f1] at e1; cases e1
            rw [f2] at e2; cases e2
            exact ⟨_, rfl, .cons q1 (.cons q2 .nil)⟩
          · have fr : ∀ b ∈ [S + 4, S + 3, S, S + 1], s₁.heap.get? b = none := fun b hb => hn' b (hmem b hb)
            have hN' : ∀ b ∈ N, s₁.heap.get? b = none := fun b hb => by
              cases e : s₁.heap.get? b with
              | none => rfl
              | some o => have := hN b hb; rw [hk _ _ e] at this; cases this
            refine ⟨⟨hz, hTI, ⟨_, _, hTO⟩, hi1, hi2, ?_, ?_⟩, ((rs1.bar hN').bar fr).kp0 k₂, ((rs2.bar hN').bar fr).kp0 k₂⟩
            · obtain ⟨k, e⟩ := hl1; exact ⟨_, hk _ _ e, rfl, k, rfl⟩
            · obtain ⟨k, e⟩ := hl2; exact ⟨_, hk _ _ e, rfl, k, rfl⟩

end
end Mine

end
section
namespace Mine
variable {X : Cx}

theorem lookup_relabel {env : Env} {scope : Scope} {x : Str} : (relabel scope env).names.lookup x = (scope.names.lookup x).map fun k => if (k == NameKind.free && env.scope.kind == .function && env.kindOf x == some .cell) then .cell else k := by
  unfold relabel
  simp only
  induction scope.names with
  | nil => rfl
  | cons p r ih =>
    obtain ⟨n, k⟩ := p
    rw [List.map_cons]
    by_cases hx : x = n
    · subst hx
      by_cases hc : (k == NameKind.free && env.scope.kind == .function && env.kindOf x == some .cell) = true
      · rw [if_pos hc, List.lookup_cons, List.lookup_cons]; simp only [BEq.rfl, Option.map_some]; rw [if_pos hc]
      · rw [if_neg hc, List.lookup_cons, List.lookup_cons]; simp only [BEq.rfl, Option.map_some]; rw [if_neg hc]
    · have hb : (x == n) = false := beq_eq_false_iff_ne.mpr hx
      by_cases hc : (k == NameKind.free && env.scope.kind == .function && env.kindOf n == some .cell) = true
      · rw [if_pos hc, List.lookup_cons, List.lookup_cons, hb]; exact ih
      · rw [if_neg hc, List.lookup_cons, List.lookup_cons, hb]; exact ih

theorem cellsFrom_append : ∀ (names : List (Str × NameKind)) (n : Nat) (acc : List (Str × Addr)), cellsFrom n names acc = cellsFrom n names [] ++ acc
  | [], _, _ => rfl
  | (x, k) :: r, n, acc => by
    unfold cellsFrom
    split
    · rw [cellsFrom_append r (n + 1) ((x, n) :: acc), cellsFrom_append r (n + 1) [(x, n)]]; simp
    · exact cellsFrom_append r n acc
/-- the names that a comprehension holds in cells of its own -/
def cellNames (names : List (Str × NameKind)) : List Str := (names.filter (·.2 == .cell)).map (·.1)
theorem cellsFrom_fst : ∀ (names : List (Str × NameKind)) (n : Nat) (x : Str), x ∈ (cellsFrom n names []).map (·.1) ↔ x ∈ cellNames names
  | [], _, _ => by simp [cellsFrom, cellNames]
  | (y, k) :: r, n, x => by
    unfold cellsFrom
    split
    · rename_i hk
      rw [cellsFrom_append, List.map_append, List.mem_append, cellsFrom_fst r (n + 1) x]
      simp [cellNames, hk, or_comm]
    · rename_i hk
      rw [cellsFrom_fst r n x]
      simp [cellNames, hk]

theorem closure_ok {env : Env} (f : Str × NameKind → List (Str × Addr) → Sem (ForInStep (List (Str × Addr))))
    (hf : ∀ name kind cs, f (name, kind) cs = if kind == .free then (do let c ← cellOf env name; pure (.yield ((name, c) :: cs))) else pure (.yield cs)) :
    ∀ (names : List (Str × NameKind)), (∀ x, (x, NameKind.free) ∈ names → ∃ c, env.cells.lookup x = some c) → ∀ acc : List (Str × Addr),
    ∃ cl, forIn names acc f = pure (cl ++ acc) ∧ (∀ p ∈ cl, (p.1, NameKind.free) ∈ names ∧ env.cells.lookup p.1 = some p.2) ∧ (∀ x, (x, NameKind.free) ∈ names → ∃ c, (x, c) ∈ cl)
  | [], _, acc => ⟨[], rfl, (fun _ h => by cases h), (fun _ h => by cases h)⟩
  | (y, k) :: r, h, acc => by
    by_cases hk : k = .free
    · subst hk
      obtain ⟨c, hc⟩ := h y List.mem_cons_self
      obtain ⟨cl, e, h1, h2⟩ := closure_ok f hf r (fun x hx => h x (List.mem_cons_of_mem _ hx)) ((y, c) :: acc)
      refine ⟨cl ++ [(y, c)], ?_, fun p hp => ?_, fun x hx => ?_⟩
      · rw [List.forIn_cons, hf]
        simp only [beq_self_eq_true, if_true, cellOf, hc, pure_bind]
        rw [e]; simp
      · rcases List.mem_append.mp hp with q | q
        · exact ⟨List.mem_cons_of_mem _ (h1 p q).1, (h1 p q).2⟩
        · rw [List.mem_singleton.mp q]; exact ⟨List.mem_cons_self, hc⟩
      · rcases List.mem_cons.mp hx with q | q
        · cases q; exact ⟨c, by simp⟩
        · obtain ⟨c', hc'⟩ := h2 x q; exact ⟨c', List.mem_append_left _ hc'⟩
    · obtain ⟨cl, e, h1, h2⟩ := closure_ok f hf r (fun x hx => h x (List.mem_cons_of_mem _ hx)) acc
      refine ⟨cl, ?_, fun p hp => ⟨List.mem_cons_of_mem _ (h1 p hp).1, (h1 p hp).2⟩, fun x hx => ?_⟩
      · rw [List.forIn_cons, hf]
        have hb : (k == NameKind.free) = false := by simpa using hk
        simp only [hb, Bool.false_eq_true, if_false, pure_bind]
        exact e
      · rcases List.mem_cons.mp hx with q | q
        · cases q; exact absurd rfl hk
        · exact h2 x q
theorem closureFor_ok {env : Env} {scope : Scope} (h : ∀ x, (x, NameKind.free) ∈ scope.names → ∃ c, env.cells.lookup x = some c) :
    ∃ cl, closureFor scope env = pure cl ∧ (∀ p ∈ cl, (p.1, NameKind.free) ∈ scope.names ∧ env.cells.lookup p.1 = some p.2) ∧ (∀ x, (x, NameKind.free) ∈ scope.names → ∃ c, (x, c) ∈ cl) := by
  have gen : ∀ f : Str × NameKind → List (Str × Addr) → Sem (ForInStep (List (Str × Addr))), closureFor scope env = (forIn scope.names [] f >>= fun cs => pure cs) →
      (∀ name kind cs, f (name, kind) cs = if kind == .free then (do let c ← cellOf env name; pure (.yield ((name, c) :: cs))) else pure (.yield cs)) → ∃ cl, closureFor scope env = pure cl ∧ (∀ p ∈ cl, (p.1, NameKind.free) ∈ scope.names ∧ env.cells.lookup p.1 = some p.2) ∧ (∀ x, (x, NameKind.free) ∈ scope.names → ∃ c, (x, c) ∈ cl) := fun f e0 hf => by
    obtain ⟨cl, e, h1, h2⟩ := closure_ok f hf scope.names h []
    rw [List.append_nil] at e
    exact ⟨cl, by rw [e0, e, pure_bind], h1, h2⟩
  exact gen _ rfl (fun name kind cs => by cases hkc : kind == NameKind.free <;> simp [hkc])

/-- the frame of a comprehension -/
theorem wp_compEnv {A : Around} {s : Shared} {scope : Scope} {g : Addr} {cl : List (Str × Addr)} {q : Str} {env : Env} {Q : Env → Shared → Prop}
    (h : ∀ (s' : Shared), Kp [] [] s s' → s'.heap.Ns s.heap.objs.size (fun _ => none) → CellsOk s'.heap (s.heap.objs.size + 1) (cellsFrom (s.heap.objs.size + 1) scope.names []) →
      Q { scope := scope, locals := s.heap.objs.size, globals := g, cells := cellsFrom (s.heap.objs.size + 1) scope.names [] ++ cl, qual := q, func := none, code := env.code, frame := env.frame, builtins := env.builtins } s') :
    wpF X A (newFunctionEnv scope g cl [] q none .none (some env)) Q s := by
  simp only [newFunctionEnv, Option.isSome_some, if_true]
  refine wpAny_bind (wpAny_alloc ?_)
  refine wpAny_bind (wpAny_layCells _ (fun name kind cells => by cases hkc : kind == NameKind.cell <;> simp [hkc]) _ _ _ _ ?_)
  have ok := cellsFrom_ok scope.names (s.heap.push { cls := .type "dict", data := .dict #[] }) (s.heap.objs.size + 1) [] ⟨fun _ _ hm => (nomatch hm), List.Pairwise.nil⟩ (by rw [Heap.size_push]; exact Nat.le_refl _)
  rw [Heap.size_push] at ok
  rw [show ({ s with heap := s.heap.push { cls := .type "dict", data := .dict #[] } } : Shared).heap.objs.size = s.heap.objs.size + 1 from Heap.size_push .., cellsFrom_append]
  refine wpAny_bind (wpAny_pure (wpAny_pure ?_))
  refine h _ (.of_heap (tk := s.toks) fun b o _ e => pushCells_keeps _ _ _ _ (Heap.get?_push_of_some _ e)) ?_ ok
  exact (Heap.Ns.new s.heap (.type "dict")).keeps fun b o e => pushCells_keeps _ _ _ _ e

/-- what is known of a comprehension's names -/
structure CE (env : Env) (scope : Scope) (cenv : Env) : Prop where
  kind : ∀ x k, scope.names.lookup x = some k → k ≠ .free → cenv.kindOf x = some k
  free : ∀ x, scope.names.lookup x = some .free → cenv.kindOf x = some .cell ∨ cenv.kindOf x = some .free
  own : ∀ x, x ∈ cellNames scope.names → ∃ c, cenv.cells.lookup x = some c

structure Tests (X : Cx) (n : Nat) (env : Env) (ρ : Vars) (ifs : List Expr) (b : Bool) : Prop where
  run : ∀ (A : Around) (W : List Addr) (s : Shared) (Q : Bool → Shared → Prop), Ok n A → Iv X env ρ W s → (∀ s', Kp [] [] s s' → Iv X env ρ W s' → Q b s') →
    wpF X A (forIn ifs true fun c r => if r = true then do let ok ← isTrue c env (eval c env); pure (ForInStep.yield ok) else pure (ForInStep.yield r)) Q s
theorem Tests.none {n : Nat} {env : Env} {ρ : Vars} : Tests X n env ρ [] true := .mk fun _ _ _ _ _ iv h => wpAny_tests_nil (h _ .refl iv)
theorem Tests.one {n : Nat} {env : Env} {ρ : Vars} {c : Expr} {b : Bool} (ht : Ts X n env ρ c b) : Tests X n env ρ [c] b := .mk fun A W s Q ok iv h => wpAny_tests_one (ht.run A W s Q ok iv h)

/-- a step that raises nothing, and what comes behind it -/
theorem onto {α β : Type} {M : Model} {A : Around} {s : Shared} {m : Sem α} {f : α → Sem β} {P : α → Shared → Prop} {Q : β → Shared → Prop} {E : Value → Shared → Prop} (h : wpAny M A m P (fun _ _ => False) s) (k : ∀ a s', P a s' → wpAny M A (f a) Q E s') : wpAny M A (m >>= f) Q E s :=
  wpAny_bind (wpAny_mono h k fun _ _ no => no.elim)

/-- what one turn of a list comprehension asks of its parts: the target, the tests, the element, its append -/
abbrev turnOf (X : Cx) (A : Around) (elt target : Expr) (ifs : List Expr) (it acc : Value) (env : Env) (stop go : Shared → Prop) : Option Value → Shared → Prop
  | none => stop
  | some v => fun s => wpF X A (letOwnedTupleGo target it v) (fun _ => wpF X A (assign target env v) fun _ =>
      wpF X A (forIn ifs true fun c r => if r = true then do let ok ← isTrue c env (eval c env); pure (ForInStep.yield ok) else pure (ForInStep.yield r)) fun ok s₁ =>
        if ok = true then wpF X A (eval elt env) (fun x => wpF X A (call (.builtin "list.append") [acc, x]) fun _ => go) s₁ else go s₁) s

theorem comp_loop {A : Around} {R : Result → Shared → Prop} {s : Shared} {elt target iter : Expr} {ifs : List Expr} {scope : Scope} {pos : Pos} {it acc : Value} {env : Env} (I : Nat → Shared → Prop)
    (turn : ∀ n s, I n s → wpF X A (pyNext it) (turnOf X A elt target ifs it acc env (R (.ok .next)) fun s' => ∃ m, m < n ∧ I m s') s)
    (n : Nat) (h : I n s) : codeAny (model X.P X.w) A (.compLoop (.ListComp elt [⟨target, iter, ifs, 0⟩] scope pos) 0 it acc env) R s := by
  refine codeAny_loop rfl I (fun n s hI => wpAny_noted ?_) n h
  rw [compTurn_list]
  refine wpAny_bind (wpAny_standAt (onto (turn n s hI) fun r s₁ t => ?_))
  match r, t with
  | none, t => exact wpAny_pure t
  | some v, t =>
    refine onto t fun _ _ t => onto t fun _ _ t => onto t fun ok _ t => ?_
    match ok, t with
    | false, t => exact wpAny_pure ⟨rfl, t⟩
    | true, t => exact wpAny_bind (onto t fun _ _ t => onto t fun _ _ t => wpAny_pure (wpAny_pure ⟨rfl, t⟩))

/-- append to a plain list -/
theorem appendL {A : Around} {s : Shared} {l : Addr} {vs : List Value} {x : Value} {Q : Value → Shared → Prop} (hl : LEx s.heap l vs)
    (hQ : ∀ h', LEx h' l (vs ++ [x]) → Heap.SameBut l s.heap h' → Q .none { s with heap := h' }) (hz : vs.length ≤ sizeLine) : wpF X A (call (.builtin "list.append") [.ref l, x]) Q s := by
  obtain ⟨k, e⟩ := hl
  refine wpAny_call_entry PySem.slot_list_append ⟨_, e, rfl⟩ PySem.entry_list_append ?_ (PySem.args_list_append _ _)
  show wpAny _ _ (updateSeq l (·.push x) >>= fun _ => ret .none) _ _ s
  refine wpAny_bind (wpAny_updateSeq e rfl (hz := by simpa using hz) (wpAny_pure ⟨.none, rfl, hQ _ ?_ (Heap.SameBut.update ..)⟩))
  have := IsL.update (n := k) (items := vs.toArray) e (·.push x)
  refine ⟨if ((vs.toArray.push x).size == vs.toArray.size) = true then k else k + 1, this.trans ?_⟩
  simp
end Mine

end
section
namespace Mine
variable {X : Cx}

/-- what one asks of a comprehension's scope -/
structure ScOk (env : Env) (ρ ρf : Vars) (scope : Scope) : Prop where
  kind : scope.kind = .function
  free : ∀ x, (x, NameKind.free) ∈ scope.names → (env.kindOf x = some .cell ∨ env.kindOf x = some .free) ∧ (∃ d, ρ.lookup x = some d) ∧ (x == ("__classdict__" : Str)) = false ∧ x ∉ cellNames scope.names
  sub : ∀ x d, ρf.lookup x = some d → ρ.lookup x = some d ∧ scope.names.lookup x = some .free
  nms : ∀ x ∈ scope.names, x.2 = .local → scope.names.lookup x.1 = some .local
  cnd : (cellNames scope.names).Nodup

theorem lookup_append_left {α : Type} : ∀ {l r : List (Str × α)} {x : Str}, x ∈ l.map (·.1) → (l ++ r).lookup x = l.lookup x
  | [], _, _, h => by cases h
  | (y, v) :: l, r, x, h => by
    rw [List.cons_append, List.lookup_cons, List.lookup_cons]
    cases hb : x == y with
    | true => rfl
    | false =>
      refine lookup_append_left ?_
      rcases List.mem_cons.mp h with q | q
      · exact absurd q (by simpa using hb)
      · exact q
theorem lookup_append_right {α : Type} : ∀ {l r : List (Str × α)} {x : Str}, x ∉ l.map (·.1) → (l ++ r).lookup x = r.lookup x
  | [], _, _, _ => rfl
  | (y, v) :: l, r, x, h => by
    rw [List.cons_append, List.lookup_cons]
    have hb : (x == y) = false := beq_eq_false_iff_ne.mpr fun q => h (by simp [q])
    rw [hb]
    exact lookup_append_right fun q => h (List.mem_cons_of_mem _ q)
theorem lookup_some_of_mem {α : Type} : ∀ {l : List (Str × α)} {x : Str}, x ∈ l.map (·.1) → ∃ v, l.lookup x = some v
  | [], _, h => by cases h
  | (y, v) :: l, x, h => by
    rw [List.lookup_cons]
    cases hb : x == y with
    | true => exact ⟨v, rfl⟩
    | false =>
      refine lookup_some_of_mem ?_
      rcases List.mem_cons.mp h with q | q
      · exact absurd q (by simpa using hb)
      · exact q

theorem cellsFrom_rev : ∀ (names : List (Str × NameKind)) (n : Nat), (cellsFrom n names []).map (·.1) = (cellNames names).reverse
  | [], _ => rfl
  | (y, k) :: r, n => by
    unfold cellsFrom
    split
    · rename_i hk
      rw [cellsFrom_append, List.map_append, cellsFrom_rev r (n + 1)]
      simp [cellNames, hk]
    · rename_i hk
      rw [cellsFrom_rev r n]
      simp [cellNames, hk]

theorem comp_core {n : Nat} {env : Env} {ρ ρf : Vars} {A : Around} {W : List Addr} {s : Shared} {elt target iter : Expr} {ifs : List Expr} {scope : Scope} {pos p : Pos} {ds : List D} {tu : Bool} {g : D → Option D} {use : Option (Value → Sem Unit)} {Q : Value → Shared → Prop}
    (ok : Ok n A) (iv : Iv X env ρ W s) (it : It X n env ρ iter ds tu) (htu : tu = true → ∃ es k p, target = Expr.Tuple es k p) (sc : ScOk env ρ ρf scope) (hz : ds.length ≤ sizeLine)
    (body : ∀ cenv, CE env scope cenv → EnvB cenv → ∀ d ∈ ds, ∃ ρ' b, Asg X n (cellNames scope.names) cenv target d ρf [] ρ' ∧ (∀ y e, ρf.lookup y = some e → ρ'.lookup y = some e) ∧ Tests X n cenv ρ' ifs b ∧ (b = true → ∃ o, g d = some o ∧ Ev X n cenv ρ' elt o) ∧ (b = false → g d = none))
    (hR : ∀ a C s', Kp [] [] s s' → s.heap.get? a = none → s.heap.get? C = none → a ≠ C → (∃ m, s'.heap.Ns C m) → (∃ vs, LEx s'.heap a vs ∧ Reps X ([C] ++ W) s'.heap vs (ds.filterMap g)) → compPost (model X.P X.w) A (fun _ _ => False) use Q (.ref a) C (.ok .next) s')
    (hs : ∀ x, foldedSetIterable iter env x = pure x := by intro _; rfl) :
    wpF X A (comprehension (.ListComp elt [⟨target, iter, ifs, 0⟩] scope pos) scope env p (newList []) false (eval iter env) use) Q s := by
  have hcell : ∀ x, (x, NameKind.free) ∈ scope.names → ∃ c v, env.cells.lookup x = some c ∧ s.heap.IsCell c (some v) := fun x hx => by
    obtain ⟨hk, ⟨d, hd⟩, _⟩ := sc.free x hx
    obtain ⟨v, hb, _⟩ := iv.vars x d hd
    rcases hb with ⟨h1, _⟩ | ⟨_, c, hc, hv⟩
    · rw [h1] at hk; rcases hk with q | q <;> cases q
    · exact ⟨c, v, hc, hv⟩
  obtain ⟨cl, hclos, hcl1, hcl2⟩ := closureFor_ok (env := env) (scope := scope) fun x hx => let ⟨c, _, h, _⟩ := hcell x hx; ⟨c, h⟩
  refine wpAny_comprehension_free (cl := cl) rfl hs hclos sc.kind sc.nms ?_
  refine it.run A W s _ ok iv fun I wr β G s₂ k₂ hβ hwr hG hit => ?_
  have hβ0 : ∀ b o, X.h0.get? b = some o → b < β := fun b o e => hβ b o (iv.wok.base b o e)
  have hβW : ∀ b ∈ W, b < β := fun b hb => let ⟨_, ho⟩ := iv.wok.wex b hb; hβ _ _ ho
  refine wpAny_newList ?_ (by simp)
  refine wp_compEnv fun s₄ k₄ hns hcells => ?_
  have hC : (s₂.heap.push { cls := .type "list", data := .seq ([] : List Value).toArray }).objs.size = s₂.heap.objs.size + 1 := Heap.size_push ..
  simp only [hC] at hns hcells ⊢
  have hacc0 : LEx s₄.heap s₂.heap.objs.size [] := ⟨0, k₄.keep _ _ (Heap.get?_push_size _ rfl)⟩
  have k24 : Kp [] [] s₂ s₄ := Kp.trans .push0 k₄
  have hnew : ∀ b, s₂.heap.objs.size ≤ b → s₂.heap.get? b = none := fun b hb => none_of_size hb
  have hnewS : ∀ b, s₂.heap.objs.size ≤ b → s.heap.get? b = none := fun b hb => by
    cases e : s.heap.get? b with
    | none => rfl
    | some o => have := k₂.keep _ _ e; rw [hnew b hb] at this; cases this
  generalize hA : s₂.heap.objs.size = a at *
  generalize hO : cellsFrom (a + 1 + 1) scope.names [] = ocs at *
  have hocs : ∀ p ∈ ocs, s₄.heap.IsCell p.2 none ∧ a + 1 + 1 ≤ p.2 := fun p hp => hcells.empty p.1 p.2 hp
  have hoc : ∀ x, x ∈ ocs.map (·.1) ↔ x ∈ cellNames scope.names := fun x => hO ▸ cellsFrom_fst scope.names (a + 1 + 1) x
  have hocge : ∀ b ∈ ocs.map (·.2), a + 1 + 1 ≤ b := fun b hb => by
    obtain ⟨p, hp, rfl⟩ := List.mem_map.mp hb; exact (hocs p hp).2
  -- the fresh objects
  have hNge : ∀ b ∈ a :: (a + 1) :: ocs.map (·.2), a ≤ b := fun b hb => by
    rcases List.mem_cons.mp hb with rfl | hb
    · exact Nat.le_refl _
    rcases List.mem_cons.mp hb with rfl | hb
    · exact Nat.le_succ _
    · have := hocge b hb; exact Nat.le_trans (Nat.le_add_right _ 2) this
  obtain ⟨St, itr, st₂⟩ := hit (a :: (a + 1) :: ocs.map (·.2)) fun b hb => hnew b (hNge b hb)
  generalize hN : a :: (a + 1) :: ocs.map (·.2) = N at *
  have hwrN : ∀ b ∈ wr, b < a := fun b hb => by
    obtain ⟨o, ho⟩ := itr.live 0 wr s₂ st₂ b hb
    exact hA ▸ Heap.lt_size ho
  have hWlt : ∀ b ∈ W, b < a := fun b hb => by
    obtain ⟨o, ho⟩ := iv.wok.wex b hb
    exact hA ▸ Heap.lt_size (k₂.keep _ _ ho)
  have hne : ∀ b, b < a → b ∉ N := fun b hb q => Nat.lt_irrefl _ (Nat.lt_of_lt_of_le hb (hNge b q))
  have haN : a ∈ N := hN ▸ List.mem_cons_self
  have hCN : a + 1 ∈ N := hN ▸ List.mem_cons_of_mem _ List.mem_cons_self
  have hoN : ∀ b ∈ ocs.map (·.2), b ∈ N := fun b hb => hN ▸ List.mem_cons_of_mem _ (List.mem_cons_of_mem _ hb)
  have hFN : ∀ b ∈ (a + 1) :: ocs.map (·.2), b ∈ N := fun b hb => (List.mem_cons.mp hb).elim (fun q => q ▸ hCN) (hoN b)
  have st₄ : St 0 wr s₄ := itr.frame _ _ _ _ st₂ (fun b hb o ho q => (List.mem_append.mp hb).elim (fun m => by rw [hnew b (hNge b m)] at ho; cases ho) fun m => absurd (Nat.lt_of_lt_of_le (hβW b m) q) (Nat.lt_irrefl _)) (fun b o _ e => k24.keep b o e) (fun b o e => k24.keep _ _ (k₂.keep _ _ (iv.wok.base b o e))) fun g x e => k24.gens g x (by simp) e
  have haC : a ≠ a + 1 := Nat.ne_of_lt (Nat.lt_succ_self _)
  have hCo : ∀ b ∈ ocs.map (·.2), b ≠ a + 1 := fun b hb q => by have := hocge b hb; rw [q] at this; exact Nat.not_succ_le_self _ this
  have hao : ∀ b ∈ ocs.map (·.2), b ≠ a := fun b hb q => by have := hocge b hb; rw [q] at this; exact Nat.not_succ_le_self _ (Nat.le_trans (Nat.le_succ _) this)
  let cenv : Env := { scope := relabel scope env, locals := a + 1, globals := env.globals, cells := ocs ++ cl, qual := env.qual, func := none, code := env.code, frame := env.frame, builtins := env.builtins }
  have ce : CE env scope cenv := by
    refine ⟨fun x k hx hk => ?_, fun x hx => ?_, fun x hx => ?_⟩
    · show (relabel scope env).names.lookup x = _
      have hkb : (k == NameKind.free) = false := by simpa using hk
      rw [lookup_relabel, hx]
      simp only [hkb, Bool.false_and, Bool.false_eq_true, if_false, Option.map_some]
    · show (relabel scope env).names.lookup x = _ ∨ (relabel scope env).names.lookup x = _
      rw [lookup_relabel, hx]
      by_cases q : (NameKind.free == NameKind.free && env.scope.kind == .function && env.kindOf x == some .cell) = true
      · left; simp only [Option.map_some]; rw [if_pos q]
      · right; simp only [Option.map_some]; rw [if_neg q]
    · obtain ⟨c, hc⟩ := lookup_some_of_mem ((hoc x).mpr hx)
      exact ⟨c, by show (ocs ++ cl).lookup x = _; rw [lookup_append_left ((hoc x).mpr hx)]; exact hc⟩
  have eb : EnvB cenv := ⟨sc.kind, iv.eb.gl, iv.eb.bi⟩
  have hclk : ∀ x c, (ocs ++ cl).lookup x = some c → (x ∈ cellNames scope.names ∧ (x, c) ∈ ocs) ∨ (x ∉ cellNames scope.names ∧ (x, c) ∈ cl) := fun x c e => by
    by_cases q : x ∈ cellNames scope.names
    · rw [lookup_append_left ((hoc x).mpr q)] at e; exact .inl ⟨q, mem_of_lookup e⟩
    · rw [lookup_append_right (fun m => q ((hoc x).mp m))] at e; exact .inr ⟨q, mem_of_lookup e⟩
  have hclv : ∀ x c, (x, c) ∈ cl → c < a ∧ (∃ v, s.heap.IsCell c (some v)) ∧ s.heap.get? c ≠ none := fun x c hm => by
    obtain ⟨h1, h2⟩ := hcl1 _ hm
    obtain ⟨c', v, h3, h4⟩ := hcell x h1
    rw [h3] at h2; cases h2
    obtain ⟨o, ho, hv⟩ := h4
    exact ⟨hA ▸ Heap.lt_size (k₂.keep _ _ ho), ⟨v, o, ho, hv⟩, fun m => by rw [m] at ho; cases ho⟩
  have k4 : Kp [] [] s s₄ := k₂.trans k24
  have hN0 : ∀ b ∈ N, X.h0.get? b = none := fun b hb => iv.wok.new (hnewS b (hNge b hb))
  have hNof : ∀ (t : Shared) (ys : List Value), LEx t.heap a ys → (∃ m, t.heap.Ns (a + 1) m) → (∀ p ∈ ocs, ∃ v, t.heap.IsCell p.2 v) → ∀ b ∈ N, ∃ o, t.heap.get? b = some o ∧ ∀ vs, o.data ≠ .fields vs := fun t ys h1 h2 h3 b hb => by
    rw [← hN] at hb
    rcases List.mem_cons.mp hb with rfl | hb
    · exact let ⟨_, e⟩ := h1; ⟨_, e, fun vs q => by cases q⟩
    rcases List.mem_cons.mp hb with rfl | hb
    · exact let ⟨_, o, _, _, ho, hd, _⟩ := h2; ⟨o, ho, fun vs q => by rw [hd] at q; cases q⟩
    · obtain ⟨p, hp, rfl⟩ := List.mem_map.mp hb
      exact let ⟨_, o, ho, hd⟩ := h3 p hp; ⟨o, ho, fun vs q => by rw [hd] at q; cases q⟩
  have hNex' := hNof s₄ [] hacc0 ⟨_, hns⟩ fun p hp => ⟨none, (hocs p hp).1⟩
  have hNex : ∀ b ∈ N, ∃ o, s₄.heap.get? b = some o := fun b hb => let ⟨o, ho, _⟩ := hNex' b hb; ⟨o, ho⟩
  have hsvN : ∀ (t : Shared) (ys : List Value) (ρ' : Vars) (W' : List Addr), LEx t.heap a ys → Sv X (cellNames scope.names) cenv ρ' [] ((a + 1) :: ocs.map (·.2)) W' t → ∀ b ∈ N, ∃ o, t.heap.get? b = some o ∧ ∀ vs, o.data ≠ .fields vs := fun t ys ρ' W' h1 sv => by
    refine hNof t ys h1 sv.ns fun p hp => ?_
    have hx : p.1 ∈ ocs.map (·.1) := List.mem_map.mpr ⟨p, hp, rfl⟩
    obtain ⟨c, hc⟩ := lookup_some_of_mem hx
    have hlk : cenv.cells.lookup p.1 = some c := by show (ocs ++ cl).lookup p.1 = _; rw [lookup_append_left hx]; exact hc
    have hm := mem_of_lookup hc
    obtain ⟨_, _, v, hv⟩ := sv.cF p.1 c hlk
    have hnd : (ocs.map (·.1)).Nodup := by rw [← hO, cellsFrom_rev]; exact (List.pairwise_reverse.mpr (sc.cnd.imp fun h => Ne.symm h))
    have h2 : ocs.lookup p.1 = some p.2 := lookup_of_mem_nodup hnd hp
    rw [hc] at h2; cases h2
    exact ⟨v, hv⟩
  have hbarD : ∀ v d, Rep X W s.heap v d → Rep X (wr ++ (N ++ W)) s₄.heap v d := fun v d r =>
    ((r.bar (N := N) fun b hb => hnewS b (hNge b hb)).bar hwr).kp0 k4
  have sv₄ : Sv X (cellNames scope.names) cenv ρf [] ((a + 1) :: ocs.map (·.2)) (wr ++ (N ++ W)) s₄ := by
    refine ⟨⟨eb, ⟨fun b o e => k4.keep _ _ (iv.wok.base b o e), fun b hb => ?_, fun b hb => ?_⟩, fun x d e => ?_⟩, ⟨_, hns⟩, List.mem_cons_self, List.mem_append_right _ (List.mem_append_left _ hCN), fun b hb => ?_, fun b hb => ?_, fun b hb => ?_, fun x c e => ?_, fun x y c hx e1 e2 => ?_, (fun x a o e => by cases e), List.nodup_nil⟩
    · rcases List.mem_append.mp hb with q | q
      · exact itr.live 0 wr s₄ st₄ b q
      rcases List.mem_append.mp q with q | q
      · exact hNex b q
      · exact let ⟨o, ho⟩ := iv.wok.wex b q; ⟨o, k4.keep _ _ ho⟩
    · rcases List.mem_append.mp hb with q | q
      · exact iv.wok.new (hwr b q)
      rcases List.mem_append.mp q with q | q
      · exact hN0 b q
      · exact iv.wok.wb b q
    · obtain ⟨h1, h2⟩ := sc.sub x d e
      obtain ⟨v, hb, hr⟩ := iv.vars x d h1
      have hfm : (x, NameKind.free) ∈ scope.names := mem_of_lookup h2
      obtain ⟨hk, _, hcd, hnc⟩ := sc.free x hfm
      rcases hb with ⟨h3, _⟩ | ⟨_, c, hc, hv⟩
      · rw [h3] at hk; rcases hk with q | q <;> cases q
      · refine ⟨v, .inr ⟨?_, c, ?_, hv.keeps k4.keep⟩, hbarD _ _ hr⟩
        · rcases ce.free x h2 with q | q
          · exact .inl q
          · exact .inr ⟨q, hcd⟩
        · show (ocs ++ cl).lookup x = _
          rw [lookup_append_right (fun m => hnc ((hoc x).mp m))]
          obtain ⟨c', hc'⟩ := hcl2 x hfm
          obtain ⟨c'', hc''⟩ := lookup_some_of_mem (l := cl) (List.mem_map.mpr ⟨(x, c'), hc', rfl⟩)
          have := (hcl1 _ (mem_of_lookup hc'')).2
          rw [hc] at this; cases this
          exact hc''
    · rcases List.mem_cons.mp hb with rfl | hb
      · exact hN0 _ hCN
      · exact hN0 _ (hoN b hb)
    · rcases List.mem_cons.mp hb with rfl | hb
      · exact hNex _ hCN
      · exact hNex _ (hoN b hb)
    · rcases List.mem_cons.mp hb with rfl | hb
      · exact List.mem_append_right _ (List.mem_append_left _ hCN)
      · exact List.mem_append_right _ (List.mem_append_left _ (hoN b hb))
    · rcases hclk x c e with ⟨q, m⟩ | ⟨q, m⟩
      · exact ⟨fun _ => List.mem_cons_of_mem _ (List.mem_map.mpr ⟨(x, c), m, rfl⟩), hCo c (List.mem_map.mpr ⟨(x, c), m, rfl⟩), none, (hocs _ m).1⟩
      · obtain ⟨h1, ⟨v, h2⟩, _⟩ := hclv x c m
        exact ⟨fun h => absurd h q, Nat.ne_of_lt (Nat.lt_succ_of_lt h1), some v, h2.keeps k4.keep⟩
    · rcases hclk x c e1 with ⟨q, m⟩ | ⟨q, m⟩
      · rcases hclk y c e2 with ⟨q', m'⟩ | ⟨q', m'⟩
        · exact name_of_addr hcells.apart m' m
        · have h1 := (hclv y c m').1
          have h2 := (hocs _ m).2
          exact absurd (Nat.lt_of_lt_of_le h1 (Nat.le_trans (Nat.le_add_right a 2) h2)) (Nat.lt_irrefl _)
      · exact absurd hx q
  -- the loop
  have hlW : cenv.locals ∈ N ++ W := List.mem_append_left _ hCN
  have fresh : ∀ wr : List Addr, (∀ b ∈ wr, s.heap.get? b = none ∧ b ∉ N) → (∀ b ∈ wr, b ∉ N ++ W) ∧ (∀ x c, cenv.cells.lookup x = some c → c ∉ wr) ∧ (∀ b ∈ (a + 1) :: ocs.map (·.2), b ∉ wr) ∧ a ∉ wr := fun wr h => by
    refine ⟨fun b hb q => ?_, fun x c e m => ?_, fun b hb m => (h b m).2 (hFN b hb), fun m => (h a m).2 haN⟩
    · rcases List.mem_append.mp q with q | q
      · exact (h b hb).2 q
      · obtain ⟨o, ho⟩ := iv.wok.wex b q; rw [(h b hb).1] at ho; cases ho
    · rcases hclk x c e with ⟨_, q⟩ | ⟨_, q⟩
      · exact (h c m).2 (hoN c (List.mem_map.mpr ⟨(x, c), q, rfl⟩))
      · exact (hclv x c q).2.2 (h c m).1
  have hca : ∀ x c, cenv.cells.lookup x = some c → c ≠ a := fun x c e q => by
    rcases hclk x c e with ⟨_, m⟩ | ⟨_, m⟩
    · exact hao c (List.mem_map.mpr ⟨(x, c), m, rfl⟩) q
    · have := (hclv x c m).1; rw [q] at this; exact Nat.lt_irrefl _ this
  have haF : a ∉ (a + 1) :: ocs.map (·.2) := fun m => by
    rcases List.mem_cons.mp m with q | q
    · exact haC q
    · exact hao a q rfl
  have hNs : ∀ b ∈ N, s.heap.get? b = none := fun b hb => hnewS b (hNge b hb)
  have loop : codeAny (model X.P X.w) A (.compLoop (.ListComp elt [⟨target, iter, ifs, 0⟩] scope pos) 0 (.ref I) (.ref a) cenv) (compPost (model X.P X.w) A (fun _ _ => False) use Q (.ref a) (a + 1)) s₄ := by
    refine comp_loop (fun k s' => ∃ i wr ys, k = ds.length + 1 - i ∧ i ≤ ds.length ∧ St i wr s' ∧ (∀ b ∈ wr, s.heap.get? b = none ∧ b ∉ N) ∧ Sv X (cellNames scope.names) cenv ρf [] ((a + 1) :: ocs.map (·.2)) (wr ++ (N ++ W)) s' ∧ LEx s'.heap a ys ∧ Reps X (wr ++ (N ++ W)) s'.heap ys ((ds.take i).filterMap g) ∧ Kp [] [] s s' ∧ (∀ b ∈ N, ∃ o, s'.heap.get? b = some o ∧ ∀ vs, o.data ≠ .fields vs)) ?_ (ds.length + 1)
      ⟨0, wr, [], rfl, Nat.zero_le _, st₄, fun b hb => ⟨hwr b hb, hne b (hwrN b hb)⟩, sv₄, hacc0, .nil, k4, hNex'⟩
    clear sv₄ st₄ hbarD
    rintro k s' ⟨i, wr, ys, rfl, hi, st', hfr, sv', acc', rs', kp', hNe⟩
    obtain ⟨hwW, hcw, hFwr, hawr⟩ := fresh wr hfr
    have hWk : ∀ b ∈ N ++ W, b ∉ wr → ∀ o, s'.heap.get? b = some o → β ≤ b → ∀ vs, o.data ≠ .fields vs := fun b hb _ o ho hle => by
      rcases List.mem_append.mp hb with q | q
      · obtain ⟨o', ho', hd⟩ := hNe b q; rw [ho] at ho'; cases ho'; exact hd
      · exact absurd (Nat.lt_of_lt_of_le (hβW b q) hle) (Nat.lt_irrefl _)
    have hylen : ys.length ≤ sizeLine := by
      rw [rs'.length]
      refine Nat.le_trans (List.length_filterMap_le _ _) ?_
      rw [List.length_take]; omega
    rcases Nat.lt_or_ge i ds.length with hlt | hge
    · have hd : ds[i]? = some ds[i] := List.getElem?_eq_getElem hlt
      have htake : (ds.take (i + 1)).filterMap g = (ds.take i).filterMap g ++ (match g ds[i] with | some o => [o] | none => []) := by
        rw [List.take_add_one, hd, List.filterMap_append]
        cases hg : g ds[i] <;> simp [hg]
      obtain ⟨ρ', b, asg, hext, tst, ht, hf⟩ := body cenv ce eb ds[i] (List.getElem_mem hlt)
      refine wpAny_mono (itr.step i wr s' ds[i] target (fun v s₂ => wpF X A (assign target cenv v) (fun _ s₃ =>
          wpF X A (forIn ifs true fun c r => if r = true then do let ok ← isTrue c cenv (eval c cenv); pure (ForInStep.yield ok) else pure (ForInStep.yield r)) (fun ok s₄' =>
            if ok = true then wpF X A (eval elt cenv) (fun x s₅ => wpF X A (call (.builtin "list.append") [.ref a, x]) (fun _ s₆ => ∃ m, m < ds.length + 1 - i ∧ ∃ i wr ys, m = ds.length + 1 - i ∧ i ≤ ds.length ∧ St i wr s₆ ∧ (∀ b ∈ wr, s.heap.get? b = none ∧ b ∉ N) ∧ Sv X (cellNames scope.names) cenv ρf [] ((a + 1) :: ocs.map (·.2)) (wr ++ (N ++ W)) s₆ ∧ LEx s₆.heap a ys ∧ Reps X (wr ++ (N ++ W)) s₆.heap ys ((ds.take i).filterMap g) ∧ Kp [] [] s s₆ ∧ (∀ b ∈ N, ∃ o, s₆.heap.get? b = some o ∧ ∀ vs, o.data ≠ .fields vs)) s₅) s₄'
            else ∃ m, m < ds.length + 1 - i ∧ ∃ i wr ys, m = ds.length + 1 - i ∧ i ≤ ds.length ∧ St i wr s₄' ∧ (∀ b ∈ wr, s.heap.get? b = none ∧ b ∉ N) ∧ Sv X (cellNames scope.names) cenv ρf [] ((a + 1) :: ocs.map (·.2)) (wr ++ (N ++ W)) s₄' ∧ LEx s₄'.heap a ys ∧ Reps X (wr ++ (N ++ W)) s₄'.heap ys ((ds.take i).filterMap g) ∧ Kp [] [] s s₄' ∧ (∀ b ∈ N, ∃ o, s₄'.heap.get? b = some o ∧ ∀ vs, o.data ≠ .fields vs)) s₃) s₂) hd st' sv'.iv.wok (fun b hb o ho hle => (List.mem_append.mp hb).elim (fun q => by obtain ⟨o', ho', hd⟩ := hNe b q; rw [ho] at ho'; cases ho'; exact hd) fun q => absurd (Nat.lt_of_lt_of_le (hβW b q) hle) (Nat.lt_irrefl _)) htu fun v wr₂ s₂' hn₂ hsub₂ r st₂' k₂' => ?_) (fun r s₂' h => ?_) (fun _ _ q => q)
      rotate_left 1
      · cases r with
        | none => exact h.elim
        | some v => exact h
      · have hfr₂ : ∀ b ∈ wr₂, s.heap.get? b = none ∧ b ∉ N := fun b hb => by
          rcases hn₂ b hb with q | q
          · exact hfr b q
          · refine ⟨?_, fun m => by obtain ⟨o, ho, _⟩ := hNe b m; rw [q] at ho; cases ho⟩
            cases e : s.heap.get? b with
            | none => rfl
            | some o => have := kp'.keep _ _ e; rw [q] at this; cases this
        obtain ⟨hwW₂, hcw₂, hFwr₂, hawr₂⟩ := fresh wr₂ hfr₂
        have kp₂ : Kp [] [] s s₂' := kp'.thenB k₂' hβ (fun b hb => .inr (hfr b hb).1) hG
        have sv₂ := sv'.stepped k₂' hβ0 hWk hn₂ hsub₂ (itr.live _ _ _ st₂') (fun m => hwW _ m hlW) hcw hFwr
        have acc₂ : LEx s₂'.heap a ys := let ⟨k, e⟩ := acc'; ⟨k, k₂'.heap _ _ hawr (fun _ vs q => by cases q) e⟩
        have rs₂ : Reps X (wr₂ ++ (N ++ W)) s₂'.heap ys ((ds.take i).filterMap g) := (rs'.more hn₂).mono' fun b o hb hd e => k₂'.heap b o (fun m => hb (List.mem_append_left _ (hsub₂ b m))) (fun _ => hd) e
        refine asg.run A _ _ s₂' v _ ok sv₂ r fun s₃' k₃ sv₃ => ?_
        have kp₃ : Kp [] [] s s₃' := kp₂.thenNew k₃ (fun b hb => .inr (hNs b (hFN b hb))) (fun _ h => nomatch h)
        have frm : ∀ (t t' : Shared) (F' : List Addr), (∀ b ∈ N, ∃ o, t.heap.get? b = some o ∧ ∀ vs, o.data ≠ .fields vs) → Kp F' [] t t' → (∀ b o, X.h0.get? b = some o → t'.heap.get? b = some o) → (∀ b ∈ F', b ∉ wr₂) → (∀ b ∈ F', b ∈ wr₂ ++ (N ++ W)) → St (i + 1) wr₂ t → St (i + 1) wr₂ t' := fun t t' F' hne kk h0 h1 h2 st =>
          itr.frame _ _ _ _ st (fun b hb o ho q => (List.mem_append.mp hb).elim (fun m => by obtain ⟨o', ho', hd⟩ := hne b m; rw [ho] at ho'; cases ho'; exact hd) fun m => absurd (Nat.lt_of_lt_of_le (hβW b m) q) (Nat.lt_irrefl _)) (fun b o hb e => kk.heap b o (fun m => hb.elim (fun q => h1 b m q) fun q => q (h2 b m)) e) h0 fun g x e => kk.gens g x (by simp) e
        have st₃ := frm _ _ _ (hsvN _ _ _ _ acc₂ sv₂) k₃ sv₃.iv.wok.base hFwr₂ sv₂.fW st₂'
        have acc₃ : LEx s₃'.heap a ys := let ⟨k, e⟩ := acc₂; ⟨k, k₃.heap _ _ haF e⟩
        have rs₃ := rs₂.kp k₃ sv₂.fW
        refine tst.run A _ s₃' _ ok sv₃.iv fun s₄' k₄' iv₄ => ?_
        have sv₄' := sv₃.kp k₄'
        have st₄' := frm _ _ _ (hsvN _ _ _ _ acc₃ sv₃) k₄' iv₄.wok.base (fun _ h => nomatch h) (fun _ h => nomatch h) st₃
        have acc₄ : LEx s₄'.heap a ys := let ⟨k, e⟩ := acc₃; ⟨k, k₄'.keep _ _ e⟩
        have rs₄ := rs₃.kp0 k₄'
        have kp₄ : Kp [] [] s s₄' := kp₃.trans k₄'
        cases b with
        | false =>
          rw [if_neg (by simp)]
          refine ⟨ds.length + 1 - (i + 1), by omega, i + 1, wr₂, ys, rfl, hlt, st₄', hfr₂, sv₄'.weaken hext, acc₄, ?_, kp₄, hsvN _ _ _ _ acc₄ sv₄'⟩
          rw [htake, hf rfl]; simpa using rs₄
        | true =>
          rw [if_pos rfl]
          obtain ⟨o, ho, hev⟩ := ht rfl
          refine hev.run A _ s₄' _ ok iv₄ fun x s₅ k₅ iv₅ r₅ => ?_
          have acc₅ : LEx s₅.heap a ys := let ⟨k, e⟩ := acc₄; ⟨k, k₅.keep _ _ e⟩
          refine appendL acc₅ (fun h' acc₆ hs₆ => ?_) hylen
          have haWc : a ∈ wr₂ ++ (N ++ W) := List.mem_append_right _ (List.mem_append_left _ haN)
          have k₆ : Kp [a] [] s₅ { s₅ with heap := h' } := .same (tk := s₅.toks) hs₆ List.mem_cons_self
          have hw1 : ∀ b ∈ [a], b ∈ wr₂ ++ (N ++ W) := fun b hb => by rw [List.mem_singleton.mp hb]; exact haWc
          have sv₆ := (sv₄'.kp k₅).other k₆ hw1 (fun b hb => by rw [List.mem_singleton.mp hb]; exact let ⟨_, e⟩ := acc₆; ⟨_, e⟩) (fun m => haC (List.mem_singleton.mp m).symm) (fun x c e m => hca x c e (List.mem_singleton.mp m)) (fun x a o e => by cases e)
          have st₅ := frm _ _ _ (hsvN _ _ _ _ acc₄ sv₄') k₅ iv₅.wok.base (fun _ h => nomatch h) (fun _ h => nomatch h) st₄'
          have st₆ := frm _ _ _ (hsvN _ _ _ _ acc₅ (sv₄'.kp k₅)) k₆ sv₆.iv.wok.base (fun b hb => by rw [List.mem_singleton.mp hb]; exact hawr₂) hw1 st₅
          refine ⟨ds.length + 1 - (i + 1), by omega, i + 1, wr₂, ys ++ [x], rfl, hlt, st₆, hfr₂, sv₆.weaken hext, acc₆, ?_, ?_, hsvN _ _ _ _ acc₆ sv₆⟩
          · rw [htake, ho]
            exact ((rs₄.kp0 k₅).kp k₆ hw1).append (.cons (r₅.kp k₆ hw1) .nil)
          · exact (kp₄.trans k₅).thenNew k₆ (fun b hb => by rw [List.mem_singleton.mp hb]; exact .inr (hNs a haN)) (fun _ h => nomatch h)
    · have hin : i = ds.length := by omega
      subst hin
      refine wpAny_mono (itr.done wr s' (fun s₂' => Kb wr β G s' s₂') st' sv'.iv.wok fun s₂' k => k) (fun r s₂' h => ?_) (fun _ _ q => q)
      cases r with
      | some v => exact h.elim
      | none =>
        have acc₂ : LEx s₂'.heap a ys := let ⟨k, e⟩ := acc'; ⟨k, h.heap _ _ hawr (fun _ vs q => by cases q) e⟩
        have rs₂ : Reps X (wr ++ (N ++ W)) s₂'.heap ys ((ds.take ds.length).filterMap g) := rs'.mono' fun b o hb hd e => h.heap b o (fun m => hb (List.mem_append_left _ m)) (fun _ => hd) e
        rw [List.take_length] at rs₂
        have hsubW : ∀ b ∈ [a + 1] ++ W, b ∈ wr ++ (N ++ W) := fun b hb => by
          rcases List.mem_append.mp hb with q | q
          · rw [List.mem_singleton.mp q]; exact List.mem_append_right _ (List.mem_append_left _ hCN)
          · exact List.mem_append_right _ (List.mem_append_right _ q)
        refine hR a (a + 1) s₂' (kp'.thenB h hβ (fun b hb => .inr (hfr b hb).1) hG) (hnewS _ (Nat.le_refl _)) (hnewS _ (Nat.le_succ _)) haC ?_ ⟨ys, acc₂, rs₂.sub hsubW⟩
        obtain ⟨m, o, es, ep, ho, hd, r⟩ := sv'.ns
        exact ⟨m, o, es, ep, h.heap _ _ (hFwr _ List.mem_cons_self) (fun _ vs q => by rw [hd] at q; cases q) ho, hd, r⟩
  exact codeAny_compStart_list loop (wpAny_mono (itr.self 0 wr s₄ _ st₄ loop) (fun _ _ q => q) fun _ _ q => q.elim)
end Mine

end
section
namespace Mine
variable {X : Cx}

section
variable {n : Nat} {env : Env} {ρ ρf : Vars} {ω : Own} {KR : D → Prop} {KN : Vars → Own → Prop} {rest : List Stmt}

theorem Ev.comp {elt target iter : Expr} {ifs : List Expr} {scope : Scope} {pos : Pos} {ds : List D} {tu : Bool} (g : D → Option D) (it : It X n env ρ iter ds tu) (htu : tu = true → ∃ es k p, target = Expr.Tuple es k p) (sc : ScOk env ρ ρf scope) (hz : ds.length ≤ sizeLine)
    (body : ∀ cenv, CE env scope cenv → EnvB cenv → ∀ d ∈ ds, ∃ ρ' b, Asg X n (cellNames scope.names) cenv target d ρf [] ρ' ∧ (∀ y e, ρf.lookup y = some e → ρ'.lookup y = some e) ∧ Tests X n cenv ρ' ifs b ∧ (b = true → ∃ o, g d = some o ∧ Ev X n cenv ρ' elt o) ∧ (b = false → g d = none))
    (hs : ∀ x, foldedSetIterable iter env x = pure x := by intro _; rfl) : Ev X n env ρ (.ListComp elt [⟨target, iter, ifs, 0⟩] scope pos) (.list (ds.filterMap g)) := .mk fun A W s Q ok iv h => by
  show wpAny _ _ (comprehension (.ListComp elt [⟨target, iter, ifs, 0⟩] scope pos) scope env _ (newList []) false (eval iter env) none) _ _ _
  refine comp_core ok iv it htu sc hz body (fun a C s' k ha hC hne hns hacc => ?_) hs
  obtain ⟨m, hm⟩ := hns
  obtain ⟨vs, hl, rs⟩ := hacc
  refine ⟨m, hm, fun h' hs' => ?_⟩
  have kC : Kp [C] [] s' { s' with heap := h' } := .same (tk := s'.toks) hs' List.mem_cons_self
  have k' : Kp [] [] s { s' with heap := h' } := Kp.drop (k.any.trans kC) (fun b hb => .inr (by rw [List.mem_singleton.mp hb]; exact hC)) (fun _ h => nomatch h)
  refine h _ _ k' (iv.kp k') (.list (vs := vs) ?_ (fun q => ?_) ?_)
  · obtain ⟨k, e⟩ := hl; exact ⟨k, (hs'.2 a hne).trans e⟩
  · obtain ⟨o, ho⟩ := iv.wok.wex a q; rw [ha] at ho; cases ho
  · exact (rs.kp kC fun b hb => List.mem_append_left _ hb).sub fun b hb => List.mem_append_right _ hb

theorem Ex.assignc {x : Str} {p pos' : Pos} {elt target iter : Expr} {ifs : List Expr} {scope : Scope} {pos : Pos} {ds : List D} {tu : Bool} (g : D → Option D) (it : It X n env ρ iter ds tu) (htu : tu = true → ∃ es k p, target = Expr.Tuple es k p) (sc : ScOk env ρ ρf scope) (hz : ds.length ≤ sizeLine)
    (body : ∀ cenv, CE env scope cenv → EnvB cenv → ∀ d ∈ ds, ∃ ρ' b, Asg X n (cellNames scope.names) cenv target d ρf [] ρ' ∧ (∀ y e, ρf.lookup y = some e → ρ'.lookup y = some e) ∧ Tests X n cenv ρ' ifs b ∧ (b = true → ∃ o, g d = some o ∧ Ev X n cenv ρ' elt o) ∧ (b = false → g d = none))
    (hx : Stor (env.cells.map (·.1)) env x) (hω : x ∉ ω.map (·.1)) (h : Ex X n env ((x, .list (ds.filterMap g)) :: ρ) ω rest KR KN)
    (hsw : swapsWith (.ListComp elt [⟨target, iter, ifs, 0⟩] scope pos) (some (.Name x p)) pos'.line env = pure true := by rfl)
    (hs : ∀ x, foldedSetIterable iter env x = pure x := by intro _; rfl) : Ex X n env ρ ω (.Assign [.Name x p] (.ListComp elt [⟨target, iter, ifs, 0⟩] scope pos) pos' :: rest) KR KN := .step fun A F W s Q ok sv hQ => by
  rw [exec_Assign_Name_used _ _ _ _ hsw]
  refine wpAny_bind (wpAny_standAt ?_)
  show wpAny _ _ (evalThenUse _ _ _ >>= _) _ _ _
  refine wpAny_bind ?_
  show wpAny _ _ (do let _ ← comprehension (.ListComp elt [⟨target, iter, ifs, 0⟩] scope pos) scope env _ (newList []) false (eval iter env) (some (PySem.assign (.Name x p) env))) _ _ _
  refine wpAny_bind ?_
  refine comp_core ok sv.iv it htu sc hz body (fun a C s' k ha hC hne hns hacc => ?_) hs
  obtain ⟨m, hm⟩ := hns
  obtain ⟨vs, hl, rs⟩ := hacc
  have hCex : ∀ b ∈ [C], ∃ o, s'.heap.get? b = some o := fun b hb => by rw [List.mem_singleton.mp hb]; exact let ⟨o, _, _, ho, _⟩ := hm; ⟨o, ho⟩
  have hCW : C ∉ W := fun q => let ⟨o, ho⟩ := sv.iv.wok.wex C q; by rw [hC] at ho; cases ho
  have sv' := sv.widen (N := [C]) k (fun b hb => by rw [List.mem_singleton.mp hb]; exact hC) hCex
  have hr : Rep X ([C] ++ W) s'.heap (.ref a) (.list (ds.filterMap g)) := by
    refine .list hl (fun q => ?_) rs
    rcases List.mem_append.mp q with q | q
    · exact hne (List.mem_singleton.mp q)
    · obtain ⟨o, ho⟩ := sv.iv.wok.wex a q; rw [ha] at ho; cases ho
  show wpAny _ _ (PySem.assign (.Name x p) env (.ref a)) _ _ _
  refine wpAny_assign_Name (sv'.store hx hr hω fun s₂ k₂ sv₂ => ?_)
  have hCF : C ∉ F := fun q => hCW (sv.fW C q)
  have hm₂ : s₂.heap.Ns C m := let ⟨o, es, ep, ho, r⟩ := hm; ⟨o, es, ep, k₂.heap _ _ hCF ho, r⟩
  refine ⟨m, hm₂, fun h' hs' => ?_⟩
  have kC : Kp [C] [] s₂ { s₂ with heap := h' } := .same (tk := s₂.toks) hs' List.mem_cons_self
  have sv₃ : Sv X (env.cells.map (·.1)) env ((x, .list (ds.filterMap g)) :: ρ) ω F W { s₂ with heap := h' } := by
    refine sv₂.leave kC (fun b hb => by rw [List.mem_singleton.mp hb]; exact hCW) sv.lW (fun y c e q => ?_) (fun y a o e => (sv.own y a o e).2.1) (fun b hb q => hCF (List.mem_singleton.mp q ▸ hb))
    exact hCF (List.mem_singleton.mp q ▸ (sv.cF y c e).1 (List.mem_map.mpr ⟨(y, c), mem_of_lookup e, rfl⟩))
  refine wpAny_pure (wpAny_pure (hQ _ _ _ ?_ sv₃ h))
  refine Kp.drop (((k.any.trans k₂).mono (F' := F ++ [C]) (G' := []) (fun b hb => List.mem_append_left _ hb) (by simp)).trans (kC.mono (fun b hb => List.mem_append_right _ hb) (by simp))) (fun b hb => ?_) (fun _ h => nomatch h)
  rcases List.mem_append.mp hb with q | q
  · exact .inl q
  · rw [List.mem_singleton.mp q]; exact .inr hC
end
end Mine

end
section
namespace Mine
variable {X : Cx}

section
variable {oc : List Str} {n : Nat} {env : Env} {ρ : Vars} {ω : Own} {F W : List Addr} {s : Shared} {A : Around}

/-- a value of any kind goes under a name that was not known -/
theorem Sv.storeV {x : Str} {v : Value} {Q : Unit → Shared → Prop} (sv : Sv X oc env ρ ω F W s) (hk : Stor oc env x) (hω : x ∉ ω.map (·.1)) (hρ : ρ.lookup x = none)
    (h : ∀ s', Kp F [] s s' → (∀ b o, b ≠ env.locals → (∀ y c, env.cells.lookup y = some c → b ≠ c) → s.heap.get? b = some o → s'.heap.get? b = some o) → Sv X oc env ρ ω F W s' → Bound env s'.heap x v → Q () s') : wpF X A (storeName env x v) Q s := by
  have hxy : ∀ y d, ρ.lookup y = some d → y ≠ x := fun y d e q => by rw [q, hρ] at e; cases e
  rcases hk with hk | ⟨hk, hoc, c, hc⟩
  · obtain ⟨m, hm⟩ := sv.ns
    refine wpAny_storeName_local hk hm (fun h' hn hs => ?_) (by rw [sv.iv.eb.kind]; rfl)
    have hex : ∃ o, h'.get? env.locals = some o := let ⟨o, _, _, ho, _⟩ := hn; ⟨o, ho⟩
    have kp : ∀ b o, b ∉ W → s.heap.get? b = some o → h'.get? b = some o := fun b o hb e => (hs.2 b (fun q => hb (q ▸ sv.lW))).trans e
    have bd : ∀ y u, y ≠ x → Bound env s.heap y u → Bound env h' y u := fun y u hy b => by
      rcases b with ⟨h1, m', h2, h3⟩ | ⟨h1, c, h2, h3⟩
      · refine .inl ⟨h1, _, hn, ?_⟩
        rw [if_neg hy, ns_unique hm h2]; exact h3
      · exact .inr ⟨h1, c, h2, h3.sameBut hs (sv.cF y c h2).2.1⟩
    refine h _ (.same hs sv.lF) (fun b o hb _ e => (hs.2 b hb).trans e) ⟨⟨sv.iv.eb, sv.iv.wok.sameBut hs (sv.fb _ sv.lF) hex, fun y e hl => ?_⟩, ⟨_, hn⟩, sv.lF, sv.lW, sv.fb, fun b hb => (if q : b = env.locals then q ▸ hex else let ⟨o, ho⟩ := sv.fex b hb; ⟨o, (hs.2 b q).trans ho⟩), sv.fW, fun y c e => ?_, sv.cI, fun y a o e => ?_, sv.ownA⟩ (.inl ⟨hk, _, hn, by simp⟩)
    · obtain ⟨u, h1, h2⟩ := sv.iv.vars y e hl
      exact ⟨u, bd y u (hxy y e hl) h1, h2.mono kp⟩
    · obtain ⟨h1, h3, u, h4⟩ := sv.cF y c e
      exact ⟨h1, h3, u, h4.sameBut hs h3⟩
    · obtain ⟨h1, h2, h3, h4, h5, h6⟩ := sv.own y a o e
      exact ⟨h1, h2, h3, h4, bd y _ (fun q => hω (q ▸ List.mem_map_of_mem (f := fun p : Str × Addr × OV => p.1) e)) h5, h6.mono kp fun o e => (hs.2 a h3).trans e⟩
  · obtain ⟨cF, cL, v₀, hv⟩ := sv.cF x c hc
    have cF := cF hoc
    have cW := sv.fW c cF
    refine wpAny_storeName_cell sv.iv.eb.kind hk hc hv fun h' hn hs => ?_
    have hex : ∃ o, h'.get? c = some o := let ⟨o, ho, _⟩ := hn; ⟨o, ho⟩
    have kp : ∀ b o, b ∉ W → s.heap.get? b = some o → h'.get? b = some o := fun b o hb e => (hs.2 b (fun q => hb (q ▸ cW))).trans e
    have bd : ∀ y u, y ≠ x → Bound env s.heap y u → Bound env h' y u := fun y u hy b => by
      rcases b with ⟨h1, m', h2, h3⟩ | ⟨h1, c', h2, h3⟩
      · exact .inl ⟨h1, _, h2.sameBut hs (Ne.symm cL), h3⟩
      · exact .inr ⟨h1, c', h2, h3.sameBut hs fun q => hy (sv.cI x y c hoc hc (q ▸ h2))⟩
    refine h _ (.same (tk := s.toks) hs cF) (fun b o _ hb e => (hs.2 b (hb x c hc)).trans e) ⟨⟨sv.iv.eb, sv.iv.wok.sameBut (tk := s.toks) hs (sv.fb _ cF) hex, fun y e hl => ?_⟩, let ⟨m, hm⟩ := sv.ns; ⟨m, hm.sameBut hs (Ne.symm cL)⟩, sv.lF, sv.lW, sv.fb, fun b hb => (if q : b = c then q ▸ hex else let ⟨o, ho⟩ := sv.fex b hb; ⟨o, (hs.2 b q).trans ho⟩), sv.fW, fun y c' e => ?_, sv.cI, fun y a o e => ?_, sv.ownA⟩ (.inr ⟨.inl hk, c, hc, hn⟩)
    · obtain ⟨u, h1, h2⟩ := sv.iv.vars y e hl
      exact ⟨u, bd y u (hxy y e hl) h1, h2.mono kp⟩
    · obtain ⟨h1, h3, u, h4⟩ := sv.cF y c' e
      by_cases q : c' = c
      · subst q; exact ⟨h1, h3, _, hn⟩
      · exact ⟨h1, h3, u, h4.sameBut hs q⟩
    · obtain ⟨h1, h2, h3, h4, h5, h6⟩ := sv.own y a o e
      exact ⟨h1, h2, h3, h4, bd y _ (fun q => hω (q ▸ List.mem_map_of_mem (f := fun p : Str × Addr × OV => p.1) e)) h5, h6.mono kp fun o e => (hs.2 a (h4 x c hc)).trans e⟩
end

section
variable {n : Nat} {env : Env} {ρ : Vars} {ω : Own} {KR : D → Prop} {rest : List Stmt}
abbrev never : Vars → Own → Prop := fun _ _ => False

/-- a new list or dict that the body alone holds -/
theorem Ex.ownG {x : Str} {p pos : Pos} {e : Expr} {ov : OV} {ob : Obj} (hob : ob.isFreed = false) (hov : ∀ W (h : Heap) a, h.get? a = some ob → a ≠ sysModules → OwnIs X W h a ov)
    (he : ∀ (A : Around) (s : Shared) (Q : Value → Shared → Prop), Q (.ref s.heap.objs.size) { s with heap := s.heap.push ob } → wpF X A (eval e env) Q s)
    (hx : Stor (env.cells.map (·.1)) env x) (hω : x ∉ ω.map (·.1)) (hρ : ρ.lookup x = none)
    (h : ∀ a, Ex X n env ρ ((x, a, ov) :: ω) rest KR never)
    (hs : swapsWith e (some (.Name x p)) pos.line env = pure false := by rfl) : Ex X n env ρ ω (.Assign [.Name x p] e pos :: rest) KR never := .mk fun A F W s Q ok sv hR hN => by
  have hn : s.heap.get? s.heap.objs.size = none := none_of_size (Nat.le_refl _)
  have k₁ : Kp [] [] s { s with heap := s.heap.push ob } := .push0
  have hsys : s.heap.objs.size ≠ sysModules := fun q => by
    obtain ⟨o, ho⟩ : ∃ o, X.h0.get? sysModules = some o ∨ True := ⟨ob, .inr trivial⟩
    have h1 : X.h0.Ns builtinsNs X.mb := X.T.b
    have h2 := X.T.nolimit
    obtain ⟨mc, ⟨o2, _, _, hc2, _⟩, _⟩ := h2
    have := Heap.lt_size (sv.iv.wok.base _ _ hc2)
    rw [q] at this
    exact absurd this (by decide)
  have hget := Heap.get?_push_size s.heap hob
  generalize hA : s.heap.objs.size = a at *
  refine wpAny_execs_cons (wpAny_Assign_Name (he A s _ ?_) hs)
  rw [hA]
  have haW : a ∉ W := fun q => let ⟨o, ho⟩ := sv.iv.wok.wex a q; by rw [hn] at ho; cases ho
  have sv₁ := sv.widen (N := [a]) k₁ (fun b hb => by rw [List.mem_singleton.mp hb]; exact hn) (fun b hb => by rw [List.mem_singleton.mp hb]; exact ⟨_, hget⟩)
  have hal : a ≠ env.locals := fun q => haW (q ▸ sv.lW)
  have hac : ∀ y c, env.cells.lookup y = some c → a ≠ c := fun y c e q => haW (q ▸ sv.fW c ((sv.cF y c e).1 (List.mem_map.mpr ⟨(y, c), mem_of_lookup e, rfl⟩)))
  refine sv₁.storeV hx hω hρ fun s₂ k₂ keep₂ sv₂ bd₂ => ?_
  have hget₂ := keep₂ a _ hal hac hget
  have sv₃ : Sv X (env.cells.map (·.1)) env ρ ((x, a, ov) :: ω) (a :: F) ([a] ++ W) s₂ := by
    refine ⟨sv₂.iv, sv₂.ns, List.mem_cons_of_mem _ sv.lF, sv₂.lW, fun b hb => ?_, fun b hb => ?_, fun b hb => ?_, fun y c e => ?_, sv.cI, fun y b o e => ?_, ?_⟩
    · rcases List.mem_cons.mp hb with rfl | hb
      · exact sv.iv.wok.new hn
      · exact sv.fb b hb
    · rcases List.mem_cons.mp hb with rfl | hb
      · exact ⟨_, hget₂⟩
      · exact sv₂.fex b hb
    · rcases List.mem_cons.mp hb with rfl | hb
      · exact List.mem_append_left _ (List.mem_singleton.mpr rfl)
      · exact sv₂.fW b hb
    · obtain ⟨h1, h2, h3⟩ := sv₂.cF y c e
      exact ⟨fun q => List.mem_cons_of_mem _ (h1 q), h2, h3⟩
    · rcases List.mem_cons.mp e with q | q
      · cases q
        exact ⟨List.mem_cons_self, List.mem_append_left _ (List.mem_singleton.mpr rfl), hal, hac, bd₂, hov _ _ _ hget₂ hsys⟩
      · obtain ⟨h1, h2, h3, h4, h5, h6⟩ := sv₂.own y b o q
        exact ⟨List.mem_cons_of_mem _ h1, h2, h3, h4, h5, h6⟩
    · rw [List.map_cons, List.nodup_cons]
      refine ⟨fun m => ?_, sv.ownA⟩
      obtain ⟨⟨y, b, o⟩, hm, q⟩ := List.mem_map.mp m
      have q : b = a := q
      exact haW (q ▸ (sv.own y b o hm).2.1)
  have back : ∀ s', Kp (a :: F) [] s₂ s' → Kp F [] s s' := fun s' k => by
    refine Kp.drop (((k₁.any.trans k₂).mono (F' := a :: F) (G' := []) (fun b hb => List.mem_cons_of_mem _ hb) (by simp)).trans k) (fun b hb => ?_) (fun _ h => nomatch h)
    rcases List.mem_cons.mp hb with rfl | hb
    · exact .inr hn
    · exact .inl hb
  refine (h a).run A (a :: F) ([a] ++ W) s₂ Q ok sv₃ (fun d v s' kd k r => hR d v s' kd (back _ k) fun U hU => r U fun b hb => ⟨List.mem_append_right _ (hU b hb).1, fun q => ?_⟩) fun _ _ _ kn => kn.elim
  rcases List.mem_cons.mp q with rfl | q
  · exact haW (hU b hb).1
  · exact (hU b hb).2 q
theorem Ex.ownL {x : Str} {p p' pos : Pos} (hx : Stor (env.cells.map (·.1)) env x) (hω : x ∉ ω.map (·.1)) (hρ : ρ.lookup x = none) (h : ∀ a, Ex X n env ρ ((x, a, .list []) :: ω) rest KR never)
    (hs : swapsWith (.List [] p') (some (.Name x p)) pos.line env = pure false := by rfl) : Ex X n env ρ ω (.Assign [.Name x p] (.List [] p') pos :: rest) KR never :=
  .ownG (ov := .list []) (ob := { cls := .type "list", data := .seq ([] : List Value).toArray }) rfl (fun W h a e _ => ⟨[], ⟨0, e⟩, .nil⟩) (fun A s Q hQ => List_ (spliced_nil (wpAny_newList hQ (by simp)))) hx hω hρ h hs
theorem Ex.ownD {x : Str} {p p' pos : Pos} (hx : Stor (env.cells.map (·.1)) env x) (hω : x ∉ ω.map (·.1)) (hρ : ρ.lookup x = none) (h : ∀ a, Ex X n env ρ ((x, a, .dict []) :: ω) rest KR never)
    (hs : swapsWith (.Dict [] [] p') (some (.Name x p)) pos.line env = pure false := by rfl) : Ex X n env ρ ω (.Assign [.Name x p] (.Dict [] [] p') pos :: rest) KR never :=
  .ownG (ov := .dict []) (ob := { cls := .type "dict", data := .dict #[] }) rfl (fun W h a e hne => ⟨[], rfl, ⟨_, #[], 0, e, ⟨rfl, rfl, rfl⟩, rfl, (fun _ he => by simp at he), Pairs.nil, List.nodup_nil⟩, by simpa using hne⟩) (fun A s Q hQ => wpAny_Dict_empty hQ) hx hω hρ h hs

/-- an own object's contents change -/
theorem Sv.setOwn {oc : List Str} {F W : List Addr} {s s' : Shared} {ω₁ ω₂ : Own} {x : Str} {a : Addr} {o o' : OV} (sv : Sv X oc env ρ (ω₁ ++ (x, a, o) :: ω₂) F W s) (k : Kp [a] [] s s') (hex : ∃ ob, s'.heap.get? a = some ob) (ho : OwnIs X W s'.heap a o') :
    Sv X oc env ρ (ω₁ ++ (x, a, o') :: ω₂) F W s' := by
  obtain ⟨a1, a2, a3, a4, a5, _⟩ := sv.own x a o (List.mem_append_right _ List.mem_cons_self)
  have hnd := sv.ownA
  rw [List.map_append, List.map_cons, List.nodup_append] at hnd
  obtain ⟨n1, n2, n3⟩ := hnd
  rw [List.nodup_cons] at n2
  have oth : ∀ y b ob, (y, b, ob) ∈ ω₁ ++ ω₂ → b ≠ a := fun y b ob hm q => by
    rcases List.mem_append.mp hm with hm | hm
    · exact n3 b (List.mem_map.mpr ⟨_, hm, rfl⟩) a List.mem_cons_self q
    · exact n2.1 (List.mem_map.mpr ⟨_, hm, q⟩)
  have sv0 : Sv X oc env ρ (ω₁ ++ ω₂) F W s := by
    refine { sv with own := fun y b ob e => sv.own y b ob ?_, ownA := ?_ }
    · rcases List.mem_append.mp e with q | q
      · exact List.mem_append_left _ q
      · exact List.mem_append_right _ (List.mem_cons_of_mem _ q)
    · rw [List.map_append, List.nodup_append]
      exact ⟨n1, n2.2, fun c hc d hd => n3 c hc d (List.mem_cons_of_mem _ hd)⟩
  have sv1 := sv0.other k (fun b hb => by rw [List.mem_singleton.mp hb]; exact a2) (fun b hb => by rw [List.mem_singleton.mp hb]; exact hex) (fun m => a3 (List.mem_singleton.mp m).symm) (fun y c e m => a4 y c e (List.mem_singleton.mp m).symm) (fun y b ob e m => oth y b ob e (List.mem_singleton.mp m))
  have bd : Bound env s'.heap x (.ref a) := by
    rcases a5 with ⟨h1, m', ⟨ob, es, ep, ho, r⟩, h3⟩ | ⟨h1, c, h2, ob, ho, r⟩
    · exact .inl ⟨h1, m', ⟨ob, es, ep, k.heap _ _ (fun m => a3 (List.mem_singleton.mp m).symm) ho, r⟩, h3⟩
    · exact .inr ⟨h1, c, h2, ob, k.heap _ _ (fun m => a4 x c h2 (List.mem_singleton.mp m).symm) ho, r⟩
  refine { sv1 with own := fun y b ob e => ?_, ownA := ?_ }
  · rcases List.mem_append.mp e with q | q
    · exact sv1.own y b ob (List.mem_append_left _ q)
    · rcases List.mem_cons.mp q with q | q
      · cases q; exact ⟨a1, a2, a3, a4, bd, ho⟩
      · exact sv1.own y b ob (List.mem_append_right _ q)
  · have := sv.ownA
    simpa [List.map_append] using this

theorem Ex.append {KN : Vars → Own → Prop} {ω₁ ω₂ : Own} {x : Str} {a : Addr} {ds : List D} {d : D} {e : Expr} {px apos cpos pos : Pos} (he : Ev X n env ρ e d) (hz : ds.length ≤ sizeLine) (h : Ex X n env ρ (ω₁ ++ (x, a, .list (ds ++ [d])) :: ω₂) rest KR KN)
    (hline : (apos.endLine == cpos.line) = true := by rfl) (hfew : ∀ env, ((backTo cpos (starEach [e] env)).all (fun x => !x.1) && (backToKw cpos (keywordEach [] env)).all (fun x => x.1.isSome) && decide (([e] : List Expr).length + ([] : List Keyword).length + (if ([] : List Keyword).isEmpty then 0 else 1) < 30)) = true := by intro _; rfl)
    (htr : ∀ env, backTo cpos (starEach [e] env) = [(false, eval e env)] := by intro _; rfl) (hi : interactive env = false := by rfl) (hdb : (x == ("__debug__" : Str)) = false := by decide)
    (hsw : swapsWith (.Call (.Attribute (.Name x px) "append" apos) [e] [] cpos) none pos.line env = pure false := by rfl) :
    Ex X n env ρ (ω₁ ++ (x, a, .list ds) :: ω₂) (.Expr (.Call (.Attribute (.Name x px) "append" apos) [e] [] cpos) pos :: rest) KR KN := .step fun A F W s Q ok sv hQ => by
  obtain ⟨a1, a2, a3, a4, a5, vs, hl, rs⟩ := sv.own x a (.list ds) (List.mem_append_right _ List.mem_cons_self)
  refine wpAny_Expr (wpAny_Call_append rfl (hfew env) hline (htr env) (wpAny_Name (a5.load sv.iv.eb.kind ⟨a, vs.toArray, rfl, hl.plain, ?_⟩) hdb)) hi hsw
  refine he.run A W s _ ok sv.iv fun v s₂ k₂ iv₂ r₂ => ?_
  have hl₂ : LEx s₂.heap a vs := let ⟨k, e⟩ := hl; ⟨k, k₂.keep _ _ e⟩
  refine appendL hl₂ (fun h' hl₃ hs₃ => ?_) (by rw [rs.length]; exact hz)
  have k₃ : Kp [a] [] s₂ { s₂ with heap := h' } := .same (tk := s₂.toks) hs₃ List.mem_cons_self
  have hw1 : ∀ b ∈ [a], b ∈ W := fun b hb => by rw [List.mem_singleton.mp hb]; exact a2
  refine hQ _ _ _ (k₂.any.trans (k₃.mono (fun b hb => by rw [List.mem_singleton.mp hb]; exact a1) (by simp))) ((sv.kp k₂).setOwn (o' := .list (ds ++ [d])) k₃ (let ⟨_, e⟩ := hl₃; ⟨_, e⟩) ⟨_, hl₃, ((rs.kp0 k₂).kp k₃ hw1).append (.cons (r₂.kp k₃ hw1) .nil)⟩) h

/-- the body stops changing a list: it is data from here on -/
theorem Ex.freeze {ω₁ ω₂ : Own} {x : Str} {a : Addr} {ds : List D} {ss : List Stmt} (h : Ex X n env ((x, .list ds) :: ρ) (ω₁ ++ ω₂) ss KR never) : Ex X n env ρ (ω₁ ++ (x, a, .list ds) :: ω₂) ss KR never := .mk fun A F W s Q ok sv hR hN => by
  obtain ⟨a1, a2, a3, a4, a5, vs, hl, rs⟩ := sv.own x a (.list ds) (List.mem_append_right _ List.mem_cons_self)
  have hnd := sv.ownA
  rw [List.map_append, List.map_cons, List.nodup_append] at hnd
  obtain ⟨n1, n2, n3⟩ := hnd
  rw [List.nodup_cons] at n2
  have oth : ∀ y b ob, (y, b, ob) ∈ ω₁ ++ ω₂ → b ≠ a := fun y b ob hm q => by
    rcases List.mem_append.mp hm with hm | hm
    · exact n3 b (List.mem_map.mpr ⟨_, hm, rfl⟩) a List.mem_cons_self q
    · exact n2.1 (List.mem_map.mpr ⟨_, hm, q⟩)
  have fl : ∀ (L : List Addr) b, b ∈ L.filter (fun c => decide (c ≠ a)) ↔ b ∈ L ∧ b ≠ a := fun L b => by simp [List.mem_filter]
  have sub : ∀ b ∈ W.filter (fun c => decide (c ≠ a)), b ∈ W := fun b hb => ((fl W b).mp hb).1
  have sv' : Sv X (env.cells.map (·.1)) env ((x, .list ds) :: ρ) (ω₁ ++ ω₂) (F.filter (fun c => decide (c ≠ a))) (W.filter (fun c => decide (c ≠ a))) s := by
    refine ⟨⟨sv.iv.eb, sv.iv.wok.sub sub, fun y d hl' => ?_⟩, sv.ns, (fl F _).mpr ⟨sv.lF, Ne.symm a3⟩, (fl W _).mpr ⟨sv.lW, Ne.symm a3⟩, fun b hb => sv.fb b ((fl F b).mp hb).1, fun b hb => sv.fex b ((fl F b).mp hb).1, fun b hb => (fl W b).mpr ⟨sv.fW b ((fl F b).mp hb).1, ((fl F b).mp hb).2⟩, fun y c e => ?_, sv.cI, fun y b o e => ?_, ?_⟩
    · rw [List.lookup_cons] at hl'
      by_cases hy : y = x
      · subst hy
        simp only [BEq.rfl, Option.some.injEq] at hl'
        subst hl'
        exact ⟨_, a5, .list hl (fun q => ((fl W a).mp q).2 rfl) (rs.sub sub)⟩
      · have hb : (y == x) = false := beq_eq_false_iff_ne.mpr hy
        simp only [hb] at hl'
        obtain ⟨u, h1, h2⟩ := sv.iv.vars y d hl'
        exact ⟨u, h1, h2.sub sub⟩
    · obtain ⟨h1, h2, h3⟩ := sv.cF y c e
      exact ⟨fun q => (fl F c).mpr ⟨h1 q, Ne.symm (a4 y c e)⟩, h2, h3⟩
    · have hm : (y, b, o) ∈ ω₁ ++ (x, a, .list ds) :: ω₂ := by
        rcases List.mem_append.mp e with q | q
        · exact List.mem_append_left _ q
        · exact List.mem_append_right _ (List.mem_cons_of_mem _ q)
      obtain ⟨h1, h2, h3, h4, h5, h6⟩ := sv.own y b o hm
      refine ⟨(fl F b).mpr ⟨h1, oth y b o e⟩, (fl W b).mpr ⟨h2, oth y b o e⟩, h3, h4, h5, ?_⟩
      cases o with
      | list ds => obtain ⟨vs, l, r⟩ := h6; exact ⟨vs, l, r.sub sub⟩
      | dict l => exact h6
    · rw [List.map_append, List.nodup_append]
      exact ⟨n1, n2.2, fun c hc d hd => n3 c hc d (List.mem_cons_of_mem _ hd)⟩
  refine h.run A _ _ s Q ok sv' (fun d v s' kd k r => hR d v s' kd (k.mono (fun b hb => ((fl F b).mp hb).1) (by simp)) fun U hU => r U fun b hb => ⟨(fl W b).mpr ⟨(hU b hb).1, fun q => (hU b hb).2 (q ▸ a1)⟩, fun q => (hU b hb).2 ((fl F b).mp q).1⟩) fun _ _ _ kn => kn.elim
end
end Mine

end
section
namespace Mine
variable {X : Cx}

section
variable {A : Around} {R : GenEnd} {Y : Protocol} {c : Code} {fs : List Frame} {α β : Type}

/-- a tree inside a generator: how it may end, with how many values still to come and since which waking -/
def GS (X : Cx) (A : Around) (R : GenEnd) (Y : Protocol) (c : Code) (fs : List Frame) (m : Sem α) (Po : α → Nat → Shared → Shared → Prop) (n : Nat) (s₀ s : Shared) : Prop :=
  ∀ (K : α → Sem Fin) (H : Value → Sem Fin) (gd : Bool → Bool) (lv : List Value → List Value), gd false = false → (∀ a n' s₀' s', Po a n' s₀' s' → Seg (model X.P X.w) A R Y n' s₀' c (K a) fs s') → Seg (model X.P X.w) A R Y n s₀ c (m.wrap K H gd lv) fs s

theorem GS.bind {m : Sem α} {f : α → Sem β} {Po : β → Nat → Shared → Shared → Prop} {n : Nat} {s₀ s : Shared} (h : GS X A R Y c fs m (fun a n s₀ s => GS X A R Y c fs (f a) Po n s₀ s) n s₀ s) : GS X A R Y c fs (m >>= f) Po n s₀ s := fun K H gd lv hgd hK => by
  rw [Sem.bind_eq_wrap', Sem.wrap_wrap]
  exact h _ _ _ _ hgd fun a n' s₀' s' hp => hp K H gd lv hgd hK
theorem GS.lift {m : Sem α} {Po : α → Nat → Shared → Shared → Prop} {n : Nat} {s₀ s : Shared} (h : wpF X (A.over c fs) m (fun a s' => Po a n s₀ s') s) : GS X A R Y c fs m Po n s₀ s := fun K H gd lv _ hK =>
  seg_wrap (wpAny_mono h (fun a s' hp => hK a n s₀ s' hp) fun _ _ q => q.elim)
theorem GS.pure {a : α} {Po : α → Nat → Shared → Shared → Prop} {n : Nat} {s₀ s : Shared} (h : Po a n s₀ s) : GS X A R Y c fs (Pure.pure a) Po n s₀ s := fun K H gd lv _ hK => hK a n s₀ s h
theorem GS.onRaise {m : Sem α} {k : Value → Sem Unit} {Po : α → Nat → Shared → Shared → Prop} {n : Nat} {s₀ s : Shared} (h : GS X A R Y c fs m Po n s₀ s) : GS X A R Y c fs (m.onRaise k) Po n s₀ s := fun K H gd lv hgd hK => by
  rw [Sem.onRaise_eq_wrap, Sem.wrap_wrap]
  exact h _ _ _ _ hgd fun a n' s₀' s' hp => hK a n' s₀' s' hp
theorem GS.mono {m : Sem α} {Po Po' : α → Nat → Shared → Shared → Prop} {n : Nat} {s₀ s : Shared} (h : GS X A R Y c fs m Po n s₀ s) (hp : ∀ a n s₀ s, Po a n s₀ s → Po' a n s₀ s) : GS X A R Y c fs m Po' n s₀ s :=
  fun K H gd lv hgd hK => h K H gd lv hgd fun a n' s₀' s' q => hK a n' s₀' s' (hp _ _ _ _ q)
theorem GS.yield {env : Env} {v : Value} {Po : Value → Nat → Shared → Shared → Prop} {n : Nat} {s₀ s : Shared} (hco : env.scope.isCoroutine = false) (hfs : splitAtGen fs = none) (hfg : fs.any Frame.guarded = false)
    (h : ∀ kap : Resume → Shared → Prop, (∀ x s'', Po x n s'' s'' → kap (.send x) s'') → Y n s₀ v s kap) : GS X A R Y c fs (yieldOut env v) Po (n + 1) s₀ s := fun K H gd lv hgd hK => by
  have e : yieldOut env v = yieldValue v := by simp only [yieldOut, hco, Bool.false_eq_true, if_false]
  rw [e]
  show Seg _ _ _ _ _ _ _ (.yield v (gd false) (lv []) _) _ _
  refine seg_yield hfs hgd hfg (h _ fun x s'' hp => ?_)
  exact hK x n s'' s'' hp
/-- a call inside the frame -/
theorem GS.run {c' : Code} {Po : Flow → Nat → Shared → Shared → Prop} {n : Nat} {s₀ s : Shared}
    (h : ∀ (k : Result → Sem Fin) (l : List Value) (p : Pos), (∀ f n' s₀' s', Po f n' s₀' s' → Seg (model X.P X.w) A R Y n' s₀' c (k (.ok f)) fs s') → Seg (model X.P X.w) A R Y n s₀ c' ((model X.P X.w).den c') (.ret k none false l c p [] :: fs) s) :
    GS X A R Y c fs (PySem.run c') Po n s₀ s := fun K H gd lv hgd hK => by
  show Seg _ _ _ _ _ _ _ (.call c' none (gd false) (lv []) _) _ _
  rw [hgd]
  exact seg_call fun p => h _ _ p fun f n' s₀' s' hp => hK f n' s₀' s' hp
end

/-- StopIteration made and raised: a new object of that class goes up -/
theorem raise_stop {M : Model} {A : Around} {s : Shared} {γ : Type} {Q : γ → Shared → Prop} {E : Value → Shared → Prop} (no : A.handled = none)
    (up : ∀ h' e, (∀ b o, s.heap.get? b = some o → h'.get? b = some o) → (∃ o, h'.get? e = some o ∧ o.cls = .type "StopIteration") → E (.ref e) { s with heap := h' }) :
    wpAny M A (newExc (.type "StopIteration") [] >>= fun e => (raiseNew e : Sem γ)) Q E s := by
  have first : firstArgMember (.type "StopIteration") [] = pure Value.none := by
    unfold firstArgMember
    rfl
  have made : ∀ (R : Value → Shared → Prop), (∀ h' e, (∀ b o, s.heap.get? b = some o → h'.get? b = some o) → (∃ o, h'.get? e = some o ∧ o.cls = .type "StopIteration") → R (.ref e) { s with heap := h' }) → wpAny M A (newExc (.type "StopIteration") []) R E s := fun R hR => by
    unfold newExc newTuple
    rw [first]
    exact wpAny_bind (wpAny_newObj_type (wpAny_bind (wpAny_pure (wpAny_newObj_type (hR _ _ (fun b o q => Heap.get?_push_of_some _ (Heap.get?_push_of_some _ q)) ⟨_, Heap.get?_push_size _ rfl, rfl⟩) (by size_fits)))) (by size_fits))
  exact wpAny_bind (made _ fun h' e keep cls => wpAny_raiseNew_none no (up h' e keep cls))

section
variable {A : Around} {s : Shared} {a : Addr} {g n : Nat} {gs : GenState} {Pn : Nat → Shared → Shared → Prop} {Y : Protocol}
/-- a generator function's end: nothing handed back, and Pn of the waking -/
abbrev endsBy (Pn : Nat → Shared → Shared → Prop) : GenEnd := fun n s₀ r s₁ => r = .ok (.ret .none) ∧ Pn n s₀ s₁
abbrev goesOn (X : Cx) (A : Around) (Pn : Nat → Shared → Shared → Prop) (Y : Protocol) (gs' : GenState) : Nat → Resume → Shared → Prop := fun n r s => match n with
  | 0 => False
  | m + 1 => gs'.Goes (model X.P X.w) A.in1 (endsBy Pn) Y m r s

/-- a generator is woken: it yields, or it ends and StopIteration goes up -/
theorem woken {Qv : Value → Shared → Prop} {E : Value → Shared → Prop} (no : A.handled = none) (lim : s.heap.NoLimit) (room : A.depth < recursionLimit) (isg : s.heap.IsGen a g) (st : s.gens[g]? = some gs)
    (goes : gs.Goes (model X.P X.w) A.in1 (endsBy Pn) Y n (.send .none) (s.setGen g .running))
    (yields : ∀ v s₁ gs', gs'.bare = true → Y (n - 1) (s.setGen g .running) v s₁ (goesOn X A Pn Y gs' n) → Qv v (s₁.setGen g gs'))
    (ends : ∀ s₁ h' e, Pn n (s.setGen g .running) s₁ → (∀ b o, s₁.heap.get? b = some o → h'.get? b = some o) → (∃ o, h'.get? e = some o ∧ o.cls = .type "StopIteration") → E (.ref e) { s₁.setGen g .finished with heap := h' }) :
    wpAny (model X.P X.w) A.in1 (Builtin.Generator.genWake (.ref a) (.send .none)) (fun fin s' => ∃ v, fin = .done (.ret v) ∧ Qv v s') E s := by
  have res : ∀ k : GenResult → Sem Fin, k (.returned .none) = (newExc (.type "StopIteration") [] >>= fun e => (raiseNew e : Sem Unit)) >>= (fun _ => do rule "generator.return-value"; throw (← newExc (.type "StopIteration") [.none])) → (∀ v, k (.yielded v) = ret v) →
      wpAny (model X.P X.w) A.in1 (.resume g (.send .none) [] k) (fun fin s' => ∃ v, fin = .done (.ret v) ∧ Qv v s') E s := fun k k1 k2 => by
    refine wpAny_resumeQ st goes (fun x s₁ hx => ?_) fun v s₁ gs' hb hv => ?_
    · rw [hx.1]
      show wpAny _ _ (k (.returned .none)) _ _ _
      rw [k1]
      exact wpAny_bind (raise_stop no fun h' e keep cls => ends s₁ h' e hx.2 keep cls)
    · rw [k2]; exact wpAny_pure ⟨v, rfl, yields v s₁ gs' hb hv⟩
  unfold Builtin.Generator.genWake
  refine wpAny_bind (wpAny_holding (wpAny_genNumber isg (wpAny_bind (wpAny_genState st ?_))))
  cases gs with
  | fresh c => exact wpAny_bind (wpAny_roomToWake lim room (res _ rfl fun _ => rfl))
  | suspended k l c p fs cl => exact wpAny_bind (wpAny_roomToWake lim room (res _ rfl fun _ => rfl))
  | running => exact goes.elim
  | finished => exact goes.elim

/-- the next value of a generator function -/
theorem pyNextGen {Q : Option Value → Shared → Prop} (no : A.handled = none) (lim : s.heap.NoLimit) (room : A.depth < recursionLimit) (isg : s.heap.IsGen a g) (st : s.gens[g]? = some gs)
    (goes : gs.Goes (model X.P X.w) A.in1 (endsBy Pn) Y n (.send .none) (s.setGen g .running))
    (yields : ∀ v s₁ gs', gs'.bare = true → Y (n - 1) (s.setGen g .running) v s₁ (goesOn X A Pn Y gs' n) → Q (some v) (s₁.setGen g gs'))
    (ends : ∀ s₁, Pn n (s.setGen g .running) s₁ → ∀ h', (∀ b o, s₁.heap.get? b = some o → h'.get? b = some o) → Q none { s₁.setGen g .finished with heap := h' }) : wpF X A (pyNext (.ref a)) Q s := by
  have isT := isg.typeIs
  have body := woken (Qv := fun v s' => ∃ u, some v = some u ∧ Q (some u) s') no lim room isg st goes (fun v s₁ gs' hb hv => ⟨v, rfl, yields v s₁ gs' hb hv⟩) (E := fun e s' => Q none s' ∧ s'.TypeIs e "StopIteration") fun s₁ h' e hp keep cls => ⟨ends s₁ hp h' keep, cls⟩
  unfold pyNext
  refine wpAny_bind (wpAny_attempt (wpAny_mono (wpAny_callSpecial?_slot isT slot_gen_next (wpAny_call_entry slot_gen_next isT entry_gen_next body (args_gen_next _)) (Q := fun r s' => ∃ v, r = some v ∧ Q (some v) s')) (fun r s' q => ?_) fun e s' q => ?_))
  · obtain ⟨v, rfl, q⟩ := q
    exact wpAny_pure q
  · exact wpAny_bind (wpAny_isInstance (b := true) q.2 isSubtype_stop (wpAny_pure q.1))
end

/-- enumerate over a text -/
def enumD (x : Str) : List D := (List.range x.cps.size).map fun i => D.tup [.int (i : Nat), .str ⟨#[x.cps.getD i 0]⟩]
theorem enumD_get {x : Str} {i : Nat} {d : D} (h : (enumD x)[i]? = some d) : i < x.cps.size ∧ d = D.tup [.int (i : Nat), .str ⟨#[x.cps.getD i 0]⟩] := by
  simp only [enumD, List.getElem?_map, Option.map_eq_some_iff] at h
  obtain ⟨j, hj, rfl⟩ := h
  obtain ⟨h1, h2⟩ := List.getElem?_eq_some_iff.mp hj
  simp at h1 h2
  subst h2
  exact ⟨h1, rfl⟩
def EnSt (x : Str) (t : Tok) (e it : Addr) (i : Nat) (h : Heap) : Prop := (∃ old, IsEnum h e it i old) ∧ h.IsStrIter it (strIterType x) x t i
theorem EnSt.keep {x : Str} {t : Tok} {e it : Addr} {i : Nat} {h h' : Heap} (a : EnSt x t e it i h) (h1 : ∀ o, h.get? e = some o → h'.get? e = some o) (h2 : ∀ o, h.get? it = some o → h'.get? it = some o) : EnSt x t e it i h' := by
  obtain ⟨⟨old, he⟩, o, ho, r⟩ := a
  exact ⟨⟨old, h1 _ he⟩, o, h2 _ ho, r⟩
theorem enumItr {A : Around} (hh : A.handled = none) {W : List Addr} {β : Nat} (x : Str) (t : Tok) (e it : Addr) (hne : e ≠ it) : Itr X A W e β [] (enumD x) true (fun i wr s => wr = [e, it] ∧ EnSt x t e it i s.heap ∧ True) := by
  have key : ∀ St : Nat → Heap → Prop, (∀ i h, St i h ↔ h.IsStrIter it (strIterType x) x t i) → Draws X.P X.w A.in1 it [it] x.cps.size (fun i v => ∃ c u, x.cps[i]? = some c ∧ v = .str ⟨#[c]⟩ u) St → Itr X A W e β [] (enumD x) true (fun i wr s => wr = [e, it] ∧ EnSt x t e it i s.heap ∧ True) := fun St hSt dr => by
    have wk := WalksT.enumerateD dr e hne (fun m => hne (List.mem_singleton.mp m)) (List.mem_singleton.mpr rfl)
    have itr := Itr.walksT (X := X) (W := W) (β := β) (ds := enumD x) (RD := fun _ => True) wk (by simp [enumD]) (fun b hb => .inl hb) (fun i h st b hb => ?_) (fun _ _ _ _ => trivial) (fun i vals d h hp hd _ => ?_)
    · have : (fun (i : Nat) wr (s : Shared) => wr = [e, it] ∧ ((∃ old, IsEnum s.heap e it i old) ∧ St i s.heap) ∧ True) = (fun (i : Nat) wr (s : Shared) => wr = [e, it] ∧ EnSt x t e it i s.heap ∧ True) := by
        funext i wr s
        unfold EnSt
        rw [hSt]
      rw [← this]
      exact itr
    · obtain ⟨⟨old, he⟩, hs⟩ := st
      rcases List.mem_cons.mp hb with rfl | hb
      · exact ⟨_, he⟩
      · rw [List.mem_singleton.mp hb]
        obtain ⟨o, ho, _⟩ := (hSt i h).mp hs
        exact ⟨o, ho⟩
    · obtain ⟨t', v, ⟨c, u, hc, rfl⟩, rfl⟩ := hp
      obtain ⟨hlt, rfl⟩ := enumD_get hd
      have : x.cps.getD i 0 = c := by simp [Array.getD, hlt]; simpa [hlt] using hc
      rw [this]
      exact ⟨_, rfl, .cons (.int _ _) (.cons (.str _ _) .nil)⟩
  cases ha : x.cps.all (· < 128) with
  | true =>
    have hT : strIterType x = "str_ascii_iterator" := by simp [strIterType, ha]
    exact key (fun i h => h.IsStrIter it "str_ascii_iterator" x t i) (fun i h => by rw [hT]) (Draws.strAscii (A := A.in1) hh it x t)
  | false =>
    have hT : strIterType x = "str_iterator" := by simp [strIterType, ha]
    exact key (fun i h => h.IsStrIter it "str_iterator" x t i) (fun i h => by rw [hT]) (Draws.strWide (A := A.in1) hh it x t)
end Mine

end
section
namespace Mine

def pw : Program := PySem.Challenge.pw_pe0096_01
def recOf : Stmt → DefRec
  | .FunctionDef name a b _ _ _ sc _ _ pos => ⟨name, a, b, sc, pos⟩
  | _ => ⟨"", ⟨[], [], none, [], [], none, []⟩, [], default, default⟩
def recAt (i : Nat) : DefRec := recOf (pw.main.body.getD i (.Pass default))
set_option maxHeartbeats 4000000 in
theorem rec_mem : ∀ i ∈ [1, 2, 3, 4, 7, 8, 10, 11, 12, 13], recAt i ∈ recsOf pw := by
  have e : recsOf pw = [1, 2, 3, 4, 7, 8, 10, 11, 12, 13].map recAt := by rfl
  intro i hi
  rw [e]
  exact List.mem_map_of_mem hi
theorem nm1 : (recAt 1).name = "_iter_escaped_chars" := by rfl
theorem nm3 : (recAt 3).name = "_check_parenthesis" := by rfl
theorem nm13 : (recAt 13).name = "law" := by rfl
end Mine

end
section
namespace Mine
variable {X : Cx}

/-- what others keep while a generator sleeps: its frame, and what it holds behind it -/
structure FC (X : Cx) (L : Addr) (β : Nat) (s s' : Shared) : Prop where
  loc : ∀ o, s.heap.get? L = some o → s'.heap.get? L = some o
  fld : ∀ b o vs, β ≤ b + 1 → o.data = .fields vs → s.heap.get? b = some o → s'.heap.get? b = some o
  base : ∀ b o, X.h0.get? b = some o → s'.heap.get? b = some o
theorem FC.trans {L : Addr} {β : Nat} {s s' s'' : Shared} (x : FC X L β s s') (y : FC X L β s' s'') : FC X L β s s'' :=
  ⟨fun o e => y.loc o (x.loc o e), fun b o vs h d e => y.fld b o vs h d (x.fld b o vs h d e), y.base⟩

def simp1 : D → Bool
  | .none | .bool _ | .int _ | .str _ => true
  | _ => false
def Simple (ρ : Vars) : Prop := ∀ x d, ρ.lookup x = some d → simp1 d = true
theorem Rep.simple {W W' : List Addr} {h h' : Heap} {v : Value} {d : D} (hd : simp1 d = true) (r : Rep X W h v d) : Rep X W' h' v d := by
  cases r with
  | none => exact .none
  | bool b => exact .bool b
  | int i t => exact .int i t
  | str x t => exact .str x t
  | tup => cases hd
  | list => cases hd
  | dict => cases hd
  | cmp => cases hd

/-- a fact about objects with fields behind a frame -/
def PzOk (β : Nat) (Pz : Heap → Prop) : Prop := ∀ h h' : Heap, (∀ b o vs, β ≤ b → o.data = .fields vs → h.get? b = some o → h'.get? b = some o) → Pz h → Pz h'

/-- the state inside a generator function, since its last waking -/
def GI (X : Cx) (β : Nat) (env : Env) (ρ : Vars) (Pz : Heap → Prop) (s₀ s : Shared) : Prop :=
  ∃ W, (∀ b o, s₀.heap.get? b = some o → (β ≤ b → ∀ vs, o.data ≠ .fields vs) → X.h0.get? b = none → b ∈ W) ∧ Sv X (env.cells.map (·.1)) env ρ [] [env.locals] W s ∧ Kb [env.locals] β [] s₀ s ∧ Pz s.heap
theorem GI.weaken {β : Nat} {env : Env} {ρ ρ' : Vars} {Pz : Heap → Prop} {s₀ s : Shared} (x : GI X β env ρ Pz s₀ s) (h : ∀ x d, ρ'.lookup x = some d → ρ.lookup x = some d) : GI X β env ρ' Pz s₀ s :=
  let ⟨W, h1, h2, h3⟩ := x; ⟨W, h1, h2.weaken h, h3⟩

noncomputable def allOf (X : Cx) (s : Shared) : List Addr := (List.range s.heap.objs.size).filter fun b => (s.heap.get? b).isSome && (X.h0.get? b).isNone
theorem mem_allOf {s : Shared} {b : Addr} : b ∈ allOf X s ↔ (∃ o, s.heap.get? b = some o) ∧ X.h0.get? b = none := by
  unfold allOf
  rw [List.mem_filter]
  constructor
  · rintro ⟨_, h⟩
    rw [Bool.and_eq_true] at h
    exact ⟨Option.isSome_iff_exists.mp h.1, Option.isNone_iff_eq_none.mp h.2⟩
  · rintro ⟨⟨o, ho⟩, h0⟩
    refine ⟨List.mem_range.mpr (Heap.lt_size ho), ?_⟩
    rw [ho, h0]; rfl

theorem GI.wake {β : Nat} {env : Env} {ρ : Vars} {Pz : Heap → Prop} {s₀ s s'' : Shared} (x : GI X β env ρ Pz s₀ s) (hc : env.cells = []) (hρ : Simple ρ) (hz : PzOk β Pz) (fc : FC X env.locals β s s'') : GI X β env ρ Pz s'' s'' := by
  obtain ⟨W, _, sv, _, pz⟩ := x
  have hL : env.locals ∈ allOf X s'' := mem_allOf.mpr ⟨let ⟨o, ho⟩ := sv.fex _ sv.lF; ⟨o, fc.loc o ho⟩, sv.fb _ sv.lF⟩
  have ns : ∃ m, s''.heap.Ns env.locals m := let ⟨m, o, es, ep, ho, r⟩ := sv.ns; ⟨m, o, es, ep, fc.loc o ho, r⟩
  refine ⟨allOf X s'', fun b o e _ h0 => mem_allOf.mpr ⟨⟨o, e⟩, h0⟩, ⟨⟨sv.iv.eb, ⟨fc.base, fun b hb => (mem_allOf.mp hb).1, fun b hb => (mem_allOf.mp hb).2⟩, fun y d e => ?_⟩, ns, List.mem_singleton.mpr rfl, hL, sv.fb, fun b hb => ?_, fun b hb => ?_, fun y c e => ?_, fun y z c _ e => ?_, fun y a o e => ?_, List.nodup_nil⟩, Kp.b .refl, hz _ _ (fun b o vs h d e => fc.fld b o vs (Nat.le_succ_of_le h) d e) pz⟩
  · obtain ⟨v, hb, hr⟩ := sv.iv.vars y d e
    refine ⟨v, ?_, hr.simple (hρ y d e)⟩
    rcases hb with ⟨h1, m, ⟨o, es, ep, ho, r⟩, h3⟩ | ⟨_, c, h2, _⟩
    · exact .inl ⟨h1, m, ⟨o, es, ep, fc.loc o ho, r⟩, h3⟩
    · rw [hc] at h2; cases h2
  · rw [List.mem_singleton.mp hb]; exact (mem_allOf.mp hL).1
  · rw [List.mem_singleton.mp hb]; exact hL
  · rw [hc] at e; cases e
  · rw [hc] at e; cases e
  · cases e

/-- a step of the body's that makes no waking -/
theorem GI.step {β : Nat} {env : Env} {ρ ρ' : Vars} {Pz : Heap → Prop} {s₀ s s' : Shared} {W : List Addr} (hW : ∀ b o, s₀.heap.get? b = some o → (β ≤ b → ∀ vs, o.data ≠ .fields vs) → X.h0.get? b = none → b ∈ W) (sv : Sv X (env.cells.map (·.1)) env ρ [] [env.locals] W s) (kb : Kb [env.locals] β [] s₀ s) (pz : Pz s.heap) (hz : PzOk β Pz)
    (k : Kp [env.locals] [] s s') (sv' : Sv X (env.cells.map (·.1)) env ρ' [] [env.locals] W s') : GI X β env ρ' Pz s₀ s' := by
  refine ⟨W, hW, sv', ⟨fun b o hb hd e => k.heap b o hb (kb.heap b o hb hd e), fun g v hg e => k.gens g v hg (kb.gens g v hg e), fun e => k.bare (kb.bare e), k.os.trans kb.os⟩, hz _ _ (fun b o vs h d e => k.heap b o (fun q => ?_) e) pz⟩
  rw [List.mem_singleton.mp q] at e
  obtain ⟨m, o', es, ep, ho, hd, _⟩ := sv.ns
  rw [ho] at e; cases e; rw [hd] at d; cases d

abbrev gR (L : Addr) (β : Nat) : GenEnd := fun n s₀ r s₁ => r = .ok (.ret .none) ∧ (n = 0 ∧ Kb [L] β [] s₀ s₁)
abbrev gY (X : Cx) (L : Addr) (β : Nat) (ds : List D) : Protocol := fun m s₀ v s kap =>
  (∃ d, ds[ds.length - 1 - m]? = some d ∧ ∀ U, (∀ b ∈ U, (∃ o, s₀.heap.get? b = some o ∧ (β ≤ b → ∀ vs, o.data ≠ .fields vs)) ∧ X.h0.get? b = none) → Rep X U s.heap v d) ∧ Kb [L] β [] s₀ s ∧ (∃ o, s.heap.get? L = some o ∧ ∀ vs, o.data ≠ .fields vs) ∧ ∀ s'', FC X L β s s'' → kap (.send .none) s''

section
variable {A : Around} {c : Code} {fs : List Frame} {env : Env} {ρ ρ' : Vars} {Pz : Heap → Prop} {ds : List D} {β k m : Nat} {s₀ s : Shared}

theorem GS.ex {R : GenEnd} {Y : Protocol} {ss : List Stmt} (x : Ex X k env ρ [] ss (fun _ => False) (fun ρ' ω => ω = [] ∧ ∀ y d, ρ''.lookup y = some d → ρ'.lookup y = some d)) (ok : Ok k (A.over c fs)) (hz : PzOk β Pz) (gi : GI X β env ρ Pz s₀ s) :
    GS X A R Y c fs (execs ss env) (fun f n' s₀' s' => f = .next ∧ n' = m ∧ GI X β env ρ'' Pz s₀' s') m s₀ s := by
  obtain ⟨W, hW, sv, kb, pz⟩ := gi
  refine GS.lift (x.run _ _ W s _ ok sv (fun _ _ _ h => h.elim) fun ρ' ω' s' hkn kp sv' => ?_)
  obtain ⟨rfl, h⟩ := hkn
  exact ⟨rfl, rfl, (GI.step hW sv kb pz hz kp sv').weaken h⟩
theorem GS.ts {R : GenEnd} {Y : Protocol} {e : Expr} {b : Bool} (x : Ts X k env ρ e b) (ok : Ok k (A.over c fs)) (hz : PzOk β Pz) (gi : GI X β env ρ Pz s₀ s) :
    GS X A R Y c fs (isTrue e env (eval e env)) (fun b' n' s₀' s' => b' = b ∧ n' = m ∧ GI X β env ρ Pz s₀' s') m s₀ s := by
  obtain ⟨W, hW, sv, kb, pz⟩ := gi
  exact GS.lift (x.run _ W s _ ok sv.iv fun s' kp iv' => ⟨rfl, rfl, GI.step hW sv kb pz hz kp.any (sv.kp kp)⟩)
theorem GS.ite {R : GenEnd} {Y : Protocol} {e : Expr} {b : Bool} {body orelse : List Stmt} {pos : Pos} {Po : Flow → Nat → Shared → Shared → Prop} (x : Ts X k env ρ e b) (ok : Ok k (A.over c fs)) (hz : PzOk β Pz) (gi : GI X β env ρ Pz s₀ s)
    (h1 : b = true → ∀ s', GI X β env ρ Pz s₀ s' → GS X A R Y c fs (execs body env) Po m s₀ s') (h2 : b = false → ∀ s', GI X β env ρ Pz s₀ s' → GS X A R Y c fs (execs orelse env) Po m s₀ s') : GS X A R Y c fs (exec (.If e body orelse pos) env) Po m s₀ s := by
  rw [exec_If]
  refine GS.bind (GS.lift (wpAny_standAt ?_))
  obtain ⟨W, hW, sv, kb, pz⟩ := gi
  refine GS.bind (GS.lift (x.run _ W s _ ok sv.iv fun s' kp iv' => ?_))
  have gi' := GI.step hW sv kb pz hz kp.any (sv.kp kp)
  cases b with
  | true => exact h1 rfl s' gi'
  | false => exact h2 rfl s' gi'
theorem GS.cons {R : GenEnd} {Y : Protocol} {st : Stmt} {rest : List Stmt} {Po : Flow → Nat → Shared → Shared → Prop} (h : GS X A R Y c fs (exec st env) (fun f n s₀ s => f = .next ∧ GS X A R Y c fs (execs rest env) Po n s₀ s) m s₀ s) : GS X A R Y c fs (execs (st :: rest) env) Po m s₀ s := by
  rw [execs_cons]
  refine GS.bind (GS.mono h fun f n s₀ s hf => ?_)
  obtain ⟨rfl, hf⟩ := hf
  exact hf
theorem GS.nil {R : GenEnd} {Y : Protocol} {Po : Flow → Nat → Shared → Shared → Prop} (h : Po .next m s₀ s) : GS X A R Y c fs (execs [] env) Po m s₀ s := GS.pure h
theorem GS.yieldS {R : GenEnd} {e : Expr} {ypos pos : Pos} {d : D} {pre post : List D} (he : Ev X k env ρ e d) (ok : Ok k (A.over c fs)) (hz : PzOk β Pz) (gi : GI X β env ρ Pz s₀ s) (hds : ds = pre ++ d :: post) (hm : m = post.length + 1)
    (hcell : env.cells = []) (hρ : Simple ρ) (hfs : splitAtGen fs = none) (hfg : fs.any Frame.guarded = false) (hco : env.scope.isCoroutine = false) (hi : interactive env = false := by rfl) :
    GS X A R (gY X env.locals β ds) c fs (exec (.Expr (.Yield (some e) ypos) pos) env) (fun f n' s₀' s' => f = .next ∧ n' = post.length ∧ GI X β env ρ Pz s₀' s') m s₀ s := by
  subst hm
  rw [exec_Expr env _ pos hi rfl]
  refine GS.bind (GS.lift (wpAny_standAt ?_))
  show GS X A R _ c fs ((eval e env >>= fun v => (standAt ypos >>= fun _ => yieldOut env v)) >>= fun x => dropValue (.Yield (some e) ypos) pos x) _ _ _ _
  obtain ⟨W, hW, sv, kb, pz⟩ := gi
  refine GS.bind (GS.bind (GS.lift (he.run _ W s _ ok sv.iv fun v s₁ k₁ iv₁ r₁ => ?_)))
  refine GS.bind (GS.lift (wpAny_standAt ?_))
  have sv₁ := sv.kp k₁
  have gi₁ := GI.step hW sv kb pz hz k₁.any sv₁
  refine GS.yield hco hfs hfg fun kap hkap => ⟨⟨d, ?_, fun U hU => r₁.sub fun b hb => let ⟨⟨o, ho, hd⟩, h0⟩ := hU b hb; hW b o ho hd h0⟩, gi₁.choose_spec.2.2.1, (let ⟨_, o, _, _, ho, hd, _⟩ := sv₁.ns; ⟨o, ho, fun vs q => by rw [hd] at q; cases q⟩), fun s'' fc => hkap .none s'' ?_⟩
  · rw [hds]
    simp
  · exact GS.pure ⟨rfl, rfl, gi₁.wake hcell hρ hz fc⟩
end
end Mine

end
section
namespace Mine
variable {X : Cx}

def escs : List Nat → Nat → Bool → List (Nat × List Nat)
  | [], i, true => [(i - 1, [92])]
  | [], _, false => []
  | c :: cs, i, true => (i, [92, c]) :: escs cs (i + 1) false
  | c :: cs, i, false => if c = 92 then escs cs (i + 1) true else (i, [c]) :: escs cs (i + 1) false
def outD (p : Nat × List Nat) : D := .tup [.int (p.1 : Nat), .str ⟨p.2.toArray⟩]
def escD (x : Str) : List D := (escs x.cps.toList 0 false).map outD

def gFor : Expr × Expr × List Stmt :=
  match (recAt 1).body with
  | _ :: _ :: .For t i b _ _ :: _ => (t, i, b)
  | _ => (.Constant .none 0 default, .Constant .none 0 default, [])

def ρc (x : Str) (b : Bool) (i : Nat) : Vars := [("escape", .bool b), ("addr", .str x), ("pos", .int ((i - 1 : Nat) : Int))]

theorem pz_en {β : Nat} {x : Str} {t : Tok} {e it : Addr} {i : Nat} (he : β ≤ e) (hi : β ≤ it) : PzOk β (EnSt x t e it i) := fun h h' hk st => by
  obtain ⟨⟨old, h1⟩, o, h2, hc, hd⟩ := st
  exact ⟨⟨old, hk _ _ _ he rfl h1⟩, o, hk _ _ _ hi hd h2, hc, hd⟩

theorem bs_cat (c : Nat) : (("\\" : Str) ++ (⟨#[c]⟩ : Str)) = ⟨#[92, c]⟩ := by
  show Str.mk _ = _
  rfl

theorem simple_of {ρ : Vars} (h : (ρ.all fun p => simp1 p.2) = true) : Simple ρ := fun x d e => by
  have := mem_of_lookup e
  exact List.all_eq_true.mp h _ this

section
variable {β : Nat} {A : Around} {L a : Addr} {cd : Value} {x : Str} {t : Tok} {e it : Addr}

/-- one turn's body -/
theorem gen_turn {c : Code} {fs : List Frame} {i : Nat} {ch : Nat} {cs : List Nat} {b : Bool} {pre : List D} {s₀ s : Shared} {Pz : Heap → Prop} (hz : PzOk β Pz) (ok : Ok 0 (A.over c fs)) (hfs : splitAtGen fs = none) (hfg : fs.any Frame.guarded = false)
    (hds : escD x = pre ++ (escs (ch :: cs) i b).map outD) (gi : GI X β (envOf (recAt 1).name (recAt 1).scope L a cd) (("ch", .str ⟨#[ch]⟩) :: ("pos", .int (i : Nat)) :: ρc x b i) Pz s₀ s) :
    GS X A (gR L β) (gY X L β (escD x)) c fs (execs gFor.2.2 (envOf (recAt 1).name (recAt 1).scope L a cd)) (fun f n' s₀' s' => f = .next ∧ ∃ b' pre', n' = (escs cs (i + 1) b').length ∧ escD x = pre' ++ (escs cs (i + 1) b').map outD ∧ GI X β (envOf (recAt 1).name (recAt 1).scope L a cd) (ρc x b' (i + 1)) Pz s₀' s')
      (escs (ch :: cs) i b).length s₀ s := by
  have loc : ∀ y, (recAt 1).scope.names.lookup y = some .local → Stor ((envOf (recAt 1).name (recAt 1).scope L a cd).cells.map (·.1)) (envOf (recAt 1).name (recAt 1).scope L a cd) y := fun y h => .inl h
  have wk : ∀ (b' : Bool) (ρ : Vars), ρ.lookup ("escape" : Str) = some (.bool b') → ρ.lookup ("addr" : Str) = some (.str x) → ρ.lookup ("pos" : Str) = some (.int (i : Nat)) → ∀ y d, (ρc x b' (i + 1)).lookup y = some d → ρ.lookup y = some d := fun b' ρ h1 h2 h3 y d e => by
    simp only [ρc, List.lookup_cons, List.lookup_nil] at e
    split at e
    · rename_i hy; rw [eq_of_beq hy]; cases e; exact h1
    · split at e
      · rename_i hy; rw [eq_of_beq hy]; cases e; exact h2
      · split at e
        · rename_i hy; rw [eq_of_beq hy]; cases e; exact h3
        · cases e
  refine GS.cons (GS.ite (b := b) (.bool (.name rfl)) ok hz gi (fun hb s' gi' => ?_) (fun hb s' gi' => ?_))
  · subst hb
    have e1 : (escs (ch :: cs) i true).length = ((escs cs (i + 1) false).map outD).length + 1 := by simp [escs]
    refine GS.cons (GS.mono (GS.yieldS (d := outD (i, [92, ch])) (pre := pre) (post := (escs cs (i + 1) false).map outD) ?_ ok hz gi' hds e1 rfl (simple_of rfl) hfs hfg rfl) fun f n' s₀' s'' h => ?_)
    · refine Ev.tuple (.cons (.name rfl) (.cons ?_ .nil)) (by show (2 : Nat) ≤ sizeLine; decide)
      exact bs_cat ch ▸ .cat .str (.name rfl) (by show (2 : Nat) ≤ sizeLine; decide)
    · obtain ⟨rfl, rfl, gi''⟩ := h
      refine ⟨rfl, GS.mono (GS.ex (ρ'' := ρc x false (i + 1)) (.assign .bool (loc _ rfl) (by simp) (.nil ⟨rfl, wk false _ rfl rfl rfl⟩)) ok hz gi'') fun f n' s₀' s'' h => ?_⟩
      obtain ⟨rfl, rfl, gi3⟩ := h
      exact ⟨rfl, GS.nil ⟨rfl, false, pre ++ [outD (i, [92, ch])], by simp, by rw [hds]; simp [escs], gi3⟩⟩
  · subst hb
    refine GS.cons (GS.ite (b := (⟨#[ch]⟩ : Str) == "\\") (.cmp (.name rfl) .str CmpI.eqs) ok hz gi' (fun hb s'' gi'' => ?_) (fun hb s'' gi'' => ?_))
    · have hc : ch = 92 := by
        have := eq_of_beq hb
        have := congrArg Str.cps this
        have e2 : (⟨#[ch]⟩ : Str).cps = #[92] := this
        simpa using e2
      have es : escs (ch :: cs) i false = escs cs (i + 1) true := by simp [escs, hc]
      rw [es]
      refine GS.mono (GS.ex (ρ'' := ρc x true (i + 1)) (.assign .bool (loc _ rfl) (by simp) (.nil ⟨rfl, wk true _ rfl rfl rfl⟩)) ok hz gi'') fun f n' s₀' s3 h => ?_
      obtain ⟨rfl, rfl, gi3⟩ := h
      exact ⟨rfl, GS.nil ⟨rfl, GS.nil ⟨rfl, true, pre, rfl, by rw [hds, es], gi3⟩⟩⟩
    · have hc : ¬ ch = 92 := fun q => by
        rw [q] at hb
        have : ((⟨#[92]⟩ : Str) == "\\") = true := by decide
        rw [this] at hb; cases hb
      have es : escs (ch :: cs) i false = (i, [ch]) :: escs cs (i + 1) false := by simp [escs, hc]
      rw [es]
      refine GS.cons (GS.mono (GS.yieldS (d := outD (i, [ch])) (pre := pre) (post := (escs cs (i + 1) false).map outD) ?_ ok hz gi'' (by rw [hds, es]; rfl) (by simp) rfl (simple_of rfl) hfs hfg rfl) fun f n' s₀' s3 h => ?_)
      · exact .tuple (.cons (.name rfl) (.cons (.name rfl) .nil)) (by show (2 : Nat) ≤ sizeLine; decide)
      · obtain ⟨rfl, rfl, gi3⟩ := h
        exact ⟨rfl, GS.nil ⟨rfl, GS.nil ⟨rfl, GS.nil ⟨rfl, false, pre ++ [outD (i, [ch])], by simp, by rw [hds, es]; simp, gi3.weaken (wk false _ rfl rfl rfl)⟩⟩⟩⟩
end
end Mine

end
section
namespace Mine
variable {X : Cx}

abbrev gEnv (L a : Addr) (cd : Value) : Env := envOf (recAt 1).name (recAt 1).scope L a cd

/-- what stood at first lies below -/
def Below (X : Cx) (L : Nat) : Prop := ∀ b o, X.h0.get? b = some o → @LT.lt Nat _ b L
theorem Below.none {L : Nat} (h : Below X L) {b : Addr} (hb : @LE.le Nat _ L b) : X.h0.get? b = Option.none := by
  cases e : X.h0.get? b with
  | none => rfl
  | some o => exact absurd (h b o e) (Nat.not_lt.mpr hb)
theorem Below.mono {L M : Nat} (h : Below X L) (hm : L ≤ M) : Below X M := fun b o e => Nat.lt_of_lt_of_le (h b o e) hm
theorem en_wok {β : Nat} {W : List Addr} {e it : Addr} {x : Str} {t : Tok} {i : Nat} {s : Shared} (w : Wok X W s) (pz : EnSt x t e it i s.heap) (h0L : Below X β) (he : β ≤ e) (hi : β ≤ it) : Wok X ([e, it] ++ W) s := by
  obtain ⟨⟨old, h1⟩, o, h2, _⟩ := pz
  have q : ∀ b ∈ [e, it], (∃ o, s.heap.get? b = some o) ∧ β ≤ b := fun b hb => by
    rcases List.mem_cons.mp hb with rfl | hb
    · exact ⟨⟨_, h1⟩, he⟩
    · rw [List.mem_singleton.mp hb]; exact ⟨⟨_, h2⟩, hi⟩
  exact ⟨w.base, fun b hb => (List.mem_append.mp hb).elim (fun m => (q b m).1) (w.wex b), fun b hb => (List.mem_append.mp hb).elim (fun m => h0L.none (q b m).2) (w.wb b)⟩

theorem Sv.simply {oc : List Str} {env : Env} {ρ : Vars} {W W' : List Addr} {s s' : Shared} (sv : Sv X oc env ρ [] [env.locals] W s) (hc : env.cells = []) (hρ : Simple ρ) (hl : ∀ o, s.heap.get? env.locals = some o → s'.heap.get? env.locals = some o) (wok : Wok X W' s') (hL : env.locals ∈ W') : Sv X oc env ρ [] [env.locals] W' s' := by
  refine ⟨⟨sv.iv.eb, wok, fun y d e => ?_⟩, let ⟨m, o, es, ep, ho, r⟩ := sv.ns; ⟨m, o, es, ep, hl o ho, r⟩, List.mem_singleton.mpr rfl, hL, sv.fb, fun b hb => ?_, fun b hb => ?_, fun y c e => ?_, fun y z c _ e => ?_, fun y a o e => ?_, List.nodup_nil⟩
  · obtain ⟨v, hb, hr⟩ := sv.iv.vars y d e
    refine ⟨v, ?_, hr.simple (hρ y d e)⟩
    rcases hb with ⟨h1, m, ⟨o, es, ep, ho, r⟩, h3⟩ | ⟨_, c, h2, _⟩
    · exact .inl ⟨h1, m, ⟨o, es, ep, hl o ho, r⟩, h3⟩
    · rw [hc] at h2; cases h2
  · rw [List.mem_singleton.mp hb]; exact let ⟨o, ho⟩ := sv.fex _ sv.lF; ⟨o, hl o ho⟩
  · rw [List.mem_singleton.mp hb]; exact hL
  · rw [hc] at e; cases e
  · rw [hc] at e; cases e
  · cases e
theorem en_next {β : Nat} {W : List Addr} {e it : Addr} {s s' : Shared} (w : Wok X ([e, it] ++ W) s) (k : Kb [e, it] s.heap.objs.size [] s s') (hlive : ∀ b ∈ [e, it], ∃ o, s'.heap.get? b = some o) (h0L : Below X β) (he : β ≤ e) (hi : β ≤ it) : Wok X ([e, it] ++ W) s' := by
  have keep : ∀ b o, b ∉ [e, it] → s.heap.get? b = some o → s'.heap.get? b = some o := fun b o hb q => k.heap b o hb (fun m => absurd (Nat.lt_of_lt_of_le (Heap.lt_size q) m) (Nat.lt_irrefl _)) q
  refine ⟨fun b o q => keep b o (fun m => ?_) (w.base b o q), fun b hb => ?_, w.wb⟩
  · have hlt : @LT.lt Nat _ b β := h0L b o q
    rcases List.mem_cons.mp m with rfl | m
    · exact Nat.lt_irrefl _ (Nat.lt_of_lt_of_le hlt he)
    · rw [List.mem_singleton.mp m] at hlt; exact Nat.lt_irrefl _ (Nat.lt_of_lt_of_le hlt hi)
  · by_cases m : b ∈ [e, it]
    · exact hlive b m
    · exact let ⟨o, ho⟩ := w.wex b hb; ⟨o, keep b o m ho⟩

/-- a step of the source, seen since the last waking -/
theorem Kb.inner {β γ : Nat} {L e it : Addr} {x : Str} {t : Tok} {i : Nat} {s₀ s s' : Shared} (kb : Kb [L] β [] s₀ s) (pz : EnSt x t e it i s.heap) (k : Kb [e, it] γ [] s s') (hβ : ∀ b o, s.heap.get? b = some o → b < γ) (he : β ≤ e) (hi : β ≤ it) : Kb [L] β [] s₀ s' := by
  refine ⟨fun b o hb hd e' => ?_, fun g v hg e' => k.gens g v hg (kb.gens g v hg e'), fun e' => k.bare (kb.bare e'), k.os.trans kb.os⟩
  have h1 := kb.heap b o hb hd e'
  refine k.heap b o (fun m => ?_) (fun q => absurd (Nat.lt_of_lt_of_le (hβ b o h1) q) (Nat.lt_irrefl _)) h1
  obtain ⟨⟨old, p1⟩, o', p2, _, p3⟩ := pz
  rcases List.mem_cons.mp m with rfl | m
  · rw [p1] at h1; cases h1; exact hd he _ rfl
  · rw [List.mem_singleton.mp m] at h1 hd
    rw [p2] at h1; cases h1; exact hd hi _ p3

section
variable {β : Nat} {A : Around} {L a : Addr} {cd : Value} {x : Str} {t : Tok} {e it : Addr}

theorem gen_loop {k : Result → Sem PySem.Fin} {l : List Value} {p : Pos} {c : Code} {fs : List Frame} (ok : Ok 0 (A.over (.forLoop gFor.1 (.ref e) gFor.2.2 [] (gEnv L a cd)) (.ret k none false l c p [] :: fs))) (hfs : splitAtGen (.ret k none false l c p [] :: fs) = none) (hfg : ((.ret k none false l c p [] : Frame) :: fs).any Frame.guarded = false)
    (h0L : Below X β) (he : β ≤ e) (hi : β ≤ it) (hne : e ≠ it) (hLe : L ≠ e) (hLi : L ≠ it)
    (hk : ∀ b n' s₀' s' pre, n' = (escs [] x.cps.size b).length → escD x = pre ++ (escs [] x.cps.size b).map outD → GI X β (gEnv L a cd) (ρc x b x.cps.size) (fun _ => True) s₀' s' → Seg (model X.P X.w) A (gR L β) (gY X L β (escD x)) n' s₀' c (k (.ok .next)) fs s') :
    ∀ (cs : List Nat) (i : Nat) (b : Bool) (s₀ s : Shared) (pre : List D), x.cps.toList.drop i = cs → i ≤ x.cps.size → escD x = pre ++ (escs cs i b).map outD → GI X β (gEnv L a cd) (ρc x b i) (EnSt x t e it i) s₀ s →
      Seg (model X.P X.w) A (gR L β) (gY X L β (escD x)) (escs cs i b).length s₀ (.forLoop gFor.1 (.ref e) gFor.2.2 [] (gEnv L a cd)) ((model X.P X.w).den (.forLoop gFor.1 (.ref e) gFor.2.2 [] (gEnv L a cd))) (.ret k none false l c p [] :: fs) s := by
  have hwr : ∀ b ∈ [(gEnv L a cd).locals], b ∉ [e, it] := fun b hb m => by
    rw [List.mem_singleton.mp hb] at m
    rcases List.mem_cons.mp m with q | q
    · exact hLe q
    · exact hLi (List.mem_singleton.mp q)
  intro cs
  induction cs with
  | nil =>
    intro i b s₀ s pre hdrop hle hds gi
    have hi' : i = x.cps.size := by
      have := congrArg List.length hdrop
      rw [List.length_drop, Array.length_toList, List.length_nil] at this
      omega
    subst hi'
    obtain ⟨W, hW, sv, kb, pz⟩ := gi
    show Seg _ _ _ _ _ _ _ ((forTurn _ _ _ _ _).onRaise _) _ _
    rw [Sem.onRaise_eq_wrap]
    refine GS.bind (α := Unit) (Po := fun fin n' s₀' s' => Seg (model X.P X.w) A (gR L β) (gY X L β (escD x)) n' s₀' (.forLoop gFor.1 (.ref e) gFor.2.2 [] (gEnv L a cd)) (pure fin) (.ret k none false l c p [] :: fs) s') (GS.lift (wpAny_standAt ?_)) _ _ _ _ rfl fun fin n' s₀' s' h => h
    refine GS.bind (GS.onRaise (GS.lift ?_))
    have itr := enumItr (X := X) (W := W) (β := s.heap.objs.size) ok.h x t e it hne
    have hlen : (enumD x).length = x.cps.size := by simp [enumD]
    have wW := en_wok sv.iv.wok pz h0L he hi
    have hlv : ∀ s', Kb [e, it] s.heap.objs.size [] s s' → ∀ o, s.heap.get? L = some o → s'.heap.get? L = some o := fun s' k o q => k.heap L o (hwr L (List.mem_singleton.mpr rfl)) (fun m => absurd (Nat.lt_of_lt_of_le (Heap.lt_size q) m) (Nat.lt_irrefl _)) q
    refine wpAny_mono (itr.done [e, it] s (fun s' => Kb [e, it] s.heap.objs.size [] s s') ⟨rfl, hlen ▸ pz, trivial⟩ wW fun s' k => k) (fun r s' h => ?_) fun _ _ q => q
    cases r with
    | some v => exact h.elim
    | none =>
      refine GS.pure (seg_again rfl ?_)
      refine seg_leaf (.ok .next) (hk b _ _ _ pre rfl hds ?_)
      have kb' := kb.inner pz h (fun _ _ q => Heap.lt_size q) he hi
      have hbase : ∀ b o, X.h0.get? b = some o → s'.heap.get? b = some o := fun b o q => by
        have hlt : @LT.lt Nat _ b β := h0L b o q
        have q' := sv.iv.wok.base b o q
        refine h.heap b o (fun m => ?_) (fun m => absurd (Nat.lt_of_lt_of_le (Heap.lt_size q') m) (Nat.lt_irrefl _)) q'
        rcases List.mem_cons.mp m with rfl | m
        · exact Nat.lt_irrefl _ (Nat.lt_of_lt_of_le hlt he)
        · rw [List.mem_singleton.mp m] at hlt; exact Nat.lt_irrefl _ (Nat.lt_of_lt_of_le hlt hi)
      have hL' : ∃ o, s'.heap.get? L = some o := let ⟨o, ho⟩ := sv.fex _ sv.lF; ⟨o, hlv s' h o ho⟩
      refine ⟨allOf X s', fun b o q1 q2 q3 => mem_allOf.mpr ⟨?_, q3⟩, sv.simply rfl (simple_of rfl) (hlv s' h) ⟨hbase, fun b hb => (mem_allOf.mp hb).1, fun b hb => (mem_allOf.mp hb).2⟩ (mem_allOf.mpr ⟨hL', sv.fb _ sv.lF⟩), kb', trivial⟩
      by_cases hb : b = L
      · subst hb; exact hL'
      · exact ⟨o, kb'.heap b o (fun m => hb (List.mem_singleton.mp m)) q2 q1⟩
  | cons ch cs ih =>
    intro i b s₀ s pre hdrop hle hds gi
    obtain ⟨W, hW, sv, kb, pz⟩ := gi
    have hlt : i < x.cps.size := by
      have := congrArg List.length hdrop
      rw [List.length_drop, Array.length_toList, List.length_cons] at this
      omega
    have hch : x.cps.getD i 0 = ch := by
      have h1 : x.cps.toList[i]? = some ch := by
        have := congrArg List.head? hdrop
        rw [List.head?_drop] at this
        exact this
      have h2 : x.cps[i]? = some ch := by simpa using h1
      simp [Array.getD_eq_getD_getElem?, h2]
    have hdrop' : x.cps.toList.drop (i + 1) = cs := by
      have := congrArg List.tail hdrop
      rw [List.tail_drop] at this
      exact this
    show Seg _ _ _ _ _ _ _ ((forTurn _ _ _ _ _).onRaise _) _ _
    rw [Sem.onRaise_eq_wrap]
    refine GS.bind (α := Unit) (Po := fun fin n' s₀' s' => Seg (model X.P X.w) A (gR L β) (gY X L β (escD x)) n' s₀' (.forLoop gFor.1 (.ref e) gFor.2.2 [] (gEnv L a cd)) (pure fin) (.ret k none false l c p [] :: fs) s') (GS.lift (wpAny_standAt ?_)) _ _ _ _ rfl fun fin n' s₀' s' h => h
    refine GS.bind (GS.onRaise (GS.lift ?_))
    have itr := enumItr (X := X) (W := W) (β := s.heap.objs.size) ok.h x t e it hne
    have wW := en_wok sv.iv.wok pz h0L he hi
    have hd : (enumD x)[i]? = some (D.tup [.int (i : Nat), .str ⟨#[ch]⟩]) := by
      rw [enumD, List.getElem?_map, List.getElem?_range hlt, ← hch]; rfl
    refine wpAny_mono (itr.step i [e, it] s _ gFor.1 (fun v s' => Kb [e, it] s.heap.objs.size [] s s' ∧ Rep X ([e, it] ++ W) s'.heap v (D.tup [.int (i : Nat), .str ⟨#[ch]⟩]) ∧ EnSt x t e it (i + 1) s'.heap) hd ⟨rfl, pz, trivial⟩ wW (fun b _ o ho q => absurd (Nat.lt_of_lt_of_le (Heap.lt_size ho) q) (Nat.lt_irrefl _)) (fun _ => ⟨_, _, _, rfl⟩) fun v wr' s' hn hsub r st k => ?_) (fun r s' h => ?_) fun _ _ q => q
    · obtain ⟨rfl, st, _⟩ := st
      exact ⟨k, r, st⟩
    cases r with
    | none => exact h.elim
    | some v =>
      refine GS.bind (GS.lift (wpAny_mono h (fun _ s₂ h₂ => ?_) fun _ _ q => q))
      obtain ⟨k₂, r₂, st₂⟩ := h₂
      have hlv : ∀ o, s.heap.get? L = some o → s₂.heap.get? L = some o := fun o q => k₂.heap L o (hwr L (List.mem_singleton.mpr rfl)) (fun m => absurd (Nat.lt_of_lt_of_le (Heap.lt_size q) m) (Nat.lt_irrefl _)) q
      have live₂ : ∀ b ∈ [e, it], ∃ o, s₂.heap.get? b = some o := itr.live (i + 1) [e, it] s₂ ⟨rfl, st₂, trivial⟩
      have wW₂ := en_next wW k₂ live₂ h0L he hi
      have sv₂ := sv.simply rfl (simple_of rfl) hlv wW₂ (List.mem_append_right _ sv.lW)
      have kb₂ := kb.inner pz k₂ (fun _ _ q => Heap.lt_size q) he hi
      have hW₂ : ∀ b o, s₀.heap.get? b = some o → (β ≤ b → ∀ vs, o.data ≠ .fields vs) → X.h0.get? b = none → b ∈ [e, it] ++ W := fun b o q1 q2 q3 => List.mem_append_right _ (hW b o q1 q2 q3)
      have asg : Asg X 0 [] (gEnv L a cd) gFor.1 (D.tup [.int (i : Nat), .str ⟨#[ch]⟩]) (ρc x b i) [] (("ch", .str ⟨#[ch]⟩) :: ("pos", .int (i : Nat)) :: ρc x b i) := .pair (.inl rfl) (.inl rfl) (by simp) (by simp)
      refine GS.bind (GS.lift (asg.run _ _ _ s₂ v _ ok sv₂ r₂ fun s₃ k₃ sv₃ => ?_))
      have hz : PzOk β (EnSt x t e it (i + 1)) := pz_en he hi
      have gi₃ := GI.step hW₂ sv₂ kb₂ st₂ hz k₃ sv₃
      refine GS.bind (GS.mono (gen_turn hz ok hfs hfg hds gi₃) fun f n' s₀' s' h => ?_)
      obtain ⟨rfl, b', pre', rfl, hds', gi'⟩ := h
      exact GS.pure (seg_again rfl (ih (i + 1) b' s₀' s' pre' hdrop' hlt hds' gi'))
end
end Mine

end
section
namespace Mine
variable {X : Cx}

def bnames : List Str := ["enumerate", "len", "range", "zip", "sum", "str", "isinstance", "tuple"]
/-- what one knows of the names at the top -/
structure Bt (X : Cx) : Prop where
  hP : ∀ i ∈ [1, 2, 3, 4, 7, 8, 10, 11, 12, 13], recAt i ∈ recsOf X.V
  free : ∀ x ∈ bnames, X.mg x = none
theorem Bt.mb (_ : Bt X) {x : Str} (h : x ≠ "__name__") : X.mb x = bootBuiltins x := X.T.builtins x h

theorem GS.exs {A : Around} {c : Code} {fs : List Frame} {env : Env} {ρ ρ'' : Vars} {Pz : Heap → Prop} {β k m : Nat} {s₀ s : Shared} {R : GenEnd} {Y : Protocol} {ss rest : List Stmt} {Po : Flow → Nat → Shared → Shared → Prop}
    (x : Ex X k env ρ [] ss (fun _ => False) (fun ρ' ω => ω = [] ∧ ∀ y d, ρ''.lookup y = some d → ρ'.lookup y = some d)) (ok : Ok k (A.over c fs)) (hz : PzOk β Pz) (gi : GI X β env ρ Pz s₀ s)
    (h : ∀ s', GI X β env ρ'' Pz s₀ s' → GS X A R Y c fs (execs rest env) Po m s₀ s') : GS X A R Y c fs (execs (ss ++ rest) env) Po m s₀ s := by
  rw [execs_append]
  obtain ⟨W, hW, sv, kb, pz⟩ := gi
  refine GS.bind (GS.lift (x.run _ _ W s _ ok sv (fun _ _ _ h => h.elim) fun ρ' ω' s' hkn kp sv' => ?_))
  obtain ⟨rfl, hw⟩ := hkn
  exact h s' ((GI.step hW sv kb pz hz kp sv').weaken hw)

theorem gen_body (bt : Bt X) {A : Around} {L a : Addr} {cd : Value} {x : Str} {t : Tok} {I : Addr} {β : Nat} {s : Shared} (ok : ∀ c fs, frameCount (fs.map Frame.where_) + c.weight ≤ 1 → unitsOf (fs.map Frame.where_) + c.cUnits ≤ 16 → (marksOver fs (A.handled, A.handled)).1 = A.handled → Ok 0 (A.over c fs))
    (h0L : Below X L) (hLI : L < I) (hβ : β = I + 1) (hI : ∃ o, s.heap.get? I = some o) (base : ∀ b o, X.h0.get? b = some o → s.heap.get? b = some o) {m : Str → Option Value} (ns : s.heap.Ns L m) (hm : m "addr" = some (.str x t)) :
    Seg (model X.P X.w) A (gR L β) (gY X L β (escD x)) (escD x).length s (.func (recAt 1).body (gEnv L a cd)) ((model X.P X.w).den (.func (recAt 1).body (gEnv L a cd))) [] s := by
  have ok1 : Ok 0 (A.over (.func (recAt 1).body (gEnv L a cd)) []) := ok _ _ (by show (1 : Nat) ≤ 1; decide) (by show (3 : Nat) ≤ 16; decide) rfl
  have hL : ∃ o, s.heap.get? L = some o := let ⟨o, _, _, ho, _⟩ := ns; ⟨o, ho⟩
  have hL0 : X.h0.get? L = none := h0L.none (Nat.le_refl _)
  have gi : GI X β (gEnv L a cd) [("addr", .str x)] (fun _ => True) s s := by
    have hLA : L ∈ allOf X s := mem_allOf.mpr ⟨hL, hL0⟩
    refine ⟨allOf X s, fun b o e _ h0 => mem_allOf.mpr ⟨⟨o, e⟩, h0⟩, ⟨⟨⟨rfl, rfl, rfl⟩, ⟨base, fun b hb => (mem_allOf.mp hb).1, fun b hb => (mem_allOf.mp hb).2⟩, fun y d e => ?_⟩, ⟨m, ns⟩, List.mem_singleton.mpr rfl, hLA, fun b hb => ?_, fun b hb => ?_, fun b hb => ?_, fun y c e => ?_, fun y z c _ e => ?_, fun y a o e => ?_, List.nodup_nil⟩, Kp.b .refl, trivial⟩
    · rw [List.lookup_cons, List.lookup_nil] at e
      split at e
      · rename_i hy
        cases e
        rw [eq_of_beq hy]
        exact ⟨_, .inl ⟨rfl, m, ns, hm⟩, .str _ _⟩
      · cases e
    · rw [List.mem_singleton.mp hb]; exact hL0
    · rw [List.mem_singleton.mp hb]; exact hL
    · rw [List.mem_singleton.mp hb]; exact hLA
    · cases e
    · cases e
    · cases e
  refine seg_func ?_
  have body : GS X A (gR L β) (gY X L β (escD x)) (.func (recAt 1).body (gEnv L a cd)) [] (execs (recAt 1).body (gEnv L a cd)) (fun f n' s₀' s' => f = .next ∧ n' = 0 ∧ Kb [L] β [] s₀' s') (escD x).length s s := by
    have wk : ∀ (ρ : Vars), ρ.lookup ("escape" : Str) = some (.bool false) → ρ.lookup ("addr" : Str) = some (.str x) → ρ.lookup ("pos" : Str) = some (.int 0) → ∀ y d, (ρc x false 0).lookup y = some d → ρ.lookup y = some d := fun ρ h1 h2 h3 y d e => by
      simp only [ρc, List.lookup_cons, List.lookup_nil] at e
      split at e
      · rename_i hy; rw [eq_of_beq hy]; cases e; exact h1
      · split at e
        · rename_i hy; rw [eq_of_beq hy]; cases e; exact h2
        · split at e
          · rename_i hy; rw [eq_of_beq hy]; cases e; exact h3
          · cases e
    have hzT : PzOk β (fun _ => True) := fun _ _ _ _ => trivial
    refine GS.exs (ss := [_, _]) (ρ'' := ρc x false 0) (.assign .int (.inl rfl) (by simp) (.assign .bool (.inl rfl) (by simp) (.nil ⟨rfl, wk _ rfl rfl rfl⟩))) ok1 hzT gi fun s₁ gi₁ => ?_
    refine GS.cons ?_
    rw [exec_For]
    refine GS.bind (GS.lift (wpAny_standAt ?_))
    obtain ⟨W, hW, sv, kb, _⟩ := gi₁
    refine GS.bind (GS.lift (callType ok1 sv.iv rfl (bt.free _ (by decide)) ((bt.mb (by decide)).trans rfl) (.cons (.name (d := .str x) rfl) .nil) fun vs s₂ k₂ iv₂ rs => ?_))
    cases rs with
    | cons r1 rs =>
    cases rs
    cases r1 with
    | str _ t' =>
    have sv₂ := sv.kp k₂
    refine call_enumerate_str fun h' hE hIt hsz hkeep => ?_
    have k₃ : Kp [] [] s₂ { s₂ with heap := h' } := .of_heap (tk := s₂.toks) fun b o _ q => hkeep b o q
    have sv₃ := sv₂.kp k₃
    have k13 : Kp [L] [] s₁ { s₂ with heap := h' } := (k₂.trans k₃).any
    have hsz2 : β ≤ s₂.heap.objs.size := by
      obtain ⟨o, ho⟩ := hI
      have h1 := kb.heap I o (fun q => Nat.ne_of_gt hLI (List.mem_singleton.mp q)) (fun q => absurd q (by rw [hβ]; exact Nat.not_succ_le_self I)) ho
      rw [hβ]
      exact Heap.lt_size (k₂.keep _ _ h1)
    have gi₃ : GI X β (gEnv L a cd) (ρc x false 0) (EnSt x t' (s₂.heap.objs.size + 1) s₂.heap.objs.size 0) s { s₂ with heap := h' } := by
      obtain ⟨W', hW', sv', kb', _⟩ := GI.step (Pz := fun _ => True) hW sv kb trivial hzT k13 sv₃
      exact ⟨W', hW', sv', kb', ⟨.none, hE⟩, hIt⟩
    clear sv₃ sv₂ sv kb hW
    refine GS.bind (GS.lift (wpAny_of_eq rfl ?_))
    refine GS.bind (GS.lift (wpAny_standAt ?_))
    refine GS.bind (GS.lift (wpAny_holding (wpAny_pyIter_enum hE ?_)))
    refine GS.onRaise (GS.run fun k l p hk => ?_)
    have hLe : L ≠ s₂.heap.objs.size + 1 := neN (by have : @LT.lt Nat _ L I := hLI; omega)
    have hLi : L ≠ s₂.heap.objs.size := neN (by have : @LT.lt Nat _ L I := hLI; omega)
    rw [show (escD x).length = (escs x.cps.toList 0 false).length from List.length_map ..]
    refine gen_loop (k := k) (l := l) (p := p) (c := .func (recAt 1).body (gEnv L a cd)) (fs := []) (x := x) (t := t') (e := s₂.heap.objs.size + 1) (it := s₂.heap.objs.size) (ok _ _ (by show (1 : Nat) ≤ 1; decide) (by show (3 : Nat) ≤ 16; decide) rfl) rfl rfl (h0L.mono (by have : @LT.lt Nat _ L I := hLI; omega)) (Nat.le_succ_of_le hsz2) hsz2 (neN (by omega)) hLe hLi ?_ x.cps.toList 0 false s _ [] rfl (Nat.zero_le _) rfl gi₃
    intro b n' s₀' s' pre hn hds gi'
    refine hk .next n' s₀' s' ⟨rfl, GS.cons (GS.ite (b := b) (.bool (.name rfl)) ok1 hzT gi' (fun hb s'' gi'' => ?_) (fun hb s'' gi'' => ?_))⟩
    · subst hb
      refine GS.cons (GS.mono (GS.yieldS (d := outD (x.cps.size - 1, [92])) (pre := pre) (post := []) (.tuple (.cons (.name rfl) (.cons .str .nil)) (by show (2 : Nat) ≤ sizeLine; decide)) ok1 hzT gi'' hds hn rfl (simple_of rfl) rfl rfl rfl) fun f n3 s3 s4 h => ?_)
      obtain ⟨rfl, rfl, gi4⟩ := h
      exact ⟨rfl, GS.nil ⟨rfl, GS.nil ⟨rfl, rfl, let ⟨_, _, _, kb, _⟩ := gi4; kb⟩⟩⟩
    · subst hb
      exact GS.nil ⟨rfl, GS.nil ⟨rfl, hn, let ⟨_, _, _, kb, _⟩ := gi''; kb⟩⟩
  exact body _ _ _ _ rfl fun f n' s₀' s' h => by
    obtain ⟨rfl, rfl, kb⟩ := h
    exact seg_end (.ok (.ret .none)) ⟨rfl, rfl, kb⟩
end Mine

end
section
namespace Mine
variable {X : Cx}

theorem bare_set {s : Shared} {g : Nat} {gs : GenState} (h : AllBare s.gens) (hb : gs.bare = true) : AllBare (s.setGen g gs).gens := fun y hy => by
  have hy : y ∈ s.gens.setIfInBounds g gs := hy
  rcases Array.mem_or_eq_of_mem_setIfInBounds hy with q | q
  · exact h y q
  · rw [q]; exact hb
theorem gens_set {s : Shared} {g g' : Nat} {gs x : GenState} (hne : g' ≠ g) (h : s.gens[g']? = some x) : (s.setGen g gs).gens[g']? = some x := by
  show (s.gens.setIfInBounds g gs)[g']? = some x
  rw [Array.getElem?_setIfInBounds_ne (Ne.symm hne)]; exact h
theorem gens_set_self {s : Shared} {g : Nat} {gs x : GenState} (h : s.gens[g]? = some x) : (s.setGen g gs).gens[g]? = some gs := by
  show (s.gens.setIfInBounds g gs)[g]? = some gs
  have hlt : g < s.gens.size := (Array.getElem?_eq_some_iff.mp h).1
  rw [Array.getElem?_setIfInBounds]; simp [hlt]

structure GSt (X : Cx) (A : Around) (L I : Addr) (g : Nat) (ds : List D) (i : Nat) (wr : List Addr) (s : Shared) : Prop where
  wr : wr = [L]
  gen : s.heap.IsGen I g
  loc : ∃ o, s.heap.get? L = some o ∧ ∀ vs, o.data ≠ .fields vs
  base : ∀ b o, X.h0.get? b = some o → s.heap.get? b = some o
  go : ∃ gs, s.gens[g]? = some gs ∧ ∀ s'' : Shared, FC X L (I + 1) s s'' → gs.Goes (model X.P X.w) A.in1 (gR L (I + 1)) (gY X L (I + 1) ds) (ds.length - i) (.send .none) s''

theorem genItr {A : Around} {W : List Addr} {L I : Addr} {g : Nat} {ds : List D} {n : Nat} (ok : Ok n A) (hLI : L < I) (h0L : Below X L) (hW : ∀ b ∈ W, b ≠ I ∧ b ≠ L) : Itr X A W I (I + 1) [g] ds false (GSt X A L I g ds) where
  live := fun i wr s st b hb => by rw [st.wr] at hb; rw [List.mem_singleton.mp hb]; exact let ⟨o, ho, _⟩ := st.loc; ⟨o, ho⟩
  frame := fun i wr s s' st hnf hk hb hg => by
    have hwr := st.wr
    subst hwr
    have hI : I ∉ [L] ++ W := fun m => (List.mem_append.mp m).elim (fun q => Nat.ne_of_gt hLI (List.mem_singleton.mp q)) fun q => (hW I q).1 rfl
    have fc : FC X L (I + 1) s s' := ⟨fun o e => hk L o (.inl (List.mem_singleton.mpr rfl)) e, fun b o vs hle hd e => hk b o (if m : b ∈ [L] then .inl m else .inr fun q => (List.mem_append.mp q).elim m fun q => hnf b q o e (Nat.lt_of_le_of_ne (Nat.le_of_succ_le_succ hle) (Ne.symm (hW b q).1)) vs hd) e, hb⟩
    obtain ⟨o, ho, hd⟩ := st.loc
    obtain ⟨gs, h1, h2⟩ := st.go
    refine ⟨rfl, ?_, ⟨o, fc.loc o ho, hd⟩, hb, gs, hg g gs h1, fun s'' fc' => h2 s'' (fc.trans fc')⟩
    obtain ⟨o, nm, qn, ho, r⟩ := st.gen
    exact ⟨o, nm, qn, hk I o (.inr hI) ho, r⟩
  step := fun i wr s d target Q hd st wok hnf _ hQ => by
    have hwr := st.wr
    subst hwr
    obtain ⟨gs, h1, h2⟩ := st.go
    obtain ⟨oL, hoL, hdL⟩ := st.loc
    have hlt := (List.getElem?_eq_some_iff.mp hd).1
    have hgo := h2 (s.setGen g .running) ⟨fun o e => e, fun b o vs _ _ e => e, st.base⟩
    refine pyNextGen (Q := fun r s₁ => match r with | none => False | some v => wpF X A (letOwnedTupleGo target (.ref I) v) (fun _ s₂ => Q v s₂) s₁) ok.h wok.nolimit ok.room st.gen h1 hgo (fun v s₁ gs' hb hY => ?_) (fun s₁ hp => ?_)
    · obtain ⟨⟨d', hd', hrep⟩, kb, hloc', hkap⟩ := hY
      have hidx : ds.length - 1 - (ds.length - i - 1) = i := by omega
      rw [hidx, hd] at hd'
      cases hd'
      have hr := hrep ([L] ++ W) fun b hb => ⟨?_, wok.wb b hb⟩
      · obtain ⟨og, nm, qn, hog, hc, hdt, hsl⟩ := st.gen
        have hog' : s₁.heap.get? I = some og := kb.heap I og (fun q => Nat.ne_of_gt hLI (List.mem_singleton.mp q)) (fun q => absurd q (Nat.not_succ_le_self I)) hog
        have kp : Kb [L] (I + 1) [g] s (s₁.setGen g gs') := by
          refine ⟨fun b o hb hd e => kb.heap b o hb hd e, fun g' x hg e => gens_set (fun q => hg (List.mem_singleton.mpr q)) (kb.gens g' x (by simp) (gens_set (fun q => hg (List.mem_singleton.mpr q)) e)), fun e => bare_set (kb.bare (bare_set e rfl)) hb, kb.os⟩
        have hbase : ∀ b o, X.h0.get? b = some o → s₁.heap.get? b = some o := fun b o e => by
          refine kb.heap b o (fun m => ?_) (fun q => ?_) (st.base b o e)
          · have := wok.wb L (List.mem_append_left _ (List.mem_singleton.mpr rfl))
            rw [List.mem_singleton.mp m, this] at e; cases e
          · have h1 := h0L b o e
            have h2 : @LT.lt Nat _ L I := hLI
            exact absurd q (by omega)
        have hrun : s₁.gens[g]? = some .running := kb.gens g _ (by simp) (gens_set_self h1)
        refine goNo (c := "generator") hog' hc (by decide) (hQ v [L] _ (fun b hb => .inl hb) (fun b hb => hb) hr ⟨rfl, ⟨og, nm, qn, hog', hc, hdt, hsl⟩, hloc', hbase, gs', gens_set_self hrun, fun s'' fc => ?_⟩ kp)
        · have hn : ds.length - i = (ds.length - (i + 1)) + 1 := by omega
          rw [hn] at hkap
          exact hkap s'' ⟨fc.loc, fc.fld, fc.base⟩
      · rcases List.mem_append.mp hb with q | q
        · rw [List.mem_singleton.mp q]; exact ⟨oL, hoL, fun _ => hdL⟩
        · exact let ⟨o, ho⟩ := wok.wex b hb; ⟨o, ho, fun hle => hnf b q o ho hle⟩
    · exact absurd hp.1 (by omega)
  done := fun wr s Q st wok hQ => by
    have hwr := st.wr
    subst hwr
    obtain ⟨gs, h1, h2⟩ := st.go
    have hgo := h2 (s.setGen g .running) ⟨fun o e => e, fun b o vs _ _ e => e, st.base⟩
    rw [Nat.sub_self] at hgo
    refine pyNextGen (Q := fun r s₁ => match r with | none => Q s₁ | some _ => False) ok.h wok.nolimit ok.room st.gen h1 hgo (fun v s₁ gs' hb hY => ?_) (fun s₁ hp h' hk => ?_)
    · obtain ⟨_, kb, _, hkap⟩ := hY
      refine hkap s₁ ⟨fun o e => e, fun b o vs _ _ e => e, fun b o e => kb.heap b o (fun m => ?_) (fun q => ?_) (st.base b o e)⟩
      · have := wok.wb L (List.mem_append_left _ (List.mem_singleton.mpr rfl))
        rw [List.mem_singleton.mp m, this] at e; cases e
      · have h1 := h0L b o e
        have h2 : @LT.lt Nat _ L I := hLI
        exact absurd q (by omega)
    · obtain ⟨_, kb⟩ := hp
      refine hQ _ ⟨fun b o hb hd e => hk b o (kb.heap b o hb hd e), fun g' x hg e => gens_set (fun q => hg (List.mem_singleton.mpr q)) (kb.gens g' x (by simp) (gens_set (fun q => hg (List.mem_singleton.mpr q)) e)), fun e => bare_set (kb.bare (bare_set e rfl)) rfl, kb.os⟩
  self := fun i wr s Q st h => wpAny_pyIter_gen st.gen h

section
variable {n : Nat} {env : Env} {ρ : Vars}
theorem over_ok {A : Around} (ok : Ok 2 A) : ∀ (c : Code) (fs : List Frame), frameCount (fs.map Frame.where_) + c.weight ≤ 1 → unitsOf (fs.map Frame.where_) + c.cUnits ≤ 16 → (marksOver fs (A.handled, A.handled)).1 = A.handled → Ok 0 (A.over c fs) := fun c fs h1 h2 h3 => by
  obtain ⟨a, b, d⟩ := ok
  refine ⟨h3.trans a, ?_, ?_⟩
  · show A.depth + frameCount (fs.map Frame.where_) + c.weight + 0 < recursionLimit
    omega
  · show A.units + unitsOf (fs.map Frame.where_) + c.cUnits + 16 * 0 < cLine
    omega

theorem It.gen (bt : Bt X) {e : Expr} {p pos : Pos} {y : Str} (hx : GN env (recAt 1).name) (he : Ev X (n + 3) env ρ e (.str y)) (hst : ∀ env, starEach [e] env = [(false, eval e env)] := by intro _; rfl) :
    It X (n + 3) env ρ (.Call (.Name (recAt 1).name p) [e] [] pos) (escD y) false := .mk fun A W s Q ok iv h => by
  have hd : recAt 1 ∈ recsOf X.V := bt.hP 1 (by decide)
  obtain ⟨a, o, pm, code, doc, hmg, hget, hdata, hcode⟩ := X.T.fn (recAt 1) hd
  refine Call_ (iv.global hx hmg ?_ (by decide)) rfl
  have hes : Evs X (n + 3) env ρ [e] [.str y] := .cons he .nil hst
  refine callWith_def hdata (hes.run A W s pos _ ok iv fun vs s₁ k₁ iv₁ r₁ => ⟨iv₁.wok.base _ _ hget, ?_⟩) (hst env)
  cases r₁ with
  | cons r1 rs =>
  cases rs
  cases r1 with
  | str _ t =>
  have hbind : bindArgs (docDef (recAt 1).name (recAt 1).params (recAt 1).body (recAt 1).scope pm code doc) ⟨[.str y t], []⟩ = pure [(("addr" : Str), Value.str y t)] := rfl
  have hcell : ∀ x ∈ (recAt 1).scope.names, x.2 ≠ .cell := by decide
  refine wpAny_call (codeAny_call_generator (body := (recAt 1).body) ok.room (iv₁.wok.base _ _ hget) hdata rfl rfl rfl (hcode.keeps iv₁.wok.base) ?_)
  rw [hbind]
  refine wpAny_pure (wpAny_newFunctionEnv hcell (fun x hx => by rw [List.mem_singleton.mp hx]; rfl) (fun h₁ hns hsb => ⟨iv₁.wok.nolimit.fresh _ hsb, ?_⟩) rfl)
  have k0 : ∀ b ob, s₁.heap.get? b = some ob → h₁.get? b = some ob := fun b o e => hsb.extBut b o (Nat.ne_of_lt (Heap.lt_size e)) (Heap.get?_push_of_some _ e)
  have hLget : ∃ o, h₁.get? s₁.heap.objs.size = some o ∧ ∀ vs, o.data ≠ .fields vs := let ⟨o, _, _, ho, hd, _⟩ := hns; ⟨o, ho, fun vs q => by rw [hd] at q; cases q⟩
  have hLn : s₁.heap.get? s₁.heap.objs.size = none := none_of_size (Nat.le_refl _)
  have h0L : Below X s₁.heap.objs.size := fun b o e => Heap.lt_size (iv₁.wok.base b o e)
  have hWL : ∀ b ∈ W, b < s₁.heap.objs.size := fun b hb => let ⟨o, ho⟩ := iv₁.wok.wex b hb; Heap.lt_size ho
  generalize hL : s₁.heap.objs.size = L at *
  have hLI : L < h₁.objs.size := let ⟨_, ho, _⟩ := hLget; Heap.lt_size ho
  show wpF X A (pyIter (.ref h₁.objs.size)) Q { s₁ with heap := h₁.push _, gens := s₁.gens.push (.fresh (.func (recAt 1).body (gEnv L a code))), toks := _ }
  have hgenD : ∀ (ob : Obj) (hob : ob.isFreed = false), (h₁.push ob).get? h₁.objs.size = some ob := fun ob hob => Heap.get?_push_size h₁ hob
  generalize hob : ({ cls := Value.type "generator", data := Data.fields _ } : Obj) = ob
  have hgen : (h₁.push ob).IsGen h₁.objs.size s₁.gens.size := by
    rw [← hob]
    exact ⟨_, _, _, Heap.get?_push_size _ rfl, rfl, rfl, rfl⟩
  generalize hI : h₁.objs.size = I at *
  have kp : Kp [] [] s₁ { s₁ with heap := h₁.push ob, gens := s₁.gens.push (.fresh (.func (recAt 1).body (gEnv L a code))), toks := s₁.toks + 1 + 1 + 1 } :=
    ⟨fun b o _ e => Heap.get?_push_of_some _ (k0 b o e), fun g x _ e => by
      have hlt := (Array.getElem?_eq_some_iff.mp e).1
      rw [Array.getElem?_push_lt hlt]; exact (Array.getElem?_eq_getElem hlt ▸ e), fun e => e.push rfl, rfl⟩
  refine wpAny_pyIter_gen hgen ?_
  have hno : ∀ b, L ≤ b → s.heap.get? b = none := fun b hb => by
    cases e : s.heap.get? b with
    | none => rfl
    | some o => exact absurd (Heap.lt_size (k₁.keep _ _ e)) (by rw [hL]; exact Nat.not_lt.mpr hb)
  have hIe : (h₁.push ob).get? I = some ob := by
    have := hgenD ob (by rw [← hob]; rfl)
    exact this
  refine h I [L] (I + 1) [s₁.gens.size] _ (k₁.trans ⟨kp.heap, kp.gens, kp.bare, kp.os⟩) (fun b o e => ?_) (fun b hb => ?_) (fun g hg => ?_) fun N hN => ⟨GSt X A L I s₁.gens.size (escD y), genItr ok hLI h0L (fun b hb => ?_), ⟨rfl, hgen, let ⟨o, ho, hd⟩ := hLget; ⟨o, Heap.get?_push_of_some _ ho, hd⟩, fun b o e => kp.keep _ _ (iv₁.wok.base b o e), .fresh (.func (recAt 1).body (gEnv L a code)), by rw [Array.getElem?_push_size], fun s'' fc => ⟨rfl, ?_⟩⟩⟩
  · have h1 : @LT.lt Nat _ b L := hL ▸ Heap.lt_size (k₁.keep _ _ e)
    have h2 : @LT.lt Nat _ L I := hLI
    show @LT.lt Nat _ b (I + 1)
    omega
  · rw [List.mem_singleton.mp hb]; exact hno L (Nat.le_refl _)
  · rw [List.mem_singleton.mp hg]
    cases e : s.gens[s₁.gens.size]? with
    | none => rfl
    | some x => have := k₁.gens _ _ (by simp) e; have := (Array.getElem?_eq_some_iff.mp this).1; exact absurd this (Nat.lt_irrefl _)
  · rcases List.mem_append.mp hb with q | q
    · have hn := hN b q
      refine ⟨fun z => ?_, fun z => ?_⟩
      · rw [z] at hn; rw [hIe] at hn; cases hn
      · rw [z] at hn
        obtain ⟨o, ho, _⟩ := hLget
        have := Heap.get?_push_of_some ob ho
        rw [this] at hn; cases hn
    · have h1 : @LT.lt Nat _ b L := hWL b q
      have h2 : @LT.lt Nat _ L I := hLI
      exact ⟨neN (by omega), neN (by omega)⟩
  · obtain ⟨og, nm, qn, hog, _, hdt, _⟩ := hgen
    have hns' : s''.heap.Ns L (fun x => List.lookup x [(Str.ofString "addr", Value.str y t)].reverse) := by
      obtain ⟨o, es, ep, ho, r⟩ := hns
      exact ⟨o, es, ep, fc.loc o (Heap.get?_push_of_some _ ho), r⟩
    rw [Nat.sub_zero]
    exact gen_body bt (over_ok (ok.in1.le (by omega))) h0L hLI rfl ⟨og, fc.fld I og _ (Nat.le_refl _) hdt hog⟩ fc.base hns' rfl
end
end Mine

end
section
namespace Mine
variable {X : Cx}

def subL (l : List Nat) (i j : Nat) : List Nat := (l.drop i).take (j - i)
def mkS (l : List Nat) : Str := ⟨l.toArray⟩
theorem mkS_length (l : List Nat) : (mkS l).length = l.length := by show l.toArray.size = _; simp

section
variable {n : Nat} {env : Env} {ρ : Vars}
theorem Ev.sliceS {x : Str} {e f : Expr} {p p' pos : Pos} {y : Str} {i j : Nat} (hv : Ev X n env ρ (.Name x p') (.str y)) (he : Ev X n env ρ e (.int i)) (hf : Ev X n env ρ f (.int j)) (hij : i ≤ j) (hj : j ≤ y.cps.toList.length) (hz : y.length ≤ sizeLine) :
    Ev X n env ρ (.Subscript (.Name x p') (.Slice (some e) (some f) none p) pos) (.str (mkS (subL y.cps.toList i j))) := .mk fun A W s Q ok iv h => by
  refine wpAny_Subscript_str_slice (hv.run A W s _ ok iv fun o s₁ k₁ iv₁ r₁ => ?_)
  rw [evalPart_some, evalPart_some]
  refine he.run A W s₁ _ ok iv₁ fun v₂ s₂ k₂ iv₂ r₂ => hf.run A W s₂ _ ok iv₂ fun v₃ s₃ k₃ iv₃ r₃ => ?_
  cases r₁ with | str _ t =>
  cases r₂ with | int _ t₂ =>
  cases r₃ with | int _ t₃ =>
  refine ⟨y, t, some ((i : Int), t₂), some ((j : Int), t₃), rfl, rfl, rfl, ?_⟩
  refine PySem.post_val_or_str ⟨Nat.le_trans (Txt.slice_le y (some i) (some j)) hz, fun t' k => ?_⟩
  have e1 : Txt.slice y (some (i : Int)) (some (j : Int)) = mkS (subL y.cps.toList i j) := by
    have := beq_iff_eq.mp (slice_closes (x := y) (i := i) (j := j) ⟨by omega, by omega, by omega⟩)
    rw [this]
    have : ((j : Int) - (i : Int)).toNat = j - i := by omega
    rw [this]; rfl
  have kp : Kp [] [] s₃ { s₃ with heap := s₃.heap.push { cls := .type "slice", data := .fields #[.int i t₂, .int j t₃, .none] }, toks := k } := .push
  have := h (.str (Txt.slice y (some (i : Int)) (some (j : Int))) t') _ (((k₁.trans k₂).trans k₃).trans kp) (iv₃.kp kp) (e1 ▸ .str _ _)
  exact this
theorem Ev.sliceT {x : Str} {e f : Expr} {p p' pos : Pos} {y : Str} {i j : Int} (hv : Ev X n env ρ (.Name x p') (.str y)) (he : Ev X n env ρ e (.int i)) (hf : Ev X n env ρ f (.int j)) (hz : y.length ≤ sizeLine) :
    Ev X n env ρ (.Subscript (.Name x p') (.Slice (some e) (some f) none p) pos) (.str (Txt.slice y (some i) (some j))) := .mk fun A W s Q ok iv h => by
  refine wpAny_Subscript_str_slice (hv.run A W s _ ok iv fun o s₁ k₁ iv₁ r₁ => ?_)
  rw [evalPart_some, evalPart_some]
  refine he.run A W s₁ _ ok iv₁ fun v₂ s₂ k₂ iv₂ r₂ => hf.run A W s₂ _ ok iv₂ fun v₃ s₃ k₃ iv₃ r₃ => ?_
  cases r₁ with | str _ t =>
  cases r₂ with | int _ t₂ =>
  cases r₃ with | int _ t₃ =>
  refine ⟨y, t, some (i, t₂), some (j, t₃), rfl, rfl, rfl, ?_⟩
  refine PySem.post_val_or_str ⟨Nat.le_trans (Txt.slice_le y (some i) (some j)) hz, fun t' k => ?_⟩
  have kp : Kp [] [] s₃ { s₃ with heap := s₃.heap.push { cls := .type "slice", data := .fields #[.int i t₂, .int j t₃, .none] }, toks := k } := .push
  exact h (.str (Txt.slice y (some i) (some j)) t') _ (((k₁.trans k₂).trans k₃).trans kp) (iv₃.kp kp) (.str _ _)
theorem Ev.sliceTfrom {x : Str} {e : Expr} {p p' pos : Pos} {y : Str} {i : Int} (hv : Ev X n env ρ (.Name x p') (.str y)) (he : Ev X n env ρ e (.int i)) (hz : y.length ≤ sizeLine) :
    Ev X n env ρ (.Subscript (.Name x p') (.Slice (some e) none none p) pos) (.str (Txt.slice y (some i) none)) := .mk fun A W s Q ok iv h => by
  refine wpAny_Subscript_str_slice (hv.run A W s _ ok iv fun o s₁ k₁ iv₁ r₁ => ?_)
  rw [evalPart_none, evalPart_some]
  refine he.run A W s₁ _ ok iv₁ fun v₂ s₂ k₂ iv₂ r₂ => wpAny_pure ?_
  cases r₁ with | str _ t =>
  cases r₂ with | int _ t₂ =>
  refine ⟨y, t, some (i, t₂), none, rfl, rfl, rfl, ?_⟩
  refine PySem.post_val_or_str ⟨Nat.le_trans (Txt.slice_le y (some i) none) hz, fun t' k => ?_⟩
  have kp : Kp [] [] s₂ { s₂ with heap := s₂.heap.push { cls := .type "slice", data := .fields #[.int i t₂, .none, .none] }, toks := k } := .push
  exact h (.str (Txt.slice y (some i) none) t') _ ((k₁.trans k₂).trans kp) (iv₂.kp kp) (.str _ _)
theorem Ev.sliceSfrom {x : Str} {e : Expr} {p p' pos : Pos} {y : Str} {i : Nat} (hv : Ev X n env ρ (.Name x p') (.str y)) (he : Ev X n env ρ e (.int i)) (hj : i ≤ y.cps.toList.length) (hz : y.length ≤ sizeLine) :
    Ev X n env ρ (.Subscript (.Name x p') (.Slice (some e) none none p) pos) (.str (mkS (y.cps.toList.drop i))) := .mk fun A W s Q ok iv h => by
  refine wpAny_Subscript_str_slice (hv.run A W s _ ok iv fun o s₁ k₁ iv₁ r₁ => ?_)
  rw [evalPart_none, evalPart_some]
  refine he.run A W s₁ _ ok iv₁ fun v₂ s₂ k₂ iv₂ r₂ => wpAny_pure ?_
  cases r₁ with | str _ t =>
  cases r₂ with | int _ t₂ =>
  refine ⟨y, t, some ((i : Int), t₂), none, rfl, rfl, rfl, ?_⟩
  refine PySem.post_val_or_str ⟨Nat.le_trans (Txt.slice_le y (some i) none) hz, fun t' k => ?_⟩
  have e1 : Txt.slice y (some (i : Int)) none = mkS (y.cps.toList.drop i) := by
    have := beq_iff_eq.mp (slice_closes_from (x := y) (i := i) ⟨by omega, by omega⟩)
    rw [this]
    show mkS _ = mkS _
    congr 1
    have : ((i : Int)).toNat = i := by omega
    rw [this]
    have : ((y.cps.toList.length : Int) - (i : Int)).toNat = y.cps.toList.length - i := by omega
    rw [this, List.take_of_length_le]
    rw [List.length_drop]; exact Nat.le_refl _
  have kp : Kp [] [] s₂ { s₂ with heap := s₂.heap.push { cls := .type "slice", data := .fields #[.int i t₂, .none, .none] }, toks := k } := .push
  have := h (.str (Txt.slice y (some (i : Int)) none) t') _ ((k₁.trans k₂).trans kp) (iv₂.kp kp) (e1 ▸ .str _ _)
  exact this

theorem Reps.strs {W : List Addr} {h : Heap} : ∀ {vs : List Value} {ys : List Str}, Reps X W h vs (ys.map D.str) → StrsAre vs ys
  | _, [], .nil => .nil
  | _, _ :: _, .cons r rs => by cases r; exact .cons _ _ (Reps.strs rs)
def catL (ys : List Str) : List Nat := ys.flatMap fun y => y.cps.toList
theorem join_empty : ∀ ys : List Str, Txt.join "" ys = mkS (catL ys) := fun ys => by
  show PySem.Builtin.Str.glued "" ys = _
  rw [StrLaws.glued_eq_join]
  induction ys with
  | nil => rfl
  | cons y r ih =>
    cases r with
    | nil => show y = mkS _; simp [catL, mkS]
    | cons z r =>
      show y ++ "" ++ Str.join "" (z :: r) = _
      rw [ih]
      show Str.mk _ = Str.mk _
      congr 1
      apply Array.ext'
      show ((y.cps ++ #[]) ++ (mkS (catL (z :: r))).cps).toList = _
      simp [catL, mkS]
theorem Ev.join {e : Expr} {k : Nat} {cp apos pos : Pos} {ys : List Str} (he : Ev X n env ρ e (.list (ys.map D.str))) (hz : (ys.map (·.length)).sum ≤ 16777216)
    (hst : ∀ env, starEach [e] env = [(false, eval e env)] := by intro _; rfl) (hline : (apos.endLine == pos.line) = true := by rfl) :
    Ev X n env ρ (.Call (.Attribute (.Constant (.str "") k cp) "join" apos) [e] [] pos) (.str (mkS (catL ys))) := .mk fun A W s Q ok iv h => by
  refine Call_method1 rfl (hst env) hline (wpAny_Constant_str ?_)
  refine SB.join (he.run A W _ _ ok (iv.kp .toks) fun v s₁ k₁ iv₁ r₁ => ?_)
  cases r₁ with
  | @list a vs _ hl ha rs =>
    obtain ⟨l, hv, ht⟩ := strsAre_values rs.strs
    refine ⟨a, l, rfl, ?_, ys, ht, joinOk_of ?_, fun t' k => ?_⟩
    · have := hl.isList
      rw [hv] at this; exact this
    · show (ys.map (·.length)).sum + ys.length * 0 ≤ 16777216
      omega
    · rw [join_empty]
      have kk : Kp [] [] s₁ { s₁ with toks := k } := .toks
      exact h _ _ ((Kp.toks.trans k₁).trans kk) (iv₁.kp kk) (.str _ _)

theorem CmpI.notin {a : Str} {c : Nat} : CmpI X n env ρ .NotIn (.str ⟨#[c]⟩) (.str a) (!decide (c ∈ a.cps.toList)) := fun A W s u v Q ok iv ru rv h => by
  cases ru; cases rv
  have := StrLaws.found_one a c
  exact PySem.P.notIn_str (by rw [this]; exact h _ _ .refl (.bool _))
theorem CmpI.isNone : CmpI X n env ρ .Is .none .none true := fun A W s u v Q ok iv ru rv h => by
  cases ru; cases rv; exact wpAny_pure (h _ _ .refl (.bool _))
theorem CmpI.isNone' {i : Int} : CmpI X n env ρ .Is (.int i) .none false := fun A W s u v Q ok iv ru rv h => by
  cases ru; cases rv; exact wpAny_pure (h _ _ .refl (.bool _))
theorem CmpI.isnot {a b : Bool} : CmpI X n env ρ .IsNot (.bool a) (.bool b) (a != b) := fun A W s u v Q ok iv ru rv h => by
  cases ru; cases rv
  have e : (!(Value.bool a == Value.bool b)) = (a != b) := by cases a <;> cases b <;> rfl
  exact wpAny_pure (a := Value.bool (!(Value.bool a == Value.bool b))) (by rw [e]; exact h _ _ .refl (.bool _))
end
end Mine

end
section
namespace Mine
variable {X : Cx}

structure SS where
  start : Nat
  op : Option Nat
  res : List Str
def stepS (x : Str) (s : SS) (t : Nat × List Nat) : SS :=
  if t.2 = [34] then
    match s.op with
    | none => ⟨s.start, some t.1, s.res⟩
    | some q => ⟨t.1 + 1, none, if s.start = q then s.res else s.res ++ [Txt.slice x (some (s.start : Int)) (some (q : Int))]⟩
  else s
def runS (x : Str) : SS := (escs x.cps.toList 0 false).foldl (stepS x) ⟨0, none, []⟩
def finS (x : Str) (s : SS) : List Str := if s.start < x.length then s.res ++ [Txt.slice x (some (s.start : Int)) none] else s.res
def stripF (x : Str) : Str := if 34 ∈ x.cps.toList then mkS (catL (finS x (runS x))) else x

def opD : Option Nat → D
  | none => .none
  | some q => .int (q : Nat)

theorem escs_length : ∀ (l : List Nat) (i : Nat) (b : Bool), (escs l i b).length ≤ l.length + 1
  | [], _, true => by simp [escs]
  | [], _, false => by simp [escs]
  | _ :: cs, i, true => by simp only [escs, List.length_cons]; have := escs_length cs (i + 1) false; omega
  | c :: cs, i, false => by
    simp only [escs]
    split
    · have := escs_length cs (i + 1) true; simp only [List.length_cons]; omega
    · have := escs_length cs (i + 1) false; simp only [List.length_cons]; omega

theorem stepS_small (x : Str) (s : SS) (t : Nat × List Nat) : (stepS x s t).res.length ≤ s.res.length + 1 ∧ ((∀ y ∈ s.res, y.length ≤ x.length) → ∀ y ∈ (stepS x s t).res, y.length ≤ x.length) := by
  unfold stepS
  split
  · split
    · exact ⟨Nat.le_succ _, id⟩
    · simp only
      split
      · exact ⟨Nat.le_succ _, id⟩
      · refine ⟨by simp, fun h y hy => ?_⟩
        rcases List.mem_append.mp hy with q | q
        · exact h y q
        · rw [List.mem_singleton.mp q]; exact Txt.slice_le _ _ _
  · exact ⟨Nat.le_succ _, id⟩
theorem fold_small (x : Str) : ∀ (l : List (Nat × List Nat)) (s : SS), (l.foldl (stepS x) s).res.length ≤ s.res.length + l.length ∧ ((∀ y ∈ s.res, y.length ≤ x.length) → ∀ y ∈ (l.foldl (stepS x) s).res, y.length ≤ x.length)
  | [], s => ⟨Nat.le_refl _, id⟩
  | t :: l, s => by
    have h1 := stepS_small x s t
    have h2 := fold_small x l (stepS x s t)
    refine ⟨?_, fun h => h2.2 (h1.2 h)⟩
    rw [List.foldl_cons, List.length_cons]; omega
theorem sum_le (b : Nat) : ∀ l : List Str, (∀ y ∈ l, y.length ≤ b) → (l.map (·.length)).sum ≤ l.length * b
  | [], _ => Nat.zero_le _
  | y :: r, h => by
    have := sum_le b r fun z hz => h z (List.mem_cons_of_mem _ hz)
    have := h y List.mem_cons_self
    simp only [List.map_cons, List.sum_cons, List.length_cons, Nat.succ_mul]; omega

theorem fn_strip (bt : Bt X) (n : Nat) (x : Str) (hz : x.length ≤ 2000) : Fn X (n + 4) (recAt 2).name [.str x] (.str (stripF x)) := by
  have hsz : x.length ≤ sizeLine := Nat.le_trans hz (by decide)
  have hlen : x.cps.toList.length = x.length := Array.length_toList
  refine Fn.of1 (p := "addr") (bt.hP 2 (by decide)) (fun _ _ _ _ => rfl) rfl (fun L a cd => ?_)
  refine Ex.ite (b := !decide (34 ∈ x.cps.toList)) (Ts.cmp .str (.name rfl) (CmpI.notin (c := 34))) (fun hb => ?_) (fun hb => ?_)
  · have hq : ¬ 34 ∈ x.cps.toList := by simpa using hb
    exact Ex.ret (d := .str x) (.name rfl) (by rw [stripF, if_neg hq])
  have hq : 34 ∈ x.cps.toList := by simpa using hb
  refine Ex.assign .int (.inl rfl) (by simp) ?_
  refine Ex.assign .non (.inl rfl) (by simp) ?_
  refine Ex.ownL (.inl rfl) (by simp) rfl fun r => ?_
  refine Ex.for (It.gen bt rfl (.name (d := .str x) rfl)) (fun i ρ ω => ρ.lookup ("addr" : Str) = some (.str x) ∧ ρ.lookup ("start" : Str) = some (.int ((((escs x.cps.toList 0 false).take i).foldl (stepS x) ⟨0, none, []⟩).start : Nat)) ∧ ρ.lookup ("open_pos" : Str) = some (opD (((escs x.cps.toList 0 false).take i).foldl (stepS x) ⟨0, none, []⟩).op) ∧ ρ.lookup ("result" : Str) = none ∧ ω = [(("result" : Str), r, OV.list ((((escs x.cps.toList 0 false).take i).foldl (stepS x) ⟨0, none, []⟩).res.map D.str))]) ⟨rfl, rfl, rfl, rfl, rfl⟩ (fun i d ρ ω hd hJ => ?_) (fun ρ ω hJ => ?_) (fun h => nomatch h)
  · obtain ⟨h1, h2, h3, h4, rfl⟩ := hJ
    have hd' : ((escs x.cps.toList 0 false).map outD)[i]? = some d := hd
    rw [List.getElem?_map, Option.map_eq_some_iff] at hd'
    obtain ⟨⟨ps, ch⟩, ht, rfl⟩ := hd'
    have hlt := (List.getElem?_eq_some_iff.mp ht).1
    have hst : ((escs x.cps.toList 0 false).take (i + 1)).foldl (stepS x) ⟨0, none, []⟩ = stepS x (((escs x.cps.toList 0 false).take i).foldl (stepS x) ⟨0, none, []⟩) (ps, ch) := by
      rw [List.take_add_one, ht, List.foldl_append]; rfl
    have hsm := fold_small x ((escs x.cps.toList 0 false).take i) ⟨0, none, []⟩
    have hcnt : (((escs x.cps.toList 0 false).take i).foldl (stepS x) ⟨0, none, []⟩).res.length ≤ sizeLine := by
      have h5 := escs_length x.cps.toList 0 false
      have h6 := hsm.1
      rw [List.length_take] at h6
      simp only [List.length_nil] at h6
      have : (4000 : Nat) ≤ sizeLine := by decide
      omega
    rw [hst]
    clear hsm hd hst
    generalize hS : ((escs x.cps.toList 0 false).take i).foldl (stepS x) ⟨0, none, []⟩ = S at *
    obtain ⟨start, op, res⟩ := S
    simp only at h2 h3 hcnt ⊢
    refine ⟨_, .pair (.inl rfl) (.inl rfl) (by simp; decide) (by simp; decide), ?_⟩
    refine Ex.ite (b := (⟨ch.toArray⟩ : Str) == "\"") (Ts.cmp (.name rfl) .str CmpI.eqs) (fun hb => ?_) (fun hb => ?_)
    · have hc : ch = [34] := by
        have e0 : ch.toArray.toList = [34] := congrArg (fun s : Str => s.cps.toList) (eq_of_beq hb)
        simpa using e0
      subst hc
      cases op with
      | none =>
        refine Ex.ite (b := true) (Ts.cmp (.name h3) .non CmpI.isNone) (fun _ => ?_) (fun h => nomatch h)
        refine Ex.assign (.name rfl) (.inl rfl) (by simp; decide) (.nil ?_)
        exact ⟨h1, h2, rfl, h4, rfl⟩
      | some q =>
        refine Ex.ite (b := false) (Ts.cmp (.name h3) .non CmpI.isNone') (fun h => nomatch h) (fun _ => ?_)
        refine Ex.ite (b := ((start : Nat) : Int) != ((q : Nat) : Int)) (Ts.cmp (.name h2) (.name h3) CmpI.ne) (fun hne => ?_) (fun hne => ?_)
        · have hne' : ¬ start = q := fun e => by rw [e] at hne; simp at hne
          refine Ex.append (ω₁ := []) (ds := res.map D.str) (d := .str (Txt.slice x (some (start : Int)) (some (q : Int)))) (.sliceT (.name h1) (.name h2) (.name h3) hsz) (by rw [List.length_map]; exact hcnt) ?_
          refine Ex.assign (.add (.name rfl) .int) (.inl rfl) (by simp; decide) ?_
          refine Ex.assign .non (.inl rfl) (by simp; decide) (.nil ?_)
          refine ⟨h1, ?_, rfl, h4, ?_⟩
          · show some _ = some _
            simp [stepS]
          · simp [stepS, hne']
        · have hne' : start = q := by have : (start : Int) = (q : Int) := (by simpa using hne); omega
          refine Ex.assign (.add (.name rfl) .int) (.inl rfl) (by simp; decide) ?_
          refine Ex.assign .non (.inl rfl) (by simp; decide) (.nil ?_)
          refine ⟨h1, ?_, rfl, h4, ?_⟩
          · show some _ = some _
            simp [stepS]
          · simp [stepS, hne']
    · have hc : ¬ ch = [34] := fun e => by
        rw [e] at hb
        have : ((⟨[34].toArray⟩ : Str) == "\"") = true := by decide
        rw [this] at hb; cases hb
      have e1 : stepS x ⟨start, op, res⟩ (ps, ch) = ⟨start, op, res⟩ := by simp [stepS, hc]
      refine Ex.nil ?_
      rw [e1]
      exact ⟨h1, h2, h3, h4, rfl⟩
  · obtain ⟨h1, h2, h3, h4, rfl⟩ := hJ
    have hl : ((escs x.cps.toList 0 false).take (escD x).length) = escs x.cps.toList 0 false := List.take_of_length_le (by rw [escD, List.length_map]; exact Nat.le_refl _)
    rw [hl] at h2 ⊢
    have hrun : (escs x.cps.toList 0 false).foldl (stepS x) ⟨0, none, []⟩ = runS x := rfl
    rw [hrun] at h2 ⊢
    have hsm := fold_small x (escs x.cps.toList 0 false) ⟨0, none, []⟩
    rw [hrun] at hsm
    have h5 := escs_length x.cps.toList 0 false
    have hcnt : (runS x).res.length ≤ 2001 := by
      have h6 := hsm.1
      simp only [List.length_nil] at h6
      omega
    have hall : ∀ y ∈ (runS x).res, y.length ≤ x.length := hsm.2 (fun _ h => nomatch h)
    have fin : ∀ (ds : List Str), ds.length ≤ 2002 → (∀ y ∈ ds, y.length ≤ x.length) → (ds.map (·.length)).sum ≤ 16777216 := fun ds hle hal => by
      have := sum_le x.length ds hal
      have h7 : ds.length * x.length ≤ 2002 * 2000 := Nat.mul_le_mul hle hz
      omega
    refine Ex.ite (b := decide (((runS x).start : Int) < (x.length : Int))) (Ts.cmp (.name h2) (.lenS rfl (bt.free _ (by decide)) ((bt.mb (by decide)).trans rfl) (.name h1) hsz) CmpI.lt) (fun hb => ?_) (fun hb => ?_)
    · have hlt : (runS x).start < x.length := by simpa using hb
      refine Ex.append (ω₁ := []) (ds := (runS x).res.map D.str) (d := .str (Txt.slice x (some ((runS x).start : Int)) none)) (.sliceTfrom (.name h1) (.name h2) hsz) (by rw [List.length_map]; exact Nat.le_trans hcnt (by decide)) ?_
      have hj := fin ((runS x).res ++ [Txt.slice x (some ((runS x).start : Int)) none]) (by simp; omega) (fun y hy => ?_)
      · refine Ex.freeze (ω₁ := []) (ω₂ := []) (Ex.ret (.join (ys := (runS x).res ++ [Txt.slice x (some ((runS x).start : Int)) none]) (.name ?_) hj) ?_)
        · rw [List.map_append]; rfl
        · rw [stripF, if_pos hq, finS, if_pos hlt]
      · rcases List.mem_append.mp hy with q | q
        · exact hall y q
        · rw [List.mem_singleton.mp q]; exact Txt.slice_le _ _ _
    · have hlt : ¬ (runS x).start < x.length := by simpa using hb
      refine Ex.freeze (ω₁ := []) (ω₂ := []) (Ex.ret (.join (ys := (runS x).res) (.name rfl) (fin _ (by omega) hall)) ?_)
      rw [stripF, if_pos hq, finS, if_neg hlt]
end Mine

end
section
namespace Mine
variable {X : Cx}

def checkL : List (Nat × List Nat) → Int → Bool
  | [], o => o == 0
  | (_, ch) :: r, o => if ch = [40] then checkL r (o + 1) else if ch = [41] then (if o - 1 < 0 then false else checkL r (o - 1)) else checkL r o
def checkF (x : Str) : Bool := checkL (escs (stripF x).cps.toList 0 false) 0

theorem fn_check (bt : Bt X) (n : Nat) (x : Str) (hz : x.length ≤ 2000) : Fn X (n + 5) (recAt 3).name [.str x] (.bool (checkF x)) := by
  refine Fn.of1 (p := "addr") (bt.hP 3 (by decide)) (fun _ _ _ _ => rfl) rfl (fun L a cd => ?_)
  refine Ex.assign (.callf (dr := recAt 2) (bt.hP 2 (by decide)) rfl (.cons (.name rfl) .nil) (fn_strip bt n x hz)) (.inl rfl) (by simp) ?_
  refine Ex.assign .int (.inl rfl) (by simp) ?_
  refine Ex.for (It.gen bt rfl (.name (d := .str (stripF x)) rfl)) (fun i ρ ω => ω = [] ∧ ∃ o, ρ.lookup ("opens" : Str) = some (.int o) ∧ checkF x = checkL ((escs (stripF x).cps.toList 0 false).drop i) o) ⟨rfl, 0, rfl, rfl⟩ (fun i d ρ ω hd hJ => ?_) (fun ρ ω hJ => ?_) (fun h => nomatch h)
  · obtain ⟨rfl, o, h1, h2⟩ := hJ
    have hd' : ((escs (stripF x).cps.toList 0 false).map outD)[i]? = some d := hd
    rw [List.getElem?_map, Option.map_eq_some_iff] at hd'
    obtain ⟨⟨ps, ch⟩, ht, rfl⟩ := hd'
    have hlt := (List.getElem?_eq_some_iff.mp ht).1
    have hdrop : (escs (stripF x).cps.toList 0 false).drop i = (ps, ch) :: (escs (stripF x).cps.toList 0 false).drop (i + 1) := by
      rw [List.drop_eq_getElem_cons hlt]
      congr 1
      exact (List.getElem?_eq_some_iff.mp ht).2
    rw [hdrop] at h2
    refine ⟨_, .pair (.inl rfl) (.inl rfl) (by simp) (by simp), ?_⟩
    refine Ex.ite (b := (⟨ch.toArray⟩ : Str) == "(") (Ts.cmp (.name rfl) .str CmpI.eqs) (fun hb => ?_) (fun hb => ?_)
    · have hc : ch = [40] := by
        have e0 : ch.toArray.toList = [40] := congrArg (fun s : Str => s.cps.toList) (eq_of_beq hb)
        simpa using e0
      refine Ex.augAdd h1 .int (.inl rfl) (by simp) (.nil ⟨rfl, o + 1, rfl, ?_⟩)
      rw [h2]; simp [checkL, hc]
    have hc : ¬ ch = [40] := fun e => by
      rw [e] at hb
      have : ((⟨[40].toArray⟩ : Str) == "(") = true := by decide
      rw [this] at hb; cases hb
    refine Ex.ite (b := (⟨ch.toArray⟩ : Str) == ")") (Ts.cmp (.name rfl) .str CmpI.eqs) (fun hb' => ?_) (fun hb' => ?_)
    · have hc' : ch = [41] := by
        have e0 : ch.toArray.toList = [41] := congrArg (fun s : Str => s.cps.toList) (eq_of_beq hb')
        simpa using e0
      refine Ex.augSub h1 .int (.inl rfl) (by simp) ?_
      refine Ex.ite (b := decide (o - 1 < 0)) (Ts.cmp (.name rfl) .int CmpI.lt) (fun hn => ?_) (fun hn => ?_)
      · refine Ex.ret .bool ?_
        have hn : o - 1 < 0 := of_decide_eq_true hn
        rw [h2]; simp [checkL, hc', hn]
      · refine .nil ⟨rfl, o - 1, rfl, ?_⟩
        have hn : ¬ o - 1 < 0 := of_decide_eq_false hn
        rw [h2]; simp [checkL, hc', hn]
    · have hc' : ¬ ch = [41] := fun e => by
        rw [e] at hb'
        have : ((⟨[41].toArray⟩ : Str) == ")") = true := by decide
        rw [this] at hb'; cases hb'
      refine .nil ⟨rfl, o, h1, ?_⟩
      rw [h2]; simp [checkL, hc, hc']
  · obtain ⟨rfl, o, h1, h2⟩ := hJ
    have hl : (escs (stripF x).cps.toList 0 false).drop (escD (stripF x)).length = [] := List.drop_of_length_le (by rw [escD, List.length_map]; exact Nat.le_refl _)
    rw [hl] at h2
    refine Ex.ret (d := .bool (o == 0)) (Ev.cmp (.name h1) .int CmpI.eq) ?_
    rw [h2]; rfl

/-- a list of texts -/
def strsD (l : List Str) : List D := l.map D.str
def preF (l : List Str) : List Str := l.map fun v => if checkF v then v else "('', '')"
theorem fn_pre (bt : Bt X) (n : Nat) (l : List Str) (hz : ∀ x ∈ l, x.length ≤ 2000) (hl : l.length ≤ 2000) : Fn X (n + 6) (recAt 4).name [.list (strsD l)] (.list (strsD (preF l))) := by
  refine Fn.of1 (p := "email_header_fields") (bt.hP 4 (by decide)) (fun _ _ _ _ => rfl) rfl (fun L a cd => ?_)
  refine Ex.ownL (.inl rfl) (by simp) rfl fun r => ?_
  refine Ex.for (It.list (.name (d := .list (strsD l)) rfl)) (fun i ρ ω => ρ.lookup ("accepted_values" : Str) = none ∧ ω = [(("accepted_values" : Str), r, OV.list (strsD (preF (l.take i))))]) ⟨rfl, rfl⟩ (fun i d ρ ω hd hJ => ?_) (fun ρ ω hJ => ?_) (fun h => nomatch h)
  · obtain ⟨h1, rfl⟩ := hJ
    rw [strsD, List.getElem?_map, Option.map_eq_some_iff] at hd
    obtain ⟨v, hv, rfl⟩ := hd
    have hmem : v ∈ l := List.mem_of_getElem? hv
    have htake : preF (l.take (i + 1)) = preF (l.take i) ++ [if checkF v then v else "('', '')"] := by
      rw [List.take_add_one, hv, preF, List.map_append]; rfl
    have hle : (strsD (preF (l.take i))).length ≤ sizeLine := by
      simp only [strsD, preF, List.length_map, List.length_take]
      have : (2000 : Nat) ≤ sizeLine := by decide
      omega
    refine ⟨_, .name (.inl rfl) (by simp; decide), ?_⟩
    refine Ex.ite (b := !checkF v) (.not (.bool (.callf (dr := recAt 3) (bt.hP 3 (by decide)) rfl (.cons (.name rfl) .nil) (fn_check bt n v (hz v hmem))))) (fun hb => ?_) (fun hb => ?_)
    · have hb : checkF v = false := by simpa using hb
      refine Ex.assign .str (.inl rfl) (by simp; decide) ?_
      refine Ex.append (ω₁ := []) (.name rfl) hle (.nil ⟨h1, ?_⟩)
      rw [htake, hb]
      simp [strsD]
    · have hb : checkF v = true := by simpa using hb
      refine Ex.append (ω₁ := []) (.name rfl) hle (.nil ⟨h1, ?_⟩)
      rw [htake, hb]
      simp [strsD]
  · obtain ⟨h1, rfl⟩ := hJ
    refine Ex.freeze (ω₁ := []) (ω₂ := []) (Ex.ret (.name rfl) ?_)
    have : l.take (strsD l).length = l := List.take_of_length_le (by simp [strsD])
    rw [this]
end Mine

end
section
namespace Mine
variable {X : Cx}

def itemsD (l : List (Str × Int)) : List D := l.map fun p => D.tup [.str p.1, .int p.2]
def valuesD (l : List (Str × Int)) : List D := l.map fun p => D.int p.2

theorem strKey {k : Str} {v : Value} (h : (strKind X.P X.w).is k v = true) : ∃ t, v = .str k t := by
  cases v with
  | str x t =>
    have : x = k := by
      have h' : (x == k) = true ∨ (k == x) = true := by first | exact .inl h | exact .inr h
      rcases h' with q | q
      · exact eq_of_beq q
      · exact (eq_of_beq q).symm
    exact ⟨t, by rw [this]⟩
  | _ => first | cases h | (exact absurd h (by decide))

section
variable {n : Nat} {env : Env} {ρ : Vars}

structure ISt (X : Cx) (I d : Addr) (kvs : List (Str × Value)) (ep : Nat) (i : Nat) (wr : List Addr) (s : Shared) : Prop where
  wr : wr = [I]
  it : ∃ ok ov, IsItemIter s.heap I d i kvs.length ep ok ov
  at' : s.heap.DictAt (strKind X.P X.w) d kvs ep

theorem itemsItr {A : Around} (hh : A.handled = none) {W : List Addr} {β : Nat} {I d : Addr} {l : List (Str × Int × Tok)} {ep : Nat} (hdI : d ≠ I) (hdW : d ∉ W) : Itr X A W I β [] (itemsD (dkeys l)) true (ISt X I d (dvals l) ep) where
  live := fun i wr s st b hb => by rw [st.wr] at hb; rw [List.mem_singleton.mp hb]; exact let ⟨_, _, h⟩ := st.it; ⟨_, h⟩
  frame := fun i wr s s' st _ hk _ _ => by
    have hwr := st.wr
    subst hwr
    obtain ⟨ok, ov, h⟩ := st.it
    obtain ⟨o, es, ho, r⟩ := st.at'
    exact ⟨rfl, ⟨ok, ov, hk I _ (.inl (List.mem_singleton.mpr rfl)) h⟩, o, es, hk d o (.inr fun m => (List.mem_append.mp m).elim (fun q => hdI (List.mem_singleton.mp q)) hdW) ho, r⟩
  step := fun i wr s dd target Q hd st wok _ ht hQ => by
    have hwr := st.wr
    subst hwr
    obtain ⟨es, kk, pp, rfl⟩ := ht rfl
    obtain ⟨ok, ov, h⟩ := st.it
    have hd' : (dkeys l)[i]?.map (fun p => D.tup [.str p.1, .int p.2]) = some dd := by rw [← List.getElem?_map]; exact hd
    rw [Option.map_eq_some_iff] at hd'
    obtain ⟨⟨k, z⟩, hk1, rfl⟩ := hd'
    rw [dkeys, List.getElem?_map, Option.map_eq_some_iff] at hk1
    obtain ⟨⟨k', z', t⟩, hk2, hk3⟩ := hk1
    cases hk3
    have hx : (dvals l)[i]? = some (k', .int z' t) := by rw [dvals, List.getElem?_map, hk2]; rfl
    refine wpAny_pyNext_items_item h st.at' hx fun key h₁ hkey hout htup hsz hkeep => ?_
    obtain ⟨t', rfl⟩ := strKey hkey
    refine wpAny_letOwnedTupleGo_items hout fun h₂ hit hs => ?_
    have hTn : s.heap.get? s.heap.objs.size = none := none_of_size (Nat.le_refl _)
    have hTI : s.heap.objs.size ≠ I := fun q => by rw [q] at hTn; rw [h] at hTn; cases hTn
    refine hQ _ [I] _ (fun b hb => .inl hb) (fun b hb => hb) (.tup (vs := [.str k' t', .int z' t]) ⟨_, (hs.2 _ hTI).trans htup, rfl, 0, rfl⟩ wok.fresh (.cons (.str _ _) (.cons (.int _ _) .nil))) ⟨rfl, ⟨_, _, hit⟩, ?_⟩ (Kp.of_heap (tk := s.toks) fun b o hb e => ?_).b
    · obtain ⟨o, es, ho, r⟩ := st.at'
      exact ⟨o, es, (hs.2 d hdI).trans (hkeep d o hdI ho), r⟩
    · have hbI : b ≠ I := fun q => hb (List.mem_singleton.mpr q)
      exact (hs.2 b hbI).trans (hkeep b o hbI e)
  done := fun wr s Q st wok hQ => by
    have hwr := st.wr
    subst hwr
    obtain ⟨ok, ov, h⟩ := st.it
    refine wpAny_pyNext_items_end hh h st.at' (by simp [itemsD, dkeys, dvals]) fun h' hk => hQ _ (Kp.of_heap (tk := s.toks) fun b o hb e => hk b o (fun q => hb (List.mem_singleton.mpr q)) e).b
  self := fun i wr s Q st h => by
    obtain ⟨ok, ov, hi⟩ := st.it
    have hT : s.TypeIs (.ref I) "dict_itemiterator" := ⟨_, hi, rfl⟩
    refine wpAny_pyIter_slot hT F.slot_dict_itemiterator_iter (wpAny_call_entry F.slot_dict_itemiterator_iter hT kcp_entry ?_ (F.args_dict_itemiterator_iter_1 _))
    show wpAny _ _ (ret (.ref I)) _ _ s
    exact wpAny_pure ⟨_, rfl, "dict_itemiterator", _, hT, F.slot_dict_itemiterator_next.lookup, h⟩

theorem It.items {x : Str} {px apos pos : Pos} {l : List (Str × Int)} (hx : ρ.lookup x = some (.dict l)) (hline : (apos.endLine == pos.line) = true := by rfl) (hd : (x == ("__debug__" : Str)) = false := by decide) :
    It X n env ρ (.Call (.Attribute (.Name x px) "items" apos) [] [] pos) (itemsD l) true := .mk fun A W s Q ok iv h => by
  obtain ⟨v, hb, hr⟩ := iv.vars x _ hx
  cases hr with
  | @dict a l' hdo hs ha =>
    refine wpAny_Call_items hs hdo rfl hline (fun Q' hq => wpAny_Name (hb.load iv.eb.kind hq) hd) ?_
    have k₁ : Kp [] [] s { s with heap := s.heap.push { cls := .type "dict_items", data := .fields #[.ref a] } } := .push0
    have hdo₁ : Heap.DictOf (strKind X.P X.w) (s.heap.push { cls := .type "dict_items", data := .fields #[.ref a] }) a (dvals l') := let ⟨o, es, ep, ho, r⟩ := hdo; ⟨o, es, ep, k₁.keep _ _ ho, r⟩
    obtain ⟨ep, hat⟩ := hdo₁.dictAt
    refine wpAny_pyIter_items ⟨_, Heap.get?_push_size _ rfl, rfl, rfl⟩ hat ?_
    have hn : ∀ b, s.heap.objs.size ≤ b → s.heap.get? b = none := fun b hb => none_of_size hb
    have hsz : (s.heap.push { cls := .type "dict_items", data := .fields #[.ref a] }).objs.size = s.heap.objs.size + 1 := Heap.size_push ..
    have hlt : a < s.heap.objs.size := let ⟨o, _, _, ho, _⟩ := hdo; Heap.lt_size ho
    rw [hsz]
    have hdI : a ≠ s.heap.objs.size + 1 := neN (by have : @LT.lt Nat _ a s.heap.objs.size := hlt; omega)
    have k₂ := fun (ob : Obj) => k₁.trans (Kp.push0 (F := []) (G := []) (s := { s with heap := s.heap.push { cls := .type "dict_items", data := .fields #[.ref a] } }) (o := ob))
    refine h (s.heap.objs.size + 1) [s.heap.objs.size + 1] s.heap.objs.size [] _ (k₂ _) (fun _ _ e => Heap.lt_size e) (fun b hb => by rw [List.mem_singleton.mp hb]; exact hn _ (Nat.le_succ _)) (fun _ hg => nomatch hg) fun N hN => ⟨_, itemsItr (l := l') (ep := ep) ok.h hdI (fun m => ?_), rfl, ⟨.none, .none, ?_⟩, hat.push _⟩
    · rcases List.mem_append.mp m with q | q
      · have h1 := hN _ q
        obtain ⟨o, _, _, ho, _⟩ := hdo
        rw [(k₂ _).keep _ _ ho] at h1; cases h1
      · exact ha q
    · have := Heap.get?_push_size (s.heap.push { cls := .type "dict_items", data := .fields #[.ref a] }) (o := { cls := .type "dict_itemiterator", data := .fields #[.none, .bool false, .ref a, .int 0 0, .int (dvals l').length 0, .int ep 0, .none, .none] }) rfl
      rw [hsz] at this
      exact this

theorem It.values {x : Str} {px apos pos : Pos} {l : List (Str × Int)} (hx : ρ.lookup x = some (.dict l)) (hline : (apos.endLine == pos.line) = true := by rfl) (hd : (x == ("__debug__" : Str)) = false := by decide) :
    It X n env ρ (.Call (.Attribute (.Name x px) "values" apos) [] [] pos) (valuesD l) false := .mk fun A W s Q ok iv h => by
  obtain ⟨v, hb, hr⟩ := iv.vars x _ hx
  cases hr with
  | @dict a l' hdo hs ha =>
    have hcall : ∀ Q' : Value → Shared → Prop, Q' (.ref s.heap.objs.size) { s with heap := s.heap.push { cls := .type "dict_values", data := .fields #[.ref a] } } → wpF X A (eval (.Call (.Attribute (.Name x px) "values" apos) [] [] pos) env) Q' s := fun Q' hQ' => by
      refine wpAny_Call_method (T := "dict") (id := "dict.values") rfl rfl hline F.plainAttrs_dict F.slot_dict_values F.type_dict_values (wpAny_Name (hb.load iv.eb.kind ⟨hdo.typeIs, hdo.mapOf.noDict, ?_⟩) hd)
      show wpAny _ _ (callWith pos (.builtin "dict.values") [.ref a] [] []) Q' _ s
      exact method_meetsIn F.slot_dict_values F.entry_dict_values rfl (PySem.evalArgs_none ⟨rfl, hdo.typeIs, F.args_dict_values_1 _, _, meets_dict_values (strKind X.P X.w) a hs, ⟨_, hdo⟩, hQ'⟩)
    refine hcall _ ?_
    have k₁ : Kp [] [] s { s with heap := s.heap.push { cls := .type "dict_values", data := .fields #[.ref a] } } := .push0
    have hdo₁ : Heap.DictOf (strKind X.P X.w) (s.heap.push { cls := .type "dict_values", data := .fields #[.ref a] }) a (dvals l') := let ⟨o, es, ep, ho, r⟩ := hdo; ⟨o, es, ep, k₁.keep _ _ ho, r⟩
    obtain ⟨ep, hat⟩ := hdo₁.dictAt
    refine wpAny_pyIter_values ⟨_, Heap.get?_push_size _ rfl, rfl, rfl⟩ hat ?_
    have hn : ∀ b, s.heap.objs.size ≤ b → s.heap.get? b = none := fun b hb => none_of_size hb
    have hsz : (s.heap.push { cls := .type "dict_values", data := .fields #[.ref a] }).objs.size = s.heap.objs.size + 1 := Heap.size_push ..
    have hlt : a < s.heap.objs.size := let ⟨o, _, _, ho, _⟩ := hdo; Heap.lt_size ho
    rw [hsz]
    have hdI : a ≠ s.heap.objs.size + 1 := neN (by have : @LT.lt Nat _ a s.heap.objs.size := hlt; omega)
    have k₂ := fun (ob : Obj) => k₁.trans (Kp.push0 (F := []) (G := []) (s := { s with heap := s.heap.push { cls := .type "dict_values", data := .fields #[.ref a] } }) (o := ob))
    refine h (s.heap.objs.size + 1) [s.heap.objs.size + 1] s.heap.objs.size [] _ (k₂ _) (fun _ _ e => Heap.lt_size e) (fun b hb => by rw [List.mem_singleton.mp hb]; exact hn _ (Nat.le_succ _)) (fun _ hg => nomatch hg) fun N hN => ⟨_,
      Itr.walks (c := "dict_valueiterator") (RD := fun _ => True) (Walks.dictValues (knd := strKind X.P X.w) ok.h (s.heap.objs.size + 1) a hdI (dvals l') ep) (by simp [valuesD, dkeys, dvals]) (fun b hb => ?_) ?_ (by decide) ?_ ?_ ?_, rfl, ?_⟩
    · rcases List.mem_cons.mp hb with rfl | hb
      · exact .inl (List.mem_singleton.mpr rfl)
      · rw [List.mem_singleton.mp hb]
        refine .inr fun m => (List.mem_append.mp m).elim (fun q => hdI (List.mem_singleton.mp q)) fun m => (List.mem_append.mp m).elim (fun q => ?_) ha
        have h1 := hN _ q
        obtain ⟨o, _, _, ho, _⟩ := hdo
        rw [(k₂ _).keep _ _ ho] at h1; cases h1
    · intro i h st; obtain ⟨o, ho, hc, _⟩ := st.1; exact ⟨o, ho, hc⟩
    · intro i h st b hb; obtain ⟨o, ho, _⟩ := st.1; rw [List.mem_singleton.mp hb]; exact ⟨o, ho⟩
    · intros; trivial
    · intro i v d h hp hd _
      obtain ⟨k, hk⟩ := hp
      rw [dvals, List.getElem?_map, Option.map_eq_some_iff] at hk
      obtain ⟨⟨k', z, t⟩, h1, h2⟩ := hk
      cases h2
      rw [valuesD, List.getElem?_map, dkeys, List.getElem?_map, h1] at hd
      cases hd
      exact .int _ _
    · refine ⟨⟨⟨{ cls := .type "dict_valueiterator", data := .fields #[.ref a, .int 0 0, .int (dvals l').length 0, .int ep 0] }, ?_, rfl, rfl⟩, hat.push _⟩, trivial⟩
      have := Heap.get?_push_size (s.heap.push { cls := .type "dict_values", data := .fields #[.ref a] }) (o := { cls := .type "dict_valueiterator", data := .fields #[.ref a, .int 0 0, .int (dvals l').length 0, .int ep 0] }) rfl
      rw [hsz] at this
      exact this
end
end Mine

end
section
namespace Mine
variable {X : Cx}

def dset (l : List (Str × Int)) (k : Str) (v : Int) : List (Str × Int) :=
  if l.any (fun p => p.1 = k) then l.map (fun p => if p.1 = k then (p.1, v) else p) else l ++ [(k, v)]
def dget (l : List (Str × Int)) (k : Str) : Option Int := (l.find? fun p => p.1 = k).map (·.2)
theorem stored_vals (l : List (Str × Int × Tok)) (k : Str) (v : Int) (t : Tok) : ∃ l', stored (dvals l) k (.int v t) = dvals l' ∧ dkeys l' = dset (dkeys l) k v := by
  have hany : (dvals l).any (fun p => p.1 = k) = (dkeys l).any (fun p => p.1 = k) := by simp [dvals, dkeys, List.any_map, Function.comp_def]
  unfold stored dset
  rw [hany]
  split
  · refine ⟨l.map fun p => if p.1 = k then (p.1, v, t) else p, ?_, ?_⟩
    · simp only [dvals, List.map_map]
      apply List.map_congr_left
      intro p _
      simp only [Function.comp]
      split <;> rfl
    · simp only [dkeys, List.map_map]
      apply List.map_congr_left
      intro p _
      simp only [Function.comp]
      split <;> rfl
  · exact ⟨l ++ [(k, v, t)], by simp [dvals], by simp [dkeys]⟩
theorem valueAt_vals (l : List (Str × Int × Tok)) (k : Str) : (∃ v t, valueAt (dvals l) k = some (.int v t) ∧ dget (dkeys l) k = some v) ∨ (valueAt (dvals l) k = none ∧ dget (dkeys l) k = none) := by
  induction l with
  | nil => exact .inr ⟨rfl, rfl⟩
  | cons p r ih =>
    unfold valueAt dget dvals dkeys at *
    simp only [List.map_cons, List.find?_cons]
    by_cases h : p.1 = k
    · simp only [h, decide_true]
      exact .inl ⟨p.2.1, p.2.2, rfl, rfl⟩
    · simp only [h, decide_false]
      exact ih

section
variable {n : Nat} {env : Env} {ρ : Vars} {ω ω₁ ω₂ : Own} {KR : D → Prop} {KN : Vars → Own → Prop} {rest : List Stmt}

theorem Ex.iteR {test : Expr} {body orelse : List Stmt} {pos : Pos} {b : Bool} (ht : ∀ (A : Around) (F W : List Addr) (s : Shared) (Q : Bool → Shared → Prop), Ok n A → Sv X (env.cells.map (·.1)) env ρ ω F W s → (∀ s', Kp [] [] s s' → Q b s') → wpF X A (isTrue test env (eval test env)) Q s)
    (h1 : b = true → Ex X n env ρ ω (body ++ rest) KR KN) (h2 : b = false → Ex X n env ρ ω (orelse ++ rest) KR KN) :
    Ex X n env ρ ω (.If test body orelse pos :: rest) KR KN := .mk fun A F W s Q ok sv hR hN => by
  rw [execs_cons, exec_If, bind_assoc]
  refine wpAny_bind (wpAny_standAt ?_)
  rw [bind_assoc]
  refine wpAny_bind (ht A F W s _ ok sv fun s₁ k₁ => ?_)
  have sv₁ := sv.kp k₁
  cases b with
  | true =>
    rw [if_pos rfl]
    have g := (h1 rfl).run A F W s₁ Q ok sv₁ (fun d v s' kd k r => hR d v s' kd (k₁.any.trans k) r) fun ρ' ω' s' kn k sv' => hN _ _ _ kn (k₁.any.trans k) sv'
    rw [execs_append] at g
    exact g
  | false =>
    rw [if_neg (by simp)]
    have g := (h2 rfl).run A F W s₁ Q ok sv₁ (fun d v s' kd k r => hR d v s' kd (k₁.any.trans k) r) fun ρ' ω' s' kn k sv' => hN _ _ _ kn (k₁.any.trans k) sv'
    rw [execs_append] at g
    exact g

theorem Ex.iteIn {x : Str} {a : Addr} {l : List (Str × Int)} {k : Str} {e : Expr} {px cp pos : Pos} {body orelse : List Stmt} (he : Ev X n env ρ e (.str k))
    (h1 : (dget l k).isSome = true → Ex X n env ρ (ω₁ ++ (x, a, .dict l) :: ω₂) (body ++ rest) KR KN) (h2 : (dget l k).isSome = false → Ex X n env ρ (ω₁ ++ (x, a, .dict l) :: ω₂) (orelse ++ rest) KR KN)
    (hm : behindInMarks .In (.Name x px) = false := by with_unfolding_all rfl) (hdb : (x == ("__debug__" : Str)) = false := by decide) :
    Ex X n env ρ (ω₁ ++ (x, a, .dict l) :: ω₂) (.If (.Compare e [.In] [.Name x px] cp) body orelse pos :: rest) KR KN :=
  .iteR (fun A F W s Q ok sv hQ => by
    refine wpAny_isTrue_Compare1 (he.run A W s _ ok sv.iv fun v s₁ k₁ iv₁ r₁ => ?_) hm
    obtain ⟨a1, a2, a3, a4, a5, l', rfl, hdo, hs⟩ := (sv.kp k₁).own x a (.dict l) (List.mem_append_right _ List.mem_cons_self)
    refine wpAny_Name (a5.load sv.iv.eb.kind ?_) hdb
    cases r₁ with | str _ t =>
    refine wpAny_in_of (knd := strKind X.P X.w) (strKind_is X.P X.w k t) hs hdo.mapOf ?_
    refine wpAny_truthy_bool ?_
    have e1 : (valueAt (dvals l') k).isSome = (dget (dkeys l') k).isSome := by
      rcases valueAt_vals l' k with ⟨v, t, h1, h2⟩ | ⟨h1, h2⟩ <;> rw [h1, h2] <;> rfl
    rw [e1]
    exact hQ _ (k₁.trans .toks)) h1 h2

theorem Ex.setD {x : Str} {a : Addr} {l : List (Str × Int)} {k : Str} {v : Int} {ek ev : Expr} {px sp pos : Pos} (hv : Ev X n env ρ ev (.int v)) (hk : Ev X n env ρ ek (.str k)) (hz : l.length ≤ sizeLine) (h : Ex X n env ρ (ω₁ ++ (x, a, .dict (dset l k v)) :: ω₂) rest KR KN)
    (hs : swapsWith ev (some (.Subscript (.Name x px) ek sp)) pos.line env = pure false := by rfl) (hdb : (x == ("__debug__" : Str)) = false := by decide) :
    Ex X n env ρ (ω₁ ++ (x, a, .dict l) :: ω₂) (.Assign [.Subscript (.Name x px) ek sp] ev pos :: rest) KR KN := .step fun A F W s Q ok sv hQ => by
  refine wpAny_Assign_Subscript (hv.run A W s _ ok sv.iv fun v₁ s₁ k₁ iv₁ r₁ => ?_) hs
  have sv₁ := sv.kp k₁
  obtain ⟨_, _, _, _, b5, _⟩ := sv₁.own x a (.dict l) (List.mem_append_right _ List.mem_cons_self)
  refine wpAny_Name (b5.load sv.iv.eb.kind ?_) hdb
  refine hk.run A W s₁ _ ok iv₁ fun v₂ s₂ k₂ iv₂ r₂ => ?_
  have sv₂ := sv₁.kp k₂
  obtain ⟨a1, a2, a3, a4, a5, l', rfl, hdo, hsy⟩ := sv₂.own x a (.dict l) (List.mem_append_right _ List.mem_cons_self)
  cases r₁ with | int _ t₁ =>
  cases r₂ with | str _ t₂ =>
  refine wpAny_setItem_pairs (knd := strKind X.P X.w) (strKind_is X.P X.w k t₂) hdo (fun h' hdo' hsb => ?_) (by simpa [dvals, dkeys] using hz)
  obtain ⟨l'', e1, e2⟩ := stored_vals l' k v t₁
  rw [e1] at hdo'
  have k₃ : Kp [a] [] s₂ { s₂ with heap := h', toks := s₂.toks + 1 } := .same hsb List.mem_cons_self
  refine hQ _ _ _ ((k₁.trans k₂).any.trans (k₃.mono (fun b hb => by rw [List.mem_singleton.mp hb]; exact a1) (by simp))) (sv₂.setOwn (o' := .dict (dset (dkeys l') k v)) k₃ (let ⟨o, _, _, ho, _⟩ := hdo'; ⟨o, ho⟩) ⟨l'', e2, hdo', hsy⟩) h

theorem Ex.augD {x : Str} {a : Addr} {l : List (Str × Int)} {k y : Str} {u v : Int} {ev : Expr} {px py sp pos : Pos} (hy : Ev X n env ρ (.Name y py) (.str k)) (hv : Ev X n env ρ ev (.int v)) (hg : dget l k = some u) (hz : l.length ≤ sizeLine) (h : Ex X n env ρ (ω₁ ++ (x, a, .dict (dset l k (u + v))) :: ω₂) rest KR KN)
    (hdb : (x == ("__debug__" : Str)) = false := by decide) :
    Ex X n env ρ (ω₁ ++ (x, a, .dict l) :: ω₂) (.AugAssign (.Subscript (.Name x px) (.Name y py) sp) .Add ev pos :: rest) KR KN := .step fun A F W s Q ok sv hQ => by
  obtain ⟨_, _, _, _, b5, _⟩ := sv.own x a (.dict l) (List.mem_append_right _ List.mem_cons_self)
  refine wpAny_AugAssign_Subscript (wpAny_Name (b5.load sv.iv.eb.kind ?_) hdb)
  refine hy.run A W s _ ok sv.iv fun v₁ s₁ k₁ iv₁ r₁ => ?_
  have sv₁ := sv.kp k₁
  obtain ⟨a1, a2, a3, a4, a5, l', rfl, hdo, hsy⟩ := sv₁.own x a (.dict l) (List.mem_append_right _ List.mem_cons_self)
  cases r₁ with | str _ t₁ =>
  rcases valueAt_vals l' k with ⟨u', tu, q1, q2⟩ | ⟨_, q2⟩
  · rw [hg] at q2; cases q2
    refine wpAny_getItem_of (knd := strKind X.P X.w) (strKind_is X.P X.w k t₁) hdo.mapOf q1 ?_
    have kt : Kp [] [] s₁ { s₁ with toks := s₁.toks + 1 } := .toks
    refine hv.run A W _ _ ok (iv₁.kp kt) fun v₂ s₂ k₂ iv₂ r₂ => ?_
    cases r₂ with | int _ t₂ =>
    refine PyProof.Rows.iadd_int ?_
    have k₃ : Kp [] [] s₁ { s₂ with toks := s₂.toks + 1 } := (kt.trans k₂).trans .toks
    have sv₃ := sv₁.kp k₃
    have hdo₃ : Heap.DictOf (strKind X.P X.w) ({ s₂ with toks := s₂.toks + 1 } : Shared).heap a (dvals l') := let ⟨o, es, ep, ho, r⟩ := hdo; ⟨o, es, ep, k₃.keep _ _ ho, r⟩
    refine wpAny_setItem_pairs (knd := strKind X.P X.w) (strKind_is X.P X.w k t₁) hdo₃ (fun h' hdo' hsb => ?_) (by simpa [dvals, dkeys] using hz)
    obtain ⟨l'', e1, e2⟩ := stored_vals l' k (u + v) s₂.toks
    rw [e1] at hdo'
    have k₄ : Kp [a] [] { s₂ with toks := s₂.toks + 1 } { s₂ with heap := h', toks := s₂.toks + 1 + 1 } := .same (s := { s₂ with toks := s₂.toks + 1 }) hsb List.mem_cons_self
    refine hQ _ _ _ ((k₁.trans k₃).any.trans (k₄.mono (fun b hb => by rw [List.mem_singleton.mp hb]; exact a1) (by simp))) (sv₃.setOwn (o' := .dict (dset (dkeys l') k (u + v))) k₄ (let ⟨o, _, _, ho, _⟩ := hdo'; ⟨o, ho⟩) ⟨l'', e2, hdo', hsy⟩) h
  · rw [hg] at q2; cases q2

theorem Ts.isTup {x y : Str} {e : Expr} {px py pos : Pos} {i : Int} (hx : GN env x) (hmx : X.mg x = none) (hbx : X.mb x = some (.builtin "isinstance")) (hy : GN env y) (hmy : X.mg y = none) (hby : X.mb y = some (.type "tuple")) (he : Ev X n env ρ e (.int i))
    (hst : ∀ env, starEach [e, .Name y py] env = (false, eval e env) :: starEach [.Name y py] env := by intro _; rfl) (hdx : (x == ("__debug__" : Str)) = false := by decide) (hdy : (y == ("__debug__" : Str)) = false := by decide) :
    Ts X n env ρ (.Call (.Name x px) [e, .Name y py] [] pos) false := .mk fun A W s Q ok iv h => by
  show wpF X A (do let v ← eval (.Call (.Name x px) [e, .Name y py] [] pos) env; standAt pos; holding [v] (truthy v)) Q s
  refine wpAny_bind (Call_ (iv.builtin hx hmx hbx ?_ hdx) rfl)
  refine PyProof.Rows.callWith_builtin1 (spliced_more (he.run A W s _ ok iv fun v s₁ k₁ iv₁ r₁ => ?_) (hst env)) (hst env) rfl
  refine spliced_more (iv₁.builtin hy hmy hby (spliced_nil ?_) hdy) rfl
  cases r₁ with | int _ t =>
  refine PySem.IsiPair.int_tuple ?_
  exact wpAny_bind (wpAny_standAt (wpAny_holding (wpAny_truthy_bool (h _ (k₁.trans .toks) (iv₁.kp .toks)))))
/-- the body stops changing a dict: it is data from here on -/
theorem Ex.freezeD {ω₁ ω₂ : Own} {x : Str} {a : Addr} {l : List (Str × Int)} {ss : List Stmt} (h : Ex X n env ((x, .dict l) :: ρ) (ω₁ ++ ω₂) ss KR never) : Ex X n env ρ (ω₁ ++ (x, a, .dict l) :: ω₂) ss KR never := .mk fun A F W s Q ok sv hR hN => by
  obtain ⟨a1, a2, a3, a4, a5, l', rfl, hdo, hsy⟩ := sv.own x a (.dict l) (List.mem_append_right _ List.mem_cons_self)
  have hnd := sv.ownA
  rw [List.map_append, List.map_cons, List.nodup_append] at hnd
  obtain ⟨n1, n2, n3⟩ := hnd
  rw [List.nodup_cons] at n2
  have oth : ∀ y b ob, (y, b, ob) ∈ ω₁ ++ ω₂ → b ≠ a := fun y b ob hm q => by
    rcases List.mem_append.mp hm with hm | hm
    · exact n3 b (List.mem_map.mpr ⟨_, hm, rfl⟩) a List.mem_cons_self q
    · exact n2.1 (List.mem_map.mpr ⟨_, hm, q⟩)
  have fl : ∀ (L : List Addr) b, b ∈ L.filter (fun c => decide (c ≠ a)) ↔ b ∈ L ∧ b ≠ a := fun L b => by simp [List.mem_filter]
  have sub : ∀ b ∈ W.filter (fun c => decide (c ≠ a)), b ∈ W := fun b hb => ((fl W b).mp hb).1
  have sv' : Sv X (env.cells.map (·.1)) env ((x, .dict (dkeys l')) :: ρ) (ω₁ ++ ω₂) (F.filter (fun c => decide (c ≠ a))) (W.filter (fun c => decide (c ≠ a))) s := by
    refine ⟨⟨sv.iv.eb, sv.iv.wok.sub sub, fun y d hl' => ?_⟩, sv.ns, (fl F _).mpr ⟨sv.lF, Ne.symm a3⟩, (fl W _).mpr ⟨sv.lW, Ne.symm a3⟩, fun b hb => sv.fb b ((fl F b).mp hb).1, fun b hb => sv.fex b ((fl F b).mp hb).1, fun b hb => (fl W b).mpr ⟨sv.fW b ((fl F b).mp hb).1, ((fl F b).mp hb).2⟩, fun y c e => ?_, sv.cI, fun y b o e => ?_, ?_⟩
    · rw [List.lookup_cons] at hl'
      by_cases hy : y = x
      · subst hy
        simp only [BEq.rfl, Option.some.injEq] at hl'
        subst hl'
        exact ⟨_, a5, .dict hdo hsy (fun q => ((fl W a).mp q).2 rfl)⟩
      · have hb : (y == x) = false := beq_eq_false_iff_ne.mpr hy
        simp only [hb] at hl'
        obtain ⟨u, h1, h2⟩ := sv.iv.vars y d hl'
        exact ⟨u, h1, h2.sub sub⟩
    · obtain ⟨h1, h2, h3⟩ := sv.cF y c e
      exact ⟨fun q => (fl F c).mpr ⟨h1 q, Ne.symm (a4 y c e)⟩, h2, h3⟩
    · have hm : (y, b, o) ∈ ω₁ ++ (x, a, .dict (dkeys l')) :: ω₂ := by
        rcases List.mem_append.mp e with q | q
        · exact List.mem_append_left _ q
        · exact List.mem_append_right _ (List.mem_cons_of_mem _ q)
      obtain ⟨h1, h2, h3, h4, h5, h6⟩ := sv.own y b o hm
      refine ⟨(fl F b).mpr ⟨h1, oth y b o e⟩, (fl W b).mpr ⟨h2, oth y b o e⟩, h3, h4, h5, ?_⟩
      cases o with
      | list ds => obtain ⟨vs, l, r⟩ := h6; exact ⟨vs, l, r.sub sub⟩
      | dict l => exact h6
    · rw [List.map_append, List.nodup_append]
      exact ⟨n1, n2.2, fun c hc d hd => n3 c hc d (List.mem_cons_of_mem _ hd)⟩
  refine h.run A _ _ s Q ok sv' (fun d v s' kd k r => hR d v s' kd (k.mono (fun b hb => ((fl F b).mp hb).1) (by simp)) fun U hU => r U fun b hb => ⟨(fl W b).mpr ⟨(hU b hb).1, fun q => (hU b hb).2 (q ▸ a1)⟩, fun q => (hU b hb).2 ((fl F b).mp q).1⟩) fun _ _ _ kn => kn.elim
end
end Mine

end
section
namespace Mine
variable {X : Cx}

def dadd (l : List (Str × Int)) (p : Str × Int) : List (Str × Int) := match dget l p.1 with | some u => dset l p.1 (u + p.2) | none => dset l p.1 p.2
def addF (a b : List (Str × Int)) : List (Str × Int) := b.foldl dadd (a.foldl (fun l p => dset l p.1 p.2) [])
theorem dset_length (l : List (Str × Int)) (k : Str) (v : Int) : (dset l k v).length ≤ l.length + 1 := by unfold dset; split <;> simp
theorem dadd_length (l : List (Str × Int)) (p : Str × Int) : (dadd l p).length ≤ l.length + 1 := by unfold dadd; split <;> exact dset_length _ _ _
theorem fold_length (f : List (Str × Int) → Str × Int → List (Str × Int)) (hf : ∀ l p, (f l p).length ≤ l.length + 1) : ∀ (ps l : List (Str × Int)), (ps.foldl f l).length ≤ l.length + ps.length
  | [], l => Nat.le_refl _
  | p :: ps, l => by
    have h1 := fold_length f hf ps (f l p)
    have h2 := hf l p
    rw [List.foldl_cons, List.length_cons]; omega

theorem fn_add (bt : Bt X) (n : Nat) (a b : List (Str × Int)) (ha : a.length ≤ 1000) (hb : b.length ≤ 1000) : Fn X (n + 1) (recAt 7).name [.dict a, .dict b] (.dict (addF a b)) := by
  have hsz : (2000 : Nat) ≤ sizeLine := by decide
  refine Fn.of2 (p := "target") (q := "source") (bt.hP 7 (by decide)) (fun _ _ _ _ _ => rfl) rfl rfl (by decide) (fun L c cd => ?_)
  refine Ex.ownD (.inl rfl) (by simp) rfl fun r => ?_
  refine Ex.for (It.items (l := a) rfl) (fun i ρ ω => ρ.lookup ("new_callers" : Str) = none ∧ ρ.lookup ("source" : Str) = some (.dict b) ∧ ω = [(("new_callers" : Str), r, OV.dict ((a.take i).foldl (fun l p => dset l p.1 p.2) []))]) ⟨rfl, rfl, rfl⟩ (fun i d ρ ω hd hJ => ?_) (fun ρ ω hJ => ?_) (fun _ => ⟨_, _, _, rfl⟩)
  · obtain ⟨h1, h2, rfl⟩ := hJ
    rw [itemsD, List.getElem?_map, Option.map_eq_some_iff] at hd
    obtain ⟨⟨k, v⟩, hv, rfl⟩ := hd
    have hlen := fold_length (fun l p => dset l p.1 p.2) (fun l p => dset_length l _ _) (a.take i) []
    rw [List.length_take, List.length_nil] at hlen
    refine ⟨_, .pair (.inl rfl) (.inl rfl) (by simp; decide) (by simp; decide), ?_⟩
    refine Ex.setD (ω₁ := []) (.name rfl) (.name rfl) (by omega) (.nil ⟨h1, h2, ?_⟩)
    rw [List.take_add_one, hv, List.foldl_append]; rfl
  obtain ⟨h1, h2, rfl⟩ := hJ
  have e1 : a.take (itemsD a).length = a := List.take_of_length_le (by simp [itemsD])
  rw [e1]
  have hlen1 := fold_length (fun l p => dset l p.1 p.2) (fun l p => dset_length l _ _) a []
  rw [List.length_nil] at hlen1
  refine Ex.for (It.items (l := b) h2) (fun i ρ ω => ρ.lookup ("new_callers" : Str) = none ∧ ω = [(("new_callers" : Str), r, OV.dict ((b.take i).foldl dadd (a.foldl (fun l p => dset l p.1 p.2) [])))]) ⟨h1, rfl⟩ (fun i d ρ ω hd hJ => ?_) (fun ρ ω hJ => ?_) (fun _ => ⟨_, _, _, rfl⟩)
  · obtain ⟨h1, rfl⟩ := hJ
    rw [itemsD, List.getElem?_map, Option.map_eq_some_iff] at hd
    obtain ⟨⟨k, v⟩, hv, rfl⟩ := hd
    have hlen := fold_length dadd dadd_length (b.take i) (a.foldl (fun l p => dset l p.1 p.2) [])
    rw [List.length_take] at hlen
    have hstep : (b.take (i + 1)).foldl dadd (a.foldl (fun l p => dset l p.1 p.2) []) = dadd ((b.take i).foldl dadd (a.foldl (fun l p => dset l p.1 p.2) [])) (k, v) := by rw [List.take_add_one, hv, List.foldl_append]; rfl
    rw [hstep]
    generalize (b.take i).foldl dadd (a.foldl (fun l p => dset l p.1 p.2) []) = M at *
    refine ⟨_, .pair (.inl rfl) (.inl rfl) (by simp; decide) (by simp; decide), ?_⟩
    refine Ex.iteIn (ω₁ := []) (l := M) (k := k) (.name rfl) (fun hs => ?_) (fun hs => ?_)
    · obtain ⟨u, hu⟩ := Option.isSome_iff_exists.mp hs
      refine Ex.ite (b := false) (Ts.isTup rfl (bt.free _ (by decide)) ((bt.mb (by decide)).trans rfl) rfl (bt.free _ (by decide)) ((bt.mb (by decide)).trans rfl) (.name (d := .int v) rfl)) (fun h => nomatch h) (fun _ => ?_)
      refine Ex.augD (ω₁ := []) (u := u) (.name rfl) (.name rfl) hu (by omega) (.nil ⟨h1, ?_⟩)
      rw [dadd, hu]; rfl
    · have hu : dget M k = none := by simpa using hs
      refine Ex.setD (ω₁ := []) (.name rfl) (.name rfl) (by omega) (.nil ⟨h1, ?_⟩)
      rw [dadd, hu]; rfl
  · obtain ⟨h1, rfl⟩ := hJ
    have e2 : b.take (itemsD b).length = b := List.take_of_length_le (by simp [itemsD])
    rw [e2]
    exact Ex.freezeD (ω₁ := []) (ω₂ := []) (Ex.ret (.name rfl) rfl)

def cntF (l : List (Str × Int)) : Int := (l.map (·.2)).foldl (· + ·) 0
theorem fn_cnt (bt : Bt X) (n : Nat) (l : List (Str × Int)) : Fn X (n + 1) (recAt 8).name [.dict l] (.int (cntF l)) := by
  refine Fn.of1 (p := "callers") (bt.hP 8 (by decide)) (fun _ _ _ _ => rfl) rfl (fun L c cd => ?_)
  refine Ex.assign .int (.inl rfl) (by simp) ?_
  refine Ex.for (It.values (l := l) rfl) (fun i ρ ω => ω = [] ∧ ρ.lookup ("nc" : Str) = some (.int (((l.take i).map (·.2)).foldl (· + ·) 0))) ⟨rfl, rfl⟩ (fun i d ρ ω hd hJ => ?_) (fun ρ ω hJ => ?_) (fun h => nomatch h)
  · obtain ⟨rfl, h1⟩ := hJ
    rw [valuesD, List.getElem?_map, Option.map_eq_some_iff] at hd
    obtain ⟨⟨k, v⟩, hv, rfl⟩ := hd
    refine ⟨_, .name (.inl rfl) (by simp), ?_⟩
    refine Ex.augAdd h1 (.name rfl) (.inl rfl) (by simp) (.nil ⟨rfl, ?_⟩)
    rw [List.take_add_one, hv, List.map_append, List.foldl_append]; rfl
  · obtain ⟨rfl, h1⟩ := hJ
    have e1 : l.take (valuesD l).length = l := List.take_of_length_le (by simp [valuesD])
    rw [e1] at h1
    exact Ex.ret (.name h1) rfl
end Mine

end
section
namespace Mine
variable {X : Cx}

theorem Reps.ints {W : List Addr} {h : Heap} : ∀ {vs : List Value} {is : List Int}, Reps X W h vs (is.map D.int) → ∃ xs : List (Int × Tok), vs = xs.map (fun p => Value.int p.1 p.2) ∧ xs.map (·.1) = is
  | _, [], .nil => ⟨[], rfl, rfl⟩
  | _, i :: is, .cons r rs => by
    cases r with | int _ t =>
    obtain ⟨xs, rfl, rfl⟩ := Reps.ints rs
    exact ⟨(i, t) :: xs, rfl, rfl⟩

section
variable {n : Nat} {env : Env} {ρ : Vars}
theorem Ev.sumL {x : Str} {e : Expr} {p pos : Pos} {is : List Int} (hx : GN env x) (hm : X.mg x = none) (hv : X.mb x = some (.builtin "sum")) (he : Ev X n env ρ e (.list (is.map D.int)))
    (hst : ∀ env, starEach [e] env = [(false, eval e env)] := by intro _; rfl) (hdb : (x == ("__debug__" : Str)) = false := by decide) : Ev X n env ρ (.Call (.Name x p) [e] [] pos) (.int is.sum) :=
  .callb hx hm hv (.cons he .nil hst) (fun A W s vs Q ok iv rs h => by
    cases rs with
    | cons r1 rs =>
      cases rs
      cases r1 with
      | list hl ha rs =>
        obtain ⟨xs, rfl, rfl⟩ := rs.ints
        have hl' := hl.isList
        have e1 : (xs.map (fun p => Value.int p.1 p.2)).toArray = intItems xs.toArray := by simp [intItems]
        rw [e1] at hl'
        refine sum_intListG ok.h hl' fun h' tk t' hk => ?_
        have kp : Kp [] [] s { s with heap := h', toks := tk } := .of_heap fun b o _ e => hk b o e
        have e2 : preSum (numAt xs.toArray) xs.toArray.size = (xs.map (·.1)).sum := by
          rw [preSum_eq, List.take_of_length_le (by simp)]
        rw [e2]
        exact h _ _ kp (.int _ _)) hst (fun _ => rfl) hdb

theorem Ev.strB {x : Str} {e : Expr} {p pos : Pos} {b : Bool} (hx : GN env x) (hm : X.mg x = none) (hv : X.mb x = some (.type "str")) (he : Ev X n env ρ e (.bool b))
    (hst : ∀ env, starEach [e] env = [(false, eval e env)] := by intro _; rfl) (hdb : (x == ("__debug__" : Str)) = false := by decide) : Ev X n env ρ (.Call (.Name x p) [e] [] pos) (.str (if b then "True" else "False")) := .mk fun A W s Q ok iv h => by
  refine callType ok iv hx hm hv (.cons he .nil hst) (fun vs s₁ k₁ iv₁ rs => ?_) hst (fun _ => rfl) hdb
  cases rs with
  | cons r1 rs =>
    cases rs
    cases r1
    exact PySem.P.str_of_bool (h _ _ (k₁.trans .toks) (iv₁.kp .toks) (.str _ _))

theorem Ev.dict1 {ek ev : Expr} {pos : Pos} {k : Str} {v : Int} (hk : Ev X n env ρ ek (.str k)) (hv : Ev X n env ρ ev (.int v)) : Ev X n env ρ (.Dict [some ek] [ev] pos) (.dict [(k, v)]) := .mk fun A W s Q ok iv h => by
  refine wpAny_Dict_walk (knd := strKind X.P X.w) rfl rfl (by simp) (by simp) ?_
  have hn : s.heap.get? s.heap.objs.size = none := none_of_size (Nat.le_refl _)
  have k0 : Kp [] [] s { s with heap := s.heap.push { cls := .type "dict", data := .dict #[] } } := .push0
  have hd0 : Heap.DictOf (strKind X.P X.w) (s.heap.push { cls := .type "dict", data := .dict #[] }) s.heap.objs.size [] := ⟨_, #[], 0, Heap.get?_push_size _ rfl, ⟨rfl, rfl, rfl⟩, rfl, (fun _ he => by simp at he), Pairs.nil, List.nodup_nil⟩
  have hsys : s.heap.objs.size ≠ sysModules := fun q => by
    obtain ⟨mc, ⟨o2, _, _, hc2, _⟩, _⟩ := X.T.nolimit
    have := Heap.lt_size (iv.wok.base _ _ hc2)
    rw [q] at this
    exact absurd this (by decide)
  refine pairTrees_cons_walk (hk.run A W _ _ ok (iv.kp k0) fun v₁ s₁ k₁ iv₁ r₁ => hv.run A W _ _ ok iv₁ fun v₂ s₂ k₂ iv₂ r₂ => pairTrees_nil_walk ?_)
  cases r₁ with | str _ t₁ =>
  cases r₂ with | int _ t₂ =>
  have k12 := k₁.trans k₂
  refine ⟨[(k, .int v t₂)], ⟨strKind_is X.P X.w k t₁, rfl, trivial⟩, let ⟨o, es, ep, ho, r⟩ := hd0; ⟨o, es, ep, k12.keep _ _ ho, r⟩, fun h' hdo hs => ?_⟩
  have k3 : Kp [s.heap.objs.size] [] s₂ { s₂ with heap := h', toks := s₂.toks + 1 } := .same hs List.mem_cons_self
  have kk : Kp [] [] s { s₂ with heap := h', toks := s₂.toks + 1 } := Kp.drop (((k0.trans k12).any).trans k3) (fun b hb => .inr (by rw [List.mem_singleton.mp hb]; exact hn)) (fun _ h => nomatch h)
  refine h _ _ kk (iv.kp kk) ?_
  have := Rep.dict (X := X) (W := W) (h := h') (a := s.heap.objs.size) (l := [(k, v, t₂)]) hdo (by simpa using hsys) iv.fresh
  exact this

theorem Ev.dgetN {x : Str} {ek ed : Expr} {px apos pos : Pos} {l : List (Str × Int)} {k : Str} {z : Int} (hx : Ev X n env ρ (.Name x px) (.dict l)) (hk : Ev X n env ρ ek (.str k)) (hz : Ev X n env ρ ed (.int z))
    (hst : ∀ env, starEach [ek, ed] env = [(false, eval ek env), (false, eval ed env)] := by intro _; rfl) (hline : (apos.endLine == pos.line) = true := by rfl) :
    Ev X n env ρ (.Call (.Attribute (.Name x px) "get" apos) [ek, ed] [] pos) (.int ((dget l k).getD z)) := .mk fun A W s Q ok iv h => by
  refine Call_method2 rfl (hst env) hline (hx.run A W s _ ok iv fun v s₁ k₁ iv₁ r₁ => ?_)
  cases r₁ with
  | @dict a l' hdo hs ha =>
  refine ⟨"dict", "dict.get", F.plainAttrs_dict, F.slot_dict_get, F.type_dict_get, hdo.typeIs, hdo.mapOf.noDict, ?_⟩
  refine method2_meetsIn F.slot_dict_get F.entry_dict_get (hk.run A W s₁ _ ok iv₁ fun v₂ s₂ k₂ iv₂ r₂ => hz.run A W s₂ _ ok iv₂ fun v₃ s₃ k₃ iv₃ r₃ => ?_)
  have k23 := k₂.trans k₃
  have hdo₃ : Heap.DictOf (strKind X.P X.w) s₃.heap a (dvals l') := let ⟨o, es, ep, ho, r⟩ := hdo; ⟨o, es, ep, k23.keep _ _ ho, r⟩
  cases r₂ with | str _ t₂ =>
  cases r₃ with | int _ t₃ =>
  refine ⟨hdo₃.typeIs, F.args_dict_get_3 _ _ _, _, meets_dict_get_default (strKind X.P X.w) a (strKind_is X.P X.w k t₂) hs (.int z t₃), _, hdo₃.mapOf, ?_⟩
  have kk : Kp [] [] s { s₃ with toks := s₃.toks + 1 } := (k₁.trans k23).trans .toks
  refine h _ _ kk (iv.kp kk) ?_
  rcases valueAt_vals l' k with ⟨u, tu, q1, q2⟩ | ⟨q1, q2⟩
  · rw [q1, q2]; exact .int _ _
  · rw [q1, q2]; exact .int _ _
end
end Mine

end
section
namespace Mine
variable {X : Cx}

theorem Ev.dict0 {n : Nat} {env : Env} {ρ : Vars} {pos : Pos} : Ev X n env ρ (.Dict [] [] pos) (.dict []) := .mk fun A W s Q ok iv h => by
  have hsys : s.heap.objs.size ≠ sysModules := fun q => by
    obtain ⟨mc, ⟨o2, _, _, hc2, _⟩, _⟩ := X.T.nolimit
    have := Heap.lt_size (iv.wok.base _ _ hc2)
    rw [q] at this
    exact absurd this (by decide)
  refine wpAny_Dict_empty (h _ _ .push0 (iv.kp .push0) ?_)
  exact Rep.dict (X := X) (W := W) (l := []) ⟨_, #[], 0, Heap.get?_push_size _ rfl, ⟨rfl, rfl, rfl⟩, rfl, (fun _ he => by simp at he), Pairs.nil, List.nodup_nil⟩ (by simpa using hsys) iv.fresh
theorem ScOk.of0 {env : Env} {ρ : Vars} {scope : Scope} (hk : scope.kind = .function) (h1 : (scope.names.all fun p => p.2 != .free) = true) (h2 : (scope.names.all fun p => p.2 != .local || scope.names.lookup p.1 == some .local) = true) (h3 : (cellNames scope.names).Nodup) : ScOk env ρ [] scope :=
  ⟨hk, (fun x h => by have := List.all_eq_true.mp h1 _ h; simp at this), (fun x d h => by cases h), (fun x hx hl => by have := List.all_eq_true.mp h2 _ hx; simpa [hl] using this), h3⟩
theorem fm_map {α β γ δ : Type} {f : α → β} {g : β → Option γ} {k : α → δ} {h : δ → γ} : ∀ {l : List α}, (∀ x ∈ l, g (f x) = some (h (k x))) → (l.map f).filterMap g = (l.map k).map h
  | [], _ => rfl
  | x :: l, hx => by
    rw [List.map_cons, List.filterMap_cons, hx x List.mem_cons_self, List.map_cons, List.map_cons, fm_map fun y hy => hx y (List.mem_cons_of_mem _ hy)]

def piecesA : List (Str × Int) := [("(", 1), (")", -1), ("\\\\(", 1), ("\"(\")", -1)]
def piecesB : List (Str × Int) := [("\\(", 0), ("\\)", 0), ("\")\\\"(\"", 0), ("\\\"", 0)]
def pieceV (k : Int) : Str × Int := if k.fmod 5 < 4 then piecesA.getD (k.fmod 5).toNat ("", 0) else piecesB.getD (k.fdiv 5).toNat ("", 0)
def pairD (p : Str × Int) : D := .tup [.str p.1, .int p.2]

theorem getD_map {l : List (Str × Int)} {i : Nat} (h : i < l.length) : (l.map pairD)[i]? = some (pairD (l.getD i ("", 0))) := by
  rw [List.getElem?_map, List.getElem?_eq_getElem h, List.getD_eq_getElem?_getD, List.getElem?_eq_getElem h]; rfl

theorem fn_piece (bt : Bt X) (n : Nat) (k : Int) (h0 : 0 ≤ k) (h1 : k < 20) : Fn X (n + 1) (recAt 10).name [.int k] (pairD (pieceV k)) := by
  have f5 : (0 : Int) ≤ k.fmod 5 ∧ k.fmod 5 < 5 := ⟨Int.fmod_nonneg_of_pos _ (by decide), Int.fmod_lt_of_pos _ (by decide)⟩
  have d5 : (0 : Int) ≤ k.fdiv 5 ∧ k.fdiv 5 < 4 := by rw [Int.fdiv_eq_ediv_of_nonneg _ (by decide)]; omega
  refine Fn.of1 (p := "number") (bt.hP 10 (by decide)) (fun _ _ _ _ => rfl) rfl (fun L a cd => ?_)
  refine Ex.ite (b := decide (k.fmod 5 < 4)) (Ts.cmp (.mod (.name rfl) .int (by decide)) .int CmpI.lt) (fun hb => ?_) (fun hb => ?_)
  · have hlt : k.fmod 5 < 4 := of_decide_eq_true hb
    refine Ex.ret (Ev.itemL (ds := piecesA.map pairD) ?_ (.mod (.name rfl) .int (by decide)) f5.1 (by omega) (getD_map (by show (k.fmod 5).toNat < 4; omega))) (by rw [pieceV, if_pos hlt])
    exact .listd (.cons (.tuple (.cons .str (.cons .int .nil))) (.cons (.tuple (.cons .str (.cons (.neg .int) .nil))) (.cons (.tuple (.cons .str (.cons .int .nil))) (.cons (.tuple (.cons .str (.cons (.neg .int) .nil))) .nil))))
  · have hge : ¬ k.fmod 5 < 4 := of_decide_eq_false hb
    refine Ex.ret (Ev.itemL (ds := piecesB.map pairD) ?_ (.div (.name rfl) .int (by decide) (PyProof.noPylong_small (by omega))) d5.1 (by omega) (getD_map (by show (k.fdiv 5).toNat < 4; omega))) (by rw [pieceV, if_neg hge])
    exact .listd (.cons (.tuple (.cons .str (.cons .int .nil))) (.cons (.tuple (.cons .str (.cons .int .nil))) (.cons (.tuple (.cons .str (.cons .int .nil))) (.cons (.tuple (.cons .str (.cons .int .nil))) .nil))))

def stepsOf (l : List (Str × Int)) : List Int := l.map (·.2)
def ringF (numbers : List Int) : List (Str × Int) :=
  if (stepsOf (numbers.map pieceV)).sum < 1 then numbers.map pieceV ++ List.replicate (1 - (stepsOf (numbers.map pieceV)).sum).toNat (("(" : Str), (1 : Int))
  else numbers.map pieceV ++ List.replicate ((stepsOf (numbers.map pieceV)).sum - 1).toNat ((")" : Str), (-1 : Int))

theorem sum_abs : ∀ l : List Int, (∀ x ∈ l, -1 ≤ x ∧ x ≤ 1) → -(l.length : Int) ≤ l.sum ∧ l.sum ≤ l.length
  | [], _ => by simp
  | x :: r, h => by
    have h1 := h x List.mem_cons_self
    have h2 := sum_abs r fun y hy => h y (List.mem_cons_of_mem _ hy)
    simp only [List.sum_cons, List.length_cons]; omega
theorem pieceV_step (k : Int) : -1 ≤ (pieceV k).2 ∧ (pieceV k).2 ≤ 1 := by
  have key : ∀ (l : List (Str × Int)) (i : Nat), (∀ p ∈ l, -1 ≤ p.2 ∧ p.2 ≤ 1) → -1 ≤ (l.getD i ("", 0)).2 ∧ (l.getD i ("", 0)).2 ≤ 1 := fun l i h => by
    rw [List.getD_eq_getElem?_getD]
    cases e : l[i]? with
    | none => exact ⟨by decide, by decide⟩
    | some p => exact h p (List.mem_of_getElem? e)
  unfold pieceV
  split
  · exact key _ _ (by decide)
  · exact key _ _ (by decide)

theorem fn_ring (bt : Bt X) (n : Nat) (numbers : List Int) (hn : ∀ k ∈ numbers, 0 ≤ k ∧ k < 20) (hl : numbers.length ≤ 9) : Fn X (n + 2) (recAt 11).name [.list (numbers.map D.int)] (.list ((ringF numbers).map pairD)) := by
  have hsz : (100 : Nat) ≤ sizeLine := by decide
  have hab := sum_abs (stepsOf (numbers.map pieceV)) (fun x hx => by
    simp only [stepsOf, List.mem_map] at hx
    obtain ⟨p, ⟨k, hk, rfl⟩, rfl⟩ := hx
    exact pieceV_step k)
  have hlen : (stepsOf (numbers.map pieceV)).length = numbers.length := by simp [stepsOf]
  rw [hlen] at hab
  refine Fn.of1 (p := "numbers") (bt.hP 11 (by decide)) (fun _ _ _ _ => rfl) rfl (fun L a cd => ?_)
  have e1 : ((numbers.map D.int).filterMap fun d => match d with | .int k => some (pairD (pieceV k)) | _ => none) = (numbers.map pieceV).map pairD := by
    exact fm_map fun _ _ => rfl
  refine Ex.assignc (fun d => match d with | .int k => some (pairD (pieceV k)) | _ => none) (It.list (.name (d := .list (numbers.map D.int)) rfl)) (fun h => nomatch h) (ScOk.of0 rfl (by decide) (by decide) (by decide)) (by rw [List.length_map]; omega) (fun cenv ce eb d hd => ?_) (.inl rfl) (by simp) ?_
  · obtain ⟨k, hk, rfl⟩ := List.mem_map.mp hd
    refine ⟨_, true, .name (.inl (ce.kind _ _ rfl (by decide))) (by simp), (fun y e h => by cases h), .none, fun _ => ⟨_, rfl, ?_⟩, fun h => nomatch h⟩
    exact .callf (dr := recAt 10) (bt.hP 10 (by decide)) (ce.kind _ _ rfl (by decide)) (.cons (.name rfl) .nil) (fn_piece bt n k (hn k hk).1 (hn k hk).2)
  rw [e1]
  have e2 : (((numbers.map pieceV).map pairD).filterMap fun d => match d with | .tup [_, .int i] => some (D.int i) | _ => none) = (stepsOf (numbers.map pieceV)).map D.int := by
    exact fm_map fun _ _ => rfl
  refine Ex.assign (.sumL (is := stepsOf (numbers.map pieceV)) rfl (bt.free _ (by decide)) ((bt.mb (by decide)).trans rfl) (e2 ▸ Ev.comp (fun d => match d with | .tup [_, .int i] => some (D.int i) | _ => none) (It.list (.name (d := .list ((numbers.map pieceV).map pairD)) rfl)) (fun h => nomatch h) (ScOk.of0 rfl (by decide) (by decide) (by decide)) (by simp; omega) (fun cenv ce eb d hd => ?_))) (.inl rfl) (by simp) ?_
  · obtain ⟨p, hp, rfl⟩ := List.mem_map.mp hd
    exact ⟨_, true, .pair (.inl (ce.kind _ _ rfl (by decide))) (.inl (ce.kind _ _ rfl (by decide))) (by simp) (by simp), (fun y e h => by cases h), .none, fun _ => ⟨_, rfl, .name rfl⟩, fun h => nomatch h⟩
  refine Ex.ite (b := decide ((stepsOf (numbers.map pieceV)).sum < 1)) (Ts.cmp (.name rfl) .int CmpI.lt) (fun hb => ?_) (fun hb => ?_)
  · have hb := of_decide_eq_true hb
    refine Ex.ret (.addL (.name rfl) (.mulL (a := pairD (("(" : Str), (1 : Int))) (.listd (.cons (.tuple (.cons .str (.cons .int .nil))) .nil)) (.sub .int (.name rfl)) (by omega) (by omega)) (by simp; omega)) ?_
    rw [ringF, if_pos hb, List.map_append, List.map_replicate]
  · have hb := of_decide_eq_false hb
    refine Ex.ret (.addL (.name rfl) (.mulL (a := pairD ((")" : Str), (-1 : Int))) (.listd (.cons (.tuple (.cons .str (.cons (.neg .int) .nil))) .nil)) (.sub (.name rfl) .int) (by omega) (by omega)) (by simp; omega)) ?_
    rw [ringF, if_neg hb, List.map_append, List.map_replicate]

/-- what a row's parts give -/
structure TS where
  tally : List (Str × Int)
  part : Str
  opened : Int
  height : Int
def stepT (s : TS) (p : Str × Int) : TS :=
  let part := s.part ++ p.1
  let height := s.height + p.2
  let opened := if p.2 = 1 then s.opened + 1 else s.opened
  if height = 0 then ⟨addF s.tally [(if checkF part then "True" else "False", opened)], "", 0, height⟩ else ⟨s.tally, part, opened, height⟩
def tallyF (row : List (Str × Int)) : List (Str × Int) := (row.foldl stepT ⟨[], "", 0, 0⟩).tally

theorem addF_length (a b : List (Str × Int)) : (addF a b).length ≤ a.length + b.length := by
  have h1 := fold_length (fun l p => dset l p.1 p.2) (fun l p => dset_length l _ _) a []
  have h2 := fold_length dadd dadd_length b (a.foldl (fun l p => dset l p.1 p.2) [])
  rw [List.length_nil] at h1
  unfold addF; omega
theorem str_app_len (a b : Str) : (a ++ b).length = a.length + b.length := Str.length_append a b
theorem foldT_small : ∀ (row : List (Str × Int)) (s : TS), (∀ p ∈ row, p.1.length ≤ 6) → (row.foldl stepT s).tally.length ≤ s.tally.length + row.length ∧ (row.foldl stepT s).part.length ≤ s.part.length + 6 * row.length
  | [], s, _ => ⟨Nat.le_refl _, Nat.le_refl _⟩
  | p :: r, s, h => by
    have h1 := foldT_small r (stepT s p) fun q hq => h q (List.mem_cons_of_mem _ hq)
    have h2 := h p List.mem_cons_self
    have h3 : (stepT s p).tally.length ≤ s.tally.length + 1 ∧ (stepT s p).part.length ≤ s.part.length + 6 := by
      unfold stepT
      simp only
      split
      · refine ⟨addF_length _ _, ?_⟩
        show (0 : Nat) ≤ _
        omega
      · refine ⟨Nat.le_succ _, ?_⟩
        show (s.part ++ p.1).length ≤ _
        rw [str_app_len]; omega
    rw [List.foldl_cons, List.length_cons]; omega

theorem fn_tally (bt : Bt X) (n : Nat) (row : List (Str × Int)) (hr : ∀ p ∈ row, p.1.length ≤ 6) (hl : row.length ≤ 100) : Fn X (n + 6) (recAt 12).name [.list (row.map pairD)] (.dict (tallyF row)) := by
  have hsz : (3000 : Nat) ≤ sizeLine := by decide
  refine Fn.of1 (p := "row") (bt.hP 12 (by decide)) (fun _ _ _ _ => rfl) rfl (fun L a cd => ?_)
  refine Ex.assign .dict0 (.inl rfl) (by simp) ?_
  refine Ex.assign .str (.inl rfl) (by simp) ?_
  refine Ex.assign .int (.inl rfl) (by simp) ?_
  refine Ex.assign .int (.inl rfl) (by simp) ?_
  refine Ex.for (It.list (.name (d := .list (row.map pairD)) rfl)) (fun i ρ ω => ω = [] ∧ ρ.lookup ("tally" : Str) = some (.dict ((row.take i).foldl stepT ⟨[], "", 0, 0⟩).tally) ∧ ρ.lookup ("part" : Str) = some (.str ((row.take i).foldl stepT ⟨[], "", 0, 0⟩).part) ∧ ρ.lookup ("opened" : Str) = some (.int ((row.take i).foldl stepT ⟨[], "", 0, 0⟩).opened) ∧ ρ.lookup ("height" : Str) = some (.int ((row.take i).foldl stepT ⟨[], "", 0, 0⟩).height)) ⟨rfl, rfl, rfl, rfl, rfl⟩ (fun i d ρ ω hd hJ => ?_) (fun ρ ω hJ => ?_) (fun h => nomatch h)
  · obtain ⟨rfl, h1, h2, h3, h4⟩ := hJ
    rw [List.getElem?_map, Option.map_eq_some_iff] at hd
    obtain ⟨⟨pc, st⟩, hv, rfl⟩ := hd
    have hmem : (pc, st) ∈ row := List.mem_of_getElem? hv
    have hlt := (List.getElem?_eq_some_iff.mp hv).1
    have hpc := hr _ hmem
    have hsm := foldT_small (row.take i) ⟨[], "", 0, 0⟩ fun p hp => hr p (List.mem_of_mem_take hp)
    rw [List.length_take] at hsm
    have hstep : (row.take (i + 1)).foldl stepT ⟨[], "", 0, 0⟩ = stepT ((row.take i).foldl stepT ⟨[], "", 0, 0⟩) (pc, st) := by rw [List.take_add_one, hv, List.foldl_append]; rfl
    rw [hstep]
    clear hstep
    generalize (row.take i).foldl stepT ⟨[], "", 0, 0⟩ = S at *
    obtain ⟨tally, part, opened, height⟩ := S
    have hs1 : tally.length ≤ 0 + min i row.length := hsm.1
    have hs2 : part.length ≤ 0 + 6 * min i row.length := hsm.2
    have hpart : (part ++ pc).length ≤ 2000 := by
      rw [str_app_len]
      have : pc.length ≤ 6 := hpc
      omega
    simp only at h1 h2 h3 h4
    refine ⟨_, .pair (.inl rfl) (.inl rfl) (by simp) (by simp), ?_⟩
    refine Ex.assign (.cat (.name h2) (.name rfl) (by show part.length + pc.length ≤ sizeLine; rw [← str_app_len]; omega)) (.inl rfl) (by simp) ?_
    refine Ex.assign (.add (.name h4) (.name rfl)) (.inl rfl) (by simp) ?_
    refine Ex.ite (b := st == 1) (Ts.cmp (.name rfl) .int CmpI.eq) (fun hb => ?_) (fun hb => ?_)
    · have hb : st = 1 := by simpa using hb
      refine Ex.assign (.add (.name h3) .int) (.inl rfl) (by simp) ?_
      refine Ex.ite (b := (height + st) == 0) (Ts.cmp (.name rfl) .int CmpI.eq) (fun hz => ?_) (fun hz => ?_)
      · have hz : height + st = 0 := by simpa using hz
        refine Ex.assign (.callf (dr := recAt 7) (bt.hP 7 (by decide)) rfl (.cons (.name (d := .dict tally) h1) (.cons (.dict1 (v := opened + 1) (.strB (b := checkF (part ++ pc)) rfl (bt.free _ (by decide)) ((bt.mb (by decide)).trans rfl) (.callf (dr := recAt 3) (bt.hP 3 (by decide)) rfl (.cons (.name rfl) .nil) (fn_check bt n (part ++ pc) hpart))) (.name rfl)) .nil)) (fn_add bt (n + 4) tally _ (by omega) (by simp))) (.inl rfl) (by simp) ?_
        refine Ex.assign .str (.inl rfl) (by simp) ?_
        refine Ex.assign .int (.inl rfl) (by simp) (.nil ?_)
        have es : stepT ⟨tally, part, opened, height⟩ (pc, st) = ⟨addF tally [(if checkF (part ++ pc) then "True" else "False", opened + 1)], "", 0, height + st⟩ := by
          unfold stepT; simp only [if_pos hz, if_pos hb]
        rw [es]; exact ⟨rfl, rfl, rfl, rfl, rfl⟩
      · have hz : ¬ height + st = 0 := by simpa using hz
        have es : stepT ⟨tally, part, opened, height⟩ (pc, st) = ⟨tally, part ++ pc, opened + 1, height + st⟩ := by
          unfold stepT; simp only [if_neg hz, if_pos hb]
        rw [es]; exact .nil ⟨rfl, h1, rfl, rfl, rfl⟩
    · have hb : ¬ st = 1 := by simpa using hb
      refine Ex.ite (b := (height + st) == 0) (Ts.cmp (.name rfl) .int CmpI.eq) (fun hz => ?_) (fun hz => ?_)
      · have hz : height + st = 0 := by simpa using hz
        refine Ex.assign (.callf (dr := recAt 7) (bt.hP 7 (by decide)) rfl (.cons (.name (d := .dict tally) h1) (.cons (.dict1 (v := opened) (.strB (b := checkF (part ++ pc)) rfl (bt.free _ (by decide)) ((bt.mb (by decide)).trans rfl) (.callf (dr := recAt 3) (bt.hP 3 (by decide)) rfl (.cons (.name rfl) .nil) (fn_check bt n (part ++ pc) hpart))) (.name h3)) .nil)) (fn_add bt (n + 4) tally _ (by omega) (by simp))) (.inl rfl) (by simp) ?_
        refine Ex.assign .str (.inl rfl) (by simp) ?_
        refine Ex.assign .int (.inl rfl) (by simp) (.nil ?_)
        have es : stepT ⟨tally, part, opened, height⟩ (pc, st) = ⟨addF tally [(if checkF (part ++ pc) then "True" else "False", opened)], "", 0, height + st⟩ := by
          unfold stepT; simp only [if_pos hz, if_neg hb]
        rw [es]; exact ⟨rfl, rfl, rfl, rfl, rfl⟩
      · have hz : ¬ height + st = 0 := by simpa using hz
        have es : stepT ⟨tally, part, opened, height⟩ (pc, st) = ⟨tally, part ++ pc, opened, height + st⟩ := by
          unfold stepT; simp only [if_neg hz, if_neg hb]
        rw [es]; exact .nil ⟨rfl, h1, rfl, h3, rfl⟩
  · obtain ⟨rfl, h1, h2, h3, h4⟩ := hJ
    have e1 : row.take (row.map pairD).length = row := List.take_of_length_le (by simp)
    rw [e1] at h1
    exact Ex.ret (.name h1) rfl
end Mine

end
section
namespace Mine
variable {X : Cx}

def clsBody : Stmt → List Stmt
  | .ClassDef _ _ _ body .. => body
  | _ => []
def methAt (j : Nat) : DefRec := recOf ((clsBody (pw.main.body.getD 6 (.Pass default))).getD j (.Pass default))
def fdM (dr : DefRec) (q : Str) (pm cd : Value) : FuncData :=
  { name := dr.name, qualname := q, params := dr.params, body := .stmts dr.body, scope := dr.scope, globals := mainGlobals, closure := [], defaults := .none, kwdefaults := .none, doc := .none, pyModule := pm, code := cd, builtins := builtinsNs }

structure Meth (X : Cx) (dr : DefRec) (q : Str) (f : Addr) (pm cd : Value) : Prop where
  find : findIn X.K (.ref X.CC) dr.name = some (some (.ref f))
  typ : typeIn X.K (.ref f) = some (.type "function")
  get : ∃ o, X.h0.get? f = some o ∧ o.data = .func (fdM dr q pm cd)
  code : X.h0.CodeRec cd q
structure TC (X : Cx) : Prop where
  cls : X.mg "TupleComp" = some (.ref X.CC)
  makes : makesIn X.K X.CC = true
  init : ∃ f pm cd, Meth X (methAt 0) "TupleComp.__init__" f pm cd
  comp : ∃ f pm cd, Meth X (methAt 1) "TupleComp.compare" f pm cd
  ga : findIn X.K (.ref X.CC) "__getattribute__" = some (some (.builtin "object.__getattribute__"))
  gt : findIn X.K (.ref X.CC) "__getattr__" = some none
  sa : findIn X.K (.ref X.CC) "__setattr__" = some (some (.builtin "object.__setattr__"))
  po : plainOver X.K X.CC = true
  tk : takerIn X.K X.CC "comp_select_list" = some none
  hd : (clsIn X.K X.CC).any (·.hasDict) = true
  fi : findIn X.K (.ref X.CC) "comp_select_list" = some none

/-- a call of a function that stands at the top, by its address -/
theorem enterM {n : Nat} {dr : DefRec} {q : Str} {f : Addr} {o : Obj} {pm cd : Value} (hget : X.h0.get? f = some o) (hdata : o.data = .func (fdM dr q pm cd)) (hcode : X.h0.CodeRec cd q) {args : List D} {r : D} {ρ : Vars} {bs : List Value → List (Str × Value)}
    (hb : ∀ W (h : Heap) vs, Reps X W h vs args → bindArgs (fdM dr q pm cd) ⟨vs, []⟩ = pure (bs vs) ∧ (∀ x ∈ bs vs, dr.scope.names.lookup x.1 = some .local) ∧
      ∀ x d, ρ.lookup x = some d → ∃ v, dr.scope.names.lookup x = some .local ∧ (bs vs).reverse.lookup x = some v ∧ Rep X W h v d)
    (body : ∀ L, Ex X n (envOf q dr.scope L f cd) ρ [] dr.body (fun r' => r' = r) (fun _ _ => False))
    (hco : dr.scope.isCoroutine = false) (hgen : dr.scope.isGenerator = false) (hk : dr.scope.kind = .function) (hcell : ∀ x ∈ dr.scope.names, x.2 ≠ .cell)
    {A : Around} {W : List Addr} {s : Shared} {vs : List Value} {Q : Value → Shared → Prop} (ok : Ok (n + 1) A) (wok : Wok X W s) (rs : Reps X W s.heap vs args) (hQ : ∀ v s', Kp [] [] s s' → Rep X W s'.heap v r → Q v s') : wpF X A (call (.ref f) vs) Q s := by
  obtain ⟨hbind, hloc, hvars⟩ := hb W s.heap vs rs
  have hn : s.heap.get? s.heap.objs.size = Option.none := none_of_size (Nat.le_refl _)
  refine wpAny_call (codeAny_call_function (body := dr.body) ok.room (wok.base _ _ hget) hdata hco hgen rfl (hcode.keeps wok.base) ?_)
  rw [hbind]
  refine wpAny_pure (wpAny_newFunctionEnv hcell hloc (fun h₁ hns hsb => ⟨wok.nolimit.fresh _ hsb, ?_⟩) hk)
  show codeAny _ _ (.func dr.body (envOf q dr.scope s.heap.objs.size f cd)) _ _
  have F : Fr s.heap s.heap.objs.size h₁ (fun x => (bs vs).reverse.lookup x) := ⟨hns, fun b o e => hsb.extBut b o (Nat.ne_of_lt (Heap.lt_size e)) (Heap.get?_push_of_some _ e), Nat.le_refl _⟩
  have sv := frOf_Sv (env := envOf q dr.scope s.heap.objs.size f cd) (tk := s.toks + (bs vs).length) wok F rfl ⟨hk, rfl, rfl⟩ rfl hvars
  refine codeAny_func (wpAny_mono ((body _).run _ _ _ _ (fun fl s' => match fl with | .ret v => Q v s' | _ => False) ok.deeper sv (fun d v s' kd k hrep => ?_) fun ρ' ω' s' kn _ _ => kn.elim) (fun fl s' hq => ?_) (fun _ _ q => q.elim))
  · subst kd
    refine hQ v s' ?_ (hrep W fun b hb => ⟨List.mem_cons_of_mem _ hb, fun q => ?_⟩)
    · have k0 : Kp [] [] s { s with heap := h₁, toks := s.toks + (bs vs).length } := .of_heap fun b o _ e => F.keep b o e
      refine Kp.drop (k0.any.trans k) (fun b hb => .inr ?_) (fun _ hg => nomatch hg)
      rw [List.mem_singleton.mp hb]; exact hn
    · rw [List.mem_singleton.mp q] at hb
      exact wok.fresh hb
  · cases fl with
    | ret v => exact hq
    | _ => exact hq.elim

theorem CmpAt.inst {C : Addr} {h : Heap} {x dx : Addr} {v : Value} (c : CmpAt C h x dx v) : ∃ od, InstAt h x (instObj C dx) C (some od) ∧ lookIn "comp_select_list" od = some (some v) ∧ lookIn "compare" od = some none :=
  let ⟨h1, od, _, _, h2, _, h3, h4⟩ := c; ⟨od, ⟨h1, rfl, rfl, h2⟩, h3, h4⟩

theorem find_list (tc : TC X) {od : Obj} {v : Value} (h : lookIn "comp_select_list" od = some (some v)) : findObj X.K X.CC (some od) "comp_select_list" = some (.value v) := by
  obtain ⟨cd, hcd, hh⟩ := any_some tc.hd
  unfold findObj
  rw [hcd, Option.bind_some, tc.fi, Option.bind_some]
  simp only [Option.bind_some]
  unfold PySem.W.ownOf
  rw [if_pos hh]
  simp only [h, Option.bind_some]

def cmpV (t : Int) (a b : Int × Int) : Int := if a.1 < b.1 then -t else if b.1 < a.1 then t else if a.2 < b.2 then - -t else if b.2 < a.2 then -t else 0
def placeD (a : Int × Int) : D := .tup [.int a.1, .int a.2]

section
variable {n : Nat} {env : Env} {ρ : Vars}
def selD (t : Int) : List D := [.tup [.int 0, .int t], .tup [.int 1, .int (-t)]]
theorem Ev.attrCmp (tc : TC X) {x : Str} {px pos : Pos} {t : Int} (hx : Ev X n env ρ (.Name x px) (.cmp t))
    (he : eval (.Attribute (.Name x px) "comp_select_list" pos) env = (do
      let o ← eval (.Name x px) env
      standAt pos.atName
      let r ← holding [o] (getAttr o "comp_select_list" true)
      letTemporaryGo (.Name x px) o r
      pure r) := by with_unfolding_all rfl) : Ev X n env ρ (.Attribute (.Name x px) "comp_select_list" pos) (.tup (selD t)) := .mk fun A W s Q ok iv h => by
  refine Attribute_Name_ (hx.run A W s _ ok iv fun v s₁ k₁ iv₁ r₁ => ?_) he
  cases r₁ with
  | cmp hc _ _ hr =>
    obtain ⟨od, I, h1, _⟩ := hc.inst
    refine get_value (X.KI.keeps iv₁.wok.base) I tc.ga (find_list tc h1) ?_ (h _ _ (k₁.trans .toks) (iv₁.kp .toks) hr)
    cases hr; rfl

theorem Fn3 {p q u : Str} {d e f' : D} {dr : DefRec} {qn : Str} {pm cd : Value} (hb : ∀ v w z, bindArgs (fdM dr qn pm cd) ⟨[v, w, z], []⟩ = pure [(p, v), (q, w), (u, z)]) (hp : dr.scope.names.lookup p = some .local) (hq : dr.scope.names.lookup q = some .local) (hu : dr.scope.names.lookup u = some .local)
    (n1 : (p == q) = false) (n2 : (p == u) = false) (n3 : (q == u) = false) : ∀ W (h : Heap) vs, Reps X W h vs [d, e, f'] → bindArgs (fdM dr qn pm cd) ⟨vs, []⟩ = pure [(p, vs.headD .none), (q, vs.tail.headD .none), (u, vs.tail.tail.headD .none)] ∧ (∀ x ∈ [(p, vs.headD .none), (q, vs.tail.headD .none), (u, vs.tail.tail.headD .none)], dr.scope.names.lookup x.1 = some .local) ∧
      ∀ x d', [(p, d), (q, e), (u, f')].lookup x = some d' → ∃ v, dr.scope.names.lookup x = some .local ∧ [(p, vs.headD .none), (q, vs.tail.headD .none), (u, vs.tail.tail.headD .none)].reverse.lookup x = some v ∧ Rep X W h v d' := fun W h vs rs => by
  cases rs with
  | cons r1 rs =>
  cases rs with
  | cons r2 rs =>
  cases rs with
  | cons r3 rs =>
  cases rs
  refine ⟨hb _ _ _, fun x hx => ?_, fun x d' e' => ?_⟩
  · simp only [List.mem_cons, List.not_mem_nil, or_false] at hx
    rcases hx with rfl | rfl | rfl
    · exact hp
    · exact hq
    · exact hu
  · rw [List.lookup_cons] at e'
    by_cases hx : x = p
    · subst hx
      simp only [BEq.rfl, Option.some.injEq] at e'
      subst e'
      exact ⟨_, hp, by simp [List.lookup_cons, n1, n2], r1⟩
    · have hb : (x == p) = false := beq_eq_false_iff_ne.mpr hx
      simp only [hb, List.lookup_cons] at e'
      by_cases hx' : x = q
      · subst hx'
        simp only [BEq.rfl, Option.some.injEq] at e'
        subst e'
        exact ⟨_, hq, by simp [List.lookup_cons, n3], r2⟩
      · have hb' : (x == q) = false := beq_eq_false_iff_ne.mpr hx'
        simp only [hb'] at e'
        by_cases hx'' : x = u
        · subst hx''
          simp only [BEq.rfl, Option.some.injEq] at e'
          subst e'
          exact ⟨_, hu, by simp [List.lookup_cons], r3⟩
        · have hb'' : (x == u) = false := beq_eq_false_iff_ne.mpr hx''
          simp [hb''] at e'

theorem fn_compare (tc : TC X) {f : Addr} {pm cd : Value} (m : Meth X (methAt 1) "TupleComp.compare" f pm cd) (n : Nat) (t : Int) (a b : Int × Int) {A : Around} {W : List Addr} {s : Shared} {vs : List Value} {Q : Value → Shared → Prop} (ok : Ok (n + 1) A) (wok : Wok X W s) (rs : Reps X W s.heap vs [.cmp t, placeD a, placeD b])
    (hQ : ∀ v s', Kp [] [] s s' → Rep X W s'.heap v (.int (cmpV t a b)) → Q v s') : wpF X A (call (.ref f) vs) Q s := by
  obtain ⟨o, hget, hdata⟩ := m.get
  refine enterM hget hdata m.code (args := [.cmp t, placeD a, placeD b]) (ρ := [("self", .cmp t), ("left", placeD a), ("right", placeD b)]) (Fn3 (p := "self") (q := "left") (u := "right") (fun _ _ _ => rfl) rfl rfl rfl (by decide) (by decide) (by decide)) (fun L => ?_) rfl rfl rfl (by decide) ok wok rs hQ
  refine Ex.for (It.tup (.attrCmp tc (.name (d := .cmp t) rfl))) (fun i ρ ω => ω = [] ∧ ρ.lookup ("left" : Str) = some (placeD a) ∧ ρ.lookup ("right" : Str) = some (placeD b) ∧ (1 ≤ i → a.1 = b.1) ∧ (2 ≤ i → a.2 = b.2)) ⟨rfl, rfl, rfl, by omega, by omega⟩ (fun i d ρ ω hd hJ => ?_) (fun ρ ω hJ => ?_) (fun h => nomatch h)
  · obtain ⟨rfl, h1, h2, h3, h4⟩ := hJ
    have hi : i < 2 := (List.getElem?_eq_some_iff.mp hd).1
    obtain rfl | rfl : i = 0 ∨ i = 1 := by omega
    · cases hd
      refine ⟨_, .pair (.inl rfl) (.inl rfl) (by simp) (by simp), ?_⟩
      refine Ex.assign (.itemT (ds := [.int a.1, .int a.2]) (.name h1) (.name rfl) (by decide) (by decide) rfl) (.inl rfl) (by simp) ?_
      refine Ex.assign (.itemT (ds := [.int b.1, .int b.2]) (.name h2) (.name rfl) (by decide) (by decide) rfl) (.inl rfl) (by simp) ?_
      refine Ex.ite (b := decide (a.1 < b.1)) (Ts.cmp (.name rfl) (.name rfl) CmpI.lt) (fun hb => ?_) (fun hb => ?_)
      · exact Ex.ret (.neg (.name rfl)) (by rw [cmpV, if_pos (of_decide_eq_true hb)])
      have hb := of_decide_eq_false hb
      refine Ex.ite (b := decide (b.1 < a.1)) (Ts.cmp (.name rfl) (.name rfl) CmpI.gt) (fun hb' => ?_) (fun hb' => ?_)
      · exact Ex.ret (.name rfl) (by rw [cmpV, if_neg hb, if_pos (of_decide_eq_true hb')])
      have hb' := of_decide_eq_false hb'
      exact .nil ⟨rfl, h1, h2, fun _ => by omega, by omega⟩
    · cases hd
      have h3 := h3 (by omega)
      have na : ¬ a.1 < b.1 := by omega
      have nb : ¬ b.1 < a.1 := by omega
      refine ⟨_, .pair (.inl rfl) (.inl rfl) (by simp) (by simp), ?_⟩
      refine Ex.assign (.itemT (ds := [.int a.1, .int a.2]) (.name h1) (.name rfl) (by decide) (by decide) rfl) (.inl rfl) (by simp) ?_
      refine Ex.assign (.itemT (ds := [.int b.1, .int b.2]) (.name h2) (.name rfl) (by decide) (by decide) rfl) (.inl rfl) (by simp) ?_
      refine Ex.ite (b := decide (a.2 < b.2)) (Ts.cmp (.name rfl) (.name rfl) CmpI.lt) (fun hb => ?_) (fun hb => ?_)
      · exact Ex.ret (.neg (.name rfl)) (by rw [cmpV, if_neg na, if_neg nb, if_pos (of_decide_eq_true hb)])
      have hb := of_decide_eq_false hb
      refine Ex.ite (b := decide (b.2 < a.2)) (Ts.cmp (.name rfl) (.name rfl) CmpI.gt) (fun hb' => ?_) (fun hb' => ?_)
      · exact Ex.ret (.name rfl) (by rw [cmpV, if_neg na, if_neg nb, if_neg hb, if_pos (of_decide_eq_true hb')])
      have hb' := of_decide_eq_false hb'
      exact .nil ⟨rfl, h1, h2, fun _ => h3, fun _ => by omega⟩
  · obtain ⟨rfl, h1, h2, h3, h4⟩ := hJ
    have h3 := h3 (by show (1 : Nat) ≤ 2; decide)
    have h4 := h4 (by show (2 : Nat) ≤ 2; decide)
    refine Ex.ret .int ?_
    rw [cmpV, if_neg (by omega), if_neg (by omega), if_neg (by omega), if_neg (by omega)]
end
end Mine

end
section
namespace Mine
variable {X : Cx}

theorem getMethod_cmp (tc : TC X) {A : Around} {W : List Addr} {s : Shared} (wok : Wok X W s) {x dx : Addr} {v : Value} (hc : CmpAt X.CC s.heap x dx v) {f : Addr} {pm cd : Value} (m : Meth X (methAt 1) "TupleComp.compare" f pm cd) {pl : Sem Bool} {Q : Value × List Value → Shared → Prop} (h : Q (.ref f, [.ref x]) s) :
    wpF X A (getMethod (.ref x) "compare" pl) Q s := by
  obtain ⟨od, I, h1, h2⟩ := hc.inst
  have XK : X.K.In s.heap := X.KI.keeps wok.base
  have hfind : findIn X.K (.ref X.CC) "compare" = some (some (.ref f)) := m.find
  have hdx : s.heap.get? dx = some od := I.dict
  unfold getMethod specialOf
  refine wpAny_bind (wpAny_bind (I.type.here ((looks_findIn XK tc.ga).here ?_)))
  dsimp only
  have hcan := F.canon_object_ga
  simp only [hcan, Bool.false_eq_true, if_false]
  refine wpAny_bind (wpAny_bind (I.type.here ((looks_findIn XK tc.gt).here ?_)))
  simp only [Option.isSome_none, Bool.false_eq_true, if_false]
  refine wpAny_bind (wpAny_bind (I.type.here ((looks_findIn XK hfind).here ?_)))
  refine wpAny_bind ((looks_typeIn XK m.typ).here ?_)
  rw [if_neg (by decide)]
  refine wpAny_bind (wpAny_loadPart I.at_ ?_)
  show wpAny _ _ (nsGet dx (Str.ofString "compare") >>= _) _ _ _
  refine wpAny_bind ?_
  unfold nsGet
  refine wpAny_bind (wpAny_loadPart hdx ?_)
  rw [nsLook_of h2]
  refine wpAny_pure ?_
  simp only [Option.isSome_none, Bool.false_eq_true, if_false]
  exact wpAny_bind (wpAny_rule (wpAny_pure h))

section
variable {n : Nat} {env : Env} {ρ : Vars}
theorem Ev.callCmp (tc : TC X) {x : Str} {e f : Expr} {px apos pos : Pos} {t : Int} {a b : Int × Int} (hx : Ev X (n + 1) env ρ (.Name x px) (.cmp t)) (he : Ev X (n + 1) env ρ e (placeD a)) (hf : Ev X (n + 1) env ρ f (placeD b))
    (hst : ∀ env, starEach [e, f] env = (false, eval e env) :: starEach [f] env := by intro _; rfl) (hst1 : ∀ env, starEach [f] env = [(false, eval f env)] := by intro _; rfl) (hline : (apos.endLine == pos.line) = true := by rfl)
    (hfew : ∀ env, methodCallForm (([e, f] : List Expr).length + ([] : List Keyword).length) (backTo pos (starEach [e, f] env)) (backToKw pos (keywordEach [] env)) = true := by intro _; rfl) :
    Ev X (n + 1) env ρ (.Call (.Attribute (.Name x px) "compare" apos) [e, f] [] pos) (.int (cmpV t a b)) := .mk fun A W s Q ok iv h => by
  obtain ⟨g, pm, cd, m⟩ := tc.comp
  rw [arm_eval_Call]
  show wpF X A (eval (.Name x px) env >>= _) Q s
  refine wpAny_bind (hx.run A W s _ ok iv fun v s₁ k₁ iv₁ r₁ => ?_)
  refine wpAny_bind (wpAny_standAt ?_)
  have hr₁ := r₁
  cases r₁ with
  | @cmp y dy w _ hc hy hdy hr =>
    unfold methodCall calleeOf
    rw [hfew env]
    refine wpAny_bind (wpAny_holding (getMethod_cmp tc iv₁.wok hc m ?_))
    have hpos : methodCallPos true (.Name x px) env apos pos = pure pos := by unfold methodCallPos; simp [hline]
    refine wpAny_bind (wpAny_of_eq hpos ?_)
    obtain ⟨o, hget, hdata⟩ := m.get
    have hes : Evs X (n + 1) env ρ [e, f] [placeD a, placeD b] := .cons he (.cons hf .nil hst1) hst
    refine callWith_meth (h₀ := X.h0) hdata hget (hes.run A W s₁ pos _ ok iv₁ fun vs s₂ k₂ iv₂ r₂ => ⟨iv₂.wok.base, ?_⟩) (hst env)
    refine fn_compare tc m n t a b ok iv₂.wok (.cons (hr₁.kp0 k₂) r₂) fun v s₃ k₃ r₃ => ?_
    exact h _ _ ((k₁.trans k₂).trans k₃) (iv₂.kp k₃) r₃
end
end Mine

end
section
namespace Mine
variable {X : Cx}

/-- making an object of the class -/
theorem call_make (tc : TC X) {n : Nat} {A : Around} {W : List Addr} {s : Shared} {v : Value} {t : Int} {Q : Value → Shared → Prop} (ok : Ok (n + 3) A) (wok : Wok X W s) (hr : Rep X W s.heap v (.tup (selD t))) (hQ : ∀ v s', Kp [] [] s s' → Rep X W s'.heap v (.cmp t) → Q v s') :
    wpF X A (call (.ref X.CC) [v]) Q s := by
  obtain ⟨f, pm, cd, m⟩ := tc.init
  obtain ⟨o, hget, hdata⟩ := m.get
  have XK : X.K.In s.heap := X.KI.keeps wok.base
  have hfind : findIn X.K (.ref X.CC) "__init__" = some (some (.ref f)) := m.find
  obtain ⟨hh, g, d, tk, os⟩ := s
  refine wpAny_call (make_core (makes_of XK tc.makes) (looks_findIn XK hfind) (fun self => bind_fn XK self m.typ) (.inl rfl) ?_)
  have hbind : bindArgs (fdM (methAt 0) "TupleComp.__init__" pm cd) ⟨[.ref (hh.objs.size + 1), v], []⟩ = pure [(("self" : Str), Value.ref (hh.objs.size + 1)), (("comp_select_list" : Str), v)] := rfl
  have k0 : ∀ b ob, hh.get? b = some ob → ((hh.push emptyDict).push (instObj X.CC hh.objs.size)).get? b = some ob := fun b ob e => Heap.get?_push_of_some _ (Heap.get?_push_of_some _ e)
  have hdx0 : ((hh.push emptyDict).push (instObj X.CC hh.objs.size)).get? hh.objs.size = some emptyDict := Heap.get?_push_of_some _ (Heap.get?_push_size _ rfl)
  have hx0 : ((hh.push emptyDict).push (instObj X.CC hh.objs.size)).get? (hh.objs.size + 1) = some (instObj X.CC hh.objs.size) := by
    have := Heap.get?_push_size (hh.push emptyDict) (o := instObj X.CC hh.objs.size) rfl
    rw [Heap.size_push] at this; exact this
  have hsz0 : ((hh.push emptyDict).push (instObj X.CC hh.objs.size)).objs.size = hh.objs.size + 2 := by rw [Heap.size_push, Heap.size_push]
  generalize hH : (hh.push emptyDict).push (instObj X.CC hh.objs.size) = H at *
  have hcell : ∀ x ∈ (methAt 0).scope.names, x.2 ≠ .cell := by decide
  have okd := ok.2.1
  have base0 : ∀ b o, X.h0.get? b = some o → H.get? b = some o := fun b o e => k0 b o (wok.base b o e)
  refine codeAny_call_function (body := (methAt 0).body) ?_ (base0 _ _ hget) hdata rfl rfl rfl (m.code.keeps base0) ?_
  · have hw : (Code.builtin "type.__call__" ⟨[.ref X.CC, v], []⟩).weight = 1 := by rfl
    show A.depth + (Code.builtin "type.__call__" ⟨[.ref X.CC, v], []⟩).weight < recursionLimit
    rw [hw]; omega
  rw [hbind]
  refine wpAny_pure (wpAny_newFunctionEnv hcell (fun x hx => ?_) (fun h₁ hns hsb => ⟨(wok.nolimit.keeps k0).fresh _ hsb, ?_⟩) rfl)
  · simp only [List.mem_cons, List.not_mem_nil, or_false] at hx
    rcases hx with rfl | rfl <;> rfl
  have hL : H.objs.size = hh.objs.size + 2 := hsz0
  have up : ∀ b ob, H.get? b = some ob → h₁.get? b = some ob := fun b ob e => hsb.extBut b ob (Nat.ne_of_lt (Heap.lt_size e)) (Heap.get?_push_of_some _ e)
  have F : Fr hh H.objs.size h₁ (fun x => List.lookup x [(("self" : Str), Value.ref (hh.objs.size + 1)), (("comp_select_list" : Str), v)].reverse) := ⟨hns, fun b o e => up b o (k0 b o e), by rw [hL]; exact Nat.le_add_right _ _⟩
  have N : News hh H.objs.size h₁ ([(hh.objs.size + 1, instObj X.CC hh.objs.size)] ++ (hh.objs.size, emptyDict) :: []) := fun p hp => by
    rcases List.mem_cons.mp hp with rfl | hp
    · exact ⟨up _ _ hx0, by rw [hL]; exact neN (by omega), none_of_size (Nat.le_succ _)⟩
    · rw [List.mem_singleton.mp hp]
      exact ⟨up _ _ hdx0, by rw [hL]; exact neN (by omega), none_of_size (Nat.le_refl _)⟩
  show codeAny _ _ (.func (methAt 0).body (envOf "TupleComp.__init__" (methAt 0).scope H.objs.size f cd)) _ _
  refine codeAny_func (wpAny_execs_cons (plainObj_wpAny_Assign_Attribute ?_))
  refine wpAny_Name (wpAny_loadName_local rfl rfl F.ns (v := v) rfl ?_) (by decide)
  refine wpAny_Name (wpAny_loadName_local rfl rfl F.ns (v := .ref (hh.objs.size + 1)) rfl ?_) (by decide)
  have XK1 : X.K.In h₁ := X.KI.keeps fun b o e => up b o (base0 b o e)
  have I1 : InstAt h₁ (hh.objs.size + 1) (instObj X.CC hh.objs.size) X.CC (some emptyDict) := ⟨up _ _ hx0, rfl, rfl, up _ _ hdx0⟩
  refine set_plain XK1 I1 tc.sa ?_
  refine osa_dict (m := fun x => List.lookup x [(("self" : Str), Value.ref (hh.objs.size + 1)), (("comp_select_list" : Str), v)].reverse) (h₀ := hh) (L := H.objs.size) F N XK1 I1 rfl tc.po tc.tk tc.hd rfl (fun p hp => by rw [List.mem_singleton.mp hp]; exact neN (by show ¬ (hh.objs.size + 1 = hh.objs.size); omega)) (fun p hp => nomatch hp) rfl (es := [⟨_, _, v⟩]) (n := 1) rfl (by simp) fun h₂ F₂ N₂ => ?_
  refine wpAny_execs_nil ⟨rfl, ?_⟩
  have kp : Kp [] [] (⟨hh, g, d, tk, os⟩ : Shared) { heap := h₂, gens := g, drawn := d, toks := tk + 2 + 1 + 1, os := os } := ⟨fun b o _ e => F₂.keep b o e, fun _ _ _ e => e, id, rfl⟩
  have hx2 := N₂ _ (List.mem_cons_self ..)
  have hd2 := N₂ _ (List.mem_cons_of_mem _ (List.mem_cons_self ..))
  refine hQ _ _ ⟨kp.heap, kp.gens, kp.bare, kp.os⟩ (.cmp (dx := hh.objs.size) (v := v) ⟨hx2.1, _, _, _, hd2.1, rfl, rfl, rfl⟩ (fun q => ?_) (fun q => ?_) (hr.mono fun b o _ e => F₂.keep b o e))
  · obtain ⟨o, ho⟩ := wok.wex _ q
    rw [hx2.2.2] at ho; cases ho
  · obtain ⟨o, ho⟩ := wok.wex _ q
    rw [hd2.2.2] at ho; cases ho

section
variable {n : Nat} {env : Env} {ρ : Vars}
theorem Ev.makeCmp (tc : TC X) {x : Str} {e : Expr} {p pos : Pos} {t : Int} (hx : GN env x) (hn : x = "TupleComp") (he : Ev X (n + 3) env ρ e (.tup (selD t)))
    (hst : ∀ env, starEach [e] env = [(false, eval e env)] := by intro _; rfl) : Ev X (n + 3) env ρ (.Call (.Name x p) [e] [] pos) (.cmp t) := .mk fun A W s Q ok iv h => by
  subst hn
  refine Call_ (iv.global hx tc.cls ?_ (by decide)) rfl
  have hes : Evs X (n + 3) env ρ [e] [.tup (selD t)] := .cons he .nil hst
  unfold callWith
  refine wpAny_bind (wpAny_holding ?_)
  have hst' : backTo pos (starEach [e] env) = [(false, eval e env)] := by rw [hst env]; rfl
  have hrun := hes.run A W s pos (fun vs s₁ => ∃ v, vs = [v] ∧ Kp [] [] s s₁ ∧ Iv X env ρ W s₁ ∧ Rep X W s₁.heap v (.tup (selD t))) ok iv fun vs s₁ k₁ iv₁ r₁ => by
    cases r₁ with
    | cons r1 rs => cases rs; exact ⟨_, rfl, k₁, iv₁, r1⟩
  rw [hst'] at hrun ⊢
  refine Calls.evalArgs_plain (wpAny_mono hrun (fun vs s₁ hv => ?_) fun _ _ q => q)
  obtain ⟨v, rfl, k₁, iv₁, r1⟩ := hv
  refine wpAny_bind (wpAny_standAt ?_)
  have XK : X.K.In s₁.heap := X.KI.keeps iv₁.wok.base
  have Y := makes_of (M := model X.P X.w) XK tc.makes
  obtain ⟨oc, od, cd, sl, hC, _⟩ := Y.obj
  have hkeep : Looks (model X.P X.w) s₁.heap (keeperOf (.ref X.CC)) .machine := by
    unfold keeperOf
    refine (Looks.ld (part := none) hC).andThen ?_
    exact Y.call.andThen .now
  refine wpAny_bind (hkeep.here ?_)
  refine wpAny_bind (call_make (n := n) tc ok iv₁.wok r1 fun w s₂ k₂ r₂ => ?_)
  exact wpAny_bind (wpAny_holding (wpAny_point (wpAny_pure (h _ _ (k₁.trans k₂) (iv₁.kp k₂) r₂))))
end
end Mine

end
section
open PySem PySem.W PySem.Calls PySem.Spec PyProof.Rows PySem.SeqAt
namespace Mine
variable {X : Cx}

theorem Reps.intsAre {W : List Addr} {h : Heap} : ∀ {vs : List Value} {is : List Int}, Reps X W h vs (is.map D.int) → IntsAre vs is
  | _, [], .nil => .nil
  | _, _ :: _, .cons r rs => by cases r; exact .cons _ _ (Reps.intsAre rs)

section
variable {n : Nat} {env : Env} {ρ : Vars}
theorem CmpI.neI {a b : List Int} : CmpI X (n + 5) env ρ .NotEq (.list (a.map D.int)) (.list (b.map D.int)) (!decide (a = b)) := fun A W s u v Q ok iv ru rv h => by
  have hu := ok.2.2
  cases ru with
  | list hl _ rs =>
    cases rv with
    | list hl' _ rs' => exact ne_intsK hl.isList rs.intsAre hl'.isList rs'.intsAre (by omega) (h _ _ .refl (.bool _))

theorem readsAll_of_strs {h : Heap} : ∀ {vs : List Value} {ns : List Str}, StrsAre vs ns → ReadsAll h vs (ns.map PyData.str) []
  | _, _, .nil => .nil
  | _, _, .cons k t r => by
    have := ReadsAll.cons (Reads.str (h := h) k t) (readsAll_of_strs (h := h) r)
    simpa using this
theorem reads_of_strs {h : Heap} {a : Addr} {vs : List Value} {ns : List Str} (hl : h.IsList a vs.toArray) (hi : StrsAre vs ns) : Reads h (.ref a) (.list (ns.map PyData.str)) [a] := by
  obtain ⟨o, ho, hc, n, hd⟩ := hl
  exact Reads.list ho hc hd (by simpa using readsAll_of_strs hi)
theorem canLayAll0_strs : ∀ ns : List Str, (∀ y ∈ ns, PyData.strOk y = true) → PyData.canLayAll0 (ns.map PyData.str) = true
  | [], _ => by simp [PyData.canLayAll0]
  | n :: r, h => by simp [PyData.canLayAll0, PyData.canLay0, canLayAll0_strs r fun y hy => h y (List.mem_cons_of_mem _ hy), h n List.mem_cons_self]
theorem depthAll_strs : ∀ ns : List Str, PyData.depthAll (ns.map PyData.str) ≤ 1
  | [] => by simp [PyData.depthAll]
  | n :: r => by
    have := depthAll_strs r
    simp only [List.map_cons, PyData.depthAll, PyData.depth]
    omega
theorem shaped_strs (ns : List Str) (hok : ∀ y ∈ ns, PyData.strOk y = true) : shaped (.list (ns.map PyData.str)) = true := by
  have h1 := depthAll_strs ns
  have h2 : PyData.depth (.list (ns.map PyData.str)) ≤ 64 := by simp only [PyData.depth]; omega
  show (PyData.canLay0 (.list (ns.map PyData.str)) && decide (PyData.depth (.list (ns.map PyData.str)) ≤ 64)) = true
  rw [Bool.and_eq_true]
  exact ⟨by simp only [PyData.canLay0]; exact canLayAll0_strs ns hok, decide_eq_true h2⟩
theorem noMix_strs : ∀ ns ms : List Str, noMixAll (ns.map PyData.str) (ms.map PyData.str) = true
  | [], [] => by simp [noMixAll]
  | [], _ :: _ => by simp [noMixAll]
  | _ :: _, [] => by simp [noMixAll]
  | _ :: r, _ :: q => by simp [noMixAll, noMix, noMix_strs r q]
theorem same_strs : ∀ ns ms : List Str, PySem.Spec.sameAll (ns.map PyData.str) (ms.map PyData.str) = decide (ns = ms)
  | [], [] => by simp [PySem.Spec.sameAll]
  | [], _ :: _ => by simp [PySem.Spec.sameAll]
  | _ :: _, [] => by simp [PySem.Spec.sameAll]
  | n :: r, k :: q => by
    simp only [List.map_cons, PySem.Spec.sameAll, PySem.Spec.same, same_strs r q]
    by_cases h : n = k <;> simp [h]
theorem CmpI.neS {a b : List Str} (ha : ∀ y ∈ a, PyData.strOk y = true) (hb : ∀ y ∈ b, PyData.strOk y = true) : CmpI X (n + 5) env ρ .NotEq (.list (a.map D.str)) (.list (b.map D.str)) (!decide (a = b)) := fun A W s u v Q ok iv ru rv h => by
  have hu := ok.2.2
  cases ru with
  | list hl _ rs =>
    cases rv with
    | list hl' _ rs' =>
      exact ne_dataH_same (reads_of_strs hl.isList rs.strs) (reads_of_strs hl'.isList rs'.strs) (shaped_strs a ha) (shaped_strs b hb) (by omega) (by simp only [noMix]; exact noMix_strs a b) (by simp only [PySem.Spec.same]; rw [same_strs]; exact h _ _ .refl (.bool _))

def lintD (l : List Int) : D := .list (l.map D.int)
def lintP (l : List Int) : PyData := .list (l.map PyData.int)
theorem readsAll_of_lints {W : List Addr} {h : Heap} : ∀ {vs : List Value} {ls : List (List Int)}, Reps X W h vs (ls.map lintD) → ∃ as, ReadsAll h vs (ls.map lintP) as
  | _, [], .nil => ⟨_, .nil⟩
  | _, l :: ls, .cons r rs => by
    obtain ⟨as, ha⟩ := readsAll_of_lints rs
    cases r with
    | list hl _ rs' => exact ⟨_, .cons (reads_of_ints hl.isList rs'.intsAre) ha⟩
theorem canLayAll0_lints : ∀ ls : List (List Int), PyData.canLayAll0 (ls.map lintP) = true
  | [] => by simp [PyData.canLayAll0]
  | l :: r => by simp [PyData.canLayAll0, lintP, PyData.canLay0, canLayAll0_ints l]; exact canLayAll0_lints r
theorem depthAll_lints : ∀ ls : List (List Int), PyData.depthAll (ls.map lintP) ≤ 2
  | [] => by simp [PyData.depthAll]
  | l :: r => by
    have := depthAll_lints r
    have := PySem.W.depthAll_ints l
    simp only [List.map_cons, PyData.depthAll, lintP, PyData.depth] at *
    omega
theorem shaped_lints (ls : List (List Int)) : shaped (.list (ls.map lintP)) = true := by
  have h1 := depthAll_lints ls
  have h2 : PyData.depth (.list (ls.map lintP)) ≤ 64 := by simp only [PyData.depth]; omega
  show (PyData.canLay0 (.list (ls.map lintP)) && decide (PyData.depth (.list (ls.map lintP)) ≤ 64)) = true
  rw [Bool.and_eq_true]
  exact ⟨by simp only [PyData.canLay0]; exact canLayAll0_lints ls, decide_eq_true h2⟩
theorem noMix_lints : ∀ ns ms : List (List Int), noMixAll (ns.map lintP) (ms.map lintP) = true
  | [], [] => by simp [noMixAll]
  | [], _ :: _ => by simp [noMixAll]
  | _ :: _, [] => by simp [noMixAll]
  | a :: r, b :: q => by simp [noMixAll, lintP, noMix, noMix_ints a b]; exact noMix_lints r q
theorem same_lints : ∀ ns ms : List (List Int), PySem.Spec.sameAll (ns.map lintP) (ms.map lintP) = decide (ns = ms)
  | [], [] => by simp [PySem.Spec.sameAll]
  | [], _ :: _ => by simp [PySem.Spec.sameAll]
  | _ :: _, [] => by simp [PySem.Spec.sameAll]
  | n :: r, k :: q => by
    have e : PySem.Spec.same (lintP n) (lintP k) = decide (n = k) := by simp only [lintP, PySem.Spec.same]; exact same_ints n k
    simp only [List.map_cons, PySem.Spec.sameAll, e, same_lints r q]
    by_cases h : n = k <;> simp [h]
theorem CmpI.eqL {a b : List (List Int)} : CmpI X (n + 5) env ρ .Eq (.list (a.map lintD)) (.list (b.map lintD)) (decide (a = b)) := fun A W s u v Q ok iv ru rv h => by
  have hu := ok.2.2
  cases ru with
  | list hl _ rs =>
    cases rv with
    | list hl' _ rs' =>
      obtain ⟨as, ha⟩ := readsAll_of_lints rs
      obtain ⟨bs, hb⟩ := readsAll_of_lints rs'
      obtain ⟨o, ho, hc, k, hd⟩ := hl.isList
      obtain ⟨o', ho', hc', k', hd'⟩ := hl'.isList
      exact eq_dataH_same (Reads.list ho hc hd (by simpa using ha)) (Reads.list ho' hc' hd' (by simpa using hb)) (shaped_lints a) (shaped_lints b) (by omega) (by simp only [noMix]; exact noMix_lints a b) (by simp only [PySem.Spec.same]; rw [same_lints]; exact h _ _ .refl (.bool _))
end
end Mine

end
section
namespace Mine
variable {X : Cx}

def AllF (env : Env) (ρ : Vars) (names : List (Str × NameKind)) : Vars → Prop
  | [] => True
  | p :: r => ((env.kindOf p.1 = some .cell ∨ env.kindOf p.1 = some .free) ∧ ρ.lookup p.1 = some p.2 ∧ (p.1 == ("__classdict__" : Str)) = false ∧ names.lookup p.1 = some .free ∧ (cellNames names).contains p.1 = false) ∧ AllF env ρ names r
theorem AllF.mem {env : Env} {ρ : Vars} {names : List (Str × NameKind)} : ∀ {ρf : Vars}, AllF env ρ names ρf → ∀ p ∈ ρf, (env.kindOf p.1 = some .cell ∨ env.kindOf p.1 = some .free) ∧ ρ.lookup p.1 = some p.2 ∧ (p.1 == ("__classdict__" : Str)) = false ∧ names.lookup p.1 = some .free ∧ (cellNames names).contains p.1 = false
  | [], _, _, h => nomatch h
  | q :: r, h, p, hp => by
    rcases List.mem_cons.mp hp with rfl | hp
    · exact h.1
    · exact AllF.mem h.2 p hp
theorem ScOk.ofF {env : Env} {ρ : Vars} {scope : Scope} (ρf : Vars) (hk : scope.kind = .function) (h1 : (scope.names.all fun p => p.2 != .free || (ρf.map (·.1)).contains p.1) = true) (h2 : (scope.names.all fun p => p.2 != .local || scope.names.lookup p.1 == some .local) = true) (h3 : (cellNames scope.names).Nodup) (hf : AllF env ρ scope.names ρf) : ScOk env ρ ρf scope := by
  refine ⟨hk, fun x h => ?_, fun x d h => ?_, (fun x hx hl => by have := List.all_eq_true.mp h2 _ hx; simpa [hl] using this), h3⟩
  · have := List.all_eq_true.mp h1 _ h
    simp at this
    obtain ⟨d, hd⟩ := this
    obtain ⟨a, b, c, e, f⟩ := hf.mem _ hd
    exact ⟨a, ⟨d, b⟩, c, by simpa using f⟩
  · obtain ⟨a, b, c, e, f⟩ := hf.mem _ (mem_of_lookup h)
    exact ⟨b, e⟩
theorem Stor.cell {oc : List Str} {env : Env} {x : Str} {c : Addr} (hk : env.kindOf x = some .cell) (hl : env.cells.lookup x = some c) (ho : oc = env.cells.map (·.1)) : Stor oc env x :=
  .inr ⟨hk, ho ▸ List.mem_map.mpr ⟨(x, c), mem_of_lookup hl, rfl⟩, c, hl⟩

/-- the law's data -/
def numsF (script : List Int) : List Int := (script.take 4).map (fun x => x.fmod 20) ++ [1, 14, 2, 0, 3]
def heightF (ring : List (Str × Int)) (k : Nat) : Int := (stepsOf (ring.take k)).sum
def heightsF (ring : List (Str × Int)) : List Int := (List.range ring.length).map (heightF ring)
def markB (ring : List (Str × Int)) (k : Nat) : Bool := (stepsOf ring).getD k 0 == 1
def marksF (ring : List (Str × Int)) : List Nat := (List.range ring.length).filter (markB ring)
def lowB (ring : List (Str × Int)) (k j : Nat) : Bool := decide (heightF ring j < heightF ring k) || (heightF ring j == heightF ring k && decide (k < j))
def rankF (ring : List (Str × Int)) (k : Nat) : Nat := ((marksF ring).filter (lowB ring k)).length
def rowF (ring : List (Str × Int)) (k : Nat) : List (Str × Int) := ring.drop (k + 1) ++ ring.take k
def textF (row : List (Str × Int)) : Str := mkS (catL (row.map (·.1)))
def dueF (ring : List (Str × Int)) (k : Nat) : Str := if rankF ring k = 0 then textF (rowF ring k) else "('', '')"
def turnF (numbers : List Int) : Int := 1 - 2 * (numbers.sum.fmod 2)
def natsD (l : List Nat) : List D := l.map fun k => D.int (k : Nat)

/-- what the law asks, in plain words -/
structure Plain (ring : List (Str × Int)) (turn : Int) : Prop where
  tally : ∀ k ∈ marksF ring, [(dget (tallyF (rowF ring k)) "False").getD 0, (dget (tallyF (rowF ring k)) "True").getD 0, cntF (tallyF (rowF ring k))] = [(rankF ring k : Int), ((marksF ring).length : Int) - 1 - (rankF ring k : Int), ((marksF ring).length : Int) - 1]
  first : ∀ k ∈ marksF ring, rankF ring k = 0 → checkF ((ring.getD k ("", 0)).1 ++ textF (rowF ring k)) = false
  pre : preF ((marksF ring).map fun k => textF (rowF ring k)) = (marksF ring).map (dueF ring)
  told : ∀ k ∈ marksF ring, ∀ j ∈ marksF ring, cmpV turn (heightF ring k, (k : Int)) (heightF ring j, (j : Int)) = turn * ((if rankF ring j < rankF ring k then 1 else 0) - (if rankF ring k < rankF ring j then 1 else 0))
end Mine

end
section
namespace Mine
variable {X : Cx}

abbrev lEnv (L a : Addr) (cd : Value) : Env := envOfC (recAt 13).name (recAt 13).scope L a cd
theorem fm_eq {α β γ : Type} {f : α → β} {g : β → Option γ} {h : α → γ} : ∀ {l : List α}, (∀ x ∈ l, g (f x) = some (h x)) → (l.map f).filterMap g = l.map h
  | [], _ => rfl
  | x :: l, hx => by
    rw [List.map_cons, List.filterMap_cons, hx x List.mem_cons_self, List.map_cons, fm_eq fun y hy => hx y (List.mem_cons_of_mem _ hy)]
theorem fm_filter {α β γ : Type} {f : α → β} {g : β → Option γ} {p : α → Bool} {h : α → γ} : ∀ {l : List α}, (∀ x ∈ l, g (f x) = if p x then some (h x) else none) → (l.map f).filterMap g = (l.filter p).map h
  | [], _ => rfl
  | x :: l, hx => by
    have ih := fm_filter (f := f) (g := g) (p := p) (h := h) (l := l) fun y hy => hx y (List.mem_cons_of_mem _ hy)
    rw [List.map_cons, List.filterMap_cons, hx x List.mem_cons_self, List.filter_cons]
    cases p x with
    | true => simp [ih]
    | false => simp [ih]

theorem Ts.of {n : Nat} {env : Env} {ρ : Vars} {e : Expr} {b b' : Bool} (h : Ts X n env ρ e b') (hb : b' = b) : Ts X n env ρ e b := hb ▸ h
theorem Ev.of {n : Nat} {env : Env} {ρ : Vars} {e : Expr} {d d' : D} (h : Ev X n env ρ e d') (hd : d' = d) : Ev X n env ρ e d := hd ▸ h
/-- the names that the law's later lines look at -/
def Base (script : List Int) (ring : List (Str × Int)) (ρ : Vars) : Prop :=
  ρ.lookup ("ring" : Str) = some (.list (ring.map pairD)) ∧ ρ.lookup ("heights" : Str) = some (.list ((heightsF ring).map D.int)) ∧ ρ.lookup ("marks" : Str) = some (.list (natsD (marksF ring))) ∧ ρ.lookup ("numbers" : Str) = some (.list ((numsF script).map D.int))

theorem law_body (bt : Bt X) (tc : TC X) (n : Nat) (script : List Int) (L a : Addr) (cd : Value) (hs : script.length ≤ 63) (hring : (ringF (numsF script)).length ≤ 40) (hpl : ∀ p ∈ ringF (numsF script), p.1.length ≤ 6) (hok : ∀ p ∈ ringF (numsF script), PyData.strOk p.1 = true) (pl : Plain (ringF (numsF script)) (turnF (numsF script))) :
    Ex X (n + 6) (lEnv L a cd) [("script", .list (script.map D.int))] [] (recAt 13).body (fun r => r = .bool true) never := by
  have hsz : (3000 : Nat) ≤ sizeLine := by decide
  have hn20 : ∀ k ∈ numsF script, 0 ≤ k ∧ k < 20 := fun k hk => by
    rcases List.mem_append.mp hk with q | q
    · obtain ⟨x, _, rfl⟩ := List.mem_map.mp q
      exact ⟨Int.fmod_nonneg_of_pos _ (by decide), Int.fmod_lt_of_pos _ (by decide)⟩
    · have : ∀ k ∈ ([1, 14, 2, 0, 3] : List Int), 0 ≤ k ∧ k < 20 := by decide
      exact this k q
  have hnl : (numsF script).length ≤ 9 := by simp [numsF, List.length_take]; omega
  -- numbers
  have e1 : ((script.map D.int).take 4).filterMap (fun d => match d with | .int k => some (D.int (k.fmod 20)) | _ => none) = ((script.take 4).map fun x => x.fmod 20).map D.int := by
    rw [← List.map_take]; exact fm_map fun _ _ => rfl
  have e1' : numsF script = ((script.take 4).map fun x => x.fmod 20) ++ [1, 14, 2, 0, 3] := rfl
  refine Ex.assign (d := .list ((numsF script).map D.int)) ?_ (.inl rfl) (by simp) ?_
  · rw [e1', List.map_append, ← e1]
    refine .addL (Ev.comp _ (It.list (.upto (k := 4) (.name rfl) .int (by decide) (by simp; omega))) (fun h => nomatch h) (ScOk.of0 rfl (by decide) (by decide) (by decide)) (by simp; omega) (fun cenv ce eb d hd => ?_)) (.listd (.cons .int (.cons .int (.cons .int (.cons .int (.cons .int .nil)))))) ?_
    · obtain ⟨k, hk, rfl⟩ := List.mem_map.mp (List.mem_of_mem_take hd)
      exact ⟨_, true, .name (.inl (ce.kind _ _ rfl (by decide))) (by simp), (fun y e h => by cases h), .none, fun _ => ⟨_, rfl, .mod (.name rfl) .int (by decide)⟩, fun h => nomatch h⟩
    · rw [e1]; simp; omega
  -- ring
  refine Ex.assign (.callf (dr := recAt 11) (bt.hP 11 (by decide)) rfl (.cons (.name rfl) .nil) (fn_ring bt (n + 4) (numsF script) hn20 hnl)) (.cell rfl rfl rfl) (by simp) ?_
  generalize hR : ringF (numsF script) = ring at *
  have hlenD : (ring.map pairD).length = ring.length := List.length_map ..
  -- heights
  have e2 : (rng ring.length).filterMap (fun d => match d with | .int k => some (D.int (heightF ring k.toNat)) | _ => none) = (heightsF ring).map D.int := fm_map fun _ _ => rfl
  refine Ex.assign (d := .list ((heightsF ring).map D.int)) ?_ (.cell rfl rfl rfl) (by simp) ?_
  · rw [← e2]
    refine Ev.comp _ (It.range (m := ring.length) rfl (bt.free _ (by decide)) ((bt.mb (by decide)).trans rfl) (hlenD ▸ .lenL rfl (bt.free _ (by decide)) ((bt.mb (by decide)).trans rfl) (.name rfl) (by omega)) (by omega)) (fun h => nomatch h) (ScOk.ofF [("ring", .list (ring.map pairD))] rfl rfl (by decide) (by decide) ⟨⟨.inl rfl, rfl, rfl, rfl, rfl⟩, trivial⟩) (by simp [rng]; omega) (fun cenv ce eb d hd => ?_)
    obtain ⟨k, hk, rfl⟩ := List.mem_map.mp hd
    have hk := List.mem_range.mp hk
    refine ⟨_, true, .name (.inl (ce.kind _ _ rfl (by decide))) (by simp), (fun y e h => ?_), .none, fun _ => ⟨_, rfl, ?_⟩, fun h => nomatch h⟩
    · simp only [List.lookup_cons, List.lookup_nil] at h
      split at h
      · rename_i hy
        cases h
        rw [eq_of_beq hy]; rfl
      · cases h
    · have e3 : ((ring.map pairD).take k).filterMap (fun d => match d with | .tup [_, .int i] => some (D.int i) | _ => none) = (stepsOf (ring.take k)).map D.int := by
        rw [← List.map_take]; exact fm_map fun _ _ => rfl
      refine .sumL (is := stepsOf (ring.take k)) (ce.kind _ _ rfl (by decide)) (bt.free _ (by decide)) ((bt.mb (by decide)).trans rfl) ?_
      rw [← e3]
      refine Ev.comp _ (It.list (.upto (k := (k : Nat)) (.name rfl) (.name rfl) (by omega) (by omega))) (fun h => nomatch h) (ScOk.of0 rfl (by decide) (by decide) (by decide)) (by simp; omega) (fun cenv' ce' eb' d' hd' => ?_)
      obtain ⟨p, hp, rfl⟩ := List.mem_map.mp (List.mem_of_mem_take hd')
      exact ⟨_, true, .pair (.inl (ce'.kind _ _ rfl (by decide))) (.inl (ce'.kind _ _ rfl (by decide))) (by simp) (by simp), (fun y e h => by cases h), .none, fun _ => ⟨_, rfl, .name rfl⟩, fun h => nomatch h⟩
  -- marks
  have hstep : ∀ k, k < ring.length → (ring.map pairD)[k]? = some (.tup [.str (ring.getD k ("", 0)).1, .int ((stepsOf ring).getD k 0)]) := fun k hk => by
    rw [List.getElem?_map, List.getElem?_eq_getElem hk, List.getD_eq_getElem?_getD, List.getElem?_eq_getElem hk, stepsOf, List.getD_eq_getElem?_getD, List.getElem?_map, List.getElem?_eq_getElem hk]; rfl
  have ext1 : ∀ (x : Str) (d : D) (ρ : Vars), ρ.lookup x = some d → ∀ y e, List.lookup y [(x, d)] = some e → ρ.lookup y = some e := fun x d ρ h y e he => by
    simp only [List.lookup_cons, List.lookup_nil] at he
    split at he
    · rename_i hy
      cases he
      rw [eq_of_beq hy]; exact h
    · cases he
  have e4 : (rng ring.length).filterMap (fun d => match d with | .int k => if markB ring k.toNat then some (D.int k) else none | _ => none) = natsD (marksF ring) := fm_filter (p := markB ring) (h := fun k : Nat => D.int (k : Int)) fun k _ => by
    show (if markB ring (Int.toNat (k : Int)) = true then _ else _) = _
    rw [Int.toNat_natCast]
  refine Ex.assignc (fun d => match d with | .int k => if markB ring k.toNat then some (D.int k) else none | _ => none) (It.range (m := ring.length) rfl (bt.free _ (by decide)) ((bt.mb (by decide)).trans rfl) (hlenD ▸ .lenL rfl (bt.free _ (by decide)) ((bt.mb (by decide)).trans rfl) (.name rfl) (by omega)) (by omega)) (fun h => nomatch h) (ScOk.ofF [("ring", .list (ring.map pairD))] rfl rfl (by decide) (by decide) ⟨⟨.inl rfl, rfl, rfl, rfl, rfl⟩, trivial⟩) (by simp [rng]; omega) (fun cenv ce eb d hd => ?_) (.inl rfl) (by simp) ?_
  · obtain ⟨k, hk, rfl⟩ := List.mem_map.mp hd
    have hk := List.mem_range.mp hk
    refine ⟨_, markB ring k, .name (.inl (ce.kind _ _ rfl (by decide))) (by simp), ext1 _ _ _ rfl, .one (.cmp (.itemT (.itemL (.name rfl) (.name rfl) (by omega) (by omega) (hstep k hk)) .int (by decide) (by decide) rfl) .int CmpI.eq), fun h => ⟨_, ?_, .name rfl⟩, fun h => ?_⟩
    · show (if markB ring (Int.toNat (k : Int)) = true then _ else _) = _
      rw [Int.toNat_natCast, h]; rfl
    · show (if markB ring (Int.toNat (k : Int)) = true then _ else _) = _
      rw [Int.toNat_natCast, h]; rfl
  rw [e4]
  have hml : (marksF ring).length ≤ ring.length := by
    have := List.length_filter_le (markB ring) (List.range ring.length)
    rw [List.length_range] at this; exact this
  have hmr : ∀ k ∈ marksF ring, k < ring.length := fun k hk => List.mem_range.mp (List.mem_filter.mp hk).1
  have hht : ∀ k, k < ring.length → ((heightsF ring).map D.int)[k]? = some (.int (heightF ring k)) := fun k hk => by
    rw [List.getElem?_map, heightsF, List.getElem?_map, List.getElem?_range hk]; rfl
  -- ranks
  refine Ex.ownL (.cell rfl rfl rfl) (by simp) rfl fun r => ?_
  refine Ex.for (It.list (.name (d := .list (natsD (marksF ring))) rfl)) (fun i ρ ω => Base script ring ρ ∧ (ρ.lookup ("ranks" : Str) = none ∧ ρ.lookup ("texts" : Str) = none ∧ ρ.lookup ("due" : Str) = none) ∧ ω = [(("ranks" : Str), r, OV.list (natsD (((marksF ring).take i).map (rankF ring))))]) ⟨⟨rfl, rfl, rfl, rfl⟩, ⟨rfl, rfl, rfl⟩, rfl⟩ (fun i d ρ ω hd hJ => ?_) (fun ρ ω hJ => ?_) (fun h => nomatch h)
  · obtain ⟨⟨b1, b2, b3, b4⟩, hrn, rfl⟩ := hJ
    rw [natsD, List.getElem?_map, Option.map_eq_some_iff] at hd
    obtain ⟨k, hk, rfl⟩ := hd
    have hmem : k ∈ marksF ring := List.mem_of_getElem? hk
    have hkl := hmr k hmem
    have htake : natsD (((marksF ring).take (i + 1)).map (rankF ring)) = natsD (((marksF ring).take i).map (rankF ring)) ++ [D.int ((rankF ring k : Nat) : Int)] := by
      rw [List.take_add_one, hk]; simp [natsD]
    refine ⟨_, .name (.cell rfl rfl rfl) (by simp; decide), ?_⟩
    have e5 : (natsD (marksF ring)).filterMap (fun d => match d with | .int j => if lowB ring k j.toNat then some (D.int j) else none | _ => none) = natsD ((marksF ring).filter (lowB ring k)) := fm_filter (p := lowB ring k) (h := fun k : Nat => D.int (k : Int)) fun j _ => by
      show (if lowB ring k (Int.toNat (j : Int)) = true then _ else _) = _
      rw [Int.toNat_natCast]
    have e6 : (natsD ((marksF ring).filter (lowB ring k))).length = rankF ring k := by simp [natsD, rankF]
    refine Ex.append (ω₁ := []) (d := .int ((rankF ring k : Nat) : Int)) ?_ (by simp [natsD, List.length_take]; omega) (.nil ⟨⟨b1, b2, b3, b4⟩, hrn, ?_⟩)
    · rw [← e6]
      refine .lenL rfl (bt.free _ (by decide)) ((bt.mb (by decide)).trans rfl) ?_ (by rw [e6]; have := List.length_filter_le (lowB ring k) (marksF ring); show rankF ring k ≤ sizeLine; unfold rankF; omega)
      rw [← e5]
      refine Ev.comp _ (It.list (.name (d := .list (natsD (marksF ring))) b3)) (fun h => nomatch h) (ScOk.ofF [("heights", .list ((heightsF ring).map D.int)), ("k", .int (k : Nat))] rfl rfl (by decide) (by decide) ⟨⟨.inl rfl, b2, rfl, rfl, rfl⟩, ⟨.inl rfl, rfl, rfl, rfl, rfl⟩, trivial⟩) (by simp [natsD]; omega) (fun cenv ce eb d hd => ?_)
      obtain ⟨j, hj, rfl⟩ := List.mem_map.mp hd
      have hjl := hmr j hj
      have hlow : lowB ring k j = (decide (heightF ring j < heightF ring k) || (heightF ring j == heightF ring k && decide ((k : Int) < (j : Int)))) := by simp [lowB]
      refine ⟨_, lowB ring k j, .name (.inl (ce.kind _ _ rfl (by decide))) (by simp), (fun y e h => ?_), ?_, fun h => ⟨_, ?_, .name rfl⟩, fun h => ?_⟩
      · simp only [List.lookup_cons, List.lookup_nil] at h
        split at h
        · rename_i hy; cases h; rw [eq_of_beq hy]; rfl
        · split at h
          · rename_i hy; cases h; rw [eq_of_beq hy]; rfl
          · cases h
      · rw [hlow]
        refine .one (Ts.or (.cmp (.itemL (k := (j : Int)) (.name rfl) (.name rfl) (by omega) (by omega) (hht j hjl)) (.itemL (k := (k : Int)) (.name rfl) (.name rfl) (by omega) (by omega) (hht k hkl)) CmpI.lt) fun _ => Ts.and (.cmp (.itemL (k := (j : Int)) (.name rfl) (.name rfl) (by omega) (by omega) (hht j hjl)) (.itemL (k := (k : Int)) (.name rfl) (.name rfl) (by omega) (by omega) (hht k hkl)) CmpI.eq) fun _ => .cmp (.name rfl) (.name rfl) CmpI.gt)
      · show (if lowB ring k (Int.toNat (j : Int)) = true then _ else _) = _
        rw [Int.toNat_natCast, h]; rfl
      · show (if lowB ring k (Int.toNat (j : Int)) = true then _ else _) = _
        rw [Int.toNat_natCast, h]; rfl
    · rw [htake]; rfl
  obtain ⟨⟨b1, b2, b3, b4⟩, hrn, rfl⟩ := hJ
  have etk : (marksF ring).take (natsD (marksF ring)).length = marksF ring := List.take_of_length_le (by simp [natsD])
  rw [etk]
  refine Ex.freeze (ω₁ := []) (ω₂ := []) ?_
  have hmlD : (natsD (marksF ring)).length = (marksF ring).length := by simp [natsD]
  refine Ex.assign (d := .int (((marksF ring).length : Int) - 1)) (.sub (hmlD ▸ .lenL rfl (bt.free _ (by decide)) ((bt.mb (by decide)).trans rfl) (.name b3) (by omega)) .int) (.inl rfl) (by simp) ?_
  refine Ex.ownL (.inl rfl) (by simp) hrn.2.1 fun r2 => ?_
  refine Ex.ownL (.inl rfl) (by simp; decide) hrn.2.2 fun r3 => ?_
  have ezip : ((natsD (marksF ring)).zip (natsD ((marksF ring).map (rankF ring)))).map (fun q => D.tup [q.1, q.2]) = (marksF ring).map fun k => D.tup [.int (k : Nat), .int (rankF ring k : Nat)] := by
    simp only [natsD, List.map_map, List.zip_map', List.map_map]; rfl
  refine Ex.for (ds := (marksF ring).map fun k => D.tup [.int (k : Nat), .int (rankF ring k : Nat)]) (tu := true) (ezip ▸ It.zip rfl (bt.free _ (by decide)) ((bt.mb (by decide)).trans rfl) (.name (d := .list (natsD (marksF ring))) b3) (.name (d := .list (natsD ((marksF ring).map (rankF ring)))) rfl))
    (fun i ρ ω => Base script ring ρ ∧ (ρ.lookup ("ranks" : Str) = some (.list (natsD ((marksF ring).map (rankF ring)))) ∧ ρ.lookup ("others" : Str) = some (.int (((marksF ring).length : Int) - 1)) ∧ ρ.lookup ("texts" : Str) = none ∧ ρ.lookup ("due" : Str) = none) ∧ ω = [(("due" : Str), r3, OV.list (((marksF ring).take i).map fun k => D.str (dueF ring k))), (("texts" : Str), r2, OV.list (((marksF ring).take i).map fun k => D.str (textF (rowF ring k))))])
    ⟨⟨b1, b2, b3, b4⟩, ⟨rfl, rfl, hrn.2.1, hrn.2.2⟩, rfl⟩ (fun i d ρ ω hd hJ => ?_) (fun ρ ω hJ => ?_) (fun _ => ⟨_, _, _, rfl⟩)
  · obtain ⟨⟨b1, b2, b3, b4⟩, ⟨c1, c2, c3, c4⟩, rfl⟩ := hJ
    rw [List.getElem?_map, Option.map_eq_some_iff] at hd
    obtain ⟨k, hk, rfl⟩ := hd
    have hmem : k ∈ marksF ring := List.mem_of_getElem? hk
    have hkl := hmr k hmem
    have hrow : ∀ p ∈ rowF ring k, p.1.length ≤ 6 := fun p hp => by
      rcases List.mem_append.mp hp with q | q
      · exact hpl p (List.mem_of_mem_drop q)
      · exact hpl p (List.mem_of_mem_take q)
    have hrl : (rowF ring k).length ≤ 100 := by simp [rowF, List.length_take]; omega
    have hti : ∀ f : Nat → D, ((marksF ring).take (i + 1)).map f = ((marksF ring).take i).map f ++ [f k] := fun f => by rw [List.take_add_one, hk]; simp
    have htl : ((marksF ring).take i).length ≤ sizeLine := by rw [List.length_take]; omega
    have hD : (ring.map pairD).length ≤ sizeLine := by omega
    refine ⟨_, .pair (.cell rfl rfl rfl) (.inl rfl) (by simp; decide) (by simp; decide), ?_⟩
    have erow : (ring.map pairD).drop ((k : Int) + 1).toNat ++ (ring.map pairD).take (k : Int).toNat = (rowF ring k).map pairD := by
      have : ((k : Int) + 1).toNat = k + 1 := by omega
      rw [this, Int.toNat_natCast, rowF, List.map_append, List.map_drop, List.map_take]
    refine Ex.assign (d := .list ((rowF ring k).map pairD)) (erow ▸ .addL (.onward (k := (k : Int) + 1) (.name b1) (.add (.name rfl) .int) (by omega) hD) (.upto (k := (k : Int)) (.name b1) (.name rfl) (by omega) hD) (by rw [List.length_drop, List.length_take]; omega)) (.inl rfl) (by simp; decide) ?_
    refine Ex.assign (.callf (dr := recAt 12) (bt.hP 12 (by decide)) rfl (.cons (.name rfl) .nil) (fn_tally bt n (rowF ring k) hrow hrl)) (.inl rfl) (by simp; decide) ?_
    have hpt := pl.tally k hmem
    refine Ex.ite (b := false) ?_ (fun h => nomatch h) (fun _ => ?_)
    · have hne : (!decide ([(dget (tallyF (rowF ring k)) "False").getD 0, (dget (tallyF (rowF ring k)) "True").getD 0, cntF (tallyF (rowF ring k))] = [(rankF ring k : Int), ((marksF ring).length : Int) - 1 - (rankF ring k : Int), ((marksF ring).length : Int) - 1])) = false := by simp [hpt]
      rw [← hne]
      refine Ts.cmp (.listd (.cons (.dgetN (.name rfl) .str .int) (.cons (.dgetN (.name rfl) .str .int) (.cons (.callf (dr := recAt 8) (bt.hP 8 (by decide)) rfl (.cons (.name rfl) .nil) (fn_cnt bt (n + 5) _)) .nil))) (by show (3 : Nat) ≤ sizeLine; decide)) (.listd (.cons (.name rfl) (.cons (.sub (.name c2) (.name rfl)) (.cons (.name c2) .nil))) (by show (3 : Nat) ≤ sizeLine; decide)) (CmpI.neI (n := n + 1) (a := [_, _, _]) (b := [_, _, _]))
    have e7 : ((rowF ring k).map pairD).filterMap (fun d => match d with | .tup [.str x, _] => some (D.str x) | _ => none) = ((rowF ring k).map (·.1)).map D.str := fm_map fun _ _ => rfl
    have hsum : (((rowF ring k).map (·.1)).map (·.length)).sum ≤ 600 := by
      have := sum_le 6 ((rowF ring k).map (·.1)) fun y hy => by obtain ⟨p, hp, rfl⟩ := List.mem_map.mp hy; exact hrow p hp
      rw [List.length_map] at this; omega
    refine Ex.assign (d := .str (textF (rowF ring k))) (.join (ys := (rowF ring k).map (·.1)) ?_ (by omega)) (.inl rfl) (by simp; decide) ?_
    · rw [← e7]
      refine Ev.comp _ (It.list (.name (d := .list ((rowF ring k).map pairD)) rfl)) (fun h => nomatch h) (ScOk.of0 rfl (by decide) (by decide) (by decide)) (by rw [List.length_map]; omega) (fun cenv ce eb d hd => ?_)
      obtain ⟨p, hp, rfl⟩ := List.mem_map.mp hd
      exact ⟨_, true, .pair (.inl (ce.kind _ _ rfl (by decide))) (.inl (ce.kind _ _ rfl (by decide))) (by simp) (by simp), (fun y e h => by cases h), .none, fun _ => ⟨_, rfl, .name rfl⟩, fun h => nomatch h⟩
    have htxl : (textF (rowF ring k)).length ≤ 600 := by
      rw [textF, mkS_length, catL, List.length_flatMap]
      have : (List.map (fun y : Str => y.cps.toList.length) ((rowF ring k).map (·.1))) = ((rowF ring k).map (·.1)).map (·.length) := by
        apply List.map_congr_left; intro y _; exact Array.length_toList
      rw [this]; exact hsum
    have hpk : (ring.getD k ("", 0)).1.length ≤ 6 := by
      rw [List.getD_eq_getElem?_getD, List.getElem?_eq_getElem hkl]; exact hpl _ (List.getElem_mem hkl)
    have hcl : ((ring.getD k ("", 0)).1 ++ textF (rowF ring k)).length ≤ 2000 := by rw [str_app_len]; omega
    refine Ex.ite (b := false) ?_ (fun h => nomatch h) (fun _ => ?_)
    · have hb : (((rankF ring k : Nat) : Int) == 0 && (checkF ((ring.getD k ("", 0)).1 ++ textF (rowF ring k)) != false)) = false := by
        by_cases h0 : rankF ring k = 0
        · rw [pl.first k hmem h0]; simp
        · have : (((rankF ring k : Nat) : Int) == 0) = false := by simpa using h0
          rw [this]; rfl
      refine Ts.of (Ts.and (.cmp (.name rfl) .int CmpI.eq) fun _ => .cmp (.callf (dr := recAt 3) (bt.hP 3 (by decide)) rfl (.cons (.cat (.itemT (.itemL (k := (k : Int)) (.name b1) (.name rfl) (by omega) (by omega) (hstep k hkl)) .int (by decide) (by decide) rfl) (.name rfl) (by rw [← str_app_len]; omega)) .nil) (fn_check bt (n + 1) _ hcl)) .bool CmpI.isnot) hb
    refine Ex.append (ω₁ := [_]) (.name rfl) (by rw [List.length_map]; exact htl) ?_
    refine Ex.append (ω₁ := []) (d := .str (dueF ring k)) ?_ (by rw [List.length_map]; exact htl) (.nil ⟨⟨b1, b2, b3, b4⟩, ⟨c1, c2, c3, c4⟩, ?_⟩)
    · have ed : D.str (dueF ring k) = if (((rankF ring k : Nat) : Int) != 0) then D.str "('', '')" else D.str (textF (rowF ring k)) := by
        unfold dueF
        by_cases h0 : rankF ring k = 0
        · simp [h0]
        · simp [h0]
      rw [ed]
      exact .ifexp (.int (.name rfl)) (fun _ => .str) (fun _ => .name rfl)
    · rw [hti, hti]; rfl
  obtain ⟨⟨b1, b2, b3, b4⟩, ⟨c1, c2, c3, c4⟩, rfl⟩ := hJ
  have etk2 : (marksF ring).take ((marksF ring).map fun k => D.tup [.int (k : Nat), .int (rankF ring k : Nat)]).length = marksF ring := List.take_of_length_le (by simp)
  rw [etk2]
  refine Ex.freeze (ω₁ := []) (ω₂ := [_]) (Ex.freeze (ω₁ := []) (ω₂ := []) ?_)
  have et : ((marksF ring).map fun k => D.str (textF (rowF ring k))) = strsD ((marksF ring).map fun k => textF (rowF ring k)) := by simp [strsD]
  have edu : ((marksF ring).map fun k => D.str (dueF ring k)) = strsD ((marksF ring).map (dueF ring)) := by simp [strsD]
  rw [et, edu]
  have rowMem : ∀ k, ∀ p ∈ rowF ring k, p ∈ ring := fun k p hp => by
    rcases List.mem_append.mp hp with q | q
    · exact List.mem_of_mem_drop q
    · exact List.mem_of_mem_take q
  have textL : ∀ k, (textF (rowF ring k)).length ≤ 600 := fun k => by
    rw [textF, mkS_length, catL, List.length_flatMap]
    have e : (List.map (fun y : Str => y.cps.toList.length) ((rowF ring k).map (·.1))) = ((rowF ring k).map (·.1)).map (·.length) := by
      apply List.map_congr_left; intro y _; exact Array.length_toList
    rw [e]
    have := sum_le 6 ((rowF ring k).map (·.1)) fun y hy => by obtain ⟨p, hp, rfl⟩ := List.mem_map.mp hy; exact hpl p (rowMem k p hp)
    have hrl : (rowF ring k).length ≤ 80 := by simp [rowF, List.length_take]; omega
    rw [List.length_map] at this; omega
  have textO : ∀ k, PyData.strOk (textF (rowF ring k)) = true := fun k => by
    unfold PyData.strOk textF mkS
    rw [Array.all_eq_true_iff_forall_mem]
    intro c hc
    have hc : c ∈ catL ((rowF ring k).map (·.1)) := by simpa using hc
    rw [catL, List.mem_flatMap] at hc
    obtain ⟨y, hy, hcy⟩ := hc
    obtain ⟨p, hp, rfl⟩ := List.mem_map.mp hy
    have := hok p (rowMem k p hp)
    unfold PyData.strOk at this
    rw [Array.all_eq_true_iff_forall_mem] at this
    exact this c (by simpa using hcy)
  refine Ex.ite (b := false) (Ts.of (.cmp (.callf (dr := recAt 4) (bt.hP 4 (by decide)) rfl (.cons (.name rfl) .nil) (fn_pre bt n _ ?_ (by rw [List.length_map]; omega))) (.name rfl) (CmpI.neS (n := n + 1) ?_ ?_)) (by rw [pl.pre]; simp)) (fun h => nomatch h) (fun _ => ?_)
  · intro x hx
    obtain ⟨k, hk, rfl⟩ := List.mem_map.mp hx
    exact Nat.le_trans (textL k) (by decide)
  · intro x hx
    obtain ⟨y, hy, rfl⟩ := List.mem_map.mp hx
    obtain ⟨k, hk, rfl⟩ := List.mem_map.mp hy
    split
    · exact textO k
    · decide +kernel
  · intro x hx
    obtain ⟨k, hk, rfl⟩ := List.mem_map.mp hx
    unfold dueF
    split
    · exact textO k
    · decide +kernel
  -- turn
  refine Ex.assign (d := .int (turnF (numsF script))) (.sub .int (.mul .int (.mod (.sumL rfl (bt.free _ (by decide)) ((bt.mb (by decide)).trans rfl) (.name b4)) .int (by decide)) (.of_left (by decide)))) (.cell rfl rfl rfl) (by simp) ?_
  refine Ex.assign (d := .cmp (turnF (numsF script))) (.makeCmp (n := n + 3) tc rfl rfl (.tuple (.cons (.tuple (.cons .int (.cons (.name rfl) .nil)) (by show (2 : Nat) ≤ sizeLine; decide)) (.cons (.tuple (.cons .int (.cons (.neg (.name rfl)) .nil)) (by show (2 : Nat) ≤ sizeLine; decide)) .nil)) (by show (2 : Nat) ≤ sizeLine; decide))) (.cell rfl rfl rfl) (by simp) ?_
  have htn : turnF (numsF script) = 1 ∨ turnF (numsF script) = -1 := by
    have h1 := Int.fmod_nonneg_of_pos (numsF script).sum (b := 2) (by decide)
    have h2 := Int.fmod_lt_of_pos (numsF script).sum (b := 2) (by decide)
    unfold turnF; omega
  -- places
  have e8 : (natsD (marksF ring)).filterMap (fun d => match d with | .int k => some (placeD (heightF ring k.toNat, k)) | _ => none) = (marksF ring).map fun k => placeD (heightF ring k, (k : Int)) := fm_eq fun _ _ => rfl
  refine Ex.assign (d := .list ((marksF ring).map fun k => placeD (heightF ring k, (k : Int)))) ?_ (.cell rfl rfl rfl) (by simp) ?_
  · rw [← e8]
    refine Ev.comp _ (It.list (.name (d := .list (natsD (marksF ring))) b3)) (fun h => nomatch h) (ScOk.ofF [("heights", .list ((heightsF ring).map D.int))] rfl rfl (by decide) (by decide) ⟨⟨.inl rfl, b2, rfl, rfl, rfl⟩, trivial⟩) (by simp [natsD]; omega) (fun cenv ce eb d hd => ?_)
    obtain ⟨k, hk, rfl⟩ := List.mem_map.mp hd
    have hkl := hmr k hk
    exact ⟨_, true, .name (.inl (ce.kind _ _ rfl (by decide))) (by simp), ext1 _ _ _ rfl, .none, fun _ => ⟨_, rfl, .tuple (.cons (.itemL (k := (k : Int)) (.name rfl) (.name rfl) (by omega) (by omega) (hht k hkl)) (.cons (.name rfl) .nil)) (by show (2 : Nat) ≤ sizeLine; decide)⟩, fun h => nomatch h⟩
  have ext2 : ∀ (x z : Str) (d f : D) (ρ : Vars), ρ.lookup x = some d → ρ.lookup z = some f → ∀ y e, List.lookup y [(x, d), (z, f)] = some e → ρ.lookup y = some e := fun x z d f ρ h h' y e he => by
    simp only [List.lookup_cons, List.lookup_nil] at he
    split at he
    · rename_i hy; cases he; rw [eq_of_beq hy]; exact h
    · split at he
      · rename_i hy; cases he; rw [eq_of_beq hy]; exact h'
      · cases he
  have stc : ∀ {names : List (Str × NameKind)} {cenv : Env} {x : Str}, cenv.kindOf x = some .cell → x ∈ cellNames names → (∃ c, cenv.cells.lookup x = some c) → Stor (cellNames names) cenv x := fun h1 h2 h3 => .inr ⟨h1, h2, h3⟩
  -- told
  have e9 : ((marksF ring).map fun k => placeD (heightF ring k, (k : Int))).filterMap (fun d => match d with | .tup [.int h, .int k] => some (lintD ((marksF ring).map fun j => cmpV (turnF (numsF script)) (h, k) (heightF ring j, (j : Int)))) | _ => none) = ((marksF ring).map fun k => (marksF ring).map fun j => cmpV (turnF (numsF script)) (heightF ring k, (k : Int)) (heightF ring j, (j : Int))).map lintD := fm_map fun _ _ => rfl
  refine Ex.assignc (fun d => match d with | .tup [.int h, .int k] => some (lintD ((marksF ring).map fun j => cmpV (turnF (numsF script)) (h, k) (heightF ring j, (j : Int)))) | _ => none) (It.list (.name (d := .list ((marksF ring).map fun k => placeD (heightF ring k, (k : Int)))) rfl)) (fun h => nomatch h) (ScOk.ofF [("order", .cmp (turnF (numsF script))), ("places", .list ((marksF ring).map fun k => placeD (heightF ring k, (k : Int))))] rfl rfl (by decide) (by decide) ⟨⟨.inl rfl, rfl, rfl, rfl, rfl⟩, ⟨.inl rfl, rfl, rfl, rfl, rfl⟩, trivial⟩) (by simp; omega) (fun cenv ce eb d hd => ?_) (.inl rfl) (by simp) ?_
  · obtain ⟨k, hk, rfl⟩ := List.mem_map.mp hd
    refine ⟨_, true, .name (stc (ce.kind _ _ rfl (by decide)) (by decide) (ce.own _ (by decide))) (by simp), ext2 _ _ _ _ _ rfl rfl, .none, fun _ => ⟨_, rfl, ?_⟩, fun h => nomatch h⟩
    have e10 : ((marksF ring).map fun j => placeD (heightF ring j, (j : Int))).filterMap (fun d => match d with | .tup [.int h, .int j] => some (D.int (cmpV (turnF (numsF script)) (heightF ring k, (k : Int)) (h, j))) | _ => none) = ((marksF ring).map fun j => cmpV (turnF (numsF script)) (heightF ring k, (k : Int)) (heightF ring j, (j : Int))).map D.int := fm_map fun _ _ => rfl
    refine Ev.of (Ev.comp _ (It.list (.name (d := .list ((marksF ring).map fun k => placeD (heightF ring k, (k : Int)))) rfl)) (fun h => nomatch h) (ScOk.ofF [("order", .cmp (turnF (numsF script))), ("left", placeD (heightF ring k, (k : Int)))] rfl rfl (by decide) (by decide) ⟨⟨ce.free _ rfl, rfl, rfl, rfl, rfl⟩, ⟨.inl (ce.kind _ _ rfl (by decide)), rfl, rfl, rfl, rfl⟩, trivial⟩) (by simp; omega) (fun cenv' ce' eb' d' hd' => ?_)) (congrArg D.list e10)
    obtain ⟨j, hj, rfl⟩ := List.mem_map.mp hd'
    exact ⟨_, true, .name (.inl (ce'.kind _ _ rfl (by decide))) (by simp), ext2 _ _ _ _ _ rfl rfl, .none, fun _ => ⟨_, rfl, .callCmp (n := n + 5) (b := (heightF ring j, (j : Int))) tc (.name rfl) (.name rfl) (.name rfl)⟩, fun h => nomatch h⟩
  rw [e9]
  have hmul : ∀ z : Int, IntMulOk (turnF (numsF script)) z := fun z => .of_left (by rcases htn with h | h <;> rw [h] <;> decide)
  have e11 : (natsD ((marksF ring).map (rankF ring))).filterMap (fun d => match d with | .int one => some (lintD (((marksF ring).map (rankF ring)).map fun other : Nat => turnF (numsF script) * ((if decide ((other : Int) < one) = true then 1 else 0) - (if decide (one < (other : Int)) = true then 1 else 0)))) | _ => none) = (((marksF ring).map (rankF ring)).map fun one : Nat => ((marksF ring).map (rankF ring)).map fun other : Nat => turnF (numsF script) * ((if decide ((other : Int) < (one : Int)) = true then 1 else 0) - (if decide ((one : Int) < (other : Int)) = true then 1 else 0))).map lintD := fm_map fun _ _ => rfl
  refine Ex.ret (Ev.cmp (.name rfl) (Ev.of (Ev.comp _ (It.list (.name (d := .list (natsD ((marksF ring).map (rankF ring)))) c1)) (fun h => nomatch h) (ScOk.ofF [("ranks", .list (natsD ((marksF ring).map (rankF ring)))), ("turn", .int (turnF (numsF script)))] rfl rfl (by decide) (by decide) ⟨⟨.inl rfl, c1, rfl, rfl, rfl⟩, ⟨.inl rfl, rfl, rfl, rfl, rfl⟩, trivial⟩) (by simp [natsD]; omega) (fun cenv ce eb d hd => ?_)) (congrArg D.list e11)) (CmpI.eqL (n := n + 1))) ?_
  · obtain ⟨one, hk, rfl⟩ := List.mem_map.mp hd
    refine ⟨_, true, .name (stc (ce.kind _ _ rfl (by decide)) (by decide) (ce.own _ (by decide))) (by simp), ext2 _ _ _ _ _ rfl rfl, .none, fun _ => ⟨_, rfl, ?_⟩, fun h => nomatch h⟩
    have e12 : (natsD ((marksF ring).map (rankF ring))).filterMap (fun d => match d with | .int other => some (D.int (turnF (numsF script) * ((if decide (other < (one : Int)) = true then 1 else 0) - (if decide ((one : Int) < other) = true then 1 else 0)))) | _ => none) = (((marksF ring).map (rankF ring)).map fun other : Nat => turnF (numsF script) * ((if decide ((other : Int) < (one : Int)) = true then 1 else 0) - (if decide ((one : Int) < (other : Int)) = true then 1 else 0))).map D.int := fm_map fun _ _ => rfl
    refine Ev.of (Ev.comp _ (It.list (.name (d := .list (natsD ((marksF ring).map (rankF ring)))) rfl)) (fun h => nomatch h) (ScOk.ofF [("turn", .int (turnF (numsF script))), ("one", .int (one : Nat))] rfl rfl (by decide) (by decide) ⟨⟨ce.free _ rfl, rfl, rfl, rfl, rfl⟩, ⟨.inl (ce.kind _ _ rfl (by decide)), rfl, rfl, rfl, rfl⟩, trivial⟩) (by simp [natsD]; omega) (fun cenv' ce' eb' d' hd' => ?_)) (congrArg D.list e12)
    obtain ⟨other, hj, rfl⟩ := List.mem_map.mp hd'
    refine ⟨_, true, .name (.inl (ce'.kind _ _ rfl (by decide))) (by simp), ext2 _ _ _ _ _ rfl rfl, .none, fun _ => ⟨_, rfl, .mul (.name rfl) (.subb (Ev.cmp (.name rfl) (.name rfl) CmpI.gt) (Ev.cmp (.name rfl) (.name rfl) CmpI.lt) fun A s Q h => ?_) (hmul _)⟩, fun h => nomatch h⟩
    exact PyProof.Rows.sub_bool h
  · congr 1
    refine decide_eq_true ?_
    rw [List.map_map]
    apply List.map_congr_left
    intro k hk
    simp only [Function.comp, List.map_map]
    apply List.map_congr_left
    intro j hj
    simp only [Function.comp]
    rw [pl.told k hk j hj]
    simp
end Mine

end
section
namespace Mine

/-! the order of the opening brackets -/
section
variable (ring : List (Str × Int))
theorem lowB_iff (k j : Nat) : lowB ring k j = true ↔ heightF ring j < heightF ring k ∨ (heightF ring j = heightF ring k ∧ k < j) := by
  simp [lowB]
theorem filter_lt {α : Type} (p q : α → Bool) : ∀ (l : List α), (∀ x ∈ l, p x = true → q x = true) → (l.filter p).length ≤ (l.filter q).length
  | [], _ => Nat.le_refl _
  | x :: l, h => by
    have ih := filter_lt p q l fun y hy => h y (List.mem_cons_of_mem _ hy)
    have hx := h x List.mem_cons_self
    rw [List.filter_cons, List.filter_cons]
    cases hp : p x with
    | true => rw [hx hp]; simp; exact ih
    | false => cases hq : q x <;> simp <;> omega
theorem filter_lt' {α : Type} (p q : α → Bool) : ∀ (l : List α), (∀ x ∈ l, p x = true → q x = true) → (∃ x ∈ l, p x = false ∧ q x = true) → (l.filter p).length < (l.filter q).length
  | [], _, h => by obtain ⟨x, hx, _⟩ := h; cases hx
  | x :: l, h, ⟨y, hy, hp, hq⟩ => by
    have hx := h x List.mem_cons_self
    have hl := fun z hz => h z (List.mem_cons_of_mem _ hz)
    rw [List.filter_cons, List.filter_cons]
    rcases List.mem_cons.mp hy with rfl | hy
    · rw [hp, hq]
      have := filter_lt p q l hl
      simp; omega
    · have ih := filter_lt' p q l hl ⟨y, hy, hp, hq⟩
      cases hpx : p x with
      | true => rw [hx hpx]; simp; exact ih
      | false => cases hqx : q x <;> simp <;> omega
theorem rank_lt {k j : Nat} (hk : k ∈ marksF ring) (h : lowB ring j k = true) : rankF ring k < rankF ring j := by
  refine filter_lt' _ _ _ (fun i _ hi => ?_) ⟨k, hk, ?_, h⟩
  · rw [lowB_iff] at hi h ⊢
    omega
  · rw [Bool.eq_false_iff]
    intro q
    rw [lowB_iff] at q
    omega
theorem told_plain (turn : Int) {k j : Nat} (hk : k ∈ marksF ring) (hj : j ∈ marksF ring) :
    cmpV turn (heightF ring k, (k : Int)) (heightF ring j, (j : Int)) = turn * ((if rankF ring j < rankF ring k then 1 else 0) - (if rankF ring k < rankF ring j then 1 else 0)) := by
  unfold cmpV
  simp only
  by_cases h1 : heightF ring k < heightF ring j
  · have := rank_lt ring hk ((lowB_iff ring j k).mpr (.inl h1))
    have h2 : ¬ rankF ring j < rankF ring k := by omega
    rw [if_pos h1, if_neg h2, if_pos this]; omega
  by_cases h2 : heightF ring j < heightF ring k
  · have := rank_lt ring hj ((lowB_iff ring k j).mpr (.inl h2))
    have h3 : ¬ rankF ring k < rankF ring j := by omega
    rw [if_neg h1, if_pos h2, if_pos this, if_neg h3]; omega
  have he : heightF ring j = heightF ring k := by omega
  by_cases h3 : k < j
  · have := rank_lt ring hj ((lowB_iff ring k j).mpr (.inr ⟨he, h3⟩))
    have h4 : ¬ rankF ring k < rankF ring j := by omega
    have h5 : (k : Int) < (j : Int) := by omega
    rw [if_neg h1, if_neg h2, if_pos h5, if_pos this, if_neg h4]; omega
  by_cases h4 : j < k
  · have := rank_lt ring hk ((lowB_iff ring j k).mpr (.inr ⟨he.symm, h4⟩))
    have h5 : ¬ rankF ring j < rankF ring k := by omega
    have h6 : ¬ (k : Int) < (j : Int) := by omega
    have h7 : (j : Int) < (k : Int) := by omega
    rw [if_neg h1, if_neg h2, if_neg h6, if_pos h7, if_neg h5, if_pos this]; omega
  · have hkj : k = j := by omega
    subst hkj
    simp
end
end Mine

end
section
namespace Mine

/-! the texts: what is left of a row of pieces without what stands in quotation marks, and what the check tells of it -/
def allP : List (Str × Int) := piecesA ++ piecesB
def codes (p : Str × Int) : List Nat := p.1.cps.toList
def bareP (p : Str × Int) : List Nat := if codes p = [34, 40, 34, 41] then [41] else if codes p = [34, 41, 92, 34, 40, 34] then [] else codes p
def codesR (row : List (Str × Int)) : List Nat := row.flatMap codes
def bareR (row : List (Str × Int)) : List Nat := row.flatMap bareP

theorem allP_cases {p : Str × Int} (h : p ∈ allP) : (codes p, p.2) ∈ ([([40], 1), ([41], -1), ([92, 92, 40], 1), ([34, 40, 34, 41], -1), ([92, 40], 0), ([92, 41], 0), ([34, 41, 92, 34, 40, 34], 0), ([92, 34], 0)] : List (List Nat × Int)) := by
  have : (codes p, p.2) ∈ allP.map fun p => (codes p, p.2) := List.mem_map.mpr ⟨p, h, rfl⟩
  have e : (allP.map fun p => (codes p, p.2)) = ([([40], 1), ([41], -1), ([92, 92, 40], 1), ([34, 40, 34, 41], -1), ([92, 40], 0), ([92, 41], 0), ([34, 41, 92, 34, 40, 34], 0), ([92, 34], 0)] : List (List Nat × Int)) := by decide +kernel
  rw [e] at this
  exact this

theorem catL_rows (row : List (Str × Int)) : catL (row.map (·.1)) = codesR row := by
  rw [catL, codesR, List.flatMap_map]; rfl
theorem slice_codes {x : Str} {i j : Nat} (hij : i ≤ j) (hj : j ≤ x.cps.toList.length) : Txt.slice x (some (i : Int)) (some (j : Int)) = mkS (subL x.cps.toList i j) := by
  have := beq_iff_eq.mp (slice_closes (x := x) (i := i) (j := j) ⟨by omega, by omega, by omega⟩)
  rw [this]
  have : ((j : Int) - (i : Int)).toNat = j - i := by omega
  rw [this]; rfl
theorem slice_from {x : Str} {i : Nat} (hj : i ≤ x.cps.toList.length) : Txt.slice x (some (i : Int)) none = mkS (x.cps.toList.drop i) := by
  have := beq_iff_eq.mp (slice_closes_from (x := x) (i := i) ⟨by omega, by omega⟩)
  rw [this]
  show mkS _ = mkS _
  congr 1
  have : ((i : Int)).toNat = i := by omega
  rw [this]
  have : ((x.cps.toList.length : Int) - (i : Int)).toNat = x.cps.toList.length - i := by omega
  rw [this, List.take_of_length_le]
  rw [List.length_drop]; exact Nat.le_refl _
theorem mkS_codes (l : List Nat) : (mkS l).cps.toList = l := by simp [mkS]
theorem mkS_of (x : Str) : mkS x.cps.toList = x := by show Str.mk _ = _; simp
theorem subL_more {c : List Nat} {a o : Nat} (q : List Nat) {pre rest : List Nat} (hc : c = pre ++ (q ++ rest)) (ho : pre.length = o) (ha : a ≤ o) : subL c a (o + q.length) = subL c a o ++ q := by
  subst hc
  unfold subL
  rw [List.drop_append_of_le_length (by omega)]
  have h1 : (pre.drop a).length = o - a := by rw [List.length_drop]; omega
  have h2 : o + q.length - a = (pre.drop a ++ q).length := by rw [List.length_append]; omega
  rw [h2, ← List.append_assoc, List.take_left, ← h1, List.append_assoc, List.take_left]
theorem subL_at {c : List Nat} {o : Nat} : subL c o o = [] := by simp [subL]
theorem subL_rest {c : List Nat} {a : Nat} : subL c a c.length = c.drop a := by
  unfold subL
  rw [List.take_of_length_le]
  rw [List.length_drop]; exact Nat.le_refl _

/-- between two pieces -/
structure Bd (x : Str) (o : Nat) (B : List Nat) (s : SS) : Prop where
  op : s.op = none
  le : s.start ≤ o
  val : catL s.res ++ subL x.cps.toList s.start o = B

theorem Bd.keep {x : Str} {o : Nat} {B : List Nat} {s : SS} (b : Bd x o B s) {pre rest : List Nat} (q : List Nat) (hc : x.cps.toList = pre ++ (q ++ rest)) (ho : pre.length = o) : Bd x (o + q.length) (B ++ q) s :=
  ⟨b.op, Nat.le_trans b.le (Nat.le_add_right _ _), by rw [subL_more q hc ho b.le, ← b.val, List.append_assoc]⟩

theorem strip_piece {x : Str} {o : Nat} {B : List Nat} {s : SS} (b : Bd x o B s) {p : Str × Int} (hp : p ∈ allP) {pre rest : List Nat} (hc : x.cps.toList = pre ++ (codes p ++ rest)) (ho : pre.length = o) :
    ∃ s', (escs (codes p ++ rest) o false).foldl (stepS x) s = (escs rest (o + (codes p).length) false).foldl (stepS x) s' ∧ Bd x (o + (codes p).length) (B ++ bareP p) s' := by
  have h := allP_cases hp
  unfold bareP
  generalize codes p = q at h hc ⊢
  generalize p.2 = z at h
  obtain ⟨start, op, res⟩ := s
  have hop : op = none := b.op
  subst hop
  simp only [List.mem_cons, Prod.mk.injEq, List.mem_nil_iff, or_false] at h
  have k3 : o ≤ x.cps.toList.length := by rw [hc]; simp only [List.length_append]; omega
  rcases h with ⟨rfl, _⟩ | ⟨rfl, _⟩ | ⟨rfl, _⟩ | ⟨rfl, _⟩ | ⟨rfl, _⟩ | ⟨rfl, _⟩ | ⟨rfl, _⟩ | ⟨rfl, _⟩
  · exact ⟨_, by simp [escs, stepS], b.keep _ hc ho⟩
  · exact ⟨_, by simp [escs, stepS], b.keep _ hc ho⟩
  · exact ⟨_, by simp [escs, stepS], b.keep _ hc ho⟩
  · have hle : start ≤ o := b.le
    refine ⟨⟨o + 3, none, if start = o then res else res ++ [Txt.slice x (some (start : Int)) (some (o : Int))]⟩, by simp [escs, stepS], rfl, by simp, ?_⟩
    have hv : catL res ++ subL x.cps.toList start o = B := b.val
    have e1 : subL x.cps.toList (o + 3) (o + 4) = [41] := by
      rw [hc, subL]
      have : pre ++ ([34, 40, 34, 41] ++ rest) = (pre ++ [34, 40, 34]) ++ ([41] ++ rest) := by simp
      rw [this, List.drop_left' (by simp; omega)]
      simp
    have e2 : catL (if start = o then res else res ++ [Txt.slice x (some (start : Int)) (some (o : Int))]) = B := by
      rw [← hv]
      split
      · rename_i h; subst h; simp [subL_at]
      · rw [slice_codes hle (by omega), catL, List.flatMap_append]
        simp [mkS_codes, catL]
    show catL _ ++ subL x.cps.toList (o + 3) (o + 4) = _
    rw [e1, e2]; simp
  · exact ⟨_, by simp [escs, stepS], b.keep _ hc ho⟩
  · exact ⟨_, by simp [escs, stepS], b.keep _ hc ho⟩
  · have hle : start ≤ o := b.le
    refine ⟨⟨o + 6, none, if start = o then res else res ++ [Txt.slice x (some (start : Int)) (some (o : Int))]⟩, by simp [escs, stepS], rfl, by simp, ?_⟩
    have hv : catL res ++ subL x.cps.toList start o = B := b.val
    have e2 : catL (if start = o then res else res ++ [Txt.slice x (some (start : Int)) (some (o : Int))]) = B := by
      rw [← hv]
      split
      · rename_i h; subst h; simp [subL_at]
      · rw [slice_codes hle (by omega), catL, List.flatMap_append]
        simp [mkS_codes, catL]
    show catL _ ++ subL x.cps.toList (o + 6) (o + 6) = _
    rw [subL_at, e2]; simp
  · exact ⟨_, by simp [escs, stepS], b.keep _ hc ho⟩

theorem strip_row {x : Str} : ∀ (row : List (Str × Int)) {o : Nat} {B : List Nat} {s : SS} {pre : List Nat}, (∀ p ∈ row, p ∈ allP) → Bd x o B s → x.cps.toList = pre ++ codesR row → pre.length = o →
    Bd x (x.cps.toList.length) (B ++ bareR row) ((escs (codesR row) o false).foldl (stepS x) s)
  | [], o, B, s, pre, _, b, hc, ho => by
    have : x.cps.toList.length = o := by rw [hc]; simp [codesR, ho]
    rw [this]; simpa [codesR, bareR, escs] using b
  | p :: r, o, B, s, pre, hp, b, hc, ho => by
    have e : codesR (p :: r) = codes p ++ codesR r := by simp [codesR]
    have e' : bareR (p :: r) = bareP p ++ bareR r := by simp [bareR]
    rw [e] at hc ⊢
    obtain ⟨s', h1, h2⟩ := strip_piece b (hp p List.mem_cons_self) hc ho
    rw [h1, e', ← List.append_assoc]
    exact strip_row r (pre := pre ++ codes p) (fun q hq => hp q (List.mem_cons_of_mem _ hq)) h2 (by rw [hc, List.append_assoc]) (by rw [List.length_append, ho])

theorem bareP_noq {p : Str × Int} (hp : p ∈ allP) (h : 34 ∉ codes p) : bareP p = codes p := by
  have h' := allP_cases hp
  unfold bareP
  split
  · rename_i e; rw [e] at h; simp at h
  · split
    · rename_i e; rw [e] at h; simp at h
    · rfl
theorem bareR_noq : ∀ (row : List (Str × Int)), (∀ p ∈ row, p ∈ allP) → 34 ∉ codesR row → bareR row = codesR row
  | [], _, _ => rfl
  | p :: r, hp, h => by
    have e : codesR (p :: r) = codes p ++ codesR r := by simp [codesR]
    have e' : bareR (p :: r) = bareP p ++ bareR r := by simp [bareR]
    rw [e] at h ⊢
    rw [e', bareP_noq (hp p List.mem_cons_self) (fun q => h (List.mem_append.mpr (.inl q))), bareR_noq r (fun q hq => hp q (List.mem_cons_of_mem _ hq)) (fun q => h (List.mem_append.mpr (.inr q)))]
theorem strip_codes (row : List (Str × Int)) (hp : ∀ p ∈ row, p ∈ allP) : (stripF (mkS (codesR row))).cps.toList = bareR row := by
  unfold stripF
  rw [mkS_codes]
  split
  · have b : Bd (mkS (codesR row)) 0 [] ⟨0, none, []⟩ := ⟨rfl, Nat.le_refl _, by rw [subL_at]; rfl⟩
    have h := strip_row (x := mkS (codesR row)) row (pre := []) hp b (mkS_codes _) rfl
    have hr : runS (mkS (codesR row)) = (escs (codesR row) 0 false).foldl (stepS (mkS (codesR row))) ⟨0, none, []⟩ := by rw [runS, mkS_codes]
    rw [← hr] at h
    obtain ⟨_, hle, hv⟩ := h
    rw [mkS_codes]
    rw [List.nil_append] at hv
    rw [← hv, finS]
    split
    · rw [slice_from (by omega), catL, List.flatMap_append, subL_rest]
      simp [mkS_codes, catL]
    · rename_i h
      have hl : (mkS (codesR row)).cps.toList.length = (mkS (codesR row)).length := Array.length_toList
      rw [subL_rest, List.drop_of_length_le (by omega)]; simp
  · rename_i h
    rw [mkS_codes, bareR_noq row hp h]

/-- what the check tells, by the steps alone -/
def chk : List Int → Int → Bool
  | [], o => o == 0
  | s :: r, o => if o + s < 0 then false else chk r (o + s)
theorem check_piece {p : Str × Int} (hp : p ∈ allP) (rest : List Nat) (i : Nat) (o : Int) (ho : 0 ≤ o) : ∃ i', checkL (escs (bareP p ++ rest) i false) o = if o + p.2 < 0 then false else checkL (escs rest i' false) (o + p.2) := by
  have h := allP_cases hp
  unfold bareP
  generalize codes p = q at h ⊢
  generalize p.2 = z at h ⊢
  simp only [List.mem_cons, Prod.mk.injEq, List.mem_nil_iff, or_false] at h
  have h1 : ¬ o + 1 < 0 := by omega
  have h2 : ¬ o < 0 := by omega
  rcases h with ⟨rfl, rfl⟩ | ⟨rfl, rfl⟩ | ⟨rfl, rfl⟩ | ⟨rfl, rfl⟩ | ⟨rfl, rfl⟩ | ⟨rfl, rfl⟩ | ⟨rfl, rfl⟩ | ⟨rfl, rfl⟩
  · exact ⟨i + 1, by simp [escs, checkL, h1]⟩
  · exact ⟨i + 1, by simp [escs, checkL, Int.sub_eq_add_neg]⟩
  · exact ⟨i + 3, by simp [escs, checkL, h1]⟩
  · exact ⟨i + 1, by simp [escs, checkL, Int.sub_eq_add_neg]⟩
  · exact ⟨i + 2, by simp [escs, checkL, h2]⟩
  · exact ⟨i + 2, by simp [escs, checkL, h2]⟩
  · exact ⟨i, by simp [h2]⟩
  · exact ⟨i + 2, by simp [escs, checkL, h2]⟩
theorem check_bare : ∀ (row : List (Str × Int)) (i : Nat) (o : Int), (∀ p ∈ row, p ∈ allP) → 0 ≤ o → checkL (escs (bareR row) i false) o = chk (stepsOf row) o
  | [], i, o, _, _ => by simp [bareR, escs, checkL, stepsOf, chk]
  | p :: r, i, o, hp, ho => by
    have e' : bareR (p :: r) = bareP p ++ bareR r := by simp [bareR]
    rw [e']
    obtain ⟨i', h⟩ := check_piece (hp p List.mem_cons_self) (bareR r) i o ho
    have e2 : stepsOf (p :: r) = p.2 :: stepsOf r := rfl
    rw [h, e2, chk]
    split
    · rfl
    · exact check_bare r i' _ (fun q hq => hp q (List.mem_cons_of_mem _ hq)) (by omega)
theorem check_row (row : List (Str × Int)) (hp : ∀ p ∈ row, p ∈ allP) : checkF (textF row) = chk (stepsOf row) 0 := by
  rw [checkF, textF, catL_rows, strip_codes row hp]
  exact check_bare row 0 0 hp (by decide)
end Mine

end
section
namespace Mine

/-! what the parts of a row give -/
/-- the shapes of the sums by answer -/
def Shape (l : List (Str × Int)) (f t : Int) : Prop :=
  (l = [] ∧ f = 0 ∧ t = 0) ∨ (l = [(("False" : Str), f)] ∧ t = 0) ∨ (l = [(("True" : Str), t)] ∧ f = 0) ∨ l = [(("False" : Str), f), (("True" : Str), t)] ∨ l = [(("True" : Str), t), (("False" : Str), f)]
theorem neTF : ("True" : Str) ≠ "False" := by decide
theorem neFT : ("False" : Str) ≠ "True" := by decide
theorem Shape.addT {l : List (Str × Int)} {f t v : Int} (h : Shape l f t) : Shape (addF l [("True", v)]) f (t + v) := by
  rcases h with ⟨rfl, rfl, rfl⟩ | ⟨rfl, rfl⟩ | ⟨rfl, rfl⟩ | rfl | rfl <;>
    simp [Shape, addF, dadd, dset, dget, neTF, neFT]
theorem Shape.addFa {l : List (Str × Int)} {f t v : Int} (h : Shape l f t) : Shape (addF l [("False", v)]) (f + v) t := by
  rcases h with ⟨rfl, rfl, rfl⟩ | ⟨rfl, rfl⟩ | ⟨rfl, rfl⟩ | rfl | rfl <;>
    simp [Shape, addF, dadd, dset, dget, neTF, neFT]
theorem Shape.told {l : List (Str × Int)} {f t : Int} (h : Shape l f t) : (dget l "False").getD 0 = f ∧ (dget l "True").getD 0 = t ∧ cntF l = f + t := by
  rcases h with ⟨rfl, rfl, rfl⟩ | ⟨rfl, rfl⟩ | ⟨rfl, rfl⟩ | rfl | rfl <;>
    simp [dget, cntF, neTF, neFT]
  omega
/-- the upward steps that begin below nought, and the others -/
def upsN : List Int → Int → Int
  | [], _ => 0
  | s :: r, h => (if s = 1 ∧ h < 0 then 1 else 0) + upsN r (h + s)
def upsP : List Int → Int → Int
  | [], _ => 0
  | s :: r, h => (if s = 1 ∧ 0 ≤ h then 1 else 0) + upsP r (h + s)

structure TInv (seg : List (Str × Int)) (st : TS) (h F T : Int) : Prop where
  height : st.height = h
  part : st.part = textF seg
  sub : ∀ p ∈ seg, p ∈ allP
  sums : ∃ f t, Shape st.tally f t ∧ (0 ≤ h → f = F ∧ t + st.opened = T) ∧ (h < 0 → f + st.opened = F ∧ t = T)
  zero : h = 0 → seg = [] ∧ st.opened = 0
  pos : 0 ≤ h → ∀ r, chk (stepsOf seg ++ r) 0 = chk r h
  neg : h < 0 → ∀ r, chk (stepsOf seg ++ r) 0 = false

theorem textF_add (seg : List (Str × Int)) (p : Str × Int) : textF seg ++ p.1 = textF (seg ++ [p]) := by
  unfold textF
  rw [catL_rows, catL_rows, codesR, codesR, List.flatMap_append]
  show Str.mk _ = Str.mk _
  congr 1
  simp [mkS, codes]
theorem allP_step {p : Str × Int} (h : p ∈ allP) : p.2 = 1 ∨ p.2 = 0 ∨ p.2 = -1 := by
  have h := allP_cases h
  generalize codes p = q at h
  generalize p.2 = z at h ⊢
  simp only [List.mem_cons, Prod.mk.injEq, List.mem_nil_iff, or_false] at h
  omega

theorem tally_step {seg : List (Str × Int)} {st : TS} {h F T : Int} (i : TInv seg st h F T) {p : Str × Int} (hp : p ∈ allP) :
    ∃ seg', TInv seg' (stepT st p) (h + p.2) (F + if p.2 = 1 ∧ h < 0 then 1 else 0) (T + if p.2 = 1 ∧ 0 ≤ h then 1 else 0) := by
  obtain ⟨tally, part, opened, height⟩ := st
  obtain ⟨i1, i2, i3, ⟨f, t, i4, i5, i6⟩, i7, i8, i9⟩ := i
  simp only at i1 i2 i4 i5 i6 i7
  subst i1 i2
  have hs := allP_step hp
  have sub : ∀ q ∈ seg ++ [p], q ∈ allP := fun q hq => by
    rcases List.mem_append.mp hq with hq | hq
    · exact i3 q hq
    · rw [List.mem_singleton.mp hq]; exact hp
  have e1 : ∀ r, stepsOf (seg ++ [p]) ++ r = stepsOf seg ++ (p.2 :: r) := fun r => by simp [stepsOf]
  have hck : checkF (textF seg ++ p.1) = chk (stepsOf seg ++ [p.2]) 0 := by
    rw [textF_add, check_row _ sub, ← List.append_nil (stepsOf (seg ++ [p])), e1]
  unfold stepT
  simp only
  by_cases hz : height + p.2 = 0
  · rw [if_pos hz]
    by_cases hn : 0 ≤ height
    · have hT : checkF (textF seg ++ p.1) = true := by
        rw [hck, i8 hn, chk, if_neg (by omega), chk, hz]; rfl
      have np : ¬ p.2 = 1 := by omega
      have h5 := i5 hn
      rw [hT, if_pos rfl, if_neg np, if_neg (fun q => np q.1), if_neg (fun q => np q.1)]
      exact ⟨[], rfl, rfl, (fun _ h => nomatch h), ⟨f, t + opened, i4.addT, (fun _ => by simp only; omega), (fun _ => by omega)⟩, (fun _ => ⟨rfl, rfl⟩), (fun _ r => by rw [hz]; rfl), (fun _ => by omega)⟩
    · have hF : checkF (textF seg ++ p.1) = false := by rw [hck, i9 (by omega)]
      have pp : p.2 = 1 := by omega
      have h6 := i6 (by omega)
      rw [hF, if_neg (by decide), if_pos pp, if_pos ⟨pp, by omega⟩, if_neg (fun q => hn q.2)]
      exact ⟨[], rfl, rfl, (fun _ h => nomatch h), ⟨f + (opened + 1), t, i4.addFa, (fun _ => by simp only; omega), (fun _ => by omega)⟩, (fun _ => ⟨rfl, rfl⟩), (fun _ r => by rw [hz]; rfl), (fun _ => by omega)⟩
  · rw [if_neg hz]
    refine ⟨seg ++ [p], rfl, textF_add seg p, sub, ⟨f, t, i4, ?_, ?_⟩, (fun q => absurd q hz), ?_, ?_⟩
    · intro h0
      have h5 := i5 (by omega)
      simp only
      by_cases pp : p.2 = 1
      · rw [if_pos pp, if_neg (by omega), if_pos ⟨pp, by omega⟩]; omega
      · rw [if_neg pp, if_neg (fun q => pp q.1), if_neg (fun q => pp q.1)]; omega
    · intro h0
      simp only
      by_cases hn : height < 0
      · have h6 := i6 hn
        by_cases pp : p.2 = 1
        · rw [if_pos pp, if_pos ⟨pp, hn⟩, if_neg (by omega)]; omega
        · rw [if_neg pp, if_neg (fun q => pp q.1), if_neg (fun q => pp q.1)]; omega
      · have np : ¬ p.2 = 1 := by omega
        have h5 := i5 (by omega)
        have h7 := i7 (by omega)
        rw [if_neg np, if_neg (fun q => np q.1), if_neg (fun q => np q.1)]; omega
    · intro h0 r
      rw [e1, i8 (by omega), chk, if_neg (by omega)]
    · intro h0 r
      rw [e1]
      by_cases hn : height < 0
      · exact i9 hn _
      · rw [i8 (by omega), chk, if_pos h0]

theorem tally_fold : ∀ (row : List (Str × Int)) (seg : List (Str × Int)) (st : TS) (h F T : Int), (∀ p ∈ row, p ∈ allP) → TInv seg st h F T →
    ∃ seg', TInv seg' (row.foldl stepT st) (h + (stepsOf row).sum) (F + upsN (stepsOf row) h) (T + upsP (stepsOf row) h)
  | [], seg, st, h, F, T, _, i => ⟨seg, by simpa [stepsOf, upsN, upsP] using i⟩
  | p :: r, seg, st, h, F, T, hp, i => by
    obtain ⟨seg₁, i₁⟩ := tally_step i (hp p List.mem_cons_self)
    obtain ⟨seg₂, i₂⟩ := tally_fold r _ _ _ _ _ (fun q hq => hp q (List.mem_cons_of_mem _ hq)) i₁
    refine ⟨seg₂, ?_⟩
    have e : stepsOf (p :: r) = p.2 :: stepsOf r := rfl
    rw [e, List.sum_cons, upsN, upsP, List.foldl_cons, ← Int.add_assoc, ← Int.add_assoc, ← Int.add_assoc]
    exact i₂

theorem tally_row (row : List (Str × Int)) (hp : ∀ p ∈ row, p ∈ allP) (h0 : (stepsOf row).sum = 0) :
    (dget (tallyF row) "False").getD 0 = upsN (stepsOf row) 0 ∧ (dget (tallyF row) "True").getD 0 = upsP (stepsOf row) 0 ∧ cntF (tallyF row) = upsN (stepsOf row) 0 + upsP (stepsOf row) 0 := by
  obtain ⟨seg, i⟩ := tally_fold row [] ⟨[], "", 0, 0⟩ 0 0 0 hp ⟨rfl, rfl, (fun _ h => nomatch h), ⟨0, 0, .inl ⟨rfl, rfl, rfl⟩, (fun _ => ⟨rfl, rfl⟩), (fun h => by omega)⟩, (fun _ => ⟨rfl, rfl⟩), (fun _ r => rfl), (fun h => by omega)⟩
  obtain ⟨f, t, h1, h2, h3⟩ := i.sums
  have h4 := h2 (by omega)
  have h5 := i.zero (by omega)
  have h6 := h1.told
  have e : tallyF row = (row.foldl stepT ⟨[], "", 0, 0⟩).tally := rfl
  rw [← e] at h6
  rw [h5.2] at h4
  refine ⟨by rw [h6.1]; omega, by rw [h6.2.1]; omega, by rw [h6.2.2]; omega⟩
end Mine

end
section
namespace Mine

/-! the upward steps, counted by place and height -/
def cntI (P : Nat → Int → Bool) : List Int → Nat → Int → Nat
  | [], _, _ => 0
  | s :: r, i, h => (if s = 1 ∧ P i h = true then 1 else 0) + cntI P r (i + 1) (h + s)

theorem cntI_app (P : Nat → Int → Bool) : ∀ (a b : List Int) (i : Nat) (h : Int), cntI P (a ++ b) i h = cntI P a i h + cntI P b (i + a.length) (h + a.sum)
  | [], b, i, h => by simp [cntI]
  | s :: r, b, i, h => by
    rw [List.cons_append, cntI, cntI, cntI_app P r b, List.length_cons, List.sum_cons, Nat.add_assoc, Int.add_assoc]
    rw [Nat.add_comm 1 r.length, Nat.add_assoc]
theorem cntI_congr {P P' : Nat → Int → Bool} : ∀ (l : List Int) (i i' : Nat) (h h' : Int), (∀ j, j < l.length → P (i + j) (h + (l.take j).sum) = P' (i' + j) (h' + (l.take j).sum)) → cntI P l i h = cntI P' l i' h'
  | [], _, _, _, _, _ => rfl
  | s :: r, i, i', h, h', hh => by
    have h0 := hh 0 (by simp)
    simp only [Nat.add_zero, List.take_zero, List.sum_nil, Int.add_zero] at h0
    rw [cntI, cntI, h0, cntI_congr r (i + 1) (i' + 1) (h + s) (h' + s)]
    intro j hj
    have := hh (j + 1) (by simp; omega)
    rw [List.take_succ_cons, List.sum_cons, ← Int.add_assoc, ← Int.add_assoc] at this
    have e1 : i + 1 + j = i + (j + 1) := by omega
    have e2 : i' + 1 + j = i' + (j + 1) := by omega
    rw [e1, e2]; exact this
theorem upsN_cnt : ∀ (l : List Int) (i : Nat) (h : Int), upsN l h = (cntI (fun _ h => decide (h < 0)) l i h : Nat)
  | [], _, _ => rfl
  | s :: r, i, h => by
    rw [upsN, cntI, upsN_cnt r (i + 1)]
    by_cases q : s = 1 ∧ h < 0
    · rw [if_pos q, if_pos ⟨q.1, by simpa using q.2⟩]; omega
    · rw [if_neg q, if_neg (fun z => q ⟨z.1, by simpa using z.2⟩)]; omega
theorem upsNP : ∀ (l : List Int) (i : Nat) (h : Int), upsN l h + upsP l h = (cntI (fun _ _ => true) l i h : Nat)
  | [], _, _ => rfl
  | s :: r, i, h => by
    have := upsNP r (i + 1) (h + s)
    rw [upsN, upsP, cntI]
    by_cases q : s = 1
    · by_cases z : h < 0
      · rw [if_pos ⟨q, z⟩, if_neg (by omega), if_pos ⟨q, rfl⟩]; omega
      · rw [if_neg (by omega), if_pos ⟨q, by omega⟩, if_pos ⟨q, rfl⟩]; omega
    · rw [if_neg (fun w => q w.1), if_neg (fun w => q w.1), if_neg (fun w => q w.1)]; omega
theorem cntI_range (P : Nat → Int → Bool) (l : List Int) : ∀ n, n ≤ l.length → cntI P (l.take n) 0 0 = (((List.range n).filter fun j => l.getD j 0 == 1).filter fun j => P j (l.take j).sum).length
  | 0, _ => rfl
  | n + 1, hn => by
    have ih := cntI_range P l n (by omega)
    have hlt : n < l.length := by omega
    have hx : l[n]? = some l[n] := List.getElem?_eq_getElem hlt
    rw [List.take_add_one, hx, Option.toList_some, cntI_app, ih, List.range_succ, List.filter_append, List.filter_append, List.length_append]
    congr 1
    have hl : (l.take n).length = n := by rw [List.length_take]; omega
    rw [hl, cntI, cntI, Nat.zero_add, Int.zero_add, List.filter_cons, List.filter_nil]
    have hg : l.getD n 0 = l[n] := by rw [List.getD_eq_getElem?_getD, hx]; rfl
    rw [hg]
    by_cases h1 : l[n] = 1
    · by_cases h2 : P n (l.take n).sum = true
      · simp [h1, h2]
      · simp [h1, h2]
    · simp [h1]

section
variable (ring : List (Str × Int))
theorem steps_len : (stepsOf ring).length = ring.length := by simp [stepsOf]
theorem steps_take (k : Nat) : stepsOf (ring.take k) = (stepsOf ring).take k := by simp [stepsOf, List.map_take]
theorem cnt_marks (P : Nat → Int → Bool) : ((marksF ring).filter fun j => P j (heightF ring j)).length = cntI P (stepsOf ring) 0 0 := by
  have h := cntI_range P (stepsOf ring) ring.length (by rw [steps_len]; exact Nat.le_refl _)
  rw [List.take_of_length_le (by rw [steps_len]; exact Nat.le_refl _)] at h
  rw [h, marksF]
  congr 1
  have e : (fun j => P j (heightF ring j)) = fun j => P j ((stepsOf ring).take j).sum := by
    funext j; rw [heightF, steps_take]
  rw [e]; rfl

theorem mark_lt {k : Nat} (hk : k ∈ marksF ring) : k < ring.length := by
  have := (List.mem_filter.mp hk).1
  exact List.mem_range.mp this
theorem ring_split {k : Nat} (hk : k ∈ marksF ring) : stepsOf ring = (stepsOf ring).take k ++ 1 :: (stepsOf ring).drop (k + 1) := by
  have h1 := mark_lt ring hk
  have h2 : (stepsOf ring).getD k 0 = 1 := by simpa [markB] using (List.mem_filter.mp hk).2
  have h3 : k < (stepsOf ring).length := by rw [steps_len]; exact h1
  rw [List.getD_eq_getElem?_getD, List.getElem?_eq_getElem h3] at h2
  have h2 : (stepsOf ring)[k] = 1 := h2
  conv => lhs; rw [← List.take_append_drop k (stepsOf ring)]
  rw [List.drop_eq_getElem_cons h3, h2]
theorem row_steps (k : Nat) : stepsOf (rowF ring k) = (stepsOf ring).drop (k + 1) ++ (stepsOf ring).take k := by
  simp [stepsOf, rowF, List.map_take, List.map_drop]
theorem row_sum {k : Nat} (hk : k ∈ marksF ring) (h1 : (stepsOf ring).sum = 1) : (stepsOf (rowF ring k)).sum = 0 := by
  have h := congrArg List.sum (ring_split ring hk)
  rw [List.sum_append, List.sum_cons] at h
  rw [row_steps, List.sum_append]; omega
theorem row_all {k : Nat} (hk : k ∈ marksF ring) : (cntI (fun _ _ => true) (stepsOf (rowF ring k)) 0 0 : Int) = ((marksF ring).length : Int) - 1 := by
  have h := cnt_marks ring fun _ _ => true
  rw [List.filter_eq_self.mpr (fun _ _ => rfl), ring_split ring hk, cntI_app, cntI] at h
  rw [row_steps, cntI_app]
  have e1 : cntI (fun _ _ => true) ((stepsOf ring).take k) 0 0 = cntI (fun _ _ => true) ((stepsOf ring).take k) (0 + ((stepsOf ring).drop (k + 1)).length) (0 + ((stepsOf ring).drop (k + 1)).sum) := cntI_congr _ _ _ _ _ fun _ _ => rfl
  have e2 : cntI (fun _ _ => true) ((stepsOf ring).drop (k + 1)) (0 + ((stepsOf ring).take k).length + 1) (0 + ((stepsOf ring).take k).sum + 1) = cntI (fun _ _ => true) ((stepsOf ring).drop (k + 1)) 0 0 := cntI_congr _ _ _ _ _ fun _ _ => rfl
  rw [e2, e1] at h
  rw [if_pos ⟨rfl, rfl⟩] at h
  omega
theorem row_rank {k : Nat} (hk : k ∈ marksF ring) (h1 : (stepsOf ring).sum = 1) : (cntI (fun _ h => decide (h < 0)) (stepsOf (rowF ring k)) 0 0) = rankF ring k := by
  have hh : heightF ring k = ((stepsOf ring).take k).sum := by rw [heightF, steps_take]
  have h := cnt_marks ring fun j h => decide (h < heightF ring k) || (h == heightF ring k && decide (k < j))
  have hr : rankF ring k = ((marksF ring).filter fun j => (fun j h => decide (h < heightF ring k) || (h == heightF ring k && decide (k < j))) j (heightF ring j)).length := rfl
  have hk' := mark_lt ring hk
  have hl : ((stepsOf ring).take k).length = k := by rw [List.length_take, steps_len]; omega
  rw [← hr, ring_split ring hk, cntI_app, cntI, hl, Nat.zero_add, Int.zero_add] at h
  have hs := congrArg List.sum (ring_split ring hk)
  rw [List.sum_append, List.sum_cons, h1] at hs
  rw [h, row_steps, cntI_app, Nat.zero_add, Int.zero_add]
  generalize hA : (stepsOf ring).take k = A at *
  generalize hB : (stepsOf ring).drop (k + 1) = B at *
  rw [← hh] at hs ⊢
  generalize heightF ring k = H at *
  have e1 : cntI (fun j h => decide (h < H) || (h == H && decide (k < j))) A 0 0 = cntI (fun _ h => decide (h < 0)) A B.length B.sum := by
    refine cntI_congr _ _ _ _ _ fun j hj => ?_
    rw [Bool.eq_iff_iff]; simp; omega
  have e2 : cntI (fun j h => decide (h < H) || (h == H && decide (k < j))) B (k + 1) (H + 1) = cntI (fun _ h => decide (h < 0)) B 0 0 := by
    refine cntI_congr _ _ _ _ _ fun j hj => ?_
    have : k < k + 1 + j := by omega
    rw [Bool.eq_iff_iff]; simp [this]; omega
  have e3 : ¬ ((1 : Int) = 1 ∧ (decide (H < H) || (H == H && decide (k < k))) = true) := by simp
  rw [e1, e2, if_neg e3]; omega
end

/-! the rows -/
theorem up_of_neg : ∀ (l : List Int) (h : Int), (∀ s ∈ l, s ≤ 1) → h < 0 → 0 ≤ h + l.sum → 0 < upsN l h
  | [], h, _, h0, h1 => by simp at h1; omega
  | s :: r, h, hs, h0, h1 => by
    have h2 := hs s List.mem_cons_self
    have hr : ∀ s ∈ r, s ≤ 1 := fun x hx => hs x (List.mem_cons_of_mem _ hx)
    rw [List.sum_cons] at h1
    have hnn : 0 ≤ upsN r (h + s) := by rw [upsN_cnt r 0]; omega
    rw [upsN]
    by_cases q : s = 1
    · rw [if_pos ⟨q, h0⟩]; omega
    · have := up_of_neg r (h + s) hr (by omega) (by omega)
      rw [if_neg (fun z => q z.1)]; omega
theorem chk_ups : ∀ (l : List Int) (o : Int), (∀ s ∈ l, s ≤ 1) → 0 ≤ o → o + l.sum = 0 → chk l o = decide (upsN l o = 0)
  | [], o, _, _, h1 => by simp at h1; subst h1; rfl
  | s :: r, o, hs, h0, h1 => by
    have hr : ∀ s ∈ r, s ≤ 1 := fun x hx => hs x (List.mem_cons_of_mem _ hx)
    rw [List.sum_cons] at h1
    rw [chk, upsN, if_neg (c := s = 1 ∧ o < 0) (by omega), Int.zero_add]
    split
    · rename_i h
      have := up_of_neg r (o + s) hr h (by omega)
      symm
      exact decide_eq_false (by omega)
    · exact chk_ups r (o + s) hr (by omega) (by omega)
theorem chk_sum : ∀ (l : List Int) (o : Int), chk l o = true → o + l.sum = 0
  | [], o, h => by simpa [chk] using h
  | s :: r, o, h => by
    rw [chk] at h
    split at h
    · cases h
    · have := chk_sum r (o + s) h
      rw [List.sum_cons]; omega

theorem plain_of (ring : List (Str × Int)) (turn : Int) (hp : ∀ p ∈ ring, p ∈ allP) (h1 : (stepsOf ring).sum = 1) : Plain ring turn := by
  have hrow : ∀ k, ∀ p ∈ rowF ring k, p ∈ allP := fun k p hq => by
    rcases List.mem_append.mp hq with q | q
    · exact hp p (List.mem_of_mem_drop q)
    · exact hp p (List.mem_of_mem_take q)
  have hst : ∀ k, ∀ s ∈ stepsOf (rowF ring k), s ≤ 1 := fun k s hs => by
    obtain ⟨p, hq, rfl⟩ := List.mem_map.mp hs
    have := allP_step (hrow k p hq)
    omega
  have hN : ∀ k ∈ marksF ring, upsN (stepsOf (rowF ring k)) 0 = (rankF ring k : Int) := fun k hk => by
    rw [upsN_cnt _ 0, row_rank ring hk h1]
  have hA : ∀ k ∈ marksF ring, upsN (stepsOf (rowF ring k)) 0 + upsP (stepsOf (rowF ring k)) 0 = ((marksF ring).length : Int) - 1 := fun k hk => by
    rw [upsNP _ 0, row_all ring hk]
  have hck : ∀ k ∈ marksF ring, checkF (textF (rowF ring k)) = decide (rankF ring k = 0) := fun k hk => by
    rw [check_row _ (hrow k), chk_ups _ _ (hst k) (by decide) (by rw [row_sum ring hk h1]; rfl), hN k hk]
    simp
  refine ⟨fun k hk => ?_, fun k hk h0 => ?_, ?_, fun k hk j hj => told_plain ring turn hk hj⟩
  · obtain ⟨a, b, c⟩ := tally_row _ (hrow k) (row_sum ring hk h1)
    have := hN k hk
    have := hA k hk
    rw [a, b, c]
    have e1 : upsP (stepsOf (rowF ring k)) 0 = ((marksF ring).length : Int) - 1 - (rankF ring k : Int) := by omega
    rw [hA k hk, hN k hk, e1]
  · have hk' := mark_lt ring hk
    have hmem : ring.getD k ("", 0) ∈ allP := by
      rw [List.getD_eq_getElem?_getD, List.getElem?_eq_getElem hk']
      exact hp _ (List.getElem_mem hk')
    have hstep : (ring.getD k ("", 0)).2 = 1 := by
      have h2 : (stepsOf ring).getD k 0 = 1 := by simpa [markB] using (List.mem_filter.mp hk).2
      rw [List.getD_eq_getElem?_getD, stepsOf, List.getElem?_map, List.getElem?_eq_getElem hk'] at h2
      rw [List.getD_eq_getElem?_getD, List.getElem?_eq_getElem hk']
      exact h2
    have e : (ring.getD k ("", 0)).1 ++ textF (rowF ring k) = textF (ring.getD k ("", 0) :: rowF ring k) := by
      unfold textF
      rw [catL_rows, catL_rows]
      show Str.mk _ = Str.mk _
      congr 1
      simp [mkS, codesR, codes]
    rw [e, check_row _ (fun p hq => (List.mem_cons.mp hq).elim (fun q => q ▸ hmem) (hrow k p))]
    have e2 : stepsOf (ring.getD k ("", 0) :: rowF ring k) = 1 :: stepsOf (rowF ring k) := by
      exact congrArg (· :: stepsOf (rowF ring k)) hstep
    rw [e2, Bool.eq_false_iff]
    intro hc
    have := chk_sum _ _ hc
    rw [List.sum_cons, row_sum ring hk h1] at this
    omega
  · rw [preF, List.map_map]
    apply List.map_congr_left
    intro k hk
    show (if checkF (textF (rowF ring k)) = true then _ else _) = _
    rw [hck k hk, dueF]
    simp

theorem pieceV_mem {k : Int} (h0 : 0 ≤ k) (h1 : k < 20) : pieceV k ∈ allP := by
  have key : ∀ k : Fin 20, pieceV (k.val : Int) ∈ allP := by decide +kernel
  have := key ⟨k.toNat, by omega⟩
  have e : ((k.toNat : Nat) : Int) = k := by omega
  simp only at this
  rwa [e] at this
theorem sum_replicate (n : Nat) (a : Int) : (List.replicate n a).sum = n * a := by
  induction n with
  | zero => simp
  | succ n ih => rw [List.replicate_succ, List.sum_cons, ih, Int.natCast_add, Int.add_mul]; omega
theorem ring_facts (numbers : List Int) (hn : ∀ k ∈ numbers, 0 ≤ k ∧ k < 20) (hl : numbers.length ≤ 9) : (∀ p ∈ ringF numbers, p ∈ allP) ∧ (stepsOf (ringF numbers)).sum = 1 ∧ (ringF numbers).length ≤ 40 := by
  have hab := sum_abs (stepsOf (numbers.map pieceV)) (fun x hx => by
    simp only [stepsOf, List.mem_map] at hx
    obtain ⟨p, ⟨k, hk, rfl⟩, rfl⟩ := hx
    exact pieceV_step k)
  have hlen : (stepsOf (numbers.map pieceV)).length = numbers.length := by simp [stepsOf]
  rw [hlen] at hab
  have hm : ∀ p ∈ numbers.map pieceV, p ∈ allP := fun p hq => by
    obtain ⟨k, hk, rfl⟩ := List.mem_map.mp hq
    exact pieceV_mem (hn k hk).1 (hn k hk).2
  unfold ringF
  split
  · rename_i h
    refine ⟨fun p hq => ?_, ?_, ?_⟩
    · rcases List.mem_append.mp hq with q | q
      · exact hm p q
      · rw [List.eq_of_mem_replicate q]; decide +kernel
    · rw [stepsOf, List.map_append, List.sum_append, List.map_replicate, sum_replicate]
      have : (List.map (fun x : Str × Int => x.2) (numbers.map pieceV)).sum = (stepsOf (numbers.map pieceV)).sum := rfl
      rw [this]
      omega
    · rw [List.length_append, List.length_map, List.length_replicate]; omega
  · rename_i h
    refine ⟨fun p hq => ?_, ?_, ?_⟩
    · rcases List.mem_append.mp hq with q | q
      · exact hm p q
      · rw [List.eq_of_mem_replicate q]; decide +kernel
    · rw [stepsOf, List.map_append, List.sum_append, List.map_replicate, sum_replicate]
      have : (List.map (fun x : Str × Int => x.2) (numbers.map pieceV)).sum = (stepsOf (numbers.map pieceV)).sum := rfl
      rw [this]
      omega
    · rw [List.length_append, List.length_map, List.length_replicate]; omega
theorem allP_len : ∀ p ∈ allP, p.1.length ≤ 6 := by decide +kernel
theorem allP_ok : ∀ p ∈ allP, PyData.strOk p.1 = true := by decide +kernel
end Mine

end
section
namespace Mine
variable {X : Cx}
theorem law_run (bt : Bt X) (tc : TC X) (n : Nat) (script : List Int) (L a : Addr) (cd : Value) (hs : script.length ≤ 63) :
    Ex X (n + 6) (lEnv L a cd) [("script", .list (script.map D.int))] [] (recAt 13).body (fun r => r = .bool true) never := by
  have hn20 : ∀ k ∈ numsF script, 0 ≤ k ∧ k < 20 := fun k hk => by
    rcases List.mem_append.mp hk with q | q
    · obtain ⟨x, _, rfl⟩ := List.mem_map.mp q
      exact ⟨Int.fmod_nonneg_of_pos _ (by decide), Int.fmod_lt_of_pos _ (by decide)⟩
    · have : ∀ k ∈ ([1, 14, 2, 0, 3] : List Int), 0 ≤ k ∧ k < 20 := by decide
      exact this k q
  have hnl : (numsF script).length ≤ 9 := by simp [numsF, List.length_take]; omega
  obtain ⟨h1, h2, h3⟩ := ring_facts (numsF script) hn20 hnl
  exact law_body bt tc n script L a cd hs h3 (fun p hp => allP_len p (h1 p hp)) (fun p hp => allP_ok p (h1 p hp)) (plain_of _ _ h1 h2)
end Mine

end
section
namespace Mine
variable {X : Cx}

theorem Reps.ofInts {W : List Addr} {h : Heap} : ∀ {vs : List Value} {ns : List Int}, IntsAre vs ns → Reps X W h vs (ns.map D.int)
  | _, _, .nil => .nil
  | _, _, .cons _ _ r => .cons (.int _ _) (Reps.ofInts r)
theorem lex_of_well {p : Params} {h : Heap} {l : Addr} {vs : List Value} {xs : List PyData} (w : Well p h (.ref l) (ofPy (.list xs))) (hl : h.IsList l vs.toArray) : LEx h l vs := by
  unfold ofPy at w
  cases w with
  | list e _ =>
    obtain ⟨o, ho, hc, k, hd⟩ := hl
    rw [e] at ho
    cases ho
    simp only [Data.seq.injEq] at hd
    rw [hd.1] at e
    exact ⟨_, e⟩

theorem lawKind (L a : Addr) (cd : Value) : (lEnv L a cd).kindOf "script" = some .local := rfl

/-- the call of the law from without -/
theorem enter_law (bt : Bt X) (tc : TC X) {fa : Addr} {o : Obj} {pm cd doc : Value} (ho : X.h0.get? fa = some o) (hd : o.data = .func (docDef (recAt 13).name (recAt 13).params (recAt 13).body (recAt 13).scope pm cd doc))
    (hcd : X.h0.CodeRec cd (recAt 13).name) {s : Shared} (hs : s.heap = X.h0) {script : List Int} {l : Addr} {vs : List Value} (hl : LEx s.heap l vs) (hi : IntsAre vs script) (hlen : script.length ≤ 63) {A : Around} {n : Nat} (ok : Ok (n + 7) A) :
    codeAny (model X.P X.w) A (.call (.ref fa) ⟨[.ref l], []⟩) (fun r s' => r = .ok (.ret (.bool true)) ∧ Kp [] [] s s') s := by
  have wok : Wok X [] s := ⟨fun b o e => by rw [hs]; exact e, (fun _ h => nomatch h), (fun _ h => nomatch h)⟩
  refine call_cells_ret (binds := [("script", .ref l)]) ok.room (by rw [hs]; exact ho) hd wok.nolimit (by rw [hs]; exact hcd) rfl (fun x hx => ?_) (fun h₁ tk F C => ?_)
  · rw [List.mem_singleton.mp hx]; exact .inl rfl
  generalize hcs : cellsFrom (s.heap.objs.size + 1) (recAt 13).scope.names [] = cs at C
  have hcells : (lEnv s.heap.objs.size fa cd).cells = cs := hcs
  have hN : ∀ b, s.heap.objs.size ≤ b → s.heap.get? b = none := fun b hb => none_of_size hb
  have hF : ∀ b ∈ s.heap.objs.size :: cs.map (·.2), s.heap.objs.size ≤ b := fun b hb => by
    rcases List.mem_cons.mp hb with rfl | hb
    · exact Nat.le_refl _
    · obtain ⟨p, hp, rfl⟩ := List.mem_map.mp hb
      exact Nat.le_of_lt (C.above p.1 p.2 hp)
  have hnd : cs.map (·.1) = (cellsFrom 0 (recAt 13).scope.names []).map (·.1) := by rw [← hcs]; exact cellsFrom_names _ _ _ _ _ rfl
  have hnd' : (cs.map (·.1)).Nodup := by rw [hnd]; decide
  have hex : ∀ b ∈ s.heap.objs.size :: cs.map (·.2), ∃ o, h₁.get? b = some o := fun b hb => by
    rcases List.mem_cons.mp hb with rfl | hb
    · exact let ⟨o, _, _, ho, _⟩ := F.ns; ⟨o, ho⟩
    · obtain ⟨⟨x, c⟩, hp, rfl⟩ := List.mem_map.mp hb
      exact let ⟨o, ho, _⟩ := C.cell x c (lookup_of_mem_nodup hnd' hp); ⟨o, ho⟩
  have sv : Sv X ((lEnv s.heap.objs.size fa cd).cells.map (·.1)) (lEnv s.heap.objs.size fa cd) [("script", .list (script.map D.int))] [] (s.heap.objs.size :: cs.map (·.2)) (s.heap.objs.size :: cs.map (·.2)) { s with heap := h₁, toks := tk } := by
    refine ⟨⟨⟨rfl, rfl, rfl⟩, ⟨fun b o e => F.keep b o (by rw [hs]; exact e), hex, fun b hb => by rw [← hs]; exact hN b (hF b hb)⟩, fun x d e => ?_⟩, ⟨_, F.ns⟩, List.mem_cons_self, List.mem_cons_self, fun b hb => by rw [← hs]; exact hN b (hF b hb), hex, fun b hb => hb, fun x c e => ?_, fun x y c _ e1 e2 => ?_, fun x a o e => (by cases e), List.nodup_nil⟩
    · rw [List.lookup_cons] at e
      split at e
      · rename_i hx
        cases e
        rw [eq_of_beq hx]
        refine ⟨.ref l, .inl ⟨rfl, _, F.ns, ?_⟩, .list ?_ (fun hm => ?_) (Reps.ofInts hi)⟩
        · simp only [bindL]
          rw [if_pos (lawKind _ _ _)]
          simp
        · obtain ⟨k, hk⟩ := hl; exact ⟨k, F.keep _ _ hk⟩
        · obtain ⟨k, hk⟩ := hl
          rw [hN _ (hF _ hm)] at hk; cases hk
      · cases e
    · rw [hcells] at e
      have hm := mem_of_lookup e
      exact ⟨fun _ => List.mem_cons_of_mem _ (List.mem_map.mpr ⟨(x, c), hm, rfl⟩), Nat.ne_of_gt (C.above x c hm), _, C.cell x c e⟩
    · rw [hcells] at e1 e2
      exact name_of_addr C.apart (mem_of_lookup e2) (mem_of_lookup e1)
  refine wpAny_mono ((law_run bt tc n script s.heap.objs.size fa cd hlen).run _ _ _ _ (fun fl s' => fl = .ret (.bool true) ∧ Kp [] [] s s') ok.deeper sv (fun d v s' kd k hrep => ?_) fun ρ' ω' s' kn _ _ => kn.elim) (fun fl s' hq => ?_) (fun _ _ q => q.elim)
  · subst kd
    have hr := hrep [] (fun _ h => nomatch h)
    cases hr
    refine ⟨rfl, ?_⟩
    have k0 : Kp [] [] s { s with heap := h₁, toks := tk } := .of_heap fun b o _ e => F.keep b o e
    exact Kp.drop (k0.any.trans k) (fun b hb => .inr (hN b (hF b hb))) (fun _ hg => nomatch hg)
  · obtain ⟨rfl, k⟩ := hq
    exact ⟨rfl, k⟩
end Mine

end
section
namespace Mine

/-- what the literal heap tells of the class and of the names at the top -/
structure KTell (K : Frag) : Prop where
  cls : nsIn K mainGlobals "TupleComp" = some (some (.ref 66))
  makes : makesIn K 66 = true
  init : ∃ o pm cd, findIn K (.ref 66) (methAt 0).name = some (some (.ref 56)) ∧ typeIn K (.ref 56) = some (.type "function") ∧ K.lookup 56 = some o ∧ o.data = .func (fdM (methAt 0) "TupleComp.__init__" pm cd) ∧ codeIn K cd "TupleComp.__init__" = true
  comp : ∃ o pm cd, findIn K (.ref 66) (methAt 1).name = some (some (.ref 63)) ∧ typeIn K (.ref 63) = some (.type "function") ∧ K.lookup 63 = some o ∧ o.data = .func (fdM (methAt 1) "TupleComp.compare" pm cd) ∧ codeIn K cd "TupleComp.compare" = true
  ga : findIn K (.ref 66) "__getattribute__" = some (some (.builtin "object.__getattribute__"))
  gt : findIn K (.ref 66) "__getattr__" = some none
  sa : findIn K (.ref 66) "__setattr__" = some (some (.builtin "object.__setattr__"))
  po : plainOver K 66 = true
  tk : takerIn K 66 "comp_select_list" = some none
  hd : (clsIn K 66).any (·.hasDict) = true
  fi : findIn K (.ref 66) "comp_select_list" = some none
  free : bnames.map (nsIn K mainGlobals) = bnames.map fun _ => some none

theorem KTell.tc {X : Cx} (k : KTell X.K) (hC : X.CC = 66) : TC X := by
  obtain ⟨P, V, w, loose, mean, mg, mb, K, CC, h0, T, KI⟩ := X
  simp only at k hC
  subst hC
  obtain ⟨o, pm, cd, a1, a2, a3, a4, a5⟩ := k.init
  obtain ⟨o', pm', cd', b1, b2, b3, b4, b5⟩ := k.comp
  exact ⟨mg_of KI T.g k.cls, k.makes, ⟨56, pm, cd, a1, a2, ⟨o, KI _ _ a3, a4⟩, codeRec_of KI a5⟩, ⟨63, pm', cd', b1, b2, ⟨o', KI _ _ b3, b4⟩, codeRec_of KI b5⟩, k.ga, k.gt, k.sa, k.po, k.tk, k.hd, k.fi⟩
theorem KTell.bt {X : Cx} (k : KTell X.K) (hV : recsOf X.V = [1, 2, 3, 4, 7, 8, 10, 11, 12, 13].map recAt) : Bt X :=
  ⟨fun i hi => by rw [hV]; exact List.mem_map_of_mem hi, fun x hx => mg_none_of X.KI X.T.g (List.map_inj_left.mp k.free x hx)⟩

/-- the end of the call: True, and nothing of the caller's has changed -/
theorem law_end {V : Program} {w : World} {loose : List Str} {mean : ExcName → Option Value} {mg mb : Str → Option Value} {K : Frag} {s₁ : Shared} (T : Top V loose mean mg mb s₁.heap) (KI : K.In s₁.heap) (hV : recsOf V = [1, 2, 3, 4, 7, 8, 10, 11, 12, 13].map recAt) (kt : KTell K)
    {fa : Addr} {o : Obj} {pm cd doc : Value} (ho : s₁.heap.get? fa = some o) (hd : o.data = .func (docDef (recAt 13).name (recAt 13).params (recAt 13).body (recAt 13).scope pm cd doc)) (hcd : s₁.heap.CodeRec cd (recAt 13).name)
    {script : List Int} {l : Addr} {vs : List Value} {p : Params} (hw : Well p s₁.heap (.ref l) (ofPy (.list (script.map PyData.int)))) (hl : s₁.heap.IsList l vs.toArray) (hi : IntsAre vs script) (hlen : script.length ≤ 63) (hg : s₁.gens = #[])
    {c : ClaimW} {cl : Str → Option Addr} {mean' : ExcName → Option Value} {args : List WData} (hr : ∀ cls, c.raises args cls = false) (hp : c.post args (.bool true) args = true) :
    codeAny (model pw w) callerA (.call (.ref fa) ⟨[.ref l], []⟩) (GoodWG c cl mean' args s₁) s₁ := by
  let X : Cx := ⟨pw, V, w, loose, mean, mg, mb, K, 66, s₁.heap, T, KI⟩
  have bt : Bt X := KTell.bt (X := X) kt hV
  have tc : TC X := KTell.tc (X := X) kt rfl
  refine codeAny_mono (enter_law (X := X) (n := 0) bt tc ho hd hcd rfl (lex_of_well hw hl) hi hlen ⟨rfl, by decide, by decide⟩) fun r s' g => ?_
  obtain ⟨rfl, k⟩ := g
  exact ⟨.inl ⟨_, .bool true, [], rfl, hr, .bool true, hp, fun _ => ⟨List.nodup_nil, fun _ h => nomatch h⟩⟩, .of_keep k.keep, k.os, k.bare (.of_eq hg)⟩
end Mine

end
set_option maxHeartbeats 8000000 in
theorem PySem.Challenge.cw_pe0096_01_holds : PySem.Challenge.rw_pe0096_01.Holds := by
  w_on
  o_law
  k_head
  (case hw => w_witness2)
  w_strict (
    intro w s₀ s₁ mg mb G Y fa o pm cd doc dV kV ho hd hcd hD hmg hg args vals as hpre hlay hrd hwl hlo
    have KX := kIn_of Y
    refine Ground.open G ?_
    intro T B D TE TW
    wrow_args hpre hlay hrd hwl hlo
    have he := Dflts.none hD rfl
    subst he
    have he := Dflts.noKw hD
    subst he
    refine enter_call ?_
    rename IntsAre _ _ => hI
    rename Heap.IsList _ _ _ => hL
    rename Well _ _ _ _ => hW
    rename ¬ (_ < _) => hle
    exact Mine.law_end T KX rfl ⟨rfl, rfl, ⟨_, _, _, rfl, rfl, rfl, rfl, rfl⟩, ⟨_, _, _, rfl, rfl, rfl, rfl, rfl⟩, rfl, rfl, rfl, rfl, rfl, rfl, rfl, rfl⟩ ho (fd_plain hd) hcd hW hL hI (by omega) hg (fun _ => rfl) (postW_of (by wrow_shape) (by wtm_val) (by first | rfl | (str_meet; first | done | w_fin))))
