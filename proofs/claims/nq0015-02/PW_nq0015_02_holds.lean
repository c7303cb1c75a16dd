import PyProof.Rows.All
import Wide.All
import OpenK.AllK
import Wide.FinOn
import KE.KBytesWalk
import KE.KDictIter
import KE.KLam
import KE.KSortKey
import KE.KSortAsk
import PyProof.ListRange
import PyProof.NeKinds
import PyProof.Rows.CallKwBuiltin
import PyProof.Rows.CallKw2
import PyProof.ZipIter
import PyProof.ForAny
import PyProof.ForAppend
import PyProof.PlainList
import KE.KAnyBase
import PyProof.Rows.SumAny
import Lean
import PySem.Challenge.RW_nq0015_02
set_option Elab.async false
set_option autoImplicit false
set_option linter.all false
set_option maxRecDepth 100000
set_option genInjectivity false
set_option genSizeOf false
namespace Mine
open PySem PySem.W PyProof.Rows PySem.Calls PySem.Spec

/-! frozen facts, data by value -/
noncomputable abbrev Fz := Addr → Obj → Prop
noncomputable def Fz.le (P P' : Fz) : Prop := ∀ a o, P a o → P' a o
theorem Fz.le.refl (P : Fz) : P.le P := fun _ _ h => h
theorem Fz.le.trans {P P' P'' : Fz} (h : P.le P') (h' : P'.le P'') : P.le P'' := fun a o x => h' a o (h a o x)
noncomputable def Fz.add (P : Fz) (a : Addr) (o : Obj) : Fz := fun b p => P b p ∨ (b = a ∧ p = o)
theorem Fz.add_le (P : Fz) (a : Addr) (o : Obj) : P.le (P.add a o) := fun _ _ h => .inl h
theorem Fz.add_at (P : Fz) (a : Addr) (o : Obj) : P.add a o a o := .inr ⟨rfl, rfl⟩
noncomputable def Has (P : Fz) (h : Heap) : Prop := ∀ a o, P a o → h.get? a = some o

inductive D where
  | none
  | bool (b : Bool)
  | int (i : Int)
  | bytes (b : Array UInt8)
  | list (xs : List D)
  | tup (xs : List D)
  | range (a b c : Int)
  | ref (a : Addr)
  | key (c : Addr) (d : D)

mutual
inductive Rep (P : Fz) : Value → D → Prop
  | none : Rep P .none .none
  | bool (b : Bool) : Rep P (.bool b) (.bool b)
  | int (i : Int) (t : Tok) : Rep P (.int i t) (.int i)
  | bytes (b : Array UInt8) (t : Tok) : Rep P (.bytes b t) (.bytes b)
  | list {a : Addr} {n : Nat} {vs : List Value} {xs : List D} : P a (seqObj "list" vs.toArray n) → Reps P vs xs → Rep P (.ref a) (.list xs)
  | tup {a : Addr} {n : Nat} {vs : List Value} {xs : List D} : P a (seqObj "tuple" vs.toArray n) → Reps P vs xs → Rep P (.ref a) (.tup xs)
  | range {a : Addr} {x y z : Int} {t u v : Tok} : P a { cls := .type "range", data := .fields #[.int x t, .int y u, .int z v] } → Rep P (.ref a) (.range x y z)
  | ref (a : Addr) : Rep P (.ref a) (.ref a)
  | key {a c dx : Addr} {v : Value} {d : D} : P a { cls := .ref c, dict := some dx, data := .plain, slots := #[some v] } → P dx { cls := .type "dict", data := .dict #[] } → Rep P v d → Rep P (.ref a) (.key c d)
inductive Reps (P : Fz) : List Value → List D → Prop
  | nil : Reps P [] []
  | cons {v : Value} {d : D} {vs : List Value} {ds : List D} : Rep P v d → Reps P vs ds → Reps P (v :: vs) (d :: ds)
end

mutual
theorem Rep.mono {P P' : Fz} (hl : P.le P') {v : Value} {d : D} : Rep P v d → Rep P' v d
  | .none => .none
  | .bool b => .bool b
  | .int i t => .int i t
  | .bytes b t => .bytes b t
  | .list h1 h2 => .list (hl _ _ h1) (Reps.mono hl h2)
  | .tup h1 h2 => .tup (hl _ _ h1) (Reps.mono hl h2)
  | .range h1 => .range (hl _ _ h1)
  | .ref a => .ref a
  | .key h1 h2 h3 => .key (hl _ _ h1) (hl _ _ h2) (Rep.mono hl h3)
theorem Reps.mono {P P' : Fz} (hl : P.le P') {vs : List Value} {ds : List D} : Reps P vs ds → Reps P' vs ds
  | .nil => .nil
  | .cons h1 h2 => .cons (Rep.mono hl h1) (Reps.mono hl h2)
end

theorem Reps.length {P : Fz} {vs : List Value} {ds : List D} (h : Reps P vs ds) : vs.length = ds.length := by
  induction vs generalizing ds with
  | nil => cases h; rfl
  | cons v vs ih => cases h with | cons _ h2 => simp [ih h2]
theorem Reps.get {P : Fz} {vs : List Value} {ds : List D} (h : Reps P vs ds) {i : Nat} {d : D} (hd : ds[i]? = some d) : ∃ v, vs[i]? = some v ∧ Rep P v d := by
  induction vs generalizing ds i with
  | nil => cases h; simp at hd
  | cons v vs ih =>
    cases h with
    | cons h1 h2 =>
      cases i with
      | zero => simp at hd; subst hd; exact ⟨v, rfl, h1⟩
      | succ i => simp at hd; exact ih h2 hd
theorem Reps.append {P : Fz} {vs vs' : List Value} {ds ds' : List D} (h : Reps P vs ds) (h' : Reps P vs' ds') : Reps P (vs ++ vs') (ds ++ ds') := by
  induction vs generalizing ds with
  | nil => cases h; exact h'
  | cons v vs ih => cases h with | cons h1 h2 => exact .cons h1 (ih h2)
theorem Reps.take {P : Fz} {vs : List Value} {ds : List D} (h : Reps P vs ds) (n : Nat) : Reps P (vs.take n) (ds.take n) := by
  induction vs generalizing ds n with
  | nil => cases h; simp; exact .nil
  | cons v vs ih =>
    cases h with
    | cons h1 h2 =>
      cases n with
      | zero => exact .nil
      | succ n => exact .cons h1 (ih h2 n)
theorem Reps.drop {P : Fz} {vs : List Value} {ds : List D} (h : Reps P vs ds) (n : Nat) : Reps P (vs.drop n) (ds.drop n) := by
  induction vs generalizing ds n with
  | nil => cases h; simp; exact .nil
  | cons v vs ih =>
    cases n with
    | zero => exact h
    | succ n => cases h with | cons h1 h2 => exact ih h2 n

/-! the theory: a program, a world, the code tables that may grow, the top's own objects -/
structure Th where
  prog : Program
  w : World
  T : Addr → Prop
  Tab : Fz → Heap → Prop
  K0 : Fz
  tabMono : ∀ {P P' : Fz} {h h' : Heap}, Tab P h → P.le P' → (∀ t o, T t → h.get? t = some o → h'.get? t = some o) → Tab P' h'
  tabIn : ∀ {P : Fz} {h : Heap} {t : Addr}, Tab P h → T t → ∃ o, h.get? t = some o
  tabF : ∀ {P : Fz} {h : Heap} {t : Addr} {o : Obj}, Tab P h → T t → h.get? t = some o → ∀ v, o.data ≠ .cell v
  mg : Str → Option Value
  mb : Str → Option Value
  tree : prog.given.tree = none
  nolim : ∀ {h : Heap}, Has K0 h → h.NoLimit
  seer : ∀ {h : Heap}, Has K0 h → h.NoSeer
  gns : ∀ {h : Heap}, Has K0 h → h.Ns mainGlobals mg
  bns : ∀ {h : Heap}, Has K0 h → h.Ns builtinsNs mb
noncomputable abbrev Th.M (Θ : Th) : Model := model Θ.prog Θ.w

structure Good (Θ : Th) (P : Fz) (h : Heap) : Prop where
  has : Has P h
  tab : Θ.Tab P h
  top : Θ.K0.le P
  nt : ∀ t o, Θ.T t → ¬ P t o

structure Post (Θ : Th) (s s' : Shared) (P P' : Fz) : Prop where
  gens : s'.gens = s.gens
  drawn : s'.drawn = s.drawn
  os : s'.os = s.os
  good : Good Θ P' s'.heap
  le : P.le P'
  new : ∀ a o, P' a o → P a o ∨ s.heap.get? a = none
  keep : ∀ b o, s.heap.get? b = some o → ¬ Θ.T b → s'.heap.get? b = some o
  pre : ∀ t, Θ.T t → ∃ o, s.heap.get? t = some o

section
variable {Θ : Th} {s s' s'' : Shared} {P P' P'' : Fz}
theorem none_of_size {h : Heap} {a : Addr} (ha : h.objs.size ≤ a) : h.get? a = none := by
  cases e : h.get? a with
  | none => rfl
  | some o => exact absurd (Heap.lt_size e) (Nat.not_lt.mpr ha)
theorem Post.refl (h : Good Θ P s.heap) : Post Θ s s P P := ⟨rfl, rfl, rfl, h, .refl P, fun _ _ h => .inl h, fun _ _ h _ => h, fun _ ht => Θ.tabIn h.tab ht⟩
theorem Post.toks (h : Good Θ P s.heap) (t : Nat) : Post Θ s { s with toks := t } P P := ⟨rfl, rfl, rfl, h, .refl P, fun _ _ h => .inl h, fun _ _ h _ => h, fun _ ht => Θ.tabIn h.tab ht⟩
theorem Post.back (h : Post Θ s s' P P') {a : Addr} (e : s'.heap.get? a = none) : s.heap.get? a = none := by
  cases q : s.heap.get? a with
  | none => rfl
  | some o =>
    by_cases ht : Θ.T a
    · obtain ⟨o', e'⟩ := Θ.tabIn h.good.tab ht
      rw [e'] at e; cases e
    · rw [h.keep a o q ht] at e; cases e
theorem Post.trans (h : Post Θ s s' P P') (h' : Post Θ s' s'' P' P'') : Post Θ s s'' P P'' :=
  ⟨h'.gens.trans h.gens, h'.drawn.trans h.drawn, h'.os.trans h.os, h'.good, h.le.trans h'.le,
   fun a o x => (h'.new a o x).elim (fun y => h.new a o y) fun y => .inr (h.back y),
   fun b o x y => h'.keep b o (h.keep b o x y) y, h.pre⟩
/-- a heap that keeps all -/
theorem Good.keeps {h h' : Heap} (G : Good Θ P h) (hk : ∀ b o, h.get? b = some o → h'.get? b = some o) : Good Θ P h' :=
  ⟨fun a o x => hk _ _ (G.has a o x), Θ.tabMono G.tab (.refl P) fun t o _ e => hk t o e, G.top, G.nt⟩
theorem Good.keepsBut {h h' : Heap} {a : Addr} (G : Good Θ P h) (ha : ∀ o, ¬ P a o) (ht : ¬ Θ.T a) (hk : ∀ b o, b ≠ a → h.get? b = some o → h'.get? b = some o) : Good Θ P h' :=
  ⟨fun b o x => hk _ _ (by rintro rfl; exact ha _ x) (G.has b o x), Θ.tabMono G.tab (.refl P) fun t o hT e => hk t o (by rintro rfl; exact ht hT) e, G.top, G.nt⟩
theorem Good.notIn {h : Heap} (G : Good Θ P h) {a : Addr} (e : h.get? a = none) (o : Obj) : ¬ P a o := fun x => by rw [G.has a o x] at e; cases e
theorem Good.notT {h : Heap} (G : Good Θ P h) {a : Addr} (e : h.get? a = none) : ¬ Θ.T a := fun x => by obtain ⟨o, q⟩ := Θ.tabIn G.tab x; rw [q] at e; cases e
/-- freeze what is there -/
theorem Good.freeze {h : Heap} {a : Addr} {o : Obj} (G : Good Θ P h) (ho : h.get? a = some o) (hnt : ¬ Θ.T a) : Good Θ (P.add a o) h :=
  ⟨fun b p x => x.elim (fun y => G.has b p y) (fun ⟨e1, e2⟩ => by subst e1; subst e2; exact ho), Θ.tabMono G.tab (Fz.add_le _ _ _) fun _ _ _ e => e, G.top.trans (Fz.add_le _ _ _), fun t o' ht x => x.elim (G.nt t o' ht) fun y => hnt (y.1 ▸ ht)⟩
/-- heaps that keep all -/
theorem Post.keeps (G : Good Θ P s.heap) {h' : Heap} {t : Nat} (hk : ∀ b o, s.heap.get? b = some o → h'.get? b = some o) : Post Θ s { s with heap := h', toks := t } P P :=
  ⟨rfl, rfl, rfl, G.keeps hk, .refl P, fun a p x => .inl x, fun b p e _ => hk b p e, fun _ ht => Θ.tabIn G.tab ht⟩
theorem Post.freeze (h : Post Θ s s' P P') {a : Addr} {o : Obj} (ha : s.heap.get? a = none) (ho : s'.heap.get? a = some o) : Post Θ s s' P (P'.add a o) :=
  ⟨h.gens, h.drawn, h.os, h.good.freeze ho (fun ht => by obtain ⟨o', e⟩ := h.pre a ht; rw [ha] at e; cases e), h.le.trans (Fz.add_le _ _ _), fun b p x => x.elim (fun y => h.new b p y) (fun y => .inr (by rw [y.1]; exact ha)), h.keep, h.pre⟩
theorem Post.pushLoose (G : Good Θ P s.heap) {o : Obj} {t : Nat} : Post Θ s { s with heap := s.heap.push o, toks := t } P P :=
  Post.keeps G fun b p e => Heap.get?_push_of_some _ e
theorem Post.push (G : Good Θ P s.heap) {o : Obj} (hf : o.isFreed = false) {t : Nat} : Post Θ s { s with heap := s.heap.push o, toks := t } P (P.add s.heap.objs.size o) :=
  (Post.pushLoose G).freeze (none_of_size (Nat.le_refl _)) (Heap.get?_push_size _ hf)
end

/-! room -/
structure Room0 (n : Nat) (A : Around) : Prop where
  depth : A.depth + 8 * n < 900
  units : A.units + 40 * n < 9000
  handled : A.handled = .none
  known : ∃ l, A.frames = some l
structure EnvTop (env : Env) : Prop where
  gen : env.scope.isGenerator = false
  co : env.scope.isCoroutine = false
  b : env.builtins = builtinsNs
  g : env.globals = mainGlobals
structure Room (n : Nat) (A : Around) : Prop extends Room0 n A where
  frames : ∃ env l, A.frames = some (env :: l) ∧ EnvTop env
theorem Room0.mono {n m : Nat} {A : Around} (h : Room0 n A) (hm : m ≤ n) : Room0 m A := ⟨by have := h.depth; omega, by have := h.units; omega, h.handled, h.known⟩
theorem Room.mono {n m : Nat} {A : Around} (h : Room n A) (hm : m ≤ n) : Room m A := ⟨h.toRoom0.mono hm, h.frames⟩
theorem Room0.deeper {n : Nat} {A : Around} (h : Room0 (n + 1) A) {env : Env} (he : EnvTop env) : Room n (A.deeper env) := by
  obtain ⟨l, hl⟩ := h.known
  have hf : (A.deeper env).frames = some (env :: l) := by show A.frames.map (env :: ·) = _; rw [hl]; rfl
  exact ⟨⟨by have := h.depth; show A.depth + 1 + 8 * n < 900; omega, by have := h.units; show A.units + 3 + 40 * n < 9000; omega, h.handled, _, hf⟩, env, l, hf, he⟩
theorem Room.in1 {n : Nat} {A : Around} (h : Room (n + 1) A) : Room n A.in1 := ⟨⟨by have := h.depth; show A.depth + 8 * n < 900; omega, by have := h.units; show A.units + 1 + 40 * n < 9000; omega, h.handled, h.known⟩, h.frames⟩
theorem Room0.limit {n : Nat} {A : Around} (h : Room0 n A) : A.depth < recursionLimit := by have := h.depth; show A.depth < 1000; omega
theorem Room0.line {n : Nat} {A : Around} (h : Room0 n A) : A.units < cLine := by have := h.units; show A.units < 9900; omega

/-! names -/
noncomputable abbrev Store := List (Str × D)
inductive Look (env : Env) (m : Str → Option Value) (h : Heap) (x : Str) (v : Value) : Prop
  | loc : env.kindOf x = some .local → m x = some v → Look env m h x v
  | cell (c : Addr) : env.kindOf x = some .cell → env.cells.lookup x = some c → h.IsCell c (some v) → Look env m h x v
  | free (c : Addr) : env.kindOf x = some .free → env.cells.lookup x = some c → h.IsCell c (some v) → (x == ("__classdict__" : Str)) = false → Look env m h x v

structure StE (Θ : Th) (env : Env) (σ : Store) (P : Fz) (h : Heap) : Prop where
  good : Good Θ P h
  fn : env.scope.kind = .function
  ns : ∃ m, h.Ns env.locals m ∧ ∀ x d, σ.lookup x = some d → ∃ v, Rep P v d ∧ Look env m h x v
  ntab : ¬ Θ.T env.locals

section
variable {Θ : Th} {env : Env} {σ : Store} {s s' : Shared} {P P' : Fz}
theorem cell_notT {h : Heap} (G : Good Θ P h) {c : Addr} {v : Option Value} (hc : h.IsCell c v) : ¬ Θ.T c := fun ht => by
  obtain ⟨o, ho, hd⟩ := hc
  exact Θ.tabF G.tab ht ho _ hd
theorem Look.keeps {m : Str → Option Value} {h h' : Heap} {x : Str} {v : Value} (L : Look env m h x v) (hk : ∀ c v, h.IsCell c v → h'.IsCell c v) : Look env m h' x v := by
  cases L with
  | loc h1 h2 => exact .loc h1 h2
  | cell c h1 h2 h3 => exact .cell c h1 h2 (hk _ _ h3)
  | free c h1 h2 h3 h4 => exact .free c h1 h2 (hk _ _ h3) h4
theorem StE.post (S : StE Θ env σ P s.heap) (h : Post Θ s s' P P') : StE Θ env σ P' s'.heap := by
  obtain ⟨m, hn, hl⟩ := S.ns
  refine ⟨h.good, S.fn, ⟨m, ?_, fun x d hx => ?_⟩, S.ntab⟩
  · obtain ⟨o, es, ep, ho, r⟩ := hn
    exact ⟨o, es, ep, h.keep _ _ ho S.ntab, r⟩
  · obtain ⟨v, hr, hv⟩ := hl x d hx
    refine ⟨v, hr.mono h.le, hv.keeps fun c v hc => ?_⟩
    obtain ⟨o, ho, hd⟩ := hc
    exact ⟨o, h.keep _ _ ho (cell_notT S.good ⟨o, ho, hd⟩), hd⟩
end

/-! judgements -/
noncomputable def CallOk (Θ : Th) (n : Nat) (P₀ : Fz) (f : Value) (ds : List D) (d : D) : Prop :=
  ∀ (A : Around) (s : Shared) (P : Fz) (vs : List Value) (Q E : Value → Shared → Prop), Room n A → P₀.le P → Good Θ P s.heap → Reps P vs ds →
    (∀ v s' P', Post Θ s s' P P' → Rep P' v d → Q v s') → wpAny Θ.M A (call f vs) Q E s
theorem CallOk.mono {Θ : Th} {n m : Nat} {P₀ P₁ : Fz} {f : Value} {ds : List D} {d : D} (h : CallOk Θ n P₀ f ds d) (hm : n ≤ m) (hl : P₀.le P₁) : CallOk Θ m P₁ f ds d :=
  fun A s P vs Q E R l G r k => h A s P vs Q E (R.mono hm) (hl.trans l) G r k

noncomputable def EvS (Θ : Th) (n : Nat) (P₀ : Fz) (env : Env) (σ : Store) (e : Expr) (d : D) : Prop :=
  ∀ (A : Around) (s : Shared) (P : Fz) (Q E : Value → Shared → Prop), Room n A → P₀.le P → StE Θ env σ P s.heap →
    (∀ v s' P', Post Θ s s' P P' → Rep P' v d → Q v s') → wpAny Θ.M A (eval e env) Q E s
/-- a test -/
noncomputable def EvT (Θ : Th) (n : Nat) (P₀ : Fz) (env : Env) (σ : Store) (e : Expr) (b : Bool) : Prop :=
  ∀ (A : Around) (s : Shared) (P : Fz) (Q : Bool → Shared → Prop) (E : Value → Shared → Prop), Room n A → P₀.le P → StE Θ env σ P s.heap →
    (∀ s' P', Post Θ s s' P P' → Q b s') → wpAny Θ.M A (isTrue e env (eval e env)) Q E s

/-! frames of statements -/
structure StX (Θ : Th) (env : Env) (σ : Store) (fz : List Str) (P : Fz) (h : Heap) : Prop extends StE Θ env σ P h where
  own : ∀ o, ¬ P env.locals o
  apart : env.cells.Pairwise fun x y => x.2 ≠ y.2
  cells : ∀ x c, env.cells.lookup x = some c → (∃ v, h.IsCell c v) ∧ (x ∉ fz → ∀ o, ¬ P c o)

structure PostX (Θ : Th) (env : Env) (s s' : Shared) (P P' : Fz) : Prop where
  gens : s'.gens = s.gens
  drawn : s'.drawn = s.drawn
  os : s'.os = s.os
  le : P.le P'
  tab : ∀ t, Θ.T t → ∃ o, s'.heap.get? t = some o
  new : ∀ a o, P' a o → P a o ∨ s.heap.get? a = none ∨ ∃ x, env.cells.lookup x = some a
  keep : ∀ b o, s.heap.get? b = some o → ¬ Θ.T b → b ≠ env.locals → (∀ x, env.cells.lookup x ≠ some b) → s'.heap.get? b = some o
  own : ∀ b, b = env.locals ∨ (∃ x, env.cells.lookup x = some b) → s'.heap.get? b = none → s.heap.get? b = none

inductive Out where
  | next (σ : Store) (fz : List Str)
  | ret (d : D)

noncomputable def Out.Meets (Θ : Th) (env : Env) (Q : Flow → Shared → Prop) (s' : Shared) (P' : Fz) : Out → Prop
  | .next σ' fz' => StX Θ env σ' fz' P' s'.heap → Q .next s'
  | .ret d => ∀ v, Good Θ P' s'.heap → Rep P' v d → Q (.ret v) s'

noncomputable def ExS (Θ : Th) (n : Nat) (P₀ : Fz) (env : Env) (σ : Store) (fz : List Str) (st : Stmt) (out : Out) : Prop :=
  ∀ (A : Around) (s : Shared) (P : Fz) (Q : Flow → Shared → Prop) (E : Value → Shared → Prop), Room n A → P₀.le P → StX Θ env σ fz P s.heap →
    (∀ s' P', PostX Θ env s s' P P' → out.Meets Θ env Q s' P') → wpAny Θ.M A (exec st env) Q E s
noncomputable def ExsS (Θ : Th) (n : Nat) (P₀ : Fz) (env : Env) (σ : Store) (fz : List Str) (st : List Stmt) (out : Out) : Prop :=
  ∀ (A : Around) (s : Shared) (P : Fz) (Q : Flow → Shared → Prop) (E : Value → Shared → Prop), Room n A → P₀.le P → StX Θ env σ fz P s.heap →
    (∀ s' P', PostX Θ env s s' P P' → out.Meets Θ env Q s' P') → wpAny Θ.M A (execs st env) Q E s

section
variable {Θ : Th} {env : Env} {σ : Store} {fz : List Str} {s s' s'' : Shared} {P P' P'' : Fz}
theorem PostX.back (h : PostX Θ env s s' P P') {a : Addr} (e : s'.heap.get? a = none) : s.heap.get? a = none := by
  by_cases ho : a = env.locals ∨ ∃ x, env.cells.lookup x = some a
  · exact h.own a ho e
  · cases q : s.heap.get? a with
    | none => rfl
    | some o =>
      by_cases ht : Θ.T a
      · obtain ⟨o', e'⟩ := h.tab a ht
        rw [e'] at e; cases e
      · rw [h.keep a o q ht (fun z => ho (.inl z)) (fun x z => ho (.inr ⟨x, z⟩))] at e; cases e
theorem PostX.refl (G : Good Θ P s.heap) : PostX Θ env s s P P := ⟨rfl, rfl, rfl, .refl P, fun t ht => Θ.tabIn G.tab ht, fun _ _ h => .inl h, fun _ _ h _ _ _ => h, fun _ _ e => e⟩
theorem PostX.trans (h : PostX Θ env s s' P P') (h' : PostX Θ env s' s'' P' P'') : PostX Θ env s s'' P P'' :=
  ⟨h'.gens.trans h.gens, h'.drawn.trans h.drawn, h'.os.trans h.os, h.le.trans h'.le, h'.tab,
   fun a o x => (h'.new a o x).elim (fun y => h.new a o y) fun y => .inr (y.imp (fun z => h.back z) id),
   fun b o x y z u => h'.keep b o (h.keep b o x y z u) y z u, fun b ho e => h.own b ho (h'.own b ho e)⟩
theorem Post.toX (h : Post Θ s s' P P') : PostX Θ env s s' P P' :=
  ⟨h.gens, h.drawn, h.os, h.le, fun t ht => Θ.tabIn h.good.tab ht, fun a o x => (h.new a o x).imp id .inl, fun b o x y _ _ => h.keep b o x y, fun b _ e => h.back e⟩
theorem StX.post (S : StX Θ env σ fz P s.heap) (h : Post Θ s s' P P') : StX Θ env σ fz P' s'.heap := by
  obtain ⟨m, hn, _⟩ := S.ns
  refine ⟨S.toStE.post h, fun o x => ?_, S.apart, fun x c hc => ⟨?_, fun hx o y => ?_⟩⟩
  · rcases h.new _ _ x with y | y
    · exact S.own o y
    · obtain ⟨oL, _, _, e, _⟩ := hn
      rw [e] at y; cases y
  · obtain ⟨v, o, ho, hd⟩ := (S.cells x c hc).1
    exact ⟨v, o, h.keep _ _ ho (cell_notT S.good ⟨o, ho, hd⟩), hd⟩
  · obtain ⟨⟨v, o', ho', _⟩, hn⟩ := S.cells x c hc
    rcases h.new _ _ y with z | z
    · exact hn hx o z
    · rw [ho'] at z; cases z
end
end Mine
namespace Mine
open PySem PySem.W PyProof.Rows PySem.Calls PySem.Spec

section
variable {Θ : Th} {n : Nat} {P₀ : Fz} {env : Env} {σ : Store}

theorem EvS.to {e : Expr} {d d' : D} (h : EvS Θ n P₀ env σ e d) (e' : d = d') : EvS Θ n P₀ env σ e d' := e' ▸ h

/-! constants, names -/
theorem EvS.int {i : Int} {k : Nat} {pos : Pos} : EvS Θ n P₀ env σ (.Constant (.int i) k pos) (.int i) :=
  fun A s P Q E R l S h => wpAny_Constant_int (h _ _ P (Post.toks S.good _) (.int _ _))
theorem EvS.bytes {b : List UInt8} {k : Nat} {pos : Pos} : EvS Θ n P₀ env σ (.Constant (.bytes b) k pos) (.bytes b.toArray) :=
  fun A s P Q E R l S h => Constant_bytes (h _ _ P (Post.toks S.good _) (.bytes _ _))
theorem EvS.bool {b : Bool} {k : Nat} {pos : Pos} : EvS Θ n P₀ env σ (.Constant (.bool b) k pos) (.bool b) :=
  fun A s P Q E R l S h => wpAny_pure (h _ _ P (Post.refl S.good) (.bool _))
theorem EvS.name {x : Str} {pos : Pos} {d : D} (hx : σ.lookup x = some d) (hd : (x == ("__debug__" : Str)) = false := by decide) : EvS Θ n P₀ env σ (.Name x pos) d :=
  fun A s P Q E R l S h => by
    obtain ⟨m, hn, hl⟩ := S.ns
    obtain ⟨v, hr, hv⟩ := hl x d hx
    have fin := h v s P (Post.refl S.good) hr
    cases hv with
    | loc h1 h2 => exact wpAny_Name (wpAny_loadName_local S.fn h1 hn h2 fin) hd
    | cell c h1 h2 h3 => exact wpAny_Name (wpAny_loadName_cell S.fn h1 h2 h3 fin) hd
    | free c h1 h2 h3 h4 => exact wpAny_Name (wpAny_loadName_free S.fn h1 h2 h3 fin h4) hd
/-- the value of a name of the top or of the interpreter -/
noncomputable def FnS (Θ : Th) (env : Env) (σ : Store) (e : Expr) (f : Value) : Prop :=
  ∀ (A : Around) (s : Shared) (P : Fz) (Q E : Value → Shared → Prop), StE Θ env σ P s.heap → Q f s → wpAny Θ.M A (eval e env) Q E s
theorem Good.k0 {P : Fz} {h : Heap} (G : Good Θ P h) : Has Θ.K0 h := fun a o x => G.has a o (G.top a o x)
theorem FnS.global {x : Str} {pos : Pos} {v : Value} (hv : Θ.mg x = some v) (hk : env.kindOf x = some .globalImplicit := by rfl) (hg : env.globals = mainGlobals := by rfl) (hd : (x == ("__debug__" : Str)) = false := by decide) : FnS Θ env σ (.Name x pos) v :=
  fun A s P Q E S h => Name_function_global S.fn hk (loadGlobal_global (hg ▸ Θ.gns S.good.k0) hv h) hd
theorem FnS.builtin {x : Str} {pos : Pos} {v : Value} (hn : Θ.mg x = Option.none) (hv : Θ.mb x = some v) (hk : env.kindOf x = some .globalImplicit := by rfl) (hg : env.globals = mainGlobals := by rfl) (hb : env.builtins = builtinsNs := by rfl) (hd : (x == ("__debug__" : Str)) = false := by decide) : FnS Θ env σ (.Name x pos) v :=
  fun A s P Q E S h => Name_function_global S.fn hk (loadGlobal_builtin (hg ▸ Θ.gns S.good.k0) hn (hb ▸ Θ.bns S.good.k0) hv h) hd
theorem EvS.fn {e : Expr} {a : Addr} (h : FnS Θ env σ e (.ref a)) : EvS Θ n P₀ env σ e (.ref a) := fun A s P Q E R l S k => h A s P Q E S (k _ _ P (Post.refl S.good) (.ref a))

/-! operators -/
noncomputable def OpOk (Θ : Th) (n : Nat) (P₀ : Fz) (t : Value → Value → Sem Value) (a b d : D) : Prop :=
  ∀ (A : Around) (s : Shared) (P : Fz) (va vb : Value) (Q E : Value → Shared → Prop), Room n A → P₀.le P → Good Θ P s.heap → Rep P va a → Rep P vb b →
    (∀ v s' P', Post Θ s s' P P' → Rep P' v d → Q v s') → wpAny Θ.M A (t va vb) Q E s
theorem EvS.two {l r : Expr} {a b : D} {A : Around} {s : Shared} {P : Fz} {Q : Value → Value → Shared → Prop} {E : Value → Shared → Prop} (hl : EvS Θ n P₀ env σ l a) (hr : EvS Θ n P₀ env σ r b) (R : Room n A) (l0 : P₀.le P) (S : StE Θ env σ P s.heap)
    (h : ∀ va vb s' P', Post Θ s s' P P' → Rep P' va a → Rep P' vb b → Q va vb s') : wpAny Θ.M A (eval l env) (fun va s₁ => wpAny Θ.M A (eval r env) (fun vb s₂ => Q va vb s₂) E s₁) E s :=
  hl A s P _ _ R l0 S fun va s₁ P₁ p₁ r₁ => hr A s₁ P₁ _ _ R (l0.trans p₁.le) (S.post p₁) fun vb s₂ P₂ p₂ r₂ => h va vb s₂ P₂ (p₁.trans p₂) (r₁.mono p₂.le) r₂
theorem EvS.bin {l r : Expr} {op : Operator} {pos : Pos} {a b d : D} (hl : EvS Θ n P₀ env σ l a) (hr : EvS Θ n P₀ env σ r b) (ho : OpOk Θ n P₀ (binaryOp op) a b d) : EvS Θ n P₀ env σ (.BinOp l op r pos) d :=
  fun A s P Q E R l0 S h => wpAny_BinOp (EvS.two hl hr R l0 S fun va vb s' P' p ra rb => ho A s' P' va vb Q E R (l0.trans p.le) p.good ra rb fun v s'' P'' p' r' => h v s'' P'' (p.trans p') r')
theorem EvS.cmp {l r : Expr} {op : CmpOp} {pos : Pos} {a b d : D} (hl : EvS Θ n P₀ env σ l a) (hr : EvS Θ n P₀ env σ r b) (ho : OpOk Θ n P₀ (compareOp op) a b d) (hm : behindInMarks op r = false := by with_unfolding_all rfl) : EvS Θ n P₀ env σ (.Compare l [op] [r] pos) d :=
  fun A s P Q E R l0 S h => wpAny_Compare1 (EvS.two hl hr R l0 S fun va vb s' P' p ra rb => ho A s' P' va vb Q E R (l0.trans p.le) p.good ra rb fun v s'' P'' p' r' => h v s'' P'' (p.trans p') r') hm
theorem EvT.cmp {l r : Expr} {op : CmpOp} {pos : Pos} {a b : D} {c : Bool} (hl : EvS Θ n P₀ env σ l a) (hr : EvS Θ n P₀ env σ r b) (ho : OpOk Θ n P₀ (compareOp op) a b (.bool c)) (hm : behindInMarks op r = false := by with_unfolding_all rfl) : EvT Θ n P₀ env σ (.Compare l [op] [r] pos) c :=
  fun A s P Q E R l0 S h => wpAny_isTrue_Compare1 (EvS.two hl hr R l0 S fun va vb s' P' p ra rb => ho A s' P' va vb _ E R (l0.trans p.le) p.good ra rb fun v s'' P'' p' r' => by
    cases r' with | bool => exact wpAny_truthy_bool (h s'' P'' (p.trans p'))) hm
theorem EvT.to {e : Expr} {b b' : Bool} (h : EvT Θ n P₀ env σ e b) (e' : b = b') : EvT Θ n P₀ env σ e b' := e' ▸ h

theorem OpOk.add_int {a b : Int} : OpOk Θ n P₀ (binaryOp .Add) (.int a) (.int b) (.int (a + b)) := fun A s P va vb Q E R l G ra rb h => by
  cases ra; cases rb; exact PyProof.Rows.add_int (h _ _ P (Post.toks G _) (.int _ _))
theorem OpOk.sub_int {a b : Int} : OpOk Θ n P₀ (binaryOp .Sub) (.int a) (.int b) (.int (a - b)) := fun A s P va vb Q E R l G ra rb h => by
  cases ra; cases rb; exact PyProof.Rows.sub_int (h _ _ P (Post.toks G _) (.int _ _))
theorem OpOk.mod_int {a b : Int} (hb : b ≠ 0) : OpOk Θ n P₀ (binaryOp .Mod) (.int a) (.int b) (.int (a.fmod b)) := fun A s P va vb Q E R l G ra rb h => by
  cases ra; cases rb; exact PyProof.Rows.mod_int' hb (h _ _ P (Post.toks G _) (.int _ _))
theorem pyroom {A : Around} {s : Shared} {P : Fz} (R : Room n A) (G : Good Θ P s.heap) : PySem.PylongRoom (model Θ.prog Θ.w) A s := by
  obtain ⟨env, l, hf, he⟩ := R.frames
  exact PySem.PylongRoom.of (Θ.nolim G.k0) (by have := R.depth; show A.depth + 100 < 1000; omega) (PySem.SeerAt.of (Θ.seer G.k0) Θ.tree hf he.gen he.co he.b he.g)
theorem OpOk.div_int {a b : Int} (hb : b ≠ 0) : OpOk Θ n P₀ (binaryOp .FloorDiv) (.int a) (.int b) (.int (a.fdiv b)) := fun A s P va vb Q E R l G ra rb h => by
  cases ra; cases rb; exact floordiv_int hb (h _ _ P (Post.toks G _) (.int _ _)) (.inr (pyroom R G))
theorem OpOk.or_int {a b : Int} : OpOk Θ n P₀ (binaryOp .BitOr) (.int a) (.int b) (.int (Builtin.bitOr a b)) := fun A s P va vb Q E R l G ra rb h => by
  cases ra; cases rb; exact PyProof.Rows.or_int (h _ _ P (Post.toks G _) (.int _ _))
theorem OpOk.shl_int {a b : Int} (hn : 0 ≤ b) (hsz : (Builtin.Int.intBits a : Int) + b ≤ 2 ^ 27) : OpOk Θ n P₀ (binaryOp .LShift) (.int a) (.int b) (.int (a * 2 ^ b.toNat)) := fun A s P va vb Q E R l G ra rb h => by
  cases ra; cases rb; exact lshift_int hn hsz (h _ _ P (Post.toks G _) (.int _ _))
theorem OpOk.add_bytes {a b : Array UInt8} (hs : a.size + b.size ≤ 16777216) : OpOk Θ n P₀ (binaryOp .Add) (.bytes a) (.bytes b) (.bytes (a ++ b)) := fun A s P va vb Q E R l G ra rb h => by
  cases ra; cases rb; exact PySem.W.KBy.add_bytes hs fun t' k => h _ _ P (Post.toks G _) (.bytes _ _)
theorem OpOk.add_list {a b : List D} (hs : a.length + b.length ≤ 16777216) : OpOk Θ n P₀ (binaryOp .Add) (.list a) (.list b) (.list (a ++ b)) := fun A s P va vb Q E R l G ra rb h => by
  cases ra with
  | list p1 r1 => cases rb with
    | list p2 r2 =>
      refine PySem.P.add_list (G.has _ _ p1) (G.has _ _ p2) ?_ ?_
      · refine h _ _ _ (Post.push (t := s.toks) G rfl) (.list (n := 0) ?_ ((r1.append r2).mono (Fz.add_le _ _ _)))
        rw [List.append_toArray]
        exact Fz.add_at _ _ _
      · rw [List.size_toArray, List.size_toArray, r1.length, r2.length, sizeLine_eq]; exact hs
theorem OpOk.lt_int {a b : Int} : OpOk Θ n P₀ (compareOp .Lt) (.int a) (.int b) (.bool (decide (a < b))) := fun A s P va vb Q E R l G ra rb h => by
  cases ra; cases rb; exact PyProof.Rows.lt_int (h _ _ P (Post.refl G) (.bool _))
theorem OpOk.gt_int {a b : Int} : OpOk Θ n P₀ (compareOp .Gt) (.int a) (.int b) (.bool (decide (b < a))) := fun A s P va vb Q E R l G ra rb h => by
  cases ra; cases rb; exact PyProof.Rows.gt_int (h _ _ P (Post.refl G) (.bool _))
theorem OpOk.eq_int {a b : Int} : OpOk Θ n P₀ (compareOp .Eq) (.int a) (.int b) (.bool (a == b)) := fun A s P va vb Q E R l G ra rb h => by
  cases ra; cases rb; exact PyProof.Rows.eq_int (h _ _ P (Post.refl G) (.bool _))
theorem OpOk.ne_int {a b : Int} : OpOk Θ n P₀ (compareOp .NotEq) (.int a) (.int b) (.bool (a != b)) := fun A s P va vb Q E R l G ra rb h => by
  cases ra; cases rb; exact PyProof.Rows.ne_int (h _ _ P (Post.refl G) (.bool _))
/-! tests -/
noncomputable def TruthOk (Θ : Th) (n : Nat) (a : D) (b : Bool) : Prop :=
  ∀ (A : Around) (s : Shared) (P : Fz) (va : Value) (Q : Bool → Shared → Prop) (E : Value → Shared → Prop), Room n A → Good Θ P s.heap → Rep P va a → (∀ s' P', Post Θ s s' P P' → Q b s') → wpAny Θ.M A (truthy va) Q E s
theorem TruthOk.int {i : Int} : TruthOk Θ n (.int i) (i != 0) := fun A s P va Q E R G r h => by
  cases r
  exact PyProof.Rows.truthy_int (h _ P (Post.refl G))
theorem EvT.value {e : Expr} {a : D} {b : Bool} (he : EvS Θ n P₀ env σ e a) (ht : TruthOk Θ n a b) (hp : isTrue e env (eval e env) = (do let v ← eval e env; standAt e.pos; holding [v] (truthy v)) := by rfl) : EvT Θ n P₀ env σ e b :=
  fun A s P Q E R l S h => isTrue_plain (he A s P _ _ R l S fun v s₁ P₁ p r => ht A s₁ P₁ v Q E R p.good r fun s₂ P₂ p₂ => h s₂ P₂ (p.trans p₂)) hp
noncomputable def EvTs (Θ : Th) (n : Nat) (P₀ : Fz) (env : Env) (σ : Store) (op : BoolOp) (es : List Expr) (b : Bool) : Prop :=
  ∀ (A : Around) (s : Shared) (P : Fz) (Q : Bool → Shared → Prop) (E : Value → Shared → Prop), Room n A → P₀.le P → StE Θ env σ P s.heap →
    (∀ s' P', Post Θ s s' P P' → Q b s') → wpAny Θ.M A (allTrue op es env) Q E s
theorem EvTs.or_nil : EvTs Θ n P₀ env σ .Or [] false := fun A s P Q E R l S h => wpAny_pure (h s P (Post.refl S.good))
theorem EvTs.or_cons {e : Expr} {es : List Expr} {b c : Bool} (h1 : EvT Θ n P₀ env σ e b) (h2 : b = false → EvTs Θ n P₀ env σ .Or es c) : EvTs Θ n P₀ env σ .Or (e :: es) (b || c) := fun A s P Q E R l S h => by
  show wpAny Θ.M A (do
    match BoolOp.Or, ← isTrue e env (eval e env) with
    | .And, false => pure false
    | .Or, true => pure true
    | _, _ => allTrue .Or es env) Q E s
  refine wpAny_bind (h1 A s P _ _ R l S fun s₁ P₁ p => ?_)
  cases b with
  | true => exact wpAny_pure (h s₁ P₁ p)
  | false => exact h2 rfl A s₁ P₁ Q E R (l.trans p.le) (S.post p) fun s₂ P₂ p₂ => h s₂ P₂ (p.trans p₂)
theorem EvT.boolop {op : BoolOp} {es : List Expr} {pos : Pos} {b : Bool} (h : EvTs Θ n P₀ env σ op es b) : EvT Θ n P₀ env σ (.BoolOp op es pos) b := fun A s P Q E R l S k => wpAny_isTrue_BoolOp (h A s P Q E R l S k)
theorem EvS.and2 {x y : Expr} {pos : Pos} {a : Bool} {d : D} (hx : EvS Θ n P₀ env σ x (.bool a)) (hy : a = true → EvS Θ n P₀ env σ y d) (hf : a = false → d = .bool false) : EvS Θ n P₀ env σ (.BoolOp .And [x, y] pos) d :=
  fun A s P Q E R l S h => wpAny_And2 (hx A s P _ _ R l S fun v s₁ P₁ p r => by
    cases r
    refine wpAny_truthy_bool ?_
    cases a with
    | true => exact hy rfl A s₁ P₁ _ _ R (l.trans p.le) (S.post p) fun v s₂ P₂ p₂ r => h v s₂ P₂ (p.trans p₂) r
    | false => exact h _ s₁ P₁ p (by rw [hf rfl]; exact .bool _))

/-! arguments, calls -/
noncomputable def EvSs (Θ : Th) (n : Nat) (P₀ : Fz) (env : Env) (σ : Store) (es : List Expr) (ds : List D) : Prop :=
  ∀ (A : Around) (s : Shared) (P : Fz) (pos : Pos) (Q : List Value → Shared → Prop) (E : Value → Shared → Prop), Room n A → P₀.le P → StE Θ env σ P s.heap →
    (∀ vs s' P', Post Θ s s' P P' → Reps P' vs ds → Q vs s') → wpAny Θ.M A (spliced (backTo pos (starEach es env))) Q E s
theorem EvSs.nil : EvSs Θ n P₀ env σ [] [] := fun A s P pos Q E R l S h => args_nil (h [] s P (Post.refl S.good) .nil)
theorem EvSs.cons {e : Expr} {es : List Expr} {d : D} {ds : List D} (h1 : EvS Θ n P₀ env σ e d) (h2 : EvSs Θ n P₀ env σ es ds) (he : starEach (e :: es) env = (false, eval e env) :: starEach es env := by rfl) : EvSs Θ n P₀ env σ (e :: es) (d :: ds) :=
  fun A s P pos Q E R l S h => args_cons (h1 A s P _ _ R l S fun v s₁ P₁ p r => h2 A s₁ P₁ pos _ _ R (l.trans p.le) (S.post p) fun vs s₂ P₂ p₂ rs => h (v :: vs) s₂ P₂ (p.trans p₂) (.cons (r.mono p₂.le) rs)) he
/-- a def's or a lambda's object -/
noncomputable def FunAt (P : Fz) (a : Addr) : Prop := ∃ o fd, P a o ∧ o.data = .func fd
theorem EvS.call {f : Str} {px : Pos} {e : Expr} {es : List Expr} {pos : Pos} {a : Addr} {ds : List D} {d : D} (hf : EvS Θ n P₀ env σ (.Name f px) (.ref a)) (hfn : FunAt P₀ a) (hs : EvSs Θ n P₀ env σ (e :: es) ds) (hc : CallOk Θ n P₀ (.ref a) ds d)
    (he : starEach (e :: es) env = (false, eval e env) :: starEach es env := by rfl) : EvS Θ n P₀ env σ (.Call (.Name f px) (e :: es) [] pos) d :=
  fun A s P Q E R l S h => Call_ (hf A s P _ _ R l S fun v s₁ P₁ p r => by
    cases r
    obtain ⟨o, fd, ho, hd⟩ := hfn
    refine callWith_def hd (hs A s₁ P₁ pos _ _ R (l.trans p.le) (S.post p) fun vs s₂ P₂ p₂ rs => ⟨p₂.good.has _ _ (p₂.le _ _ (p.le _ _ (l _ _ ho))), ?_⟩) he
    exact hc A s₂ P₂ vs Q E R ((l.trans p.le).trans p₂.le) p₂.good rs fun v s₃ P₃ p₃ r₃ => h v s₃ P₃ ((p.trans p₂).trans p₃) r₃)
theorem EvS.callB {f : Str} {px : Pos} {e : Expr} {es : List Expr} {pos : Pos} {id : String} {ds : List D} {d : D} (hf : FnS Θ env σ (.Name f px) (.builtin id)) (hs : EvSs Θ n P₀ env σ (e :: es) ds) (hc : CallOk Θ n P₀ (.builtin id) ds d)
    (he : starEach (e :: es) env = (false, eval e env) :: starEach es env := by rfl) (hplain : (backTo pos (starEach es env)).any (·.1) = false := by rfl) : EvS Θ n P₀ env σ (.Call (.Name f px) (e :: es) [] pos) d :=
  fun A s P Q E R l S h => Call_ (hf A s P _ _ S (callWith_builtin1 (hs A s P pos _ _ R l S fun vs s₂ P₂ p₂ rs =>
    hc A s₂ P₂ vs Q E R (l.trans p₂.le) p₂.good rs fun v s₃ P₃ p₃ r₃ => h v s₃ P₃ (p₂.trans p₃) r₃) he hplain))
theorem EvS.callT {f : Str} {px : Pos} {e : Expr} {es : List Expr} {pos : Pos} {T : String} {ds : List D} {d : D} (hf : FnS Θ env σ (.Name f px) (.type T)) (hs : EvSs Θ n P₀ env σ (e :: es) ds) (hc : CallOk Θ n P₀ (.type T) ds d)
    (he : starEach (e :: es) env = (false, eval e env) :: starEach es env := by rfl) (hplain : (backTo pos (starEach es env)).any (·.1) = false := by rfl) : EvS Θ n P₀ env σ (.Call (.Name f px) (e :: es) [] pos) d :=
  fun A s P Q E R l S h => Call_ (hf A s P _ _ S (PyProof.Rows.callWith_type1 (hs A s P pos _ _ R l S fun vs s₂ P₂ p₂ rs =>
    hc A s₂ P₂ vs Q E R (l.trans p₂.le) p₂.good rs fun v s₃ P₃ p₃ r₃ => h v s₃ P₃ (p₂.trans p₃) r₃) he hplain))
end
end Mine
namespace Mine
open PySem PySem.W PyProof.Rows PySem.Calls PySem.Spec

section
variable {Θ : Th} {n : Nat} {P₀ : Fz} {env : Env} {σ : Store} {fz : List Str}

theorem ne_of_data {h : Heap} {a b : Addr} {oa ob : Obj} (ha : h.get? a = some oa) (hb : h.get? b = some ob) (hne : oa.data ≠ ob.data) : a ≠ b := by
  rintro rfl
  rw [ha] at hb
  cases hb
  exact hne rfl
theorem cell_ne_ns {h : Heap} {c L : Addr} {v : Option Value} {m : Str → Option Value} (hc : h.IsCell c v) (hn : h.Ns L m) : c ≠ L := by
  obtain ⟨o, ho, hd⟩ := hc
  obtain ⟨o', es, ep, ho', hd', _⟩ := hn
  exact ne_of_data ho ho' (by rw [hd, hd']; intro e; cases e)

theorem lookup_cons_ne {x y : Str} {d d' : D} {σ : Store} (h : ((x, d) :: σ).lookup y = some d') : (y = x ∧ d' = d) ∨ (y ≠ x ∧ σ.lookup y = some d') := by
  rw [List.lookup_cons] at h
  cases hb : y == x with
  | true => rw [hb] at h; cases h; exact .inl ⟨beq_iff_eq.mp hb, rfl⟩
  | false => rw [hb] at h; exact .inr ⟨fun e => (by rw [e, beq_self_eq_true] at hb; cases hb), h⟩

theorem StX.storeL {s : Shared} {P : Fz} {x : Str} {v : Value} {d : D} {h' : Heap} {t : Nat} (S : StX Θ env σ fz P s.heap) (hk : env.kindOf x = some .local) (r : Rep P v d)
    (hn' : ∀ m, s.heap.Ns env.locals m → h'.Ns env.locals (fun y => if y = x then some v else m y)) (hs : Heap.SameBut env.locals s.heap h') :
    StX Θ env ((x, d) :: σ) fz P h' ∧ PostX Θ env s { s with heap := h', toks := t } P P := by
  obtain ⟨m, hn, hl⟩ := S.ns
  have G : Good Θ P h' := S.good.keepsBut S.own S.ntab fun b o hb e => hs.extBut b o hb e
  have kc : ∀ c v, s.heap.IsCell c v → h'.IsCell c v := fun c v hc => hc.sameBut hs (cell_ne_ns hc hn)
  refine ⟨⟨⟨G, S.fn, ⟨_, hn' m hn, fun y d' hy => ?_⟩, S.ntab⟩, S.own, S.apart, fun y c hc => ⟨let ⟨v, hv⟩ := (S.cells y c hc).1; ⟨v, kc _ _ hv⟩, (S.cells y c hc).2⟩⟩, ?_⟩
  · rcases lookup_cons_ne hy with ⟨rfl, rfl⟩ | ⟨hne, hy⟩
    · exact ⟨v, r, .loc hk (if_pos rfl)⟩
    · obtain ⟨v', r', L⟩ := hl y d' hy
      refine ⟨v', r', ?_⟩
      cases L with
      | loc h1 h2 => exact .loc h1 (by rw [if_neg hne]; exact h2)
      | cell c h1 h2 h3 => exact .cell c h1 h2 (kc _ _ h3)
      | free c h1 h2 h3 h4 => exact .free c h1 h2 (kc _ _ h3) h4
  · refine ⟨rfl, rfl, rfl, .refl P, fun t ht => Θ.tabIn G.tab ht, fun a o h => .inl h, fun b o e _ hb _ => hs.extBut b o hb e, fun b hb e => ?_⟩
    by_cases hbL : b = env.locals
    · subst hbL
      obtain ⟨o, _, _, ho, _⟩ := hn' m hn
      rw [show ({ s with heap := h', toks := t } : Shared).heap.get? env.locals = some o from ho] at e; cases e
    · rw [← hs.2 b hbL]; exact e

theorem lookup_of_mem {cs : List (Str × Addr)} {x y : Str} {c : Addr} (hp : cs.Pairwise fun x y => x.2 ≠ y.2) (hx : cs.lookup x = some c) (hy : cs.lookup y = some c) : y = x := name_of_addr hp (mem_of_lookup hy) (mem_of_lookup hx)

theorem StX.storeC {s : Shared} {P : Fz} {x : Str} {v : Value} {d : D} {h' : Heap} {c : Addr} {t : Nat} (S : StX Θ env σ fz P s.heap) (hk : env.kindOf x = some .cell) (hx : env.cells.lookup x = some c) (hf : x ∉ fz) (r : Rep P v d)
    (hc' : h'.IsCell c (some v)) (hs : Heap.SameBut c s.heap h') :
    StX Θ env ((x, d) :: σ) fz P h' ∧ PostX Θ env s { s with heap := h', toks := t } P P := by
  obtain ⟨m, hn, hl⟩ := S.ns
  obtain ⟨⟨v₀, hv₀⟩, hfree⟩ := S.cells x c hx
  have hcL : env.locals ≠ c := (cell_ne_ns hv₀ hn).symm
  have G : Good Θ P h' := S.good.keepsBut (hfree hf) (cell_notT S.good hv₀) fun b o hb e => hs.extBut b o hb e
  have kc : ∀ c₁ v, c₁ ≠ c → s.heap.IsCell c₁ v → h'.IsCell c₁ v := fun c₁ v hne hc => hc.sameBut hs hne
  refine ⟨⟨⟨G, S.fn, ⟨m, hn.sameBut hs hcL, fun y d' hy => ?_⟩, S.ntab⟩, S.own, S.apart, fun y c₁ hc => ⟨?_, (S.cells y c₁ hc).2⟩⟩, ?_⟩
  · rcases lookup_cons_ne hy with ⟨rfl, rfl⟩ | ⟨hne, hy⟩
    · exact ⟨v, r, .cell c hk hx hc'⟩
    · obtain ⟨v', r', L⟩ := hl y d' hy
      refine ⟨v', r', ?_⟩
      cases L with
      | loc h1 h2 => exact .loc h1 h2
      | cell c₁ h1 h2 h3 => exact .cell c₁ h1 h2 (kc _ _ (by rintro rfl; exact hne (lookup_of_mem S.apart hx h2)) h3)
      | free c₁ h1 h2 h3 h4 => exact .free c₁ h1 h2 (kc _ _ (by rintro rfl; exact hne (lookup_of_mem S.apart hx h2)) h3) h4
  · by_cases e : c₁ = c
    · subst e; exact ⟨_, hc'⟩
    · obtain ⟨v₁, hv₁⟩ := (S.cells y c₁ hc).1
      exact ⟨v₁, kc _ _ e hv₁⟩
  · refine ⟨rfl, rfl, rfl, .refl P, fun t ht => Θ.tabIn G.tab ht, fun a o h => .inl h, fun b o e _ _ hb => hs.extBut b o (by rintro rfl; exact hb x hx) e, fun b hb e => ?_⟩
    by_cases hbc : b = c
    · subst hbc
      obtain ⟨o, ho, _⟩ := hc'
      rw [show ({ s with heap := h', toks := t } : Shared).heap.get? b = some o from ho] at e; cases e
    · rw [← hs.2 b hbc]; exact e
/-- a cell frozen -/
theorem StX.freezeC {s : Shared} {P : Fz} {x : Str} {c : Addr} {o : Obj} (S : StX Θ env σ fz P s.heap) (hx : env.cells.lookup x = some c) (ho : s.heap.get? c = some o) (hd : ∃ v, o.data = .cell v) :
    StX Θ env σ (x :: fz) (P.add c o) s.heap ∧ PostX Θ env s s P (P.add c o) := by
  obtain ⟨m, hn, hl⟩ := S.ns
  obtain ⟨v, hd⟩ := hd
  refine ⟨⟨⟨S.good.freeze ho (cell_notT S.good ⟨o, ho, hd⟩), S.fn, ⟨m, hn, fun y d' hy => let ⟨v', r', L⟩ := hl y d' hy; ⟨v', r'.mono (Fz.add_le _ _ _), L⟩⟩, S.ntab⟩, fun o' x => ?_, S.apart, fun y c₁ hc => ⟨(S.cells y c₁ hc).1, fun hy o' x' => ?_⟩⟩, ?_⟩
  · rcases x with x | ⟨e, _⟩
    · exact S.own o' x
    · exact cell_ne_ns ⟨o, ho, hd⟩ hn e.symm
  · rcases x' with x' | ⟨e, _⟩
    · exact (S.cells y c₁ hc).2 (fun hm => hy (List.mem_cons_of_mem _ hm)) o' x'
    · subst e
      exact hy (by rw [lookup_of_mem S.apart hx hc]; exact List.mem_cons_self)
  · exact ⟨rfl, rfl, rfl, Fz.add_le _ _ _, fun t ht => Θ.tabIn S.good.tab ht, fun a o' h => h.elim .inl fun y => .inr (.inr ⟨x, by rw [y.1]; exact hx⟩), fun b o e _ _ _ => e, fun b _ e => e⟩

theorem notClass {e : Env} (h : e.scope.kind = .function) : (e.scope.kind == .class || (e.scope.kind == .module && e.locals != e.globals)) = false := by rw [h]; rfl

/-! statements -/
theorem wp_storeL {A : Around} {s : Shared} {P : Fz} {x : Str} {v : Value} {d : D} {Q : Unit → Shared → Prop} {E : Value → Shared → Prop} (S : StX Θ env σ fz P s.heap) (hk : env.kindOf x = some .local) (r : Rep P v d)
    (h : ∀ s', PostX Θ env s s' P P → StX Θ env ((x, d) :: σ) fz P s'.heap → Q () s') : wpAny Θ.M A (storeName env x v) Q E s := by
  obtain ⟨m, hn, _⟩ := S.ns
  refine wpAny_storeName_local hk hn (fun h' hn' hs => ?_) (notClass S.fn)
  have hx : ∀ m', s.heap.Ns env.locals m' → h'.Ns env.locals (fun y => if y = x then some v else m' y) := fun m' hm' => by
    have e : m' = m := by
      obtain ⟨o, es, ep, ho, hd, _, hf⟩ := hn
      obtain ⟨o', es', ep', ho', hd', _, hf'⟩ := hm'
      rw [ho] at ho'; cases ho'
      rw [hd] at hd'; cases hd'
      funext y; rw [← hf y, ← hf' y]
    rw [e]; exact hn'
  obtain ⟨a, b⟩ := S.storeL (t := s.toks + 1) hk r hx hs
  exact h _ b a
theorem wp_storeC {A : Around} {s : Shared} {P : Fz} {x : Str} {v : Value} {d : D} {c : Addr} {Q : Unit → Shared → Prop} {E : Value → Shared → Prop} (S : StX Θ env σ fz P s.heap) (hk : env.kindOf x = some .cell) (hx : env.cells.lookup x = some c) (hf : x ∉ fz) (r : Rep P v d)
    (h : ∀ s', PostX Θ env s s' P P → StX Θ env ((x, d) :: σ) fz P s'.heap → s'.heap.IsCell c (some v) → Q () s') : wpAny Θ.M A (storeName env x v) Q E s := by
  obtain ⟨⟨v₀, hv₀⟩, _⟩ := S.cells x c hx
  refine wpAny_storeName_cell S.fn hk hx hv₀ fun h' hc' hs => ?_
  obtain ⟨a, b⟩ := S.storeC (t := s.toks) hk hx hf r hc' hs
  exact h _ b a hc'

theorem ExS.assign {x : Str} {px pos : Pos} {value : Expr} {d : D} (hv : EvS Θ n P₀ env σ value d) (hk : env.kindOf x = some .local := by rfl) (hs : swapsWith value (some (.Name x px)) pos.line env = pure false := by rfl) :
    ExS Θ n P₀ env σ fz (.Assign [.Name x px] value pos) (.next ((x, d) :: σ) fz) :=
  fun A s P Q E R l S h => wpAny_Assign_Name (hv A s P _ _ R l S.toStE fun v s₁ P₁ p r => wp_storeL (S.post p) hk r fun s₂ px S₂ => h s₂ P₁ (p.toX.trans px) S₂) hs
theorem ExS.assignC {x : Str} {px pos : Pos} {value : Expr} {d : D} {c : Addr} (hv : EvS Θ n P₀ env σ value d) (hx : env.cells.lookup x = some c) (hf : x ∉ fz) (hk : env.kindOf x = some .cell := by rfl) (hs : swapsWith value (some (.Name x px)) pos.line env = pure false := by rfl) :
    ExS Θ n P₀ env σ fz (.Assign [.Name x px] value pos) (.next ((x, d) :: σ) fz) :=
  fun A s P Q E R l S h => wpAny_Assign_Name (hv A s P _ _ R l S.toStE fun v s₁ P₁ p r => wp_storeC (S.post p) hk hx hf r fun s₂ px S₂ _ => h s₂ P₁ (p.toX.trans px) S₂) hs
theorem ExS.ret {e : Expr} {pos : Pos} {d : D} (he : EvS Θ n P₀ env σ e d) : ExS Θ n P₀ env σ fz (.Return (some e) pos) (.ret d) :=
  fun A s P Q E R l S h => wpAny_Return_some (he A s P _ _ R l S.toStE fun v s₁ P₁ p r => h s₁ P₁ p.toX v p.good r)
theorem ExsS.nil : ExsS Θ n P₀ env σ fz [] (.next σ fz) := fun A s P Q E R l S h => wpAny_execs_nil (h s P (PostX.refl S.good) S)
theorem ExsS.cons {st : Stmt} {rest : List Stmt} {σ' : Store} {fz' : List Str} {out : Out} (h1 : ExS Θ n P₀ env σ fz st (.next σ' fz')) (h2 : ExsS Θ n P₀ env σ' fz' rest out) : ExsS Θ n P₀ env σ fz (st :: rest) out :=
  fun A s P Q E R l S h => wpAny_execs_cons (h1 A s P _ _ R l S fun s₁ P₁ p S₁ => h2 A s₁ P₁ Q E R (l.trans p.le) S₁ fun s₂ P₂ p₂ => h s₂ P₂ (p.trans p₂))
theorem ExsS.ret {st : Stmt} {rest : List Stmt} {d : D} (h1 : ExS Θ n P₀ env σ fz st (.ret d)) : ExsS Θ n P₀ env σ fz (st :: rest) (.ret d) :=
  fun A s P Q E R l S h => wpAny_execs_cons (h1 A s P _ _ R l S fun s₁ P₁ p v G r => h s₁ P₁ p v G r)
theorem ExS.ite {test : Expr} {body orelse : List Stmt} {pos : Pos} {b : Bool} {out : Out} (ht : EvT Θ n P₀ env σ test b) (h1 : b = true → ExsS Θ n P₀ env σ fz body out) (h2 : b = false → ExsS Θ n P₀ env σ fz orelse out) :
    ExS Θ n P₀ env σ fz (.If test body orelse pos) out :=
  fun A s P Q E R l S h => wpAny_If (ht A s P _ _ R l S.toStE fun s₁ P₁ p => by
    cases b with
    | true => exact h1 rfl A s₁ P₁ Q E R (l.trans p.le) (S.post p) fun s₂ P₂ p₂ => h s₂ P₂ (p.toX.trans p₂)
    | false => exact h2 rfl A s₁ P₁ Q E R (l.trans p.le) (S.post p) fun s₂ P₂ p₂ => h s₂ P₂ (p.toX.trans p₂))
noncomputable def Sub (σ σ' : Store) : Prop := ∀ x d, σ.lookup x = some d → σ'.lookup x = some d
theorem StX.sub {σ' : Store} {P : Fz} {h : Heap} (S : StX Θ env σ' fz P h) (hs : Sub σ σ') : StX Θ env σ fz P h :=
  ⟨⟨S.good, S.fn, let ⟨m, hn, hl⟩ := S.ns; ⟨m, hn, fun x d hx => hl x d (hs x d hx)⟩, S.ntab⟩, S.own, S.apart, S.cells⟩
theorem ExsS.sub {sts : List Stmt} {σ' : Store} {fz' : List Str} {σ'' : Store} (h : ExsS Θ n P₀ env σ fz sts (.next σ' fz')) (hs : Sub σ'' σ') : ExsS Θ n P₀ env σ fz sts (.next σ'' fz') :=
  fun A s P Q E R l S k => h A s P Q E R l S fun s₁ P₁ p S₁ => k s₁ P₁ p (S₁.sub hs)
theorem ExS.pre {st : Stmt} {out : Out} {σ' : Store} (h : ExS Θ n P₀ env σ fz st out) (hs : Sub σ σ') : ExS Θ n P₀ env σ' fz st out :=
  fun A s P Q E R l S k => h A s P Q E R l (S.sub hs) k

theorem ExS.while {test : Expr} {body : List Stmt} {pos : Pos} (I : Nat → Store) (N : Nat) (h0 : I 0 = σ)
    (hs : ∀ i, i < N → EvT Θ n P₀ env (I i) test true ∧ ExsS Θ n P₀ env (I i) fz body (.next (I (i + 1)) fz)) (he : EvT Θ n P₀ env (I N) test false) :
    ExS Θ n P₀ env σ fz (.While test body [] pos) (.next (I N) fz) := by
  intro A s P Q E R l S h
  refine wpAny_While (codeAny_whileLoop (fun k s' => ∃ i P', k = N - i ∧ i ≤ N ∧ PostX Θ env s s' P P' ∧ StX Θ env (I i) fz P' s'.heap) ?_ N ⟨0, P, rfl, Nat.zero_le _, PostX.refl S.good, h0 ▸ S⟩)
  rintro k s' ⟨i, P', rfl, hi, p, S'⟩
  by_cases hlt : i < N
  · obtain ⟨ht, hb⟩ := hs i hlt
    refine ht A s' P' _ _ R (l.trans p.le) S'.toStE fun s₁ P₁ p₁ => ?_
    rw [if_pos rfl]
    refine hb A s₁ P₁ _ _ R ((l.trans p.le).trans p₁.le) (S'.post p₁) fun s₂ P₂ p₂ S₂ => ?_
    exact ⟨N - (i + 1), by omega, i + 1, P₂, rfl, hlt, (p.trans p₁.toX).trans p₂, S₂⟩
  · have hi' : i = N := by omega
    subst hi'
    refine he A s' P' _ _ R (l.trans p.le) S'.toStE fun s₁ P₁ p₁ => ?_
    rw [if_neg Bool.false_ne_true]
    exact wpAny_execs_nil (h s₁ P₁ (p.trans p₁.toX) (S'.post p₁))

/-! iterators -/
structure Walk (Θ : Th) (A : Around) (I : Addr) (fp wr : List Addr) (ds : List D) (P : Fz) (St : Nat → Heap → Prop) (s s' : Shared) : Prop where
  walks : ∀ A' : Around, A'.handled = .none → Walks Θ.prog Θ.w A' I fp wr ds.length (fun i v => ∃ x, ds[i]? = some x ∧ Rep P v x) St
  start : St 0 s'.heap
  post : Post Θ s s' P P
  wrNew : ∀ b ∈ wr, s.heap.get? b = none
  fpIn : ∀ b ∈ fp, (∃ o, P b o) ∨ s.heap.get? b = none
  there : ∀ i h, St i h → ∀ b ∈ fp, ∃ o, h.get? b = some o
noncomputable def IterOk (Θ : Th) (n : Nat) (d : D) (ds : List D) : Prop :=
  ∀ (A : Around) (s : Shared) (P : Fz) (v : Value) (Q E : Value → Shared → Prop), Room n A → Good Θ P s.heap → Rep P v d →
    (∀ (I : Addr) (fp wr : List Addr) (St : Nat → Heap → Prop) (s' : Shared), Walk Θ A I fp wr ds P St s s' → Q (.ref I) s') → wpAny Θ.M A (pyIter v) Q E s

/-- the frame's own addresses stood at s -/
structure Stood (Θ : Th) (env : Env) (s : Shared) : Prop where
  L : s.heap.get? env.locals ≠ none
  c : ∀ x c, env.cells.lookup x = some c → s.heap.get? c ≠ none
  T : ∀ t, Θ.T t → s.heap.get? t ≠ none
theorem StX.stood {s : Shared} {P : Fz} (S : StX Θ env σ fz P s.heap) : Stood Θ env s where
  L := by obtain ⟨m, ⟨o, _, _, e, _⟩, _⟩ := S.ns; rw [e]; exact fun h => nomatch h
  c := fun x c hc => by obtain ⟨v, o, e, _⟩ := (S.cells x c hc).1; rw [e]; exact fun h => nomatch h
  T := fun t ht => by obtain ⟨o, e⟩ := Θ.tabIn S.good.tab ht; rw [e]; exact fun h => nomatch h

/-- how a walk's state stays over a turn's body -/
theorem walk_stays {s₀ s s' : Shared} {Pa P P' : Fz} {fp : List Addr} (hfp : ∀ b ∈ fp, (∃ o, Pa b o) ∨ s₀.heap.get? b = none) (hle : Pa.le P) (G : Good Θ P s.heap) (B : Stood Θ env s₀) (p : PostX Θ env s s' P P') (G' : Good Θ P' s'.heap) :
    ∀ b ∈ fp, ∀ o, s.heap.get? b = some o → s'.heap.get? b = some o := by
  intro b hb o e
  rcases hfp b hb with ⟨o', x⟩ | hnone
  · have h1 := G.has b o' (hle b o' x)
    rw [h1] at e; cases e
    exact G'.has b _ (p.le b _ (hle b _ x))
  · exact p.keep b o e (fun ht => B.T b ht hnone) (by rintro rfl; exact B.L hnone) (fun x hx => B.c x b hx hnone)
/-- a step of the iterator: all stays but what it writes, which is new since s₁ -/
theorem iter_step {s₁ s s' : Shared} {P P' : Fz} {wr : List Addr} {h' : Heap} {tk : Nat} (B : Stood Θ env s₁) (hwr : ∀ b ∈ wr, s₁.heap.get? b = none) (back : ∀ b o, s.heap.get? b = some o → ¬ Θ.T b → s₁.heap.get? b ≠ none)
    (p : PostX Θ env s s' P P') (S' : StX Θ env σ fz P' s'.heap) (hn : ∀ b ∈ wr, ∀ o, ¬ P' b o) (hk : ∀ b o, b ∉ wr → s'.heap.get? b = some o → h'.get? b = some o) :
    StX Θ env σ fz P' h' ∧ PostX Θ env s { s' with heap := h', toks := tk } P P' := by
  have G : Good Θ P' h' := ⟨fun b o x => hk b o (fun hb => hn b hb o x) (S'.good.has b o x), Θ.tabMono S'.good.tab (.refl _) fun t o ht e => hk t o (fun hb => B.T t ht (hwr t hb)) e, S'.good.top, S'.good.nt⟩
  obtain ⟨m, hns, hl⟩ := S'.ns
  have kc : ∀ x c v, env.cells.lookup x = some c → s'.heap.IsCell c v → h'.IsCell c v := fun x c v hx hc => by
    obtain ⟨o, ho, hd⟩ := hc
    exact ⟨o, hk c o (fun hb => B.c x c hx (hwr c hb)) ho, hd⟩
  have hLw : env.locals ∉ wr := fun hb => B.L (hwr _ hb)
  refine ⟨⟨⟨G, S'.fn, ⟨m, hns.at' fun o e => hk _ o hLw e, fun x d hx => ?_⟩, S'.ntab⟩, S'.own, S'.apart, fun x c hc => ⟨let ⟨v, hv⟩ := (S'.cells x c hc).1; ⟨v, kc x c v hc hv⟩, (S'.cells x c hc).2⟩⟩, ?_⟩
  · obtain ⟨v, r, L⟩ := hl x d hx
    refine ⟨v, r, ?_⟩
    cases L with
    | loc h1 h2 => exact .loc h1 h2
    | cell c h1 h2 h3 => exact .cell c h1 h2 (kc x c _ h2 h3)
    | free c h1 h2 h3 h4 => exact .free c h1 h2 (kc x c _ h2 h3) h4
  · refine ⟨p.gens, p.drawn, p.os, p.le, fun t ht => Θ.tabIn G.tab ht, p.new, fun b o e ht hb hc => hk b o (fun hw => back b o e ht (hwr b hw)) (p.keep b o e ht hb hc), fun b hb e => ?_⟩
    refine p.own b hb ?_
    cases q : s'.heap.get? b with
    | none => rfl
    | some o =>
      have hbw : b ∉ wr := by
        rcases hb with rfl | ⟨x, hx⟩
        · exact hLw
        · exact fun hb => B.c x b hx (hwr b hb)
      rw [show ({ s' with heap := h', toks := tk } : Shared).heap.get? b = some o from hk b o hbw q] at e; cases e

theorem IterOk.list {ds : List D} : IterOk Θ n (.list ds) ds := by
  intro A s P v Q E R G r h
  cases r with
  | @list a k vs xs hp rs =>
    have hl : s.heap.IsList a vs.toArray := ⟨_, G.has _ _ hp, rfl, _, rfl⟩
    refine wpAny_pyIter_list hl ?_
    have hne : a ≠ s.heap.objs.size := Nat.ne_of_lt (Heap.lt_size (G.has _ _ hp))
    refine h s.heap.objs.size [s.heap.objs.size, a] [s.heap.objs.size] (fun i h => h.IsListIter s.heap.objs.size a i ∧ h.IsList a vs.toArray) _ ⟨?_, ?_, Post.pushLoose (t := s.toks) G, ?_, ?_, ?_⟩
    · intro A' hA'
      have W := Walks.list (prog := Θ.prog) (w := Θ.w) (A := A') hA' s.heap.objs.size a hne vs.toArray
      have hsz : vs.toArray.size = ds.length := by rw [List.size_toArray, rs.length]
      rw [hsz] at W
      refine ⟨W.sub, W.frame, fun i s Q E hi st hQ => W.item i s Q E hi st fun v h' tk hv st' hk => hQ v h' tk ?_ st' hk, W.done, W.self⟩
      obtain ⟨v', hv', hr⟩ := rs.get (List.getElem?_eq_getElem hi)
      have : vs[i]? = some v := by simpa using hv
      rw [this] at hv'; cases hv'
      exact ⟨_, List.getElem?_eq_getElem hi, hr⟩
    · exact ⟨⟨_, Heap.get?_push_size _ rfl, rfl, rfl⟩, hl.push _⟩
    · intro b hb; simp at hb; subst hb; exact none_of_size (Nat.le_refl _)
    · intro b hb
      simp at hb
      rcases hb with rfl | rfl
      · exact .inr (none_of_size (Nat.le_refl _))
      · exact .inl ⟨_, hp⟩
    · intro i h st b hb
      simp at hb
      rcases hb with rfl | rfl
      · obtain ⟨o, ho, _⟩ := st.1; exact ⟨o, ho⟩
      · obtain ⟨o, ho, _⟩ := st.2; exact ⟨o, ho⟩
end
end Mine
namespace Mine
open PySem PySem.W PyProof.Rows PySem.Calls PySem.Spec

/-! a def entered -/
noncomputable def bindD : List Str → List D → Store → Store
  | x :: xs, d :: ds, σ => bindD xs ds ((x, d) :: σ)
  | _, _, σ => σ
section
variable {Θ : Th} {n : Nat} {P₀ : Fz} {env : Env} {σ : Store} {fz : List Str}

noncomputable def Bound (kindOf : Str → Option NameKind) (P : Fz) (m cm : Str → Option Value) (σ : Store) : Prop :=
  ∀ x d, σ.lookup x = some d → ∃ v, Rep P v d ∧ ((kindOf x = some .local ∧ m x = some v) ∨ (kindOf x = some .cell ∧ cm x = some v))
theorem bound_all {kindOf : Str → Option NameKind} {P : Fz} : ∀ {names : List Str} {vs : List Value} {ds : List D} {m cm : Str → Option Value} {σ : Store}, Reps P vs ds → (∀ x ∈ names, kindOf x = some .local ∨ kindOf x = some .cell) → Bound kindOf P m cm σ →
    Bound kindOf P (bindL kindOf (names.zip vs) m) (bindC kindOf (names.zip vs) cm) (bindD names ds σ)
  | [], _, _, m, cm, σ, _, _, B => B
  | _ :: _, [], _, m, cm, σ, .nil, _, B => B
  | x :: xs, v :: vs, d :: ds, m, cm, σ, .cons r rs, hk, B => by
    show Bound kindOf P (bindL kindOf ((x, v) :: xs.zip vs) m) (bindC kindOf ((x, v) :: xs.zip vs) cm) (bindD xs ds ((x, d) :: σ))
    unfold bindL bindC
    refine bound_all rs (fun y hy => hk y (List.mem_cons_of_mem _ hy)) fun y d' hy => ?_
    rcases lookup_cons_ne hy with ⟨rfl, rfl⟩ | ⟨hne, hy⟩
    · refine ⟨v, r, ?_⟩
      rcases hk y List.mem_cons_self with h | h
      · left; rw [if_pos h]; exact ⟨h, if_pos rfl⟩
      · right; rw [if_neg (by rw [h]; exact fun e => nomatch e)]; exact ⟨h, if_pos rfl⟩
    · obtain ⟨v', r', h | h⟩ := B y d' hy
      · refine ⟨v', r', .inl ⟨h.1, ?_⟩⟩
        split
        · dsimp only; rw [if_neg hne]; exact h.2
        · exact h.2
      · refine ⟨v', r', .inr ⟨h.1, ?_⟩⟩
        split
        · exact h.2
        · dsimp only; rw [if_neg hne]; exact h.2

/-- what is known of a def's object -/
structure DefAt (P : Fz) (a : Addr) (fd : FuncData) (body : List Stmt) : Prop where
  obj : ∃ o, P a o ∧ o.data = .func fd
  body : fd.body = .stmts body
  clo : fd.closure = []
  g : fd.globals = mainGlobals
  b : fd.builtins = builtinsNs
  code : ∃ c oc vs t, fd.code = .ref c ∧ P c oc ∧ oc.data = .fields vs ∧ vs[1]? = some (.str fd.qualname t)
  co : fd.scope.isCoroutine = false
  gen : fd.scope.isGenerator = false
  kind : fd.scope.kind = .function
theorem DefAt.mono {P P' : Fz} {a : Addr} {fd : FuncData} {body : List Stmt} (h : DefAt P a fd body) (hl : P.le P') : DefAt P' a fd body :=
  ⟨let ⟨o, x, y⟩ := h.obj; ⟨o, hl _ _ x, y⟩, h.body, h.clo, h.g, h.b, let ⟨c, oc, vs, t, x, y, z⟩ := h.code; ⟨c, oc, vs, t, x, hl _ _ y, z⟩, h.co, h.gen, h.kind⟩
theorem DefAt.fun {P : Fz} {a : Addr} {fd : FuncData} {body : List Stmt} (h : DefAt P a fd body) : FunAt P a := let ⟨o, x, y⟩ := h.obj; ⟨o, fd, x, y⟩

theorem isSome_cells {names : List (Str × NameKind)} {L : Nat} {x : Str} (h : names.lookup x = some .cell) : ((cellsFrom L names []).lookup x).isSome = true := cellsFrom_some names L [] (.inl h)

theorem entered {s s₁ : Shared} {P : Fz} {fd : FuncData} {a L : Addr} {names : List Str} {vs : List Value} {ds : List D} (hL : L = s.heap.objs.size) (hg : fd.scope.kind = .function)
    (hk : ∀ x ∈ names, fd.scope.names.lookup x = some .local ∨ fd.scope.names.lookup x = some .cell) (G : Good Θ P s.heap) (rs : Reps P vs ds)
    (x : InCallC s (callEnvC fd L a).locals (bindL (callEnvC fd L a).kindOf (names.zip vs) fun _ => none) (callEnvC fd L a).cells (bindC (callEnvC fd L a).kindOf (names.zip vs) fun _ => none) s₁) :
    StX Θ (callEnvC fd L a) (bindD names ds []) [] P s₁.heap := by
  have hnone : s.heap.get? L = none := by rw [hL]; exact none_of_size (Nat.le_refl _)
  have G₁ := G.keeps x.toInCall.keep
  have hB : Bound (callEnvC fd L a).kindOf P _ _ (bindD names ds []) := bound_all (kindOf := (callEnvC fd L a).kindOf) (m := fun _ => none) (cm := fun _ => none) (σ := []) rs hk fun y d hy => by simp at hy
  refine ⟨⟨G₁, hg, ⟨_, x.toInCall.ns, fun y d hy => ?_⟩, G.notT hnone⟩, fun o => G.notIn hnone o, x.apart, fun y c hc => ⟨⟨_, x.cell y c hc⟩, fun _ o => ?_⟩⟩
  · obtain ⟨v, r, h | h⟩ := hB y d hy
    · exact ⟨v, r, .loc h.1 h.2⟩
    · obtain ⟨c, hc⟩ := Option.isSome_iff_exists.mp (isSome_cells (L := L + 1) h.1)
      exact ⟨v, r, .cell c h.1 hc (h.2 ▸ x.cell y c hc)⟩
  · have hlt := x.above y c (mem_of_lookup hc)
    exact G.notIn (none_of_size (Nat.le_of_lt (by rw [← hL]; exact hlt))) o
theorem left {s s₁ s₂ : Shared} {P P' : Fz} {fd : FuncData} {a L : Addr} {m cm : Str → Option Value} (hL : L = s.heap.objs.size)
    (x : InCallC s (callEnvC fd L a).locals m (callEnvC fd L a).cells cm s₁) (p : PostX Θ (callEnvC fd L a) s₁ s₂ P P') (G : Good Θ P' s₂.heap) (G0 : Good Θ P s.heap) : Post Θ s s₂ P P' := by
  obtain ⟨h, tk, rfl⟩ := x.toInCall.same
  have nL : ∀ b o, s.heap.get? b = some o → b ≠ L := fun b o e => Nat.ne_of_lt (by rw [hL]; exact Heap.lt_size e)
  have nC : ∀ b o, s.heap.get? b = some o → ∀ y, (callEnvC fd L a).cells.lookup y ≠ some b := fun b o e y hy => by
    have h1 : L < b := x.above y b (mem_of_lookup hy)
    have h2 := Heap.lt_size e
    rw [← hL] at h2
    exact Nat.lt_irrefl _ (Nat.lt_trans h1 h2)
  have bk : ∀ b, h.get? b = none → s.heap.get? b = none := fun b e => by
    cases q : s.heap.get? b with
    | none => rfl
    | some o => rw [x.toInCall.keep b o q] at e; cases e
  refine ⟨p.gens, p.drawn, p.os, G, p.le, fun b o y => ?_, fun b o e ht => p.keep b o (x.toInCall.keep b o e) ht (nL b o e) (nC b o e), fun _ ht => Θ.tabIn G0.tab ht⟩
  rcases p.new b o y with z | z | ⟨q, z⟩
  · exact .inl z
  · exact .inr (bk b z)
  · refine .inr ?_
    cases e : s.heap.get? b with
    | none => rfl
    | some o' => exact absurd z (nC b o' e q)

/-- a call of a def: from a frame, or from the caller -/
theorem call_def {a : Addr} {fd : FuncData} {body : List Stmt} {names : List Str} {ds : List D} {d : D} {A : Around} {s : Shared} {P : Fz} {vs : List Value} {Q E : Value → Shared → Prop} (hd : DefAt P₀ a fd body) (hnames : fd.scope.names.length = fd.scope.names.length)
    (hb : ∀ vs : List Value, vs.length = names.length → bindArgs fd ⟨vs, []⟩ = pure (names.zip vs)) (hl : ds.length = names.length)
    (hk : ∀ x ∈ names, fd.scope.names.lookup x = some .local ∨ fd.scope.names.lookup x = some .cell)
    (hbody : ∀ L, ExsS Θ n P₀ (callEnvC fd L a) (bindD names ds []) [] body (.ret d)) (R : Room0 (n + 1) A) (l : P₀.le P) (G : Good Θ P s.heap) (rs : Reps P vs ds)
    (h : ∀ v s' P', Post Θ s s' P P' → Rep P' v d → Q v s') : wpAny Θ.M A (call (.ref a) vs) Q E s := by
  refine wpAny_call ?_
  obtain ⟨o, ho, hdat⟩ := hd.obj
  have hcd : s.heap.CodeRec fd.code fd.qualname := by
    obtain ⟨c, oc, vs', t, h1, h2, h3, h4⟩ := hd.code
    exact ⟨c, oc, vs', t, h1, G.has _ _ (l _ _ h2), h3, h4⟩
  refine codeAny_call_cells (binds := names.zip vs) R.limit (G.has _ _ (l _ _ ho)) hdat (Θ.nolim G.k0) hcd hd.body (hb vs (rs.length.trans hl)) hd.clo (fun x hx => ?_) (fun s₁ x => ?_) hd.co hd.gen hd.kind
  · rcases hk x.1 (List.of_mem_zip hx).1 with q | q
    · exact .inl q
    · exact .inr ⟨q, isSome_cells q⟩
  · have S := entered (Θ := Θ) (a := a) rfl hd.kind hk G rs x
    refine hbody _ _ s₁ P _ _ (R.deeper ⟨hd.gen, hd.co, hd.b, hd.g⟩) l S fun s₂ P₂ p v G₂ r => ?_
    exact h v s₂ P₂ (left rfl x p G₂ G) r
theorem mem1 {α : Type} {p : α → Prop} {a : α} (h : p a) (x : α) (hx : x ∈ [a]) : p x := List.mem_singleton.mp hx ▸ h
theorem mem2 {α : Type} {p : α → Prop} {a b : α} (h : p a) (h' : p b) (x : α) (hx : x ∈ [a, b]) : p x := (List.mem_cons.mp hx).elim (fun e => e ▸ h) fun k => mem1 h' x k
theorem of1 {fd : FuncData} {x : Str} (h : ∀ v, bindArgs fd ⟨[v], []⟩ = pure [(x, v)]) (vs : List Value) (e : vs.length = [x].length) : bindArgs fd ⟨vs, []⟩ = pure ([x].zip vs) := by
  obtain ⟨v, rfl⟩ := List.length_eq_one_iff.mp e
  exact h v
theorem of2 {fd : FuncData} {x y : Str} (h : ∀ v w, bindArgs fd ⟨[v, w], []⟩ = pure [(x, v), (y, w)]) (vs : List Value) (e : vs.length = [x, y].length) : bindArgs fd ⟨vs, []⟩ = pure ([x, y].zip vs) := by
  match vs, e with
  | [v, w], _ => exact h v w
theorem CallOk.def {a : Addr} {fd : FuncData} {body : List Stmt} {names : List Str} {ds : List D} {d : D} (hd : DefAt P₀ a fd body)
    (hb : ∀ vs : List Value, vs.length = names.length → bindArgs fd ⟨vs, []⟩ = pure (names.zip vs)) (hl : ds.length = names.length)
    (hk : ∀ x ∈ names, fd.scope.names.lookup x = some .local ∨ fd.scope.names.lookup x = some .cell)
    (hbody : ∀ L, ExsS Θ n P₀ (callEnvC fd L a) (bindD names ds []) [] body (.ret d)) : CallOk Θ (n + 1) P₀ (.ref a) ds d :=
  fun A s P vs Q E R l G rs h => call_def hd rfl hb hl hk hbody R.toRoom0 l G rs h

/-! built-ins -/
theorem CallOk.abs {i : Int} : CallOk Θ n P₀ (.builtin "abs") [.int i] (.int (if i < 0 then -i else i)) := fun A s P vs Q E R l G rs h => by
  cases rs with | cons r rs => cases rs; cases r; exact call_abs_int fun u tk => h _ _ P (Post.toks G _) (.int _ _)
theorem CallOk.intOf {i : Int} : CallOk Θ n P₀ (.type "int") [.int i] (.int i) := fun A s P vs Q E R l G rs h => by
  cases rs with | cons r rs => cases rs; cases r; exact PySem.call_int_int (h _ _ P (Post.refl G) (.int _ _))
theorem CallOk.divmod {i j : Int} (hj : j ≠ 0) : CallOk Θ n P₀ (.builtin "divmod") [.int i, .int j] (.tup [.int (i.fdiv j), .int (i.fmod j)]) := fun A s P vs Q E R l G rs h => by
  cases rs with | cons r rs => cases rs with | cons r' rs =>
    cases rs; cases r; cases r'
    refine divmod_int hj ?_ (.inr (pyroom R G))
    exact h _ _ _ (Post.push (t := s.toks + 1 + 1) G rfl) (.tup (n := 0) (vs := [_, _]) (Fz.add_at _ _ _) (.cons (.int _ _) (.cons (.int _ _) .nil)))
theorem CallOk.lenList {xs : List D} (hs : xs.length ≤ 1099511627776) : CallOk Θ n P₀ (.builtin "len") [.list xs] (.int xs.length) := fun A s P vs Q E R l G rs h => by
  cases rs with | cons r rs =>
    cases rs
    cases r with | list hp rs =>
      refine PyProof.Rows.len_list ⟨_, G.has _ _ hp, rfl, _, rfl⟩ ?_ ?_
      · rw [List.size_toArray, rs.length]; omega
      · rw [List.size_toArray, rs.length]; exact h _ _ P (Post.toks G _) (.int _ _)
theorem CallOk.range1 {i : Int} : CallOk Θ n P₀ (.type "range") [.int i] (.range 0 i 1) := fun A s P vs Q E R l G rs h => by
  cases rs with | cons r rs =>
    cases rs; cases r
    exact call_range_1 (h _ _ _ (Post.push (t := s.toks + 1 + 1) G rfl) (.range (Fz.add_at _ _ _)))
/-! items -/
theorem seqIndex_nonneg {i : Int} {len j : Nat} (h : seqIndex? i len = some j) (h0 : 0 ≤ i) : i < len ∧ j = i.toNat := by
  have hn : ¬ i < 0 := by omega
  simp only [seqIndex?, hn, if_false] at h
  split at h
  · rename_i hc
    cases h
    simp at hc
    exact ⟨by omega, rfl⟩
  · cases h
theorem seqIndex_neg {i : Int} {len j : Nat} (h : seqIndex? i len = some j) (h0 : i < 0) : 0 ≤ i + len ∧ j = (i + len).toNat := by
  simp only [seqIndex?, h0, if_true] at h
  split at h
  · rename_i hc
    cases h
    simp at hc
    exact ⟨by omega, rfl⟩
  · cases h
theorem getItem_list_neg {A : Around} {E : Value → Shared → Prop} {s : Shared} {l : Addr} {items : Array Value} {z : Int} {k : Nat} {t : Tok} {x : Value} {Q : Value → Shared → Prop} (hl : s.heap.IsList l items) (hz : z = Int.negSucc k)
    (hfit : Builtin.List.listFitsIndex z = true) (hk : k + 1 ≤ items.size) (hx : items[items.size - (k + 1)]? = some x) (h : Q x s) : wpAny Θ.M A (getItem (.ref l) (.int z t)) Q E s := by
  obtain ⟨o, ho, hc, ne, hd⟩ := id hl
  have e : seqIndex? (Int.negSucc k) items.size = some (items.size - (k + 1)) := by
    have h1 : Int.negSucc k < 0 := by omega
    have h2 : (0 : Int) ≤ Int.negSucc k + items.size := by omega
    have h3 : Int.negSucc k + items.size < items.size := by omega
    have h4 : (Int.negSucc k + (items.size : Int)).toNat = items.size - (k + 1) := by omega
    simp [seqIndex?, h1, h2, h3, h4]
  unfold getItem
  try with_reducible refine wpAny_holding ?_
  first | refine wpAny_bind (wpAny_pure ?_) | skip
  refine wpAny_bind (wpAny_sequenceKey hl.typeIs (by decide) ?_)
  refine wpAny_bind (wpAny_callSpecial?_slot (name := Str.ofString "__getitem__") hl.typeIs slot_list_getitem
    (wpAny_call_entry slot_list_getitem hl.typeIs entry_list_getitem ?_ (args_list_getitem _ _)))
  show wpAny _ _ (Builtin.List.listSubscript? (.int z t) >>= _) _ _ s
  refine wpAny_bind (wpAny_listSubscript_int hfit ?_)
  clear hfit
  subst hz
  refine wpAny_bind ?_
  refine wpAny_bind (m := Builtin.List.listItems (.ref l)) ?_
  unfold Builtin.List.listItems
  refine wpAny_bind (wpAny_seqItems ho hd (wpAny_pure (wpAny_pure ?_)))
  dsimp only
  rw [e]
  dsimp only [Option.bind]
  rw [hx]
  exact wpAny_pure ⟨x, rfl, wpAny_pure h⟩

/-- an item of a list at any place in it -/
noncomputable def itemD (xs : List D) (i : Int) : Option D := (seqIndex? i xs.length).bind (xs[·]?)
theorem OpOk.item_list {xs : List D} {i : Int} {d : D} (hl : xs.length ≤ 16777216) (hd : itemD xs i = some d) : OpOk Θ n P₀ getItem (.list xs) (.int i) d := fun A s P va vb Q E R l G ra rb h => by
  cases rb
  cases ra with
  | @list a k vs _ hp rs =>
    have hIs : s.heap.IsList a vs.toArray := ⟨_, G.has _ _ hp, rfl, _, rfl⟩
    unfold itemD at hd
    obtain ⟨j, hj, hx⟩ := Option.bind_eq_some_iff.mp hd
    obtain ⟨v, hv, r⟩ := rs.get hx
    by_cases h0 : i < 0
    · obtain ⟨h1, rfl⟩ := seqIndex_neg hj h0
      obtain ⟨m, rfl⟩ := Int.eq_negSucc_of_lt_zero h0
      have hsz : vs.toArray.size = xs.length := by rw [List.size_toArray, rs.length]
      refine getItem_list_neg hIs rfl (by simp only [Builtin.List.listFitsIndex, Bool.and_eq_true, decide_eq_true_eq]; omega) (by rw [hsz]; omega) ?_ (h v s P (Post.refl G) r)
      have e : (Int.negSucc m + (xs.length : Int)).toNat = vs.toArray.size - (m + 1) := by rw [hsz]; omega
      rw [← e]; simpa using hv
    · obtain ⟨h1, rfl⟩ := seqIndex_nonneg hj (by omega)
      exact wpAny_getItem_list hIs (by omega) (by omega) (by simpa using hv) (h v s P (Post.refl G) r)
theorem EvS.item {value slice : Expr} {pos : Pos} {a b d : D} (hv : EvS Θ n P₀ env σ value a) (hi : EvS Θ n P₀ env σ slice b) (ho : OpOk Θ n P₀ getItem a b d) (hT : ∃ T id, typeLookup (.type T) "__getitem__" = pure (some (.builtin id)) ∧ ∀ (s : Shared) (P : Fz) v, Good Θ P s.heap → Rep P v a → s.TypeIs v T)
    (hs : ∀ o i, subscripted slice false o i = operate [o, i] (getItem o i) := by intro _ _; with_unfolding_all rfl) (ht : ∀ o r, letTemporaryGo value o r = pure () := by intro _ _; with_unfolding_all rfl) : EvS Θ n P₀ env σ (.Subscript value slice pos) d :=
  fun A s P Q E R l S h => Subscript_ (EvS.two hv hi R l S fun va vb s₁ P₁ p ra rb => by
    obtain ⟨T, id, hl, hty⟩ := hT
    exact subscriptTail_builtin (hty s₁ P₁ va p.good ra) hl (ho A s₁ P₁ va vb Q E R (l.trans p.le) p.good ra rb fun v s₂ P₂ p₂ r => h v s₂ P₂ (p.trans p₂) r) (hs _ _) (ht _))
theorem tyList {xs : List D} : ∃ T id, typeLookup (.type T) "__getitem__" = pure (some (.builtin id)) ∧ ∀ (s : Shared) (P : Fz) v, Good Θ P s.heap → Rep P v (.list xs) → s.TypeIs v T :=
  ⟨"list", _, list_getitem_lookup, fun s P v G r => by cases r with | list hp rs => exact ⟨_, G.has _ _ hp, rfl⟩⟩
/-! cuts -/
noncomputable def PartS (Θ : Th) (n : Nat) (P₀ : Fz) (env : Env) (σ : Store) (e : Option Expr) (i : Option Int) : Prop := match e, i with
  | .none, .none => True
  | some e, some i => EvS Θ n P₀ env σ e (.int i)
  | _, _ => False
theorem part_ok {e : Option Expr} {i : Option Int} {A : Around} {s : Shared} {P : Fz} {Q E : Value → Shared → Prop} (hp : PartS Θ n P₀ env σ e i) (R : Room n A) (l : P₀.le P) (S : StE Θ env σ P s.heap)
    (h : ∀ v s' P', Post Θ s s' P P' → IsPart v i → Q v s') : wpAny Θ.M A (evalPart e env) Q E s := by
  cases e with
  | none => cases i with
    | none => rw [evalPart_none]; exact wpAny_pure (h _ s P (Post.refl S.good) .none)
    | some i => exact hp.elim
  | some e => cases i with
    | none => exact hp.elim
    | some i => rw [evalPart_some]; exact hp A s P _ _ R l S fun v s' P' p r => by cases r; exact h _ s' P' p (.int _ _)
theorem EvS.cutBytes {value : Expr} {lo hi : Option Expr} {p pos : Pos} {b : Array UInt8} {i j : Option Int} (hv : EvS Θ n P₀ env σ value (.bytes b)) (hlo : PartS Θ n P₀ env σ lo i) (hhi : PartS Θ n P₀ env σ hi j) (hz : b.size ≤ 16777216)
    (ht : ∀ b t r, letTemporaryGo value (.bytes b t) r = pure () := by intro _ _ _; with_unfolding_all rfl) : EvS Θ n P₀ env σ (.Subscript value (.Slice lo hi .none p) pos) (.bytes (KBy.picked b i j)) :=
  fun A s P Q E R l S h => Subscript_ (hv A s P _ _ R l S fun v s₁ P₁ p₁ r₁ => wpAny_Slice (part_ok hlo R (l.trans p₁.le) (S.post p₁) fun vl s₂ P₂ p₂ hl => part_ok hhi R ((l.trans p₁.le).trans p₂.le) ((S.post p₁).post p₂) fun vu s₃ P₃ p₃ hu => by
    rw [evalPart_none]
    refine wpAny_pure ?_
    cases r₁ with | bytes _ t =>
      refine tail_of_ItemOn ⟨"bytes", _, FB.slot_bytes_getitem.lookup, typeIs_bytes _ _ _, getItem_meets (typeIs_bytes _ _ _) (by decide) FB.slot_bytes_getitem FB.entry_bytes_getitem (FB.args_bytes_getitem_2 _ _) (KBc.meets_slice2 b t _ hl hu)
        ⟨Heap.IsSliceOf.new _ _ _ _, Nat.le_trans (KBc.size_picked_le b i j) (by rw [sizeLine_eq]; exact hz), fun t' k => ?_⟩⟩ (ops := [.ref s₃.heap.objs.size, .bytes b t]) rfl (fun r => ht b t r)
      have p := (p₁.trans p₂).trans p₃
      exact h _ _ _ (p.trans (Post.pushLoose (t := k) p.good)) (.bytes _ _)))
theorem EvS.cutList {value : Expr} {lo hi : Option Expr} {p pos : Pos} {xs : List D} {i j : Option Int} (hv : EvS Θ n P₀ env σ value (.list xs)) (hlo : PartS Θ n P₀ env σ lo i) (hhi : PartS Θ n P₀ env σ hi j) (hz : xs.length ≤ 16777216)
    (ht : ∀ o r, letTemporaryGo value o r = pure () := by intro _ _; with_unfolding_all rfl) :
    EvS Θ n P₀ env σ (.Subscript value (.Slice lo hi .none p) pos) (.list ((xs.drop (i.elim 0 (clipAt xs.length))).take (j.elim xs.length (clipAt xs.length) - i.elim 0 (clipAt xs.length)))) :=
  fun A s P Q E R l S h => wpAny_Subscript_list_slice (hv A s P _ _ R l S fun v s₁ P₁ p₁ r₁ => part_ok hlo R (l.trans p₁.le) (S.post p₁) fun vl s₂ P₂ p₂ hl => part_ok hhi R ((l.trans p₁.le).trans p₂.le) ((S.post p₁).post p₂) fun vu s₃ P₃ p₃ hu => by
    cases r₁ with
    | @list a k vs _ hp rs =>
      have p := (p₁.trans p₂).trans p₃
      have hsz : vs.toArray.size = xs.length := by rw [List.size_toArray, rs.length]
      refine ⟨a, vs.toArray, i, j, rfl, ⟨_, p.good.has _ _ ((p₂.trans p₃).le _ _ hp), rfl, _, rfl⟩, by rw [hsz, sizeLine_eq]; exact hz, hl, hu, ?_⟩
      have q := Post.pushLoose (t := s₃.toks) (o := { cls := .type "slice", data := .fields #[vl, vu, .none] }) p.good
      have q2 := Post.push (s := { s₃ with heap := s₃.heap.push { cls := .type "slice", data := .fields #[vl, vu, .none] } }) (o := { cls := .type "list", data := .seq (slicePick vs.toArray i j .none) }) (t := s₃.toks) q.good rfl
      have fin := h (.ref (s₃.heap.objs.size + 1)) _ _ ((p.trans q).trans q2) ?_
      · exact fin
      · have e : slicePick vs.toArray i j .none = ((vs.drop (i.elim 0 (clipAt xs.length))).take (j.elim xs.length (clipAt xs.length) - i.elim 0 (clipAt xs.length))).toArray := by
          have := slicePick_plain vs.toArray i j
          rw [hsz] at this
          exact this
        refine .list (n := 0) (vs := (vs.drop (i.elim 0 (clipAt xs.length))).take (j.elim xs.length (clipAt xs.length) - i.elim 0 (clipAt xs.length))) ?_ (((rs.drop _).take _).mono ((p₂.trans p₃).trans (q.trans q2)).le)
        right
        rw [e]
        exact ⟨by rw [Heap.size_push], rfl⟩) ht
end
end Mine
namespace Mine
open PySem PySem.W PyProof.Rows PySem.Calls PySem.Spec

section
variable {Θ : Th} {n : Nat} {P₀ : Fz} {env : Env} {σ : Store} {fz : List Str}

theorem ExS.unpack2 {x y : Str} {p q tp pos : Pos} {k : Nat} {value : Expr} {a b : D} (hv : EvS Θ n P₀ env σ value (.tup [a, b])) (hx : env.kindOf x = some .local := by rfl) (hy : env.kindOf y = some .local := by rfl)
    (hs : swapsWithSole [.Tuple [.Name x p, .Name y q] k tp] value pos.line env = pure false := by rfl) (hw : swappedStores [.Tuple [.Name x p, .Name y q] k tp] value env = pure Option.none := by rfl) :
    ExS Θ n P₀ env σ fz (.Assign [.Tuple [.Name x p, .Name y q] k tp] value pos) (.next ((y, b) :: (x, a) :: σ) fz) :=
  fun A s P Q E R l S h => Assign_Tuple (hv A s P _ _ R l S.toStE fun v s₁ P₁ p₁ r => by
    cases r with
    | @tup t m vs _ hp rs =>
      cases rs with | @cons va _ vs' _ ra rs => cases rs with | @cons vb _ vs'' _ rb rs =>
        cases rs
        refine assign_Tuple_tuple (items := #[va, vb]) R.handled ⟨_, p₁.good.has _ _ hp, rfl, m, rfl⟩ rfl rfl fun h' hx' => ?_
        have p₂ : Post Θ s₁ { s₁ with heap := h', toks := s₁.toks } P₁ P₁ := Post.keeps p₁.good fun b o e => hx' b o (Nat.ne_of_lt (Heap.lt_size e)) e
        have S₂ := (S.post p₁).post p₂
        show wpAny Θ.M A (assignInOrder [PySem.assign (.Name x p) env, PySem.assign (.Name y q) env] [va, vb]) _ _ _
        unfold assignInOrder
        refine wpAny_bind (wpAny_holding (wpAny_assign_Name (wp_storeL S₂ hx ra fun s₃ p₃ S₃ => ?_)))
        unfold assignInOrder
        refine wpAny_bind (wpAny_holding (wpAny_assign_Name (wp_storeL S₃ hy rb fun s₄ p₄ S₄ => ?_)))
        unfold assignInOrder
        exact wpAny_pure (h s₄ P₁ (((p₁.trans p₂).toX.trans p₃).trans p₄) S₄)) hs hw
theorem EvS.list {es : List Expr} {pos : Pos} {ds : List D} (hs : EvSs Θ n P₀ env σ es ds) (hl : ds.length ≤ 16777216) : EvS Θ n P₀ env σ (.List es pos) (.list ds) :=
  fun A s P Q E R l S h => wpAny_List (hs A s P pos _ _ R l S fun vs s₁ P₁ p rs => ⟨by rw [rs.length, sizeLine_eq]; exact hl,
    h _ _ _ (p.trans (Post.push (t := s₁.toks) p.good rfl)) (.list (n := 0) (Fz.add_at _ _ _) (rs.mono (Fz.add_le _ _ _)))⟩)
noncomputable def rangeD (a c : Int) (k : Nat) : List D := (List.range k).map fun (i : Nat) => D.int (a + i * c)
theorem IterOk.range {a b c : Int} {k : Nat} (hs : Builtin.Range.small a b c = true) (hk : Builtin.Range.rangeSize a b c = (k : Int)) : IterOk Θ n (.range a b c) (rangeD a c k) := by
  intro A s P v Q E R G r h
  cases r with
  | @range ad _ _ _ t u v hp =>
    refine wpAny_pyIter_range (G.has _ _ hp) hs ?_
    refine h s.heap.objs.size [s.heap.objs.size] [s.heap.objs.size] (fun i h => IsRangeIter h s.heap.objs.size (a + (i : Nat) * c) ((k : Int) - (i : Nat)) c) _ ⟨?_, ?_, Post.pushLoose (t := s.toks) G, ?_, ?_, ?_⟩
    · intro A' hA'
      have W := Walks.range (prog := Θ.prog) (w := Θ.w) (A := A') hA' s.heap.objs.size a c k
      have hl : (rangeD a c k).length = k := by simp [rangeD]
      rw [hl]
      refine ⟨W.sub, W.frame, fun i s Q E hi st hQ => W.item i s Q E hi st fun v h' tk hv st' hk => hQ v h' tk ?_ st' hk, W.done, W.self⟩
      obtain ⟨t, rfl⟩ := hv
      exact ⟨.int (a + i * c), by simp [rangeD, hi], .int _ _⟩
    · show IsRangeIter _ _ _ _ _
      rw [hk]
      simpa using Heap.get?_push_size _ rfl
    · intro b hb; simp at hb; subst hb; exact none_of_size (Nat.le_refl _)
    · intro b hb; simp at hb; subst hb; exact .inr (none_of_size (Nat.le_refl _))
    · intro i h st b hb
      simp at hb
      subst hb
      exact ⟨_, st⟩
end
end Mine
namespace Mine
open PySem PySem.W PyProof.Rows PySem.Calls PySem.Spec

section
variable {Θ : Th} {n : Nat} {P₀ : Fz} {env : Env} {σ : Store}

/-- the tests of a comprehension's clause -/
noncomputable def EvIfs (Θ : Th) (n : Nat) (P₀ : Fz) (env : Env) (σ : Store) (ifs : List Expr) (b : Bool) : Prop :=
  ∀ (A : Around) (s : Shared) (P : Fz) (Q : Bool → Shared → Prop) (E : Value → Shared → Prop), Room n A → P₀.le P → StE Θ env σ P s.heap →
    (∀ s' P', Post Θ s s' P P' → Q b s') →
    wpAny Θ.M A (forIn ifs true fun c r => if r = true then do let ok ← isTrue c env (eval c env); pure (ForInStep.yield ok) else pure (ForInStep.yield r)) Q E s
theorem EvIfs.nil : EvIfs Θ n P₀ env σ [] true := fun A s P Q E R l S h => by rw [List.forIn_nil]; exact wpAny_pure (h s P (Post.refl S.good))
theorem EvIfs.one {c : Expr} {b : Bool} (hc : EvT Θ n P₀ env σ c b) : EvIfs Θ n P₀ env σ [c] b := fun A s P Q E R l S h => by
  rw [List.forIn_cons]
  simp only [if_true]
  refine wpAny_bind (wpAny_bind (hc A s P _ _ R l S fun s₁ P₁ p => wpAny_pure ?_))
  dsimp only
  rw [List.forIn_nil]
  exact wpAny_pure (h s₁ P₁ p)

/-- what a comprehension's block sees of the frame around it -/
noncomputable def Sees (env env' : Env) (y : Str) : Prop := (env'.kindOf y = some .cell ∨ (env'.kindOf y = some .free ∧ (y == ("__classdict__" : Str)) = false)) ∧ env'.cells.lookup y = env.cells.lookup y ∧ env.kindOf y ≠ some .local
noncomputable def SeesAll (env env' : Env) (σ : Store) : Store → Prop
  | [] => True
  | (y, d) :: r => (σ.lookup y = some d ∧ Sees env env' y) ∧ SeesAll env env' σ r
theorem SeesAll.at {env' : Env} : ∀ {σc : Store}, SeesAll env env' σ σc → ∀ y d, σc.lookup y = some d → σ.lookup y = some d ∧ Sees env env' y
  | [], _, y, d, h => by simp at h
  | (z, e) :: r, hs, y, d, h => by
    rcases lookup_cons_ne h with ⟨rfl, rfl⟩ | ⟨_, h⟩
    · exact hs.1
    · exact SeesAll.at hs.2 y d h
theorem Look.seen {env' : Env} {m m' : Str → Option Value} {h : Heap} {y : Str} {v : Value} (L : Look env m h y v) (hs : Sees env env' y) : Look env' m' h y v := by
  obtain ⟨hk, hc, hl⟩ := hs
  have key : ∃ c, env.cells.lookup y = some c ∧ h.IsCell c (some v) := by
    cases L with
    | loc h1 h2 => exact absurd h1 hl
    | cell c h1 h2 h3 => exact ⟨c, h2, h3⟩
    | free c h1 h2 h3 h4 => exact ⟨c, h2, h3⟩
  obtain ⟨c, h2, h3⟩ := key
  rcases hk with h1 | ⟨h1, h4⟩
  · exact .cell c h1 (hc.trans h2) h3
  · exact .free c h1 (hc.trans h2) h3 h4

structure CompInv (Θ : Th) (P₁ : Fz) (wr : List Addr) (Dd C : Addr) (s : Shared) (P : Fz) (s' : Shared) (P' : Fz) (out : List D) : Prop where
  post : Post Θ s s' P P'
  le : P₁.le P'
  acc : ∃ ys : List Value, s'.heap.PlainList Dd ys.toArray ∧ Reps P' ys out
  ns : ∃ m, s'.heap.Ns C m
  nD : ∀ o, ¬ P' Dd o
  nC : ∀ o, ¬ P' C o
  nw : ∀ b ∈ wr, ∀ o, ¬ P' b o
theorem ite_on {c : Prop} [Decidable c] {a b : Prop} (h1 : c → a) (h2 : ¬ c → b) : if c then a else b := by
  split
  · exact h1 (by assumption)
  · exact h2 (by assumption)

section
variable {P P₁ P' P₃ : Fz} {s s' s₃ : Shared} {A : Around} {Dd C : Addr} {wr : List Addr} {out out' : List D} {h' : Heap}
theorem CompInv.walk (J : CompInv Θ P₁ wr Dd C s P s' P' out) {tk : Nat} (sep : ∀ b ∈ wr, ¬ Θ.T b ∧ s.heap.get? b = none) (Dw : Dd ∉ wr) (Cw : C ∉ wr) (hk : ∀ b o, b ∉ wr → s'.heap.get? b = some o → h'.get? b = some o) :
    CompInv Θ P₁ wr Dd C s P { s' with heap := h', toks := tk } P' out := by
  obtain ⟨p, le, ⟨ys, hp, r⟩, ⟨m, hn⟩, nD, nC, nw⟩ := J
  exact ⟨⟨p.gens, p.drawn, p.os, ⟨fun b o q => hk b o (fun hb => nw b hb o q) (p.good.has b o q), Θ.tabMono p.good.tab (.refl _) fun t o ht e => hk t o (fun hb => (sep t hb).1 ht) e, p.good.top, p.good.nt⟩, p.le, p.new,
    fun b o e ht => hk b o (fun hb => by rw [(sep b hb).2] at e; cases e) (p.keep b o e ht), p.pre⟩, le, ⟨ys, hp.at fun o e => hk _ o Dw e, r⟩, ⟨m, hn.at' fun o e => hk _ o Cw e⟩, nD, nC, nw⟩
theorem Post.but (p : Post Θ s s' P P') {a : Addr} {tk : Nat} (ha : ∀ o, ¬ P' a o) (hT : ¬ Θ.T a) (sa : s.heap.get? a = none) (hs : Heap.SameBut a s'.heap h') : Post Θ s { s' with heap := h', toks := tk } P P' :=
  ⟨p.gens, p.drawn, p.os, p.good.keepsBut ha hT fun b o hb e => hs.extBut b o hb e, p.le, p.new, fun b o e ht => hs.extBut b o (by rintro rfl; rw [sa] at e; cases e) (p.keep b o e ht), p.pre⟩
theorem CompInv.assign {env' : Env} {x : Str} {px : Pos} {v : Value} {Q : Unit → Shared → Prop} {E : Value → Shared → Prop} (J : CompInv Θ P₁ wr Dd C s P s' P' out) (hloc : env'.locals = C) (hxk : env'.kindOf x = some .local) (hfn : env'.scope.kind = .function) (hT : ¬ Θ.T C) (sC : s.heap.get? C = none) (hCD : C ≠ Dd)
    (h : ∀ h₂ m, h₂.Ns C m → m x = some v → Heap.SameBut C s'.heap h₂ → CompInv Θ P₁ wr Dd C s P { s' with heap := h₂, toks := s'.toks + 1 } P' out → Q () { s' with heap := h₂, toks := s'.toks + 1 }) : wpAny Θ.M A (PySem.assign (.Name x px) env' v) Q E s' := by
  obtain ⟨p, le, ⟨ys, hp, r⟩, ⟨m, hn⟩, nD, nC, nw⟩ := J
  refine wpAny_assign_Name (wpAny_storeName_local hxk (hloc.symm ▸ hn) (fun h₂ hn₂ hs₂ => ?_) (notClass hfn))
  rw [hloc] at hn₂ hs₂
  exact h h₂ _ hn₂ (if_pos rfl) hs₂ ⟨p.but nC hT sC hs₂, le, ⟨ys, hp.at fun o e => hs₂.extBut _ o hCD.symm e, r⟩, ⟨_, hn₂⟩, nD, nC, nw⟩
theorem CompInv.go (J : CompInv Θ P₁ wr Dd C s P s' P' out) (q : Post Θ s' s₃ P' P₃) (tD : ¬ Θ.T Dd) (tC : ¬ Θ.T C) (hw : ∀ b ∈ wr, ∃ o, s'.heap.get? b = some o) : CompInv Θ P₁ wr Dd C s P s₃ P₃ out := by
  have key : ∀ b, (∃ o, s'.heap.get? b = some o) → (∀ o, ¬ P' b o) → ∀ o, ¬ P₃ b o := fun b ⟨o', e⟩ hb o z => by
    rcases q.new _ _ z with y | y
    · exact hb o y
    · rw [e] at y; cases y
  obtain ⟨p, le, ⟨ys, hp, r⟩, ⟨m, hn⟩, nD, nC, nw⟩ := J
  exact ⟨p.trans q, le.trans q.le, ⟨ys, hp.at fun o e => q.keep _ o e tD, r.mono q.le⟩, ⟨m, hn.at' fun o e => q.keep _ o e tC⟩, key Dd (let ⟨_, e⟩ := hp; ⟨_, e⟩) nD, key C (let ⟨o, _, _, e, _⟩ := hn; ⟨o, e⟩) nC, fun b hb => key b (hw b hb) (nw b hb)⟩
theorem CompInv.stays (J : CompInv Θ P₁ wr Dd C s P s' P' out) (q : Post Θ s' s₃ P' P₃) {b : Addr} {o : Obj} (hb : (∃ o, P₁ b o) ∨ ¬ Θ.T b) (e : s'.heap.get? b = some o) : s₃.heap.get? b = some o := by
  rcases hb with ⟨o', z⟩ | ht
  · rw [J.post.good.has b o' (J.le b o' z)] at e
    exact e ▸ q.good.has b _ (q.le b _ (J.le b _ z))
  · exact q.keep b o e ht
theorem CompInv.append {y : Value} {d : D} {Q : Value → Shared → Prop} {E : Value → Shared → Prop} (J : CompInv Θ P₁ wr Dd C s P s' P' out) (r : Rep P' y d) (hl : out.length ≤ 16777216) (e : out' = out ++ [d]) (tD : ¬ Θ.T Dd) (sD : s.heap.get? Dd = none) (hCD : C ≠ Dd)
    (h : ∀ v h₂, Heap.SameBut Dd s'.heap h₂ → CompInv Θ P₁ wr Dd C s P { s' with heap := h₂ } P' out' → Q v { s' with heap := h₂ }) : wpAny Θ.M A (call (.builtin "list.append") [.ref Dd, y]) Q E s' := by
  obtain ⟨p, le, ⟨ys, hp, rs⟩, ⟨m, hn⟩, nD, nC, nw⟩ := J
  subst e
  refine wpAny_list_append_plain (hsz := by rw [List.size_toArray, rs.length, sizeLine_eq]; omega) hp fun h₅ hl₅ hs₅ => h _ h₅ hs₅ ⟨p.but nD tD sD hs₅, le, ⟨ys ++ [y], by simpa using hl₅, rs.append (.cons r .nil)⟩, ⟨m, hn.sameBut hs₅ hCD⟩, nD, nC, nw⟩
end
theorem filt_in {ds : List D} {i : Nat} {a : D} {p : D → Bool} (f : D → D) (ha : ds[i]? = some a) (hp : p a = true) : ((ds.take (i + 1)).filter p).map f = ((ds.take i).filter p).map f ++ [f a] := by
  rw [List.take_add_one, ha, List.filter_append, List.map_append, Option.toList_some, List.filter_cons_of_pos hp]; rfl
theorem filt_out {ds : List D} {i : Nat} {a : D} {p : D → Bool} (f : D → D) (ha : ds[i]? = some a) (hp : ¬ p a = true) : ((ds.take (i + 1)).filter p).map f = ((ds.take i).filter p).map f := by
  rw [List.take_add_one, ha, List.filter_append, Option.toList_some, List.filter_cons_of_neg hp, List.filter_nil, List.append_nil]
theorem filt_len {ds : List D} (p : D → Bool) (f : D → D) (i : Nat) : ((ds.take i).filter p |>.map f).length ≤ ds.length := by
  rw [List.length_map]
  exact Nat.le_trans (List.length_filter_le _ _) (List.length_take_le' _ _)

theorem comp_inner {env' : Env} {σc : Store} {P P' : Fz} {s s' : Shared} {C : Addr} {x : Str} {a : D} {m' : Str → Option Value} {v : Value} (S : StE Θ env σ P s.heap) (p : Post Θ s s' P P') (hC : env'.locals = C) (hfn : env'.scope.kind = .function) (hT : ¬ Θ.T C)
    (hn : s'.heap.Ns C m') (hx : env'.kindOf x = some .local) (hm : m' x = some v) (r : Rep P' v a) (hs : SeesAll env env' σ σc) : StE Θ env' ((x, a) :: σc) P' s'.heap := by
  obtain ⟨m, _, hl⟩ := (S.post p).ns
  refine ⟨p.good, hfn, ⟨m', hC ▸ hn, fun y d hy => ?_⟩, hC ▸ hT⟩
  rcases lookup_cons_ne hy with ⟨rfl, rfl⟩ | ⟨_, hy⟩
  · exact ⟨v, r, .loc hx hm⟩
  · obtain ⟨h1, h2⟩ := hs.at y d hy
    obtain ⟨v', r', L⟩ := hl y d h1
    exact ⟨v', r', L.seen h2⟩

theorem comp_loop {env' : Env} {elt iter : Expr} {x : Str} {px pos : Pos} {ifs : List Expr} {scope : Scope} {σc : Store} {ds : List D} {R' : Result → Shared → Prop} {A : Around} {s s₂ : Shared} {P P₁ : Fz} {It Dd C : Addr} {fp wr : List Addr} {St : Nat → Heap → Prop} (p : D → Bool) (f : D → D)
    (hsz : ds.length ≤ 16777216) (hifs : ∀ a, a ∈ ds → EvIfs Θ n P₀ env' ((x, a) :: σc) ifs (p a)) (helt : ∀ a, a ∈ ds → p a = true → EvS Θ n P₀ env' ((x, a) :: σc) elt (f a))
    (hloc : env'.locals = C) (hfn : env'.scope.kind = .function) (hxk : env'.kindOf x = some .local) (hs : SeesAll env env' σ σc)
    (R : Room n A) (l : P₀.le P₁) (S : StE Θ env σ P s.heap) (W : Walks Θ.prog Θ.w A It fp wr ds.length (fun i v => ∃ a, ds[i]? = some a ∧ Rep P₁ v a) St) (hst : St 0 s₂.heap) (hth : ∀ i h, St i h → ∀ b ∈ fp, ∃ o, h.get? b = some o)
    (hfp : ∀ b ∈ fp, ((∃ o, P₁ b o) ∨ ¬ Θ.T b) ∧ b ≠ Dd ∧ b ≠ C) (sep : ∀ b ∈ wr, ¬ Θ.T b ∧ s.heap.get? b = none) (J0 : CompInv Θ P₁ wr Dd C s P s₂ P₁ [])
    (sD : s.heap.get? Dd = none) (sC : s.heap.get? C = none) (hCD : C ≠ Dd) (hend : ∀ s₅ P', CompInv Θ P₁ wr Dd C s P s₅ P' ((ds.filter p).map f) → R' (.ok .next) s₅) :
    codeAny Θ.M A (.compLoop (.ListComp elt [⟨.Name x px, iter, ifs, 0⟩] scope pos) 0 (.ref It) (.ref Dd) env') R' s₂ := by
  have tD := S.good.notT sD
  have tC := S.good.notT sC
  have Dw : Dd ∉ wr := fun hb => (hfp Dd (W.sub Dd hb)).2.1 rfl
  have Cw : C ∉ wr := fun hb => (hfp C (W.sub C hb)).2.2 rfl
  refine codeAny_compLoop_tests (fun k s' => ∃ i P', k = ds.length + 1 - i ∧ i ≤ ds.length ∧ St i s'.heap ∧ CompInv Θ P₁ wr Dd C s P s' P' (((ds.take i).filter p).map f)) ?_ (ds.length + 1) ⟨0, P₁, rfl, Nat.zero_le _, hst, J0⟩
  rintro k s' ⟨i, P', rfl, hi, hst', J⟩
  by_cases hlt : i < ds.length
  · refine W.item i s' _ _ hlt hst' fun v h' tk ⟨a, ha, ra⟩ hst'' hk => ?_
    have ham : a ∈ ds := List.mem_of_getElem? ha
    refine (J.walk (tk := tk) sep Dw Cw hk).assign hloc hxk hfn tC sC hCD fun h₂ m hn hm hs₂ J2 => ?_
    have st2 : St (i + 1) h₂ := W.frame _ _ _ hst'' fun b hb o e => hs₂.extBut b o (hfp b hb).2.2 e
    have hw : ∀ b ∈ wr, ∃ o, h₂.get? b = some o := fun b hb => hth _ _ st2 b (W.sub b hb)
    have S' : StE Θ env' ((x, a) :: σc) P' h₂ := comp_inner S J2.post hloc hfn tC hn hxk hm (ra.mono J.le) hs
    refine hifs a ham A _ P' _ _ R (l.trans J.le) S' fun s₃ P₃ q₃ => ite_on (fun hp => ?_) fun hp => ?_
    · refine helt a ham hp A s₃ P₃ _ _ R (l.trans (J.le.trans q₃.le)) (S'.post q₃) fun y s₄ P₄ q₄ ry => ?_
      have q := q₃.trans q₄
      refine (J2.go q tD tC hw).append ry (Nat.le_trans (filt_len p f i) hsz) (filt_in f ha hp) tD sD hCD fun _ h₅ hs₅ J5 => ⟨ds.length + 1 - (i + 1), by omega, i + 1, P₄, rfl, hlt, W.frame _ _ _ st2 fun b hb o e => hs₅.extBut b o (hfp b hb).2.1 (J2.stays q (hfp b hb).1 e), J5⟩
    · exact ⟨ds.length + 1 - (i + 1), by omega, i + 1, P₃, rfl, hlt, W.frame _ _ _ st2 fun b hb o e => J2.stays q₃ (hfp b hb).1 e, (filt_out f ha hp).symm ▸ J2.go q₃ tD tC hw⟩
  · have hil : i = ds.length := by omega
    subst hil
    rw [List.take_length] at J
    exact W.done s' _ _ hst' fun h' tk hk => hend _ P' (J.walk sep Dw Cw hk)
theorem comp_core {elt iter : Expr} {x : Str} {px pos pos' : Pos} {ifs : List Expr} {scope : Scope} {cl : List (Str × Addr)} {d : D} {ds : List D} {σc : Store} {use : Option (Value → Sem Unit)} {A : Around} {s : Shared} {P : Fz} {Q E : Value → Shared → Prop} (p : D → Bool) (f : D → D)
    (hi : EvS Θ n P₀ env σ iter d) (hit : IterOk Θ n d ds) (hsz : ds.length ≤ 16777216) (hs : ∀ C, SeesAll env (compEnvC scope cl C env) σ σc)
    (hifs : ∀ C a, a ∈ ds → EvIfs Θ n P₀ (compEnvC scope cl C env) ((x, a) :: σc) ifs (p a)) (helt : ∀ C a, a ∈ ds → p a = true → EvS Θ n P₀ (compEnvC scope cl C env) ((x, a) :: σc) elt (f a))
    (hclos : closureFor scope env = pure cl) (hcell : ∀ y ∈ scope.names, y.2 ≠ .cell) (hkind : scope.kind = .function) (hnames : ∀ y ∈ scope.names, y.2 = .local → scope.names.lookup y.1 = some .local) (hx : scope.names.lookup x = some .local)
    (hfs : ∀ x, foldedSetIterable iter env x = pure x) (R : Room n A) (l : P₀.le P) (S : StE Θ env σ P s.heap)
    (hend : ∀ P₁ wr Dd C s₅ P', s.heap.get? Dd = none → s.heap.get? C = none → C ≠ Dd → CompInv Θ P₁ wr Dd C s P s₅ P' ((ds.filter p).map f) → compPost Θ.M A E use Q (.ref Dd) C (.ok .next) s₅) :
    wpAny Θ.M A (comprehension (.ListComp elt [⟨.Name x px, iter, ifs, 0⟩] scope pos) scope env pos' (newList []) false (eval iter env) use) Q E s := by
  refine wpAny_comprehension_free rfl hfs hclos hkind hnames (hi A s P _ _ R l S fun v s₁ P₁ p₁ r => hit A s₁ P₁ v _ _ R p₁.good r fun It fp wr St s₂ K => ?_)
  have W := K.walks A R.handled
  refine wpAny_newObj_type (wpAny_newFunctionEnv hcell (by intro y hy; simp at hy) (fun h₁ hns₁ hsb₁ => ?_) hkind)
  dsimp only at hns₁ hsb₁ ⊢
  generalize hCC : (s₂.heap.push { cls := .type "list", dict := Option.none, data := .seq ([] : List Value).toArray }).objs.size = C at hns₁ hsb₁ ⊢
  rw [Heap.size_push] at hCC
  have nD := none_of_size (h := s₂.heap) (Nat.le_refl _)
  have nC := none_of_size (h := s₂.heap) (a := C) (by omega)
  have p₂ := p₁.trans K.post
  have sD := p₂.back nD
  have sC := p₂.back nC
  have hCD : C ≠ s₂.heap.objs.size := by omega
  have lt : ∀ b o, s₂.heap.get? b = some o → b ≠ C := fun b o e => by rintro rfl; rw [nC] at e; cases e
  have old : ∀ b o, s₂.heap.get? b = some o → h₁.get? b = some o := fun b o e => hsb₁.extBut b o (lt b o e) (Heap.get?_push_of_some _ (Heap.get?_push_of_some _ e))
  have hst₁ : St 0 h₁ := W.frame _ _ _ K.start fun b _ o e => old b o e
  have ng : ∀ {t}, Θ.T t → s₁.heap.get? t ≠ none := fun ht e => by obtain ⟨o, q⟩ := Θ.tabIn p₁.good.tab ht; rw [e] at q; cases q
  refine (fun loop => codeAny_compStart_list loop (W.self 0 _ _ _ hst₁ loop)) ?_
  refine comp_loop p f hsz (hifs C) (helt C) rfl hkind (lookup_relabel_local hx) (hs C) R (l.trans p₁.le) S W hst₁ K.there (fun b hb => ⟨(K.fpIn b hb).imp id fun z ht => ng ht z, ?_⟩) (fun b hb => ⟨fun ht => ng ht (K.wrNew b hb), p₁.back (K.wrNew b hb)⟩)
    ⟨p₂.trans (Post.keeps K.post.good old), .refl _, ⟨[], ⟨0, hsb₁.extBut _ _ hCD.symm (Heap.get?_push_of_some _ (Heap.get?_push_size _ rfl))⟩, .nil⟩, ⟨_, hns₁⟩, K.post.good.notIn nD, K.post.good.notIn nC, fun b hb o q => ?_⟩ sD sC hCD fun s₅ P' J => hend _ _ _ _ s₅ P' sD sC hCD J
  · obtain ⟨o, e⟩ := K.there 0 _ K.start b hb
    exact ⟨Nat.ne_of_lt (Heap.lt_size e), lt b o e⟩
  · have := p₁.good.has b o q
    rw [K.wrNew b hb] at this; cases this
theorem CompInv.close {P P₁ P' : Fz} {s s' : Shared} {Dd C : Addr} {wr : List Addr} {out : List D} {Q : Value → Shared → Prop} (J : CompInv Θ P₁ wr Dd C s P s' P' out) (sD : s.heap.get? Dd = none) (sC : s.heap.get? C = none) (hCD : C ≠ Dd)
    (h : ∀ (v : Value) (s' : Shared) (P' : Fz), Post Θ s s' P P' → Rep P' v (.list out) → Q v s') : ∃ m, s'.heap.Ns C m ∧ ∀ h', Heap.SameBut C s'.heap h' → Q (.ref Dd) { s' with heap := h' } := by
  obtain ⟨p, le, ⟨ys, ⟨k, hp⟩, r⟩, ⟨m, hn⟩, nD, nC, nw⟩ := J
  exact ⟨m, hn, fun h' hs => h _ _ _ ((p.but nC (fun ht => by obtain ⟨o, e⟩ := p.pre _ ht; rw [sC] at e; cases e) sC hs).freeze sD (hs.extBut _ _ hCD.symm hp)) (.list (n := k) (Fz.add_at _ _ _) (r.mono (Fz.add_le _ _ _)))⟩
theorem EvS.comp {elt iter : Expr} {x : Str} {px pos : Pos} {ifs : List Expr} {scope : Scope} {cl : List (Str × Addr)} {d : D} {ds : List D} {σc : Store} (p : D → Bool) (f : D → D)
    (hi : EvS Θ n P₀ env σ iter d) (hit : IterOk Θ n d ds) (hsz : ds.length ≤ 16777216) (hs : ∀ C, SeesAll env (compEnvC scope cl C env) σ σc)
    (hifs : ∀ C a, a ∈ ds → EvIfs Θ n P₀ (compEnvC scope cl C env) ((x, a) :: σc) ifs (p a)) (helt : ∀ C a, a ∈ ds → p a = true → EvS Θ n P₀ (compEnvC scope cl C env) ((x, a) :: σc) elt (f a))
    (hclos : closureFor scope env = pure cl := by rfl) (hcell : ∀ y ∈ scope.names, y.2 ≠ .cell := by decide) (hkind : scope.kind = .function := by rfl) (hnames : ∀ y ∈ scope.names, y.2 = .local → scope.names.lookup y.1 = some .local := by decide) (hx : scope.names.lookup x = some .local := by rfl)
    (hfs : ∀ x, foldedSetIterable iter env x = pure x := by intro _; rfl) :
    EvS Θ n P₀ env σ (.ListComp elt [⟨.Name x px, iter, ifs, 0⟩] scope pos) (.list ((ds.filter p).map f)) := by
  intro A s P Q E R l S h
  rw [eval_ListComp]
  refine comp_core p f hi hit hsz hs hifs helt hclos hcell hkind hnames hx hfs R l S fun P₁ wr Dd C s₅ P' sD sC hCD J => ?_
  exact J.close sD sC hCD h
end
end Mine
namespace Mine
open PySem PySem.W PyProof.Rows PySem.Calls PySem.Spec
section
variable {Θ : Th} {n : Nat}
noncomputable def bytesD (b : Array UInt8) : List D := b.toList.map fun c => D.int (c.toNat : Int)
theorem IterOk.bytes {b : Array UInt8} : IterOk Θ n (.bytes b) (bytesD b) := by
  intro A s P v Q E R G r h
  cases r with
  | bytes _ t =>
    refine KBw.pyIter_bytes ?_
    refine h s.heap.objs.size [s.heap.objs.size] [s.heap.objs.size] (fun i h => KBw.IsBytesIter h s.heap.objs.size b t i) _ ⟨?_, ?_, Post.pushLoose (t := s.toks) G, ?_, ?_, ?_⟩
    · intro A' hA'
      have W := KBw.walks (prog := Θ.prog) (w := Θ.w) (A := A') hA' s.heap.objs.size b t
      have hl : (bytesD b).length = b.size := by simp [bytesD]
      rw [hl]
      refine ⟨W.sub, W.frame, fun i s Q E hi st hQ => W.item i s Q E hi st fun v h' tk hv st' hk => hQ v h' tk ?_ st' hk, W.done, W.self⟩
      obtain ⟨c, u, hc, rfl⟩ := hv
      exact ⟨.int (c.toNat : Int), by simp [bytesD, hc], .int _ _⟩
    · exact ⟨_, Heap.get?_push_size _ rfl, rfl, rfl⟩
    · intro b hb; simp at hb; subst hb; exact none_of_size (Nat.le_refl _)
    · intro b hb; simp at hb; subst hb; exact .inr (none_of_size (Nat.le_refl _))
    · intro i h st b hb
      simp at hb
      subst hb
      obtain ⟨o, ho, _⟩ := st
      exact ⟨o, ho⟩
end
end Mine
namespace Mine
open PySem PySem.W PyProof.Rows PySem.Calls PySem.Spec
section
variable {Θ : Th} {n : Nat} {P₀ : Fz}
/-- iter(..) as a call: the walk's facts come with it -/
theorem call_iter {A : Around} {s : Shared} {P : Fz} {v : Value} {d : D} {ds : List D} {Q E : Value → Shared → Prop} (hit : IterOk Θ n d ds) (R : Room (n + 1) A) (G : Good Θ P s.heap) (r : Rep P v d)
    (h : ∀ (I : Addr) (fp wr : List Addr) (St : Nat → Heap → Prop) (s' : Shared), Walk Θ A.in1 I fp wr ds P St s s' → Q (.ref I) s') : wpAny Θ.M A (call (.builtin "iter") [v]) Q E s := by
  refine call_function_entry (by decide +kernel) (by decide +kernel) kdk_entry_iter (kdk_args_iter _) ?_
  unfold Builtin.«iter»
  refine wpAny_bind (m := someArgs "iter" 1 2 _) (wpAny_of_eq (a := [v]) (by first | rfl | kernel_rfl!) ?_)
  show wpAny _ _ (pyIter v >>= _) _ _ _
  refine wpAny_bind (hit A.in1 s P v _ _ R.in1 G r fun I fp wr St s' W => ?_)
  exact wpAny_pure ⟨_, rfl, h I fp wr St s' W⟩
end
end Mine
namespace Mine
open PySem PySem.W PyProof.Rows PySem.Calls PySem.Spec

/-! functions that close over cells; lambdas -/
noncomputable def envF (fd : FuncData) (L a : Addr) : Env := newEnv fd.scope L fd.globals fd.closure (fd.qualname ++ ".<locals>.") (some a) fd.code none fd.builtins
section
variable {Θ : Th} {n : Nat} {P₀ : Fz}
/-- a closed-over name, its cell frozen -/
noncomputable def FreeAt (P : Fz) (fd : FuncData) (x : Str) (d : D) : Prop :=
  ∃ c v o, fd.closure.lookup x = some c ∧ P c o ∧ o.data = .cell (some v) ∧ Rep P v d ∧ fd.scope.names.lookup x = some .free ∧ (x == ("__classdict__" : Str)) = false
/-- all cells of the closure frozen -/
noncomputable def ClosAt (P : Fz) (fd : FuncData) : Prop := ∀ x c, fd.closure.lookup x = some c → ∃ o v, P c o ∧ o.data = .cell (some v)
structure FunF (P : Fz) (a : Addr) (fd : FuncData) (σf : Store) : Prop where
  obj : ∃ o, P a o ∧ o.data = .func fd
  g : fd.globals = mainGlobals
  b : fd.builtins = builtinsNs
  code : ∃ c oc vs t, fd.code = .ref c ∧ P c oc ∧ oc.data = .fields vs ∧ vs[1]? = some (.str fd.qualname t)
  free : ∀ x d, σf.lookup x = some d → FreeAt P fd x d
  clos : ClosAt P fd
  apart : fd.closure.Pairwise fun x y => x.2 ≠ y.2
  nocell : ∀ x ∈ fd.scope.names, x.2 ≠ .cell
  co : fd.scope.isCoroutine = false
  gen : fd.scope.isGenerator = false
  kind : fd.scope.kind = .function
theorem FreeAt.mono {P P' : Fz} {fd : FuncData} {x : Str} {d : D} (h : FreeAt P fd x d) (hl : P.le P') : FreeAt P' fd x d :=
  let ⟨c, v, o, h1, h2, h3, h4, r⟩ := h; ⟨c, v, o, h1, hl _ _ h2, h3, h4.mono hl, r⟩
theorem FunF.mono {P P' : Fz} {a : Addr} {fd : FuncData} {σf : Store} (h : FunF P a fd σf) (hl : P.le P') : FunF P' a fd σf :=
  ⟨let ⟨o, x, y⟩ := h.obj; ⟨o, hl _ _ x, y⟩, h.g, h.b, let ⟨c, oc, vs, t, x, y, z⟩ := h.code; ⟨c, oc, vs, t, x, hl _ _ y, z⟩, fun x d e => (h.free x d e).mono hl, fun x c e => let ⟨o, v, y, z⟩ := h.clos x c e; ⟨o, v, hl _ _ y, z⟩, h.apart, h.nocell, h.co, h.gen, h.kind⟩
theorem FunF.fun {P : Fz} {a : Addr} {fd : FuncData} {σf : Store} (h : FunF P a fd σf) : FunAt P a := let ⟨o, x, y⟩ := h.obj; ⟨o, fd, x, y⟩

theorem enteredF {s : Shared} {P : Fz} {fd : FuncData} {a : Addr} {names : List Str} {vs : List Value} {ds : List D} {σf : Store} {h₁ : Heap} (F : FunF P a fd σf) (hk : ∀ x ∈ names, fd.scope.names.lookup x = some .local) (hnd : names.Nodup) (hlen : vs.length = names.length) (hf : ∀ x ∈ names, σf.lookup x = none)
    (G : Good Θ P s.heap) (rs : Reps P vs ds) (hns : h₁.Ns s.heap.objs.size (fun x => (names.zip vs).reverse.lookup x)) (hsb : Heap.SameBut s.heap.objs.size (s.heap.push { cls := .type "frame", data := .dict #[] }) h₁) :
    StX Θ (envF fd s.heap.objs.size a) (bindD names ds σf) (fd.closure.map (·.1)) P h₁ ∧ (∀ b o, s.heap.get? b = some o → h₁.get? b = some o) := by
  have keep : ∀ b o, s.heap.get? b = some o → h₁.get? b = some o := fun b o e => hsb.extBut b o (Nat.ne_of_lt (Heap.lt_size e)) (Heap.get?_push_of_some _ e)
  have hnone : s.heap.get? s.heap.objs.size = none := none_of_size (Nat.le_refl _)
  have G₁ := G.keeps keep
  have look : ∀ (names : List Str) (vs : List Value) (ds : List D) (m : Str → Option Value) (σ : Store), Reps P vs ds → vs.length = names.length → names.Nodup → (∀ x ∈ names, m x = (names.zip vs).lookup x) →
      ∀ x d, (bindD names ds σ).lookup x = some d → (x ∈ names ∧ ∃ v, Rep P v d ∧ m x = some v) ∨ (x ∉ names ∧ σ.lookup x = some d) := by
    intro names
    induction names with
    | nil => intro vs ds m σ rs _ _ _ x d hx; exact .inr ⟨List.not_mem_nil, by simpa [bindD] using hx⟩
    | cons y names ih =>
      intro vs ds m σ rs hl hnd hm x d hx
      cases vs with
      | nil => simp at hl
      | cons v vs =>
        cases rs with
        | @cons _ dy _ ds r rs =>
          have hnd' := List.nodup_cons.mp hnd
          rw [bindD] at hx
          have hm' : ∀ z ∈ names, m z = (names.zip vs).lookup z := fun z hz => by
            rw [hm z (List.mem_cons_of_mem _ hz), List.zip_cons_cons, List.lookup_cons]
            have : (z == y) = false := by
              rw [beq_eq_false_iff_ne]; rintro rfl; exact hnd'.1 hz
            rw [this]
          rcases ih vs ds m ((y, dy) :: σ) rs (by simpa using hl) hnd'.2 hm' x d hx with ⟨h1, h2⟩ | ⟨h1, h2⟩
          · exact .inl ⟨List.mem_cons_of_mem _ h1, h2⟩
          · rcases lookup_cons_ne h2 with ⟨rfl, rfl⟩ | ⟨hne, h2⟩
            · refine .inl ⟨List.mem_cons_self, v, r, ?_⟩
              rw [hm x List.mem_cons_self, List.zip_cons_cons, List.lookup_cons, beq_self_eq_true]
            · exact .inr ⟨fun hm => (List.mem_cons.mp hm).elim hne h1, h2⟩
  have rev : ∀ x ∈ names, (names.zip vs).reverse.lookup x = (names.zip vs).lookup x := by
    have gen : ∀ (l : List (Str × Value)), (l.map (·.1)).Nodup → ∀ x, l.reverse.lookup x = l.lookup x := by
      intro l
      induction l with
      | nil => intro _ x; rfl
      | cons p l ih =>
        obtain ⟨y, u⟩ := p
        intro hnd x
        have hnd' := List.nodup_cons.mp hnd
        rw [List.reverse_cons, List.lookup_append, ih hnd'.2 x, List.lookup_cons]
        cases hb : x == y with
        | true =>
          have hx : x = y := beq_iff_eq.mp hb
          have hn : l.lookup x = none := by
            rw [List.lookup_eq_none_iff]
            intro q hq
            have : q.1 ∈ l.map (·.1) := List.mem_map_of_mem hq
            rw [bne_iff_ne]
            rintro e
            rw [hx] at e
            exact hnd'.1 (e ▸ this)
          rw [hn, List.lookup_cons, hb]; rfl
        | false =>
          rw [List.lookup_cons, hb]
          cases l.lookup x <;> rfl
    intro x _
    refine gen _ ?_ x
    rw [List.map_fst_zip (by omega)]
    exact hnd
  refine ⟨⟨⟨G₁, F.kind, ⟨_, hns, fun x d hx => ?_⟩, G.notT hnone⟩, fun o => G.notIn hnone o, F.apart, fun x c hc => ?_⟩, keep⟩
  · rcases look names vs ds (fun x => (names.zip vs).reverse.lookup x) σf rs hlen hnd rev x d hx with ⟨h1, v, h2, h3⟩ | ⟨h1, h2⟩
    · exact ⟨v, h2, .loc (hk x h1) h3⟩
    · obtain ⟨c, v, o, q1, q2, q3, q4, q5, q6⟩ := F.free x d h2
      exact ⟨v, q4, .free c q5 q1 ⟨o, keep _ _ (G.has _ _ q2), q3⟩ q6⟩
  · obtain ⟨o, v, q1, q2⟩ := F.clos x c hc
    exact ⟨⟨some v, o, keep _ _ (G.has _ _ q1), q2⟩, fun hx => absurd (List.mem_map.mpr ⟨(x, c), mem_of_lookup hc, rfl⟩) hx⟩

theorem leftF {s : Shared} {P P' : Fz} {fd : FuncData} {a : Addr} {σf : Store} {h₁ : Heap} {tk : Nat} {s₂ : Shared} (F : FunF P a fd σf) (G : Good Θ P s.heap) (keep : ∀ b o, s.heap.get? b = some o → h₁.get? b = some o) (hsz : h₁.get? s.heap.objs.size ≠ none)
    (p : PostX Θ (envF fd s.heap.objs.size a) { s with heap := h₁, toks := tk } s₂ P P') (G' : Good Θ P' s₂.heap) : Post Θ s s₂ P P' := by
  have nL : ∀ b o, s.heap.get? b = some o → b ≠ s.heap.objs.size := fun b o e => Nat.ne_of_lt (Heap.lt_size e)
  refine ⟨p.gens, p.drawn, p.os, G', p.le, fun b o y => ?_, fun b o e ht => ?_, fun _ ht => Θ.tabIn G.tab ht⟩
  · rcases p.new b o y with z | z | ⟨q, z⟩
    · exact .inl z
    · right
      cases e : s.heap.get? b with
      | none => rfl
      | some o' => have := keep b o' e; rw [show ({ s with heap := h₁, toks := tk } : Shared).heap.get? b = h₁.get? b from rfl, this] at z; cases z
    · obtain ⟨o', v, q1, q2⟩ := F.clos q b z
      have e1 := G'.has _ _ (p.le _ _ q1)
      have e2 := G'.has _ _ y
      rw [e1] at e2; cases e2
      exact .inl q1
  · by_cases hc : ∃ x, (envF fd s.heap.objs.size a).cells.lookup x = some b
    · obtain ⟨x, hx⟩ := hc
      obtain ⟨o', v, q1, q2⟩ := F.clos x b hx
      have e1 := G.has _ _ q1
      rw [e] at e1; cases e1
      exact G'.has _ _ (p.le _ _ q1)
    · exact p.keep b o (keep b o e) ht (nL b o e) (fun x hx => hc ⟨x, hx⟩)
theorem bindsLocal {names : List Str} {vs : List Value} {sc : Scope} (hk : ∀ x ∈ names, sc.names.lookup x = some .local) : ∀ y ∈ names.zip vs, sc.names.lookup y.1 = some .local := fun y hy => hk _ (List.of_mem_zip hy).1

theorem CallOk.defG {a : Addr} {fd : FuncData} {body : List Stmt} {names : List Str} {ds : List D} {d : D} {σf : Store} (F : FunF P₀ a fd σf) (hbo : fd.body = .stmts body)
    (hb : ∀ (A : Around) (s : Shared) (P : Fz) (vs : List Value) (Q : List (Str × Value) → Shared → Prop) (E : Value → Shared → Prop), P₀.le P → Good Θ P s.heap → vs.length = names.length → Q (names.zip vs) s → wpAny Θ.M A (bindArgs fd ⟨vs, []⟩) Q E s) (hl : ds.length = names.length) (hk : ∀ x ∈ names, fd.scope.names.lookup x = some .local) (hnd : names.Nodup) (hf : ∀ x ∈ names, σf.lookup x = none)
    (hbody : ∀ L, ExsS Θ n P₀ (envF fd L a) (bindD names ds σf) (fd.closure.map (·.1)) body (.ret d)) : CallOk Θ (n + 1) P₀ (.ref a) ds d := by
  intro A s P vs Q E R l G rs h
  have F' := F.mono l
  refine wpAny_call ?_
  obtain ⟨o, ho, hdat⟩ := F'.obj
  have hcd : s.heap.CodeRec fd.code fd.qualname := by
    obtain ⟨c, oc, vs', t, h1, h2, h3, h4⟩ := F'.code
    exact ⟨c, oc, vs', t, h1, G.has _ _ h2, h3, h4⟩
  refine codeAny_call_function R.toRoom0.limit (G.has _ _ ho) hdat F.co F.gen hbo hcd ?_
  refine hb _ s P vs _ _ l G (rs.length.trans hl) (wpAny_newFunctionEnv F.nocell (bindsLocal hk) (fun h₁ hns hsb => ?_) F.kind)
  obtain ⟨S, keep⟩ := enteredF (a := a) F' hk hnd (rs.length.trans hl) hf G rs hns hsb
  refine ⟨(Θ.nolim G.k0).keeps keep, codeAny_func ?_⟩
  refine hbody _ _ { s with heap := h₁, toks := s.toks + (names.zip vs).length } P _ _ (R.toRoom0.deeper ⟨F.gen, F.co, F.b, F.g⟩) l S fun s₂ P₂ p v G₂ r => ?_
  exact h v s₂ P₂ (leftF F' G keep (by obtain ⟨o, _, _, e, _⟩ := hns; rw [e]; exact fun q => nomatch q) p G₂) r
theorem CallOk.defF {a : Addr} {fd : FuncData} {body : List Stmt} {names : List Str} {ds : List D} {d : D} {σf : Store} (F : FunF P₀ a fd σf) (hbo : fd.body = .stmts body)
    (hb : ∀ vs : List Value, vs.length = names.length → bindArgs fd ⟨vs, []⟩ = pure (names.zip vs)) (hl : ds.length = names.length) (hk : ∀ x ∈ names, fd.scope.names.lookup x = some .local) (hnd : names.Nodup) (hf : ∀ x ∈ names, σf.lookup x = none)
    (hbody : ∀ L, ExsS Θ n P₀ (envF fd L a) (bindD names ds σf) (fd.closure.map (·.1)) body (.ret d)) : CallOk Θ (n + 1) P₀ (.ref a) ds d :=
  CallOk.defG F hbo (fun A s P vs Q E l G hv h => by rw [hb vs hv]; exact wpAny_pure h) hl hk hnd hf hbody
theorem CallOk.lamF {a : Addr} {fd : FuncData} {body : Expr} {names : List Str} {ds : List D} {d : D} {σf : Store} (F : FunF P₀ a fd σf) (hbo : fd.body = .expr body)
    (hb : ∀ vs : List Value, vs.length = names.length → bindArgs fd ⟨vs, []⟩ = pure (names.zip vs)) (hl : ds.length = names.length) (hk : ∀ x ∈ names, fd.scope.names.lookup x = some .local) (hnd : names.Nodup) (hf : ∀ x ∈ names, σf.lookup x = none)
    (hbody : ∀ L, EvS Θ n P₀ (envF fd L a) (bindD names ds σf) body d) : CallOk Θ (n + 1) P₀ (.ref a) ds d := by
  intro A s P vs Q E R l G rs h
  have F' := F.mono l
  refine wpAny_call ?_
  obtain ⟨o, ho, hdat⟩ := F'.obj
  have hcd : s.heap.CodeRec fd.code fd.qualname := by
    obtain ⟨c, oc, vs', t, h1, h2, h3, h4⟩ := F'.code
    exact ⟨c, oc, vs', t, h1, G.has _ _ h2, h3, h4⟩
  refine kla_callFunE R.toRoom0.limit (G.has _ _ ho) hdat F.co F.gen hbo hcd ?_
  rw [hb vs (rs.length.trans hl)]
  refine wpAny_pure (wpAny_newFunctionEnv F.nocell (bindsLocal hk) (fun h₁ hns hsb => ?_) F.kind)
  obtain ⟨S, keep⟩ := enteredF (a := a) F' hk hnd (rs.length.trans hl) hf G rs hns hsb
  refine ⟨(Θ.nolim G.k0).keeps keep, kla_codeExpr ?_⟩
  refine hbody _ _ { s with heap := h₁, toks := s.toks + (names.zip vs).length } P _ _ (R.toRoom0.deeper ⟨F.gen, F.co, F.b, F.g⟩) l S.toStE fun v s₂ P₂ p r => ?_
  exact h v s₂ P₂ (leftF F' G keep (by obtain ⟨o, _, _, e, _⟩ := hns; rw [e]; exact fun q => nomatch q) p.toX p.good) r
theorem DefAt.funF {P : Fz} {a : Addr} {fd : FuncData} {body : List Stmt} (h : DefAt P a fd body) (hno : ∀ x ∈ fd.scope.names, x.2 ≠ .cell) : FunF P a fd [] where
  obj := h.obj
  g := h.g
  b := h.b
  code := h.code
  free := fun x d e => by simp at e
  clos := fun x c e => by rw [h.clo] at e; simp at e
  apart := by rw [h.clo]; exact .nil
  nocell := hno
  co := h.co
  gen := h.gen
  kind := h.kind
end
end Mine
namespace Mine
open PySem PySem.W PyProof.Rows PySem.Calls PySem.Spec

/-! code tables that grow by lambdas -/
noncomputable def CodeF (P : Fz) (cv : Value) (q : Str) : Prop := ∃ c oc vs t, cv = .ref c ∧ P c oc ∧ oc.data = .fields vs ∧ vs[1]? = some (.str q t)
theorem CodeF.mono {P P' : Fz} {cv : Value} {q : Str} (h : CodeF P cv q) (hl : P.le P') : CodeF P' cv q := let ⟨c, oc, vs, t, e, x, r⟩ := h; ⟨c, oc, vs, t, e, hl _ _ x, r⟩
noncomputable abbrev TabL := List (Addr × Addr × Str)
noncomputable def TabAll (tabs : TabL) (P : Fz) (h : Heap) : Prop := ∀ c t q, (c, t, q) ∈ tabs → ∃ ps, h.get? t = some (tabObj ps) ∧ TriplesOk ps.toList ∧ ∀ pos cv, codeAmong pos ps.toList = some cv → CodeF P cv q
theorem TabAll.mono {tabs : TabL} {P P' : Fz} {h h' : Heap} (x : TabAll tabs P h) (hl : P.le P') (hk : ∀ c t q o, (c, t, q) ∈ tabs → h.get? t = some o → h'.get? t = some o) : TabAll tabs P' h' := fun c t q hm =>
  let ⟨ps, e, h1, h2⟩ := x c t q hm; ⟨ps, hk c t q _ hm e, h1, fun pos cv hc => (h2 pos cv hc).mono hl⟩
theorem codeAmong_more {pos pos' : Pos} {c cv : Value} (l : List Value) (h : TriplesOk l) (hn : codeAmong pos' (l ++ [rawInt pos.line, rawInt pos.col, c]) = some cv) : codeAmong pos' l = some cv ∨ cv = c := by
  fun_induction TriplesOk l with
  | case1 =>
    simp only [List.nil_append, rawInt, codeAmong] at hn
    split at hn
    · exact .inr (Option.some.inj hn).symm
    · cases hn
  | case2 a t b u x rest ih =>
    simp only [List.cons_append, codeAmong] at hn ⊢
    split at hn
    · rename_i hc; rw [if_pos hc]; exact .inl hn
    · rename_i hc; rw [if_neg hc]; exact ih h hn
  | case3 l h1 h2 => exact h.elim
structure Tabs (Θ : Th) (tabs : TabL) : Prop where
  T : ∀ t, Θ.T t ↔ ∃ c q, (c, t, q) ∈ tabs
  tab : ∀ P h, Θ.Tab P h ↔ TabAll tabs P h
  hd : ∀ c t q, (c, t, q) ∈ tabs → ∀ h, Has Θ.K0 h → CodeHd h c t
  uniq : ∀ c t q c' q', (c, t, q) ∈ tabs → (c', t, q') ∈ tabs → q = q'
  bm : ∃ bm o, Θ.mg (Str.ofString "__builtins__") = some (.ref bm) ∧ bm ≠ builtinsNs ∧ bm ≠ mainGlobals ∧ Θ.K0 bm o ∧ o.cls = .type "module" ∧ o.dict = some builtinsNs ∧ o.data = .plain
noncomputable def pmOf (Θ : Th) : Value := (Θ.mg (Str.ofString "__name__")).getD .none
noncomputable def lamFd (Θ : Th) (q : Str) (params : Arguments) (body : Expr) (scope : Scope) (clos : List (Str × Addr)) (c' : Addr) (ctv : Value) : FuncData := kla_fn (Str.ofString "<lambda>") q params body scope clos (pmOf Θ) (.ref c') ctv
noncomputable def LamAt (Θ : Th) (P : Fz) (a : Addr) (q : Str) (params : Arguments) (body : Expr) (scope : Scope) (clos : List (Str × Addr)) : Prop :=
  ∃ c' ctv, P a { cls := .type "function", data := .func (lamFd Θ q params body scope clos c' ctv) } ∧ CodeF P (.ref c') q
section
variable {Θ : Th} {n : Nat} {P₀ : Fz} {tabs : TabL}
theorem lt_of_get {h : Heap} {a : Addr} {o : Obj} (e : h.get? a = some o) : a < h.objs.size := Heap.lt_size e
theorem wp_lambda (TS : Tabs Θ tabs) {env : Env} {A : Around} {s : Shared} {P : Fz} {Q E : Value → Shared → Prop} {c t : Addr} {q : Str} {params : Arguments} {body : Expr} {scope : Scope} {pos : Pos} {clos : List (Str × Addr)}
    (hm : (c, t, q) ∈ tabs) (hcode : env.code = .ref c) (hq : env.qual ++ Str.ofString "<lambda>" = q) (hg : env.globals = mainGlobals) (hcl : closureFor scope env = pure clos) (hdef : defaultsOf params env = ([], [])) (G : Good Θ P s.heap)
    (h : ∀ fa s' P', Post Θ s s' P P' → LamAt Θ P' fa q params body scope clos → Q (.ref fa) s') : wpAny Θ.M A (eval (.Lambda params body scope pos) env) Q E s := by
  obtain ⟨ps, hP, ht, hall⟩ := (TS.tab P s.heap).mp G.tab c t q hm
  have hT : Θ.T t := (TS.T t).mpr ⟨c, q, hm⟩
  have gk := Θ.gns G.k0
  have C := TS.hd c t q hm s.heap G.k0
  obtain ⟨bm, ob, b1, b2, b3, b4, b5, b6, b7⟩ := TS.bm
  have hgP : mainGlobals ≠ t := by
    obtain ⟨o, es, ep, e, hd, _⟩ := gk
    rintro rfl
    rw [hP] at e; cases e; cases hd
  have hbP : bm ≠ t := by rintro rfl; exact G.nt _ _ hT (G.top _ _ b4)
  have B : s.heap.BuiltinsAt Θ.mg t := ⟨bm, ob, b1, b2, b3, hbP, G.k0 _ _ b4, b5, b6, b7⟩
  refine kla_eval hdef ?_
  rw [show env.qual ++ ("<lambda>" : Str) = q from hq]
  have tlt : ∀ t', Θ.T t' → t' < s.heap.objs.size := fun t' ht' => by obtain ⟨o, e⟩ := Θ.tabIn G.tab ht'; exact lt_of_get e
  cases hc : codeAmong pos ps.toList with
  | some cv =>
    obtain ⟨c', oc, vs, tq, rfl, x1, x2, x3⟩ := hall pos cv hc
    refine kla_makeFunctionHit hcl hg gk hcode C hP ht hc B fun ctv h' tk hk hsz => ?_
    have p1 : Post Θ s { s with heap := h', toks := tk } P P := Post.keeps G hk
    have hne : s.heap.get? h'.objs.size = none := none_of_size hsz
    have p2 := (p1.trans (Post.pushLoose (o := { cls := .type "function", data := .func (kla_fn (Str.ofString "<lambda>") q params body scope clos (pmOf Θ) (.ref c') ctv) }) (t := tk) p1.good)).freeze hne (Heap.get?_push_size _ rfl)
    exact h _ _ _ p2 ⟨c', ctv, Fz.add_at _ _ _, c', oc, vs, tq, rfl, .inl x1, x2, x3⟩
  | none =>
    refine kla_makeFunction hcl hg gk hcode C hP ht hc hgP B fun c' ctv h' tk hx hge hlt hrec hP' => ?_
    obtain ⟨c₂, oc, vs, tq, e2, g2, d2, q2⟩ := hrec
    cases e2
    have hz : h'.objs.size ≠ t := Nat.ne_of_gt (Nat.lt_of_lt_of_le (tlt t hT) (Nat.le_trans hge (Nat.le_of_lt hlt)))
    have keep : ∀ b o, b ≠ t → s.heap.get? b = some o → (h'.push (kla_obj (Str.ofString "<lambda>") q params body scope clos (pmOf Θ) c' ctv)).get? b = some o := fun b o hb e => Heap.get?_push_of_some _ (hx b o hb e)
    have g3 := Heap.get?_push_of_some (kla_obj (Str.ofString "<lambda>") q params body scope clos (pmOf Θ) c' ctv) g2
    have g4 := Heap.get?_push_size h' (o := kla_obj (Str.ofString "<lambda>") q params body scope clos (pmOf Θ) c' ctv) rfl
    have g5 := Heap.get?_push_of_some (kla_obj (Str.ofString "<lambda>") q params body scope clos (pmOf Θ) c' ctv) hP'
    have cT : ¬ Θ.T c' := fun q => Nat.lt_irrefl _ (Nat.lt_of_lt_of_le (tlt _ q) hge)
    have fT : ¬ Θ.T h'.objs.size := fun q => Nat.lt_irrefl _ (Nat.lt_of_lt_of_le (tlt _ q) (Nat.le_trans hge (Nat.le_of_lt hlt)))
    have hle : P.le ((P.add c' oc).add h'.objs.size (kla_obj (Str.ofString "<lambda>") q params body scope clos (pmOf Θ) c' ctv)) := (Fz.add_le _ _ _).trans (Fz.add_le _ _ _)
    have cF : CodeF ((P.add c' oc).add h'.objs.size (kla_obj (Str.ofString "<lambda>") q params body scope clos (pmOf Θ) c' ctv)) (.ref c') q := ⟨c', oc, vs, tq, rfl, .inl (Fz.add_at _ _ _), d2, q2⟩
    have G' : Good Θ ((P.add c' oc).add h'.objs.size (kla_obj (Str.ofString "<lambda>") q params body scope clos (pmOf Θ) c' ctv)) (h'.push (kla_obj (Str.ofString "<lambda>") q params body scope clos (pmOf Θ) c' ctv)) := by
      refine ⟨fun b o x => ?_, (TS.tab _ _).mpr fun c2 t2 q2' hm2 => ?_, G.top.trans hle, fun t2 o hT2 x => ?_⟩
      · rcases x with (x | ⟨rfl, rfl⟩) | ⟨rfl, rfl⟩
        · exact keep b o (by rintro rfl; exact G.nt _ _ hT x) (G.has b o x)
        · exact g3
        · exact g4
      · by_cases e : t2 = t
        · subst e
          have hqq := TS.uniq _ _ _ _ _ hm hm2
          subst hqq
          have hl : (ps ++ #[rawInt pos.line, rawInt pos.col, Value.ref c']).toList = ps.toList ++ [rawInt pos.line, rawInt pos.col, .ref c'] := by simp
          refine ⟨_, g5, by rw [hl]; exact TriplesOk_snoc _ _ _ _ ht, fun pos' cv hcv => ?_⟩
          rw [hl] at hcv
          rcases codeAmong_more _ ht hcv with y | rfl
          · exact (hall pos' cv y).mono hle
          · exact cF
        · obtain ⟨ps2, e2, h2, a2⟩ := (TS.tab P s.heap).mp G.tab c2 t2 q2' hm2
          exact ⟨ps2, keep _ _ e e2, h2, fun pos' cv y => (a2 pos' cv y).mono hle⟩
      · rcases x with (x | ⟨rfl, rfl⟩) | ⟨rfl, rfl⟩
        · exact G.nt _ _ hT2 x
        · exact cT hT2
        · exact fT hT2
    refine h _ _ _ ⟨rfl, rfl, rfl, G', hle, fun b o x => ?_, fun b o e hb => keep b o (by rintro rfl; exact hb hT) e, fun t2 hT2 => Θ.tabIn G.tab hT2⟩ ⟨c', ctv, Fz.add_at _ _ _, cF⟩
    rcases x with (x | ⟨rfl, rfl⟩) | ⟨rfl, rfl⟩
    · exact .inl x
    · exact .inr (none_of_size hge)
    · exact .inr (none_of_size (Nat.le_trans hge (Nat.le_of_lt hlt)))

/-- a lambda's object as a function of the logic -/
theorem LamAt.funF {P : Fz} {a : Addr} {q : Str} {params : Arguments} {body : Expr} {scope : Scope} {clos : List (Str × Addr)} {σf : Store} (L : LamAt Θ P a q params body scope clos) (hfree : ∀ x d, σf.lookup x = some d → ∃ c v o, clos.lookup x = some c ∧ P c o ∧ o.data = .cell (some v) ∧ Rep P v d ∧ scope.names.lookup x = some .free ∧ (x == ("__classdict__" : Str)) = false)
    (hclos : ∀ x c, clos.lookup x = some c → ∃ o v, P c o ∧ o.data = .cell (some v)) (hap : clos.Pairwise fun x y => x.2 ≠ y.2) (hno : ∀ x ∈ scope.names, x.2 ≠ .cell) (hco : scope.isCoroutine = false) (hgen : scope.isGenerator = false) (hk : scope.kind = .function) :
    ∃ c' ctv, FunF P a (lamFd Θ q params body scope clos c' ctv) σf := by
  obtain ⟨c', ctv, x, c₂, oc, vs, t, e, y, z, u⟩ := L
  cases e
  exact ⟨c', ctv, ⟨_, x, rfl⟩, rfl, rfl, ⟨c', oc, vs, t, rfl, y, z, u⟩, hfree, hclos, hap, hno, hco, hgen, hk⟩

/-- a call whose first argument is a lambda -/
theorem EvS.callLam (TS : Tabs Θ tabs) {env : Env} {σ : Store} {f : Str} {px lpos pos : Pos} {es : List Expr} {a c t : Addr} {q : Str} {params : Arguments} {body : Expr} {scope : Scope} {clos : List (Str × Addr)} {ds : List D} {d : D}
    (hm : (c, t, q) ∈ tabs) (hcode : env.code = .ref c) (hq : env.qual ++ Str.ofString "<lambda>" = q) (hg : env.globals = mainGlobals) (hcl : closureFor scope env = pure clos) (hdef : defaultsOf params env = ([], []))
    (hf : EvS Θ n P₀ env σ (.Name f px) (.ref a)) (hfn : FunAt P₀ a) (hs : EvSs Θ n P₀ env σ es ds) (hc : ∀ P₁ fa, P₀.le P₁ → LamAt Θ P₁ fa q params body scope clos → CallOk Θ n P₁ (.ref a) (.ref fa :: ds) d)
    (he : starEach (.Lambda params body scope lpos :: es) env = (false, eval (.Lambda params body scope lpos) env) :: starEach es env := by rfl) : EvS Θ n P₀ env σ (.Call (.Name f px) (.Lambda params body scope lpos :: es) [] pos) d :=
  fun A s P Q E R l S h => Call_ (hf A s P _ _ R l S fun v s₁ P₁ p r => by
    cases r
    obtain ⟨o, fd, ho, hd⟩ := hfn
    refine callWith_def hd (args_cons (wp_lambda TS hm hcode hq hg hcl hdef p.good fun fa s₂ P₂ p₂ L => hs A s₂ P₂ pos _ _ R ((l.trans p.le).trans p₂.le) ((S.post p).post p₂) fun vs s₃ P₃ p₃ rs => ⟨p₃.good.has _ _ (p₃.le _ _ (p₂.le _ _ (p.le _ _ (l _ _ ho)))), ?_⟩) he) he
    exact hc P₂ fa ((l.trans p.le).trans p₂.le) L A s₃ P₃ _ Q E R p₃.le p₃.good (.cons (.ref fa) rs) fun v s₄ P₄ p₄ r₄ => h v s₄ P₄ (((p.trans p₂).trans p₃).trans p₄) r₄)
end
end Mine
namespace Mine
open PySem PySem.W PyProof.Rows PySem.Calls PySem.Spec

/-! the program's defs, by their place in its text -/
noncomputable def stm (p : Program) (k : Nat) : Stmt := p.main.body[k]?.getD (.Pass ⟨0, 0, 0, 0⟩)
noncomputable def nameOf : Stmt → Str
  | .FunctionDef x _ _ _ _ _ _ _ _ _ => x
  | _ => Str.empty
noncomputable def paramsOf : Stmt → Arguments
  | .FunctionDef _ a _ _ _ _ _ _ _ _ => a
  | _ => ⟨[], [], none, [], [], none, []⟩
noncomputable def bodyOf : Stmt → List Stmt
  | .FunctionDef _ _ b _ _ _ _ _ _ _ => b
  | _ => []
noncomputable def scopeOf : Stmt → Scope
  | .FunctionDef _ _ _ _ _ _ sc _ _ _ => sc
  | _ => default
noncomputable abbrev fdOf (p : Program) (k : Nat) (pm cd doc : Value) : FuncData := docDef (nameOf (stm p k)) (paramsOf (stm p k)) (bodyOf (stm p k)) (scopeOf (stm p k)) pm cd doc
/-- the def at place k of the text stands at a -/
structure FnAt (Θ : Th) (p : Program) (k : Nat) (a : Addr) : Prop where
  g : Θ.mg (nameOf (stm p k)) = some (.ref a)
  d : ∃ pm cd doc, DefAt Θ.K0 a (fdOf p k pm cd doc) (bodyOf (stm p k))
structure Blt (Θ : Th) (x : Str) (v : Value) : Prop where
  g : Θ.mg x = none
  b : Θ.mb x = some v
structure Blts (Θ : Th) : Prop where
  abs : Blt Θ "abs" (.builtin "abs")
  int : Blt Θ "int" (.type "int")
  divmod : Blt Θ "divmod" (.builtin "divmod")
  len : Blt Θ "len" (.builtin "len")
  max : Blt Θ "max" (.builtin "max")
  range : Blt Θ "range" (.type "range")
  sorted : Blt Θ "sorted" (.builtin "sorted")
  sum : Blt Θ "sum" (.builtin "sum")

/-! Int2AP, plain -/
noncomputable def dig (m : Nat) : UInt8 := (65 + m).toUInt8
/-- the i last letters -/
noncomputable def low (n : Nat) : Nat → List UInt8
  | 0 => []
  | i + 1 => dig (n / 16 ^ i % 16) :: low n i
theorem low_length (n i : Nat) : (low n i).length = i := by induction i with | zero => rfl | succ i ih => simp [low, ih]
/-- how many letters -/
noncomputable def cnt (n : Nat) : Nat := if h : n = 0 then 0 else cnt (n / 16) + 1
termination_by n
decreasing_by omega
theorem cnt_zero (n : Nat) : n / 16 ^ cnt n = 0 := by
  induction n using Nat.strongRecOn with
  | ind n ih =>
    unfold cnt
    split
    · rename_i h; subst h; rfl
    · rename_i h
      rw [Nat.pow_succ, Nat.mul_comm, ← Nat.div_div_eq_div_mul]
      exact ih (n / 16) (by omega)
theorem cnt_pos (n : Nat) : ∀ i, i < cnt n → n / 16 ^ i ≠ 0 := by
  induction n using Nat.strongRecOn with
  | ind n ih =>
    intro i hi
    unfold cnt at hi
    split at hi
    · omega
    · rename_i h
      cases i with
      | zero => simpa using h
      | succ i =>
        rw [Nat.pow_succ, Nat.mul_comm, ← Nat.div_div_eq_div_mul]
        exact ih (n / 16) (by omega) i (by omega)
theorem cnt_le (n k : Nat) (h : n < 16 ^ k) : cnt n ≤ k := by
  apply Nat.le_of_not_lt
  intro hk
  exact cnt_pos n k hk (Nat.div_eq_of_lt h)
noncomputable def ap (n : Nat) : List UInt8 := low n (cnt n)

noncomputable abbrev pw := PySem.Challenge.pw_nq0015_02
noncomputable def AP : List UInt8 := [65, 66, 67, 68, 69, 70, 71, 72, 73, 74, 75, 76, 77, 78, 79, 80]

theorem fmod16 (m : Nat) : Int.fmod ((m : Nat) : Int) 16 = ((m % 16 : Nat) : Int) := by rw [Int.fmod_eq_emod_of_nonneg _ (by decide)]; omega
theorem fdiv16 (m : Nat) : Int.fdiv ((m : Nat) : Int) 16 = ((m / 16 : Nat) : Int) := by rw [Int.fdiv_eq_ediv_of_nonneg _ (by decide)]; omega
noncomputable def SubAll (σ' : Store) : Store → Prop
  | [] => True
  | (x, d) :: r => σ'.lookup x = some d ∧ SubAll σ' r
theorem Sub.of {σ' : Store} : ∀ {σ : Store}, SubAll σ' σ → Sub σ σ'
  | [], _, x, d, h => by simp at h
  | (y, e) :: r, hs, x, d, h => by
    rcases lookup_cons_ne h with ⟨rfl, rfl⟩ | ⟨_, h⟩
    · exact hs.1
    · exact Sub.of hs.2 x d h
section
variable {Θ : Th} {P₀ : Fz}
theorem cut_dig (m : Nat) (h : m < 16) : KBy.picked AP.toArray (some (m : Int)) (some ((m : Int) + 1)) = #[dig m] := by
  have : ∀ m : Fin 16, KBy.picked AP.toArray (some ((m : Nat) : Int)) (some (((m : Nat) : Int) + 1)) = #[dig m] := by decide +kernel
  exact this ⟨m, h⟩

noncomputable def I2 (N i : Nat) : Store := [(Str.ofString "num", .int ((N / 16 ^ i : Nat) : Int)), (Str.ofString "AP", .bytes AP.toArray), (Str.ofString "val", .bytes (low N i).toArray)]
theorem int2ap_ok (B : Blts Θ) {a : Addr} (F : FnAt Θ pw 5 a) (hl : Θ.K0.le P₀) {n : Nat} {i : Int} (hi : i.natAbs < 16 ^ 30) : CallOk Θ (n + 1) P₀ (.ref a) [.int i] (.bytes (ap i.natAbs).toArray) := by
  obtain ⟨pm, cd, doc, hd⟩ := F.d
  refine CallOk.def (names := [Str.ofString "num"]) (hd.mono hl) (of1 fun _ => rfl) rfl (mem1 (.inl rfl)) fun L => ?_
  generalize hN : i.natAbs = N at *
  have habs : (if i < 0 then -i else i) = (N : Int) := by split <;> omega
  refine ExsS.cons (ExS.assign EvS.bytes) (ExsS.cons (ExS.assign EvS.bytes) (ExsS.cons (ExS.assign (d := .int N) ?_) (ExsS.cons (σ' := I2 N (cnt N)) (fz' := []) ?_ (ExsS.ret (ExS.ret (EvS.name rfl))))))
  · refine EvS.callT (FnS.builtin B.int.g B.int.b) (EvSs.cons (EvS.callB (FnS.builtin B.abs.g B.abs.b) (EvSs.cons (EvS.name rfl) EvSs.nil) CallOk.abs) EvSs.nil) ?_
    rw [habs]; exact CallOk.intOf
  · refine ExS.pre (σ := I2 N 0) (ExS.while (I2 N) (cnt N) rfl (fun j hj => ⟨?_, ?_⟩) ?_) ?_
    · refine EvT.to (EvT.value (EvS.name rfl) TruthOk.int) ?_
      have := cnt_pos N j hj
      simp only [bne_iff_ne, ne_eq]
      omega
    · have hjk : j < 30 := Nat.lt_of_lt_of_le hj (cnt_le N 30 hi)
      refine ExsS.sub (ExsS.cons (ExS.unpack2 (EvS.callB (FnS.builtin B.divmod.g B.divmod.b) (EvSs.cons (EvS.name rfl) (EvSs.cons EvS.int EvSs.nil)) (CallOk.divmod (by decide))))
        (ExsS.cons (ExS.assign (EvS.bin (EvS.cutBytes (EvS.name rfl) (i := some _) (j := some _) (EvS.name rfl) (EvS.bin (EvS.name rfl) EvS.int OpOk.add_int) (by decide)) (EvS.name rfl) (OpOk.add_bytes ?_))) ExsS.nil)) ?_
      · rw [fmod16, cut_dig _ (Nat.mod_lt _ (by decide)), List.size_toArray, List.size_toArray, low_length]
        show 1 + j ≤ _
        omega
      · rw [fmod16, fdiv16, cut_dig _ (Nat.mod_lt _ (by decide))]
        refine Sub.of ⟨?_, rfl, ?_, trivial⟩
        · rw [Nat.pow_succ, ← Nat.div_div_eq_div_mul]; rfl
        · rw [List.append_toArray]; rfl
    · refine EvT.to (EvT.value (EvS.name rfl) TruthOk.int) ?_
      rw [cnt_zero]; rfl
    · refine Sub.of ⟨?_, rfl, rfl, trivial⟩
      rw [Nat.pow_zero, Nat.div_one]; rfl
end
end Mine
namespace Mine
open PySem PySem.W PyProof.Rows PySem.Calls PySem.Spec

/-! reduce, with a start -/
noncomputable abbrev fdOfD (p : Program) (k : Nat) (pm cd doc dV : Value) : FuncData := { fdOf p k pm cd doc with defaults := dV }
structure RedAt (Θ : Th) (a m : Addr) : Prop where
  g : Θ.mg (Str.ofString "reduce") = some (.ref a)
  d : ∃ pm cd doc dT n, DefAt Θ.K0 a (fdOfD pw 3 pm cd doc (.ref dT)) (bodyOf (stm pw 3)) ∧ Θ.K0 dT (seqObj "tuple" #[.ref m] n)
  miss : Θ.mg (Str.ofString "_initial_missing") = some (.ref m)
  mobj : ∃ o, Θ.K0 m o ∧ o.cls = .type "object"
  iter : Blt Θ "iter" (.builtin "iter")
section
variable {Θ : Th} {n : Nat} {P₀ : Fz} {env : Env} {σ : Store}
theorem OpOk.is_int {i : Int} {m : Addr} : OpOk Θ n P₀ (compareOp .Is) (.int i) (.ref m) (.bool false) := fun A s P va vb Q E R l G ra rb h => by
  cases ra; cases rb
  exact wpAny_bind (wpAny_pure (wpAny_pure (h _ s P (Post.refl G) (.bool _))))
theorem OpOk.is_list {xs : List D} {m : Addr} {o : Obj} (ho : P₀ m o) (hc : o.cls = .type "object") : OpOk Θ n P₀ (compareOp .Is) (.list xs) (.ref m) (.bool false) := fun A s P va vb Q E R l G ra rb h => by
  cases rb
  cases ra with
  | @list a k vs _ hp rs =>
    have e1 := G.has _ _ hp
    have e2 := G.has _ _ (l _ _ ho)
    have hne : a ≠ m := by
      rintro rfl
      rw [e1] at e2
      have e3 := Option.some.inj e2
      rw [← e3] at hc
      exact absurd hc (by show Value.type "list" ≠ Value.type "object"; simp)
    show wpAny _ _ (isSame (.ref a) (.ref m) >>= _) _ _ _
    refine wpAny_bind ?_
    unfold isSame
    dsimp only
    rw [if_neg (by simpa using hne)]
    refine wpAny_bind (wpAny_load e1 (wpAny_bind (wpAny_load e2 ?_)))
    obtain ⟨oc, od, oda, osl⟩ := o
    cases hc
    exact wpAny_pure (wpAny_pure (h _ s P (Post.refl G) (.bool _)))
theorem bind_reduce {A : Around} {M : Model} {E : Value → Shared → Prop} {h : Heap} {g : Array GenState} {d : Drawn} {t : Nat} {os : OsState} {pm cd doc u v w : Value} {dT m : Addr} {k : Nat} {Q : List (Str × Value) → Shared → Prop} (hT : h.get? dT = some (seqObj "tuple" #[.ref m] k))
    (hq : Q [(Str.ofString "function", u), (Str.ofString "sequence", v), (Str.ofString "initial", w)] ⟨h, g, d, t, os⟩) : wpAny M A (bindArgs (fdOfD pw 3 pm cd doc (.ref dT)) ⟨[u, v, w], []⟩) Q E ⟨h, g, d, t, os⟩ := by
  unfold bindArgs
  repeat ((fail_if_success (with_reducible show wpAny _ _ (seqItems? _) _ _ _)); first | (with_reducible refine wpAny_bind ?_) | (with_reducible refine wpAny_pure ?_) | (with_reducible refine wpAny_holding ?_) | (with_reducible refine wpAny_rule ?_) | (with_reducible refine wpAny_standAt ?_) | (with_reducible refine wpAny_point ?_) | (with_reducible refine wpAny_letGo ?_) | (with_reducible refine wpAny_mkInt' ?_) | (with_reducible refine wpAny_mkStr' ?_) | (with_reducible refine wpAny_fresh' ?_) | (with_reducible refine wpAny_alloc' ?_) | (with_reducible refine wpAny_attempt ?_) | ((with_reducible show wpAny _ _ (ite _ _ _) _ _ _); first | ((with_reducible apply wpAny_ite_false); focus (kernel_rfl!; done)) | ((with_reducible apply wpAny_ite_true); focus (kernel_rfl!; done))) | wp_delta | (with_reducible_and_instances refine wpAny_pure ?_) | (with_reducible_and_instances refine wpAny_bind ?_))
  show wpAny _ _ (seqItems? (.ref dT)) _ _ _
  unfold seqItems?
  refine wpAny_bind (wpAny_load hT ?_)
  refine wpAny_of_eq (a := some #[Value.ref m]) (by kernel_rfl) ?_
  exact wpAny_of_eq (a := [(Str.ofString "function", u), (Str.ofString "sequence", v), (Str.ofString "initial", w)]) (by kernel_rfl) hq

set_option maxHeartbeats 1000000 in
theorem reduce_ok {ra m fa : Addr} (F : RedAt Θ ra m) (hl : Θ.K0.le P₀) {sd : D} {ds : List D} (hit : IterOk Θ n sd ds) (V : Nat → D) (hfa : FunAt P₀ fa) (hmiss : OpOk Θ (n + 1) P₀ (compareOp .Is) (V 0) (.ref m) (.bool false))
    (hf : ∀ i a, ds[i]? = some a → CallOk Θ (n + 1) P₀ (.ref fa) [V i, a] (V (i + 1))) : CallOk Θ (n + 2) P₀ (.ref ra) [.ref fa, sd, V 0] (V ds.length) := by
  obtain ⟨pm, cd, doc, dT, kT, hd, hdT⟩ := F.d
  refine CallOk.defG (names := [Str.ofString "function", Str.ofString "sequence", Str.ofString "initial"]) ((hd.mono hl).funF (show ∀ x ∈ (scopeOf (stm pw 3)).names, x.2 ≠ .cell from by decide)) (body := bodyOf (stm pw 3)) rfl (fun A s P vs Q E l G hv h => ?_) rfl (by intro x hx; simp at hx; rcases hx with rfl | rfl | rfl <;> rfl) (by decide) (by intro x _; rfl) fun L => ?_
  · match vs, hv with
    | [u, v, w], _ => exact bind_reduce (G.has _ _ (l _ _ (hl _ _ hdT))) h
  generalize henv : envF (fdOfD pw 3 pm cd doc (.ref dT)) L ra = env
  intro A s P Q E R l S h
  -- it = iter(sequence)
  refine wpAny_execs_cons (wpAny_Assign_Name ?_ (by subst henv; rfl))
  refine Call_ ((FnS.builtin (env := env) F.iter.g F.iter.b (by subst henv; rfl) (by subst henv; rfl) (by subst henv; rfl)) A s P _ _ S.toStE (callWith_builtin1 ((EvSs.cons (EvS.name (d := sd) rfl) EvSs.nil) A s P _ _ _ R l S.toStE fun vs s₂ P₂ p₂ rs => ?_) (by rfl) (by rfl)))
  cases rs with | @cons v _ _ _ r rs =>
  cases rs
  refine call_iter hit R p₂.good r fun It fp wr St s₃ Wk => ?_
  obtain ⟨W, hst, p₃, hwr, hfp, hth⟩ := Wk
  have W := W A R.handled
  have S₂ := S.post p₂
  have S₃ := S₂.post p₃
  have B := S₂.stood
  refine wp_storeL S₃ (by subst henv; rfl) (.ref It) fun s₄ p₄ S₄ => ?_
  have hst₄ : St 0 s₄.heap := W.frame _ _ _ hst (walk_stays hfp (.refl _) S₃.good B p₄ S₄.good)
  have hnw₂ : ∀ b ∈ wr, ∀ o, ¬ P₂ b o := fun b hb o x => by have := S₂.good.has b o x; rw [hwr b hb] at this; cases this
  have more : ∀ {s₅ s₆ : Shared} {P₅ P₆ : Fz} {i : Nat}, St i s₅.heap → (∀ b ∈ wr, ∀ o, ¬ P₅ b o) → PostX Θ env s₅ s₆ P₅ P₆ → ∀ b ∈ wr, ∀ o, ¬ P₆ b o := fun {s₅ s₆ P₅ P₆ i} hs hn p b hb o x => by
    rcases p.new b o x with y | y | ⟨z, y⟩
    · exact hn b hb o y
    · obtain ⟨o', e⟩ := hth _ _ hs b (W.sub b hb)
      rw [e] at y; cases y
    · exact B.c z b y (hwr b hb)
  -- value = initial
  have hIf : ExS Θ (n + 1) P₀ env ((Str.ofString "it", .ref It) :: bindD [Str.ofString "function", Str.ofString "sequence", Str.ofString "initial"] [.ref fa, sd, V 0] []) [] ((bodyOf (stm pw 3)).getD 1 (.Pass ⟨0, 0, 0, 0⟩)) (.next ((Str.ofString "value", V 0) :: (Str.ofString "it", .ref It) :: bindD [Str.ofString "function", Str.ofString "sequence", Str.ofString "initial"] [.ref fa, sd, V 0] []) []) := by
    refine ExS.ite (b := false) (EvT.cmp (EvS.name rfl) (EvS.fn (FnS.global F.miss (by subst henv; rfl) (by subst henv; rfl))) hmiss) (fun h => nomatch h) fun _ => ?_
    exact ExsS.cons (ExS.assign (EvS.name rfl) (by subst henv; rfl)) ExsS.nil
  refine wpAny_execs_cons (hIf A s₄ P₂ _ _ R (l.trans p₂.le) S₄ fun s₅ P₅ p₅ S₅ => ?_)
  have hst₅ : St 0 s₅.heap := W.frame _ _ _ hst₄ (walk_stays hfp (.refl _) S₄.good B p₅ S₅.good)
  have hnw₅ := more hst₄ hnw₂ p₅
  have p05 : PostX Θ env s s₅ P P₅ := ((p₂.trans p₃).toX.trans p₄).trans p₅
  have back : ∀ b o, s.heap.get? b = some o → ¬ Θ.T b → s₂.heap.get? b ≠ none := fun b o e ht => by rw [p₂.keep b o e ht]; exact fun h => nomatch h
  -- for element in it
  have S₅' : StX Θ env [(Str.ofString "value", V 0), (Str.ofString "it", .ref It), (Str.ofString "function", .ref fa)] [] P₅ s₅.heap := S₅.sub (Sub.of ⟨rfl, rfl, rfl, trivial⟩)
  refine wpAny_execs_cons (wpAny_For ((EvS.name (n := n + 1) (P₀ := P₀) (env := env) (x := Str.ofString "it") (d := .ref It) rfl) A s₅ P₅ _ _ R (l.trans p05.le) S₅.toStE fun v s₆ P₆ p₆ r => ?_) (by intro _; rfl))
  cases r
  have hst₆ : St 0 s₆.heap := W.frame _ _ _ hst₅ (walk_stays hfp p₅.le S₅.good B p₆.toX p₆.good)
  have hnw₆ := more hst₅ hnw₅ p₆.toX
  have S₆ := S₅'.post p₆
  refine W.self 0 _ _ _ hst₆ ?_
  refine codeAny_forLoop (fun j s' => ∃ i P', j = ds.length + 1 - i ∧ i ≤ ds.length ∧ PostX Θ env s s' P P' ∧ P₂.le P' ∧ St i s'.heap ∧ StX Θ env [(Str.ofString "value", V i), (Str.ofString "it", .ref It), (Str.ofString "function", .ref fa)] [] P' s'.heap ∧ (∀ b ∈ wr, ∀ o, ¬ P' b o)) ?_ (ds.length + 1)
    ⟨0, P₆, rfl, Nat.zero_le _, p05.trans p₆.toX, p₅.le.trans p₆.le, hst₆, S₆, hnw₆⟩
  rintro j s' ⟨i, P', rfl, hik, p, hle, hst', S', hnw⟩
  by_cases hlt : i < ds.length
  · refine W.item i s' _ _ hlt hst' fun v h' tk ⟨a, ha, ra⟩ hst₁ hkp => ?_
    obtain ⟨S₇, p₇⟩ := iter_step (tk := tk) B hwr back p S' hnw hkp
    refine wpAny_assign_Name (wp_storeL (s := { s' with heap := h', toks := tk }) S₇ (by subst henv; rfl) (ra.mono hle) fun s₈ p₈ S₈ => ?_)
    have hst₈ : St (i + 1) s₈.heap := W.frame _ _ _ hst₁ (walk_stays (s := { s' with heap := h', toks := tk }) hfp hle S₇.good B p₈ S₈.good)
    have hb := ExsS.cons (fz := []) (ExS.assign (n := n + 1) (P₀ := P₀) (env := env) (σ := (Str.ofString "element", a) :: [(Str.ofString "value", V i), (Str.ofString "it", .ref It), (Str.ofString "function", .ref fa)]) (x := Str.ofString "value") (px := ⟨38, 8, 38, 13⟩) (pos := ⟨38, 8, 38, 40⟩)
      (EvS.call (pos := ⟨38, 16, 38, 40⟩) (EvS.name (pos := ⟨38, 16, 38, 24⟩) (x := Str.ofString "function") rfl) hfa (EvSs.cons (EvS.name (pos := ⟨38, 25, 38, 30⟩) (x := Str.ofString "value") rfl) (EvSs.cons (EvS.name (pos := ⟨38, 32, 38, 39⟩) (x := Str.ofString "element") rfl) EvSs.nil)) (hf i a ha)) (by subst henv; rfl) (by subst henv; rfl)) ExsS.nil
    refine hb A s₈ P' _ _ R (l.trans p.le) S₈ fun s₉ P₉ p₉ S₉ => ?_
    refine ⟨ds.length + 1 - (i + 1), by omega, i + 1, P₉, rfl, hlt, (p₇.trans p₈).trans p₉, hle.trans p₉.le, W.frame _ _ _ hst₈ (walk_stays hfp hle S₈.good B p₉ S₉.good), S₉.sub (Sub.of ⟨rfl, rfl, rfl, trivial⟩), fun b hb o x => ?_⟩
    rcases p₉.new b o x with y | y | ⟨z, y⟩
    · exact hnw b hb o y
    · obtain ⟨o', e⟩ := hth _ _ hst₈ b (W.sub b hb)
      rw [e] at y; cases y
    · exact B.c z b y (hwr b hb)
  · have hil : i = ds.length := by omega
    subst hil
    refine W.done s' _ _ hst' fun h' tk hkp => ?_
    obtain ⟨S₇, p₇⟩ := iter_step (tk := tk) B hwr back p S' hnw hkp
    refine wpAny_execs_nil ?_
    refine ExsS.ret (n := n + 1) (P₀ := P₀) (ExS.ret (EvS.name (x := Str.ofString "value") rfl)) A { s' with heap := h', toks := tk } P' _ _ R (l.trans p.le) S₇ fun s₉ P₉ p₉ v' G₉ r₉ => ?_
    exact h s₉ P₉ (p₇.trans p₉) v' G₉ r₉
end
end Mine
namespace Mine
open PySem PySem.W PyProof.Rows PySem.Calls PySem.Spec

/-! a namespace told in order -/
inductive Ents : List DictEntry → List (Str × Value) → Prop
  | nil : Ents [] []
  | cons {hs : Int} {x : Str} {t : Tok} {v : Value} {es : List DictEntry} {l : List (Str × Value)} : Ents es l → Ents (⟨hs, .str x t, v⟩ :: es) ((x, v) :: l)
noncomputable def dictOb (es : Array DictEntry) (n : Nat) : Obj := { cls := .type "dict", data := .dict es n }
noncomputable def DictIs (h : Heap) (N : Addr) (l : List (Str × Value)) : Prop := ∃ es n, h.get? N = some (dictOb es n) ∧ Ents es.toList l
noncomputable def put (x : Str) (v : Value) : List (Str × Value) → List (Str × Value)
  | [] => [(x, v)]
  | (y, u) :: r => if y == x then (y, v) :: r else (y, u) :: put x v r

theorem Ents.put {es : List DictEntry} {l : List (Str × Value)} (E : Ents es l) (x : Str) (hs : Int) (t : Tok) (v : Value) :
    Ents (nsPutIn x.cps.size x.cps.toList (fun | some e => { e with val := v } | none => ⟨hs, .str x t, v⟩) es).1 (put x v l) := by
  induction E with
  | nil => exact .cons .nil
  | @cons hs' y t' u es l E ih =>
    rw [nsPutIn, Mine.put, Value.isStrByCps_eq]
    show Ents (if (y == x) = true then _ else _ : List DictEntry × Bool).1 _
    cases hb : y == x with
    | true => simp only [if_true]; exact .cons E
    | false =>
      simp only [Bool.false_eq_true, if_false]
      exact .cons ih
theorem Ents.keys {es : List DictEntry} {l : List (Str × Value)} (E : Ents es l) : ∀ e ∈ es, ∃ n t, e.key = .str n t := by
  induction E with
  | nil => intro e h; cases h
  | cons E ih =>
    intro e h
    rcases List.mem_cons.mp h with rfl | h
    · exact ⟨_, _, rfl⟩
    · exact ih e h
theorem putName_dictOb (x : Str) (hs : Int) (k v : Value) (es : Array DictEntry) (n : Nat) :
    ∃ m, Obj.putName x hs k v (dictOb es n) = dictOb (nsPutIn x.cps.size x.cps.toList (fun | some e => { e with val := v } | none => ⟨hs, k, v⟩) es.toList).1.toArray m := by
  simp only [Obj.putName, dictOb]
  generalize nsPutIn x.cps.size x.cps.toList _ es.toList = p
  obtain ⟨a, b⟩ := p
  cases b
  · exact ⟨n, rfl⟩
  · exact ⟨n + 1, rfl⟩
theorem Ents.noRef {es : List DictEntry} {l : List (Str × Value)} (E : Ents es l) : es.any (·.refKey) = false := by
  rw [List.any_eq_false]
  intro e he
  obtain ⟨n, t, h⟩ := E.keys e he
  simp [DictEntry.refKey, h]

section
variable {M : Model} {A : Around} {E : Value → Shared → Prop} {s : Shared}
theorem wp_nsSetE {N : Addr} {l : List (Str × Value)} {x : Str} {v : Value} {Q : Unit → Shared → Prop} (hn : DictIs s.heap N l)
    (h : ∀ h', DictIs h' N (put x v l) → Heap.SameBut N s.heap h' → Q () { s with heap := h', toks := s.toks + 1 }) : wpAny M A (nsSet N x v) Q E s := fun Γ p _ => by
  obtain ⟨es, n, ho, he⟩ := hn
  simp only [nsSet, strHash, Sem.wp_bind', Sem.wp_cmd_ask, Sem.wp_pure', Sem.wp_cmd_mkText]
  rw [Sem.wp_loadPart_of M Γ _ p { s with toks := s.toks + 1 } (o := dictOb es n) _ ho]
  have hany : es.any (·.refKey) = false := by rw [← Array.any_toList]; exact he.noRef
  simp only [dictOb, aRefKeyMayBeTheName_eq, aRefKeyMayBeTheNameByArray, hany, Bool.and_false, Bool.false_eq_true, if_false, Sem.wp_cmd_updatePart]
  refine ⟨by rw [ho]; rfl, h _ ?_ (Heap.SameBut.update ..)⟩
  obtain ⟨m, hm⟩ := putName_dictOb x _ (.str x s.toks) v es n
  exact ⟨_, m, (Heap.get?_update_self _ ho (by rw [hm]; rfl)).trans (congrArg some hm), he.put x _ _ v⟩
theorem cls_store {env : Env} {l : List (Str × Value)} {x : Str} {v : Value} {Q : Unit → Shared → Prop} (hk : env.scope.kind = .class) (hx : env.kindOf x = some .local) (hn : DictIs s.heap env.locals l)
    (h : ∀ h', DictIs h' env.locals (put x v l) → Heap.SameBut env.locals s.heap h' → Q () { s with heap := h', toks := s.toks + 1 }) : wpAny M A (storeName env x v) Q E s := by
  have e : storeName env x v = localSet env x v := by
    simp only [storeName, hx, hk, show (some NameKind.local == some NameKind.globalImplicit) = false from rfl, Bool.false_and, Bool.false_eq_true, if_false,
      show (ScopeKind.class == ScopeKind.class) = true from rfl, Bool.true_or, if_true]
  rw [e]
  obtain ⟨es, n, ho, he⟩ := id hn
  unfold localSet
  refine wpAny_bind (wpAny_load ho ?_)
  rw [if_pos (show ((dictOb es n).cls == Value.type "dict") = true from by first | rfl | kernel_rfl)]
  exact wp_nsSetE hn h
end

/-! a def in a class's body -/
structure Keep2 (h h' : Heap) (a b : Addr) : Prop where
  keep : ∀ x o, x ≠ a → x ≠ b → h.get? x = some o → h'.get? x = some o
  size : h.objs.size ≤ h'.objs.size
theorem Keep2.trans {h h' h'' : Heap} {a b : Addr} (x : Keep2 h h' a b) (y : Keep2 h' h'' a b) : Keep2 h h'' a b := ⟨fun z o p q e => y.keep z o p q (x.keep z o p q e), Nat.le_trans x.size y.size⟩
/-- what the class's body stands on -/
structure ClsAt (mg : Str → Option Value) (N c Pc : Addr) (h : Heap) : Prop where
  g : h.Ns mainGlobals mg
  gN : mainGlobals ≠ N
  gP : mainGlobals ≠ Pc
  b : ∃ bm o, mg "__builtins__" = some (.ref bm) ∧ bm ≠ builtinsNs ∧ bm ≠ mainGlobals ∧ bm ≠ Pc ∧ bm ≠ N ∧ h.get? bm = some o ∧ o.cls = .type "module" ∧ o.dict = some builtinsNs ∧ o.data = .plain
  hd : CodeHd h c Pc
  cN : c ≠ N
  cP : c ≠ Pc
  NP : N ≠ Pc
theorem ClsAt.keep {mg : Str → Option Value} {N c Pc : Addr} {h h' : Heap} (C : ClsAt mg N c Pc h) (k : Keep2 h h' N Pc) : ClsAt mg N c Pc h' := by
  obtain ⟨bm, o, b1, b2, b3, b4, b5, b6, b7⟩ := C.b
  refine ⟨?_, C.gN, C.gP, ⟨bm, o, b1, b2, b3, b4, b5, k.keep _ _ b5 b4 b6, b7⟩, ?_, C.cN, C.cP, C.NP⟩
  · obtain ⟨o, es, ep, e, r⟩ := C.g
    exact ⟨o, es, ep, k.keep _ _ C.gN C.gP e, r⟩
  · obtain ⟨o, vs, file, tf, flags, tg, inF, text, tt, e, r⟩ := C.hd
    exact ⟨o, vs, file, tf, flags, tg, inF, text, tt, k.keep _ _ C.cN C.cP e, r⟩
structure Trip (ps : Array Value) : Prop where
  ok : TriplesOk ps.toList
section
variable {M : Model} {A : Around} {E : Value → Shared → Prop} {s : Shared}
theorem def_in_class {mg : Str → Option Value} {env : Env} {N c Pc : Addr} {l : List (Str × Value)} {ps : Array Value} {name : Str} {params : Arguments} {body : List Stmt} {scope : Scope} {pos : Pos} {clos : List (Str × Addr)} {Q : Flow → Shared → Prop}
    (C : ClsAt mg N c Pc s.heap) (hD : DictIs s.heap N l) (hP : s.heap.get? Pc = some (tabObj ps)) (ht : Trip ps)
    (hN : env.locals = N) (hg0 : env.globals = mainGlobals) (hcode : env.code = .ref c) (hk : env.scope.kind = .class) (hx : env.kindOf name = some .local) (hcl : closureFor scope env = pure clos)
    (hnf : codeAmong pos ps.toList = none) (hd0 : params.defaults = []) (hk0 : params.kw_defaults = []) (ha : annTrees params none env = [])
    (h : ∀ f c' ctv doc h' tk, Keep2 s.heap h' N Pc → ClsAt mg N c Pc h' → DictIs h' N (put name (.ref f) l) → h'.get? Pc = some (tabObj (ps ++ #[rawInt pos.line, rawInt pos.col, .ref c'])) → Trip (ps ++ #[rawInt pos.line, rawInt pos.col, .ref c']) →
      h'.get? f = some (fnMade name (qualnameIn env name name) params body scope clos doc ((mg "__name__").getD .none) c' ctv) → h'.CodeRec (.ref c') (qualnameIn env name name) →
      s.heap.objs.size ≤ f → s.heap.objs.size ≤ c' → Q .next { s with heap := h', toks := tk }) :
    wpAny M A (exec (.FunctionDef name params body [] none [] scope none name pos) env) Q E s := by
  refine nestDef_K hd0 hk0 ha ?_
  obtain ⟨bm, ob, b1, b2, b3, b4, b5, b6, b7⟩ := C.b
  refine makeFunction_K hcl hg0 C.g hcode C.hd hP ht.ok hnf C.gP ⟨bm, ob, b1, b2, b3, b4, b6, b7⟩ fun c' ctv doc h' tk hx' hge hlt hrec hP' => ?_
  obtain ⟨es, n, ho, he⟩ := hD
  have hN' : N < s.heap.objs.size := Heap.lt_size ho
  have ho' : h'.get? N = some (dictOb es n) := hx' _ _ C.NP ho
  refine cls_store (l := l) hk hx ⟨es, n, by rw [hN]; exact Heap.get?_push_of_some _ ho', he⟩ fun h₂ hD₂ hs₂ => ?_
  rw [hN] at hD₂ hs₂
  have hPl : Pc < s.heap.objs.size := Heap.lt_size hP
  have hsz : s.heap.objs.size ≤ h'.objs.size := Nat.le_trans hge (Nat.le_of_lt hlt)
  have hfN : h'.objs.size ≠ N := Nat.ne_of_gt (Nat.lt_of_lt_of_le hN' hsz)
  have k : Keep2 s.heap h₂ N Pc := ⟨fun x o xN xP e => hs₂.extBut x o xN (Heap.get?_push_of_some _ (hx' x o xP e)), by
    have := hs₂.1
    simp only [Heap.size_push] at this
    omega⟩
  refine h h'.objs.size c' ctv doc h₂ _ k (C.keep k) hD₂ (hs₂.extBut _ _ C.NP.symm (Heap.get?_push_of_some _ hP')) ?_ (hs₂.extBut _ _ hfN (Heap.get?_push_size _ rfl)) ?_ hsz hge
  · have hl : (ps ++ #[rawInt pos.line, rawInt pos.col, Value.ref c']).toList = ps.toList ++ [rawInt pos.line, rawInt pos.col, .ref c'] := by simp
    exact ⟨by rw [hl]; exact TriplesOk_snoc _ _ _ _ ht.ok⟩
  · obtain ⟨c₂, o₂, vs₂, t₂, e₂, g₂, r₂⟩ := hrec
    cases e₂
    exact ⟨_, o₂, vs₂, t₂, rfl, hs₂.extBut _ _ (Nat.ne_of_gt (Nat.lt_of_lt_of_le hN' hge)) (Heap.get?_push_of_some _ g₂), r₂⟩
end
end Mine
namespace Mine
open PySem PySem.W PyProof.Rows PySem.Calls PySem.Spec

/-! the class K of cmp_to_key: its text -/
noncomputable def kSt : Stmt := (bodyOf (stm pw 1)).headD (.Pass ⟨0, 0, 0, 0⟩)
noncomputable def cdBody : Stmt → List Stmt
  | .ClassDef _ _ _ b _ _ _ _ _ _ _ => b
  | _ => []
noncomputable def cdScope : Stmt → Scope
  | .ClassDef _ _ _ _ _ _ sc _ _ _ _ => sc
  | _ => default
noncomputable def cdStatics : Stmt → List Str
  | .ClassDef _ _ _ _ _ _ _ _ _ st _ => st
  | _ => []
noncomputable def cdPos : Stmt → Pos
  | .ClassDef _ _ _ _ _ _ _ _ _ _ p => p
  | _ => ⟨0, 0, 0, 0⟩
noncomputable def kBody := cdBody kSt
noncomputable def kScope := cdScope kSt
noncomputable def kStatics := cdStatics kSt
noncomputable def kPos := cdPos kSt
noncomputable def kD (i : Nat) : Stmt := kBody[i]?.getD (.Pass ⟨0, 0, 0, 0⟩)
noncomputable def kQual : Str := Str.ofString "cmp_to_key.<locals>.K."
noncomputable def kFn (i : Nat) (clos : List (Str × Addr)) (doc pm : Value) (c' : Addr) (ctv : Value) : Obj :=
  fnMade (nameOf (kD i)) (kQual ++ nameOf (kD i)) (paramsOf (kD i)) (bodyOf (kD i)) (scopeOf (kD i)) clos doc pm c' ctv
structure KFnAt (lo : Nat) (i : Nat) (clos : List (Str × Addr)) (pm : Value) (f : Addr) (h : Heap) : Prop where
  ge : lo ≤ f
  at_ : ∃ c' ctv doc, lo ≤ c' ∧ h.get? f = some (kFn i clos doc pm c' ctv) ∧ h.CodeRec (.ref c') (kQual ++ nameOf (kD i))
theorem KFnAt.keep {lo i : Nat} {clos : List (Str × Addr)} {pm : Value} {f N Pc : Addr} {h h' : Heap} (X : KFnAt lo i clos pm f h) (k : Keep2 h h' N Pc) (hN : N < lo) (hP : Pc < lo) : KFnAt lo i clos pm f h' := by
  obtain ⟨hlo, c', ctv, doc, hc, e, r⟩ := X
  obtain ⟨c₂, o₂, vs₂, t₂, e₂, g₂, r₂⟩ := r
  cases e₂
  exact ⟨hlo, _, ctv, doc, hc, k.keep _ _ (Nat.ne_of_gt (Nat.lt_of_lt_of_le hN hlo)) (Nat.ne_of_gt (Nat.lt_of_lt_of_le hP hlo)) e,
    _, o₂, vs₂, t₂, rfl, k.keep _ _ (Nat.ne_of_gt (Nat.lt_of_lt_of_le hN hc)) (Nat.ne_of_gt (Nat.lt_of_lt_of_le hP hc)) g₂, r₂⟩
noncomputable def kNames (mv qv iv sv : Value) (f1 f2 f3 f4 f5 f6 : Addr) : List (Str × Value) :=
  [(Str.ofString "__module__", mv), (Str.ofString "__qualname__", qv), (Str.ofString "__firstlineno__", iv), (Str.ofString "__slots__", sv), (Str.ofString "__init__", .ref f1), (Str.ofString "__lt__", .ref f2), (Str.ofString "__gt__", .ref f3),
   (Str.ofString "__eq__", .ref f4), (Str.ofString "__le__", .ref f5), (Str.ofString "__ge__", .ref f6), (Str.ofString "__hash__", .none)]
theorem keep2_of {h h' : Heap} {N Pc : Addr} (hs : Heap.SameBut N h h') : Keep2 h h' N Pc := ⟨fun x o a _ e => hs.extBut x o a e, Nat.le_of_eq hs.1.symm⟩
set_option maxHeartbeats 4000000 in
theorem body_ok {prog : Program} {w : World} {A : Around} {s : Shared} {E : Value → Shared → Prop} {Q : Flow → Shared → Prop} {mg : Str → Option Value} {N c Pc m fr : Addr} {mv qv iv : Value}
    (C : ClsAt mg N c Pc s.heap) (hD : DictIs s.heap N [(Str.ofString "__module__", mv), (Str.ofString "__qualname__", qv), (Str.ofString "__firstlineno__", iv)]) (hP : s.heap.get? Pc = some (tabObj #[]))
    (h : ∀ f1 f2 f3 f4 f5 f6 sl tm ts h' tk, Keep2 s.heap h' N Pc → DictIs h' N (kNames (.str (Str.ofString "cpy313.functools") tm) qv iv (.ref sl) f1 f2 f3 f4 f5 f6) →
      s.heap.objs.size ≤ sl → h'.get? sl = some { cls := .type "list", data := .seq #[.str (Str.ofString "obj") ts] } →
      KFnAt s.heap.objs.size 2 [] ((mg "__name__").getD .none) f1 h' → KFnAt s.heap.objs.size 3 [(Str.ofString "mycmp", m)] ((mg "__name__").getD .none) f2 h' → KFnAt s.heap.objs.size 4 [(Str.ofString "mycmp", m)] ((mg "__name__").getD .none) f3 h' →
      KFnAt s.heap.objs.size 5 [(Str.ofString "mycmp", m)] ((mg "__name__").getD .none) f4 h' → KFnAt s.heap.objs.size 6 [(Str.ofString "mycmp", m)] ((mg "__name__").getD .none) f5 h' → KFnAt s.heap.objs.size 7 [(Str.ofString "mycmp", m)] ((mg "__name__").getD .none) f6 h' →
      Q .next { s with heap := h', toks := tk }) :
    wpAny (model prog w) A (run (.body kBody { scope := kScope, locals := N, globals := mainGlobals, cells := [(Str.ofString "mycmp", m)], qual := kQual, code := .ref c, frame := some fr, builtins := builtinsNs })) Q E s := by
  generalize henv : ({ scope := kScope, locals := N, globals := mainGlobals, cells := [(Str.ofString "mycmp", m)], qual := kQual, code := .ref c, frame := some fr, builtins := builtinsNs } : Env) = env
  have hk : env.scope.kind = .class := by subst henv; rfl
  have hN : env.locals = N := by subst henv; rfl
  have hlN : N < s.heap.objs.size := by obtain ⟨es, n, e, _⟩ := hD; exact Heap.lt_size e
  have hlP : Pc < s.heap.objs.size := Heap.lt_size hP
  refine wpAny_run (codeAny_body (by kernel_rfl) (by kernel_rfl) ?_)
  -- __module__
  refine wpAny_execs_cons (wpAny_Assign_Name (wpAny_Constant_str (cls_store (l := _) hk (by subst henv; rfl) (by rw [hN]; exact hD) fun h₁ hD₁ hs₁ => ?_)) (by subst henv; rfl))
  rw [hN] at hD₁ hs₁
  have k₁ : Keep2 s.heap h₁ N Pc := keep2_of hs₁
  -- __slots__
  refine wpAny_execs_cons (wpAny_Assign_Name (wpAny_List (args_cons (wpAny_Constant_str (args_nil ⟨Nat.le_of_ble_eq_true rfl, ?_⟩)))) (by subst henv; rfl))
  have hsl₁ : s.heap.objs.size = h₁.objs.size := hs₁.1.symm
  have hpush : ∀ o : Obj, Keep2 h₁ (h₁.push o) N Pc := fun o => ⟨fun x o' _ _ e => Heap.get?_push_of_some _ e, by rw [Heap.size_push]; omega⟩
  refine cls_store (l := _) hk (by subst henv; rfl) (by rw [hN]; exact let ⟨es, n, e, r⟩ := hD₁; ⟨es, n, Heap.get?_push_of_some _ e, r⟩) fun h₂ hD₂ hs₂ => ?_
  rw [hN] at hD₂ hs₂
  have k₂ : Keep2 s.heap h₂ N Pc := (k₁.trans (hpush _)).trans (keep2_of hs₂)
  have eSl := hs₂.extBut _ _ (show h₁.objs.size ≠ N from by rw [← hsl₁]; exact Nat.ne_of_gt hlN) (Heap.get?_push_size _ rfl)
  have C₂ := C.keep k₂
  have hP₂ : h₂.get? Pc = some (tabObj #[]) := hs₂.extBut _ _ C.NP.symm (Heap.get?_push_of_some _ (hs₁.extBut _ _ C.NP.symm hP))
  have hslN : h₁.objs.size ≠ N := by rw [← hsl₁]; exact Nat.ne_of_gt hlN
  have hslP : h₁.objs.size ≠ Pc := by rw [← hsl₁]; exact Nat.ne_of_gt hlP
  -- def 2
  refine wpAny_execs_cons (def_in_class (mg := mg) (clos := []) C₂ hD₂ hP₂ (Trip.mk (ps := #[]) trivial) hN (by subst henv; rfl) (by subst henv; rfl) hk (by subst henv; rfl) (by subst henv; rfl) (by kernel_rfl) rfl rfl (by subst henv; rfl) fun f1 c1 ct1 doc1 g1 tk1 j1 C1 hD1 hP1 ht1 e1 r1 lf1 lc1 => ?_)
  have K1 := k₂.trans j1
  have X1 : KFnAt s.heap.objs.size 2 [] ((mg "__name__").getD .none) f1 g1 := ⟨Nat.le_trans k₂.size lf1, c1, ct1, doc1, Nat.le_trans k₂.size lc1, by subst henv; exact e1, by subst henv; exact r1⟩
  replace eSl := j1.keep _ _ hslN hslP eSl
  -- def 3
  refine wpAny_execs_cons (def_in_class (mg := mg) (clos := [(Str.ofString "mycmp", m)]) C1 hD1 hP1 ht1 hN (by subst henv; rfl) (by subst henv; rfl) hk (by subst henv; rfl) (by subst henv; rfl) (by kernel_rfl) rfl rfl (by subst henv; rfl) fun f2 c2 ct2 doc2 g2 tk2 j2 C2 hD2 hP2 ht2 e2 r2 lf2 lc2 => ?_)
  have K2 := K1.trans j2
  have X2 : KFnAt s.heap.objs.size 3 [(Str.ofString "mycmp", m)] ((mg "__name__").getD .none) f2 g2 := ⟨Nat.le_trans K1.size lf2, c2, ct2, doc2, Nat.le_trans K1.size lc2, by subst henv; exact e2, by subst henv; exact r2⟩
  replace X1 := X1.keep j2 hlN hlP
  replace eSl := j2.keep _ _ hslN hslP eSl
  -- def 4
  refine wpAny_execs_cons (def_in_class (mg := mg) (clos := [(Str.ofString "mycmp", m)]) C2 hD2 hP2 ht2 hN (by subst henv; rfl) (by subst henv; rfl) hk (by subst henv; rfl) (by subst henv; rfl) (by kernel_rfl) rfl rfl (by subst henv; rfl) fun f3 c3 ct3 doc3 g3 tk3 j3 C3 hD3 hP3 ht3 e3 r3 lf3 lc3 => ?_)
  have K3 := K2.trans j3
  have X3 : KFnAt s.heap.objs.size 4 [(Str.ofString "mycmp", m)] ((mg "__name__").getD .none) f3 g3 := ⟨Nat.le_trans K2.size lf3, c3, ct3, doc3, Nat.le_trans K2.size lc3, by subst henv; exact e3, by subst henv; exact r3⟩
  replace X1 := X1.keep j3 hlN hlP
  replace X2 := X2.keep j3 hlN hlP
  replace eSl := j3.keep _ _ hslN hslP eSl
  -- def 5
  refine wpAny_execs_cons (def_in_class (mg := mg) (clos := [(Str.ofString "mycmp", m)]) C3 hD3 hP3 ht3 hN (by subst henv; rfl) (by subst henv; rfl) hk (by subst henv; rfl) (by subst henv; rfl) (by kernel_rfl) rfl rfl (by subst henv; rfl) fun f4 c4 ct4 doc4 g4 tk4 j4 C4 hD4 hP4 ht4 e4 r4 lf4 lc4 => ?_)
  have K4 := K3.trans j4
  have X4 : KFnAt s.heap.objs.size 5 [(Str.ofString "mycmp", m)] ((mg "__name__").getD .none) f4 g4 := ⟨Nat.le_trans K3.size lf4, c4, ct4, doc4, Nat.le_trans K3.size lc4, by subst henv; exact e4, by subst henv; exact r4⟩
  replace X1 := X1.keep j4 hlN hlP
  replace X2 := X2.keep j4 hlN hlP
  replace X3 := X3.keep j4 hlN hlP
  replace eSl := j4.keep _ _ hslN hslP eSl
  -- def 6
  refine wpAny_execs_cons (def_in_class (mg := mg) (clos := [(Str.ofString "mycmp", m)]) C4 hD4 hP4 ht4 hN (by subst henv; rfl) (by subst henv; rfl) hk (by subst henv; rfl) (by subst henv; rfl) (by kernel_rfl) rfl rfl (by subst henv; rfl) fun f5 c5 ct5 doc5 g5 tk5 j5 C5 hD5 hP5 ht5 e5 r5 lf5 lc5 => ?_)
  have K5 := K4.trans j5
  have X5 : KFnAt s.heap.objs.size 6 [(Str.ofString "mycmp", m)] ((mg "__name__").getD .none) f5 g5 := ⟨Nat.le_trans K4.size lf5, c5, ct5, doc5, Nat.le_trans K4.size lc5, by subst henv; exact e5, by subst henv; exact r5⟩
  replace X1 := X1.keep j5 hlN hlP
  replace X2 := X2.keep j5 hlN hlP
  replace X3 := X3.keep j5 hlN hlP
  replace X4 := X4.keep j5 hlN hlP
  replace eSl := j5.keep _ _ hslN hslP eSl
  -- def 7
  refine wpAny_execs_cons (def_in_class (mg := mg) (clos := [(Str.ofString "mycmp", m)]) C5 hD5 hP5 ht5 hN (by subst henv; rfl) (by subst henv; rfl) hk (by subst henv; rfl) (by subst henv; rfl) (by kernel_rfl) rfl rfl (by subst henv; rfl) fun f6 c6 ct6 doc6 g6 tk6 j6 C6 hD6 hP6 ht6 e6 r6 lf6 lc6 => ?_)
  have K6 := K5.trans j6
  have X6 : KFnAt s.heap.objs.size 7 [(Str.ofString "mycmp", m)] ((mg "__name__").getD .none) f6 g6 := ⟨Nat.le_trans K5.size lf6, c6, ct6, doc6, Nat.le_trans K5.size lc6, by subst henv; exact e6, by subst henv; exact r6⟩
  replace X1 := X1.keep j6 hlN hlP
  replace X2 := X2.keep j6 hlN hlP
  replace X3 := X3.keep j6 hlN hlP
  replace X4 := X4.keep j6 hlN hlP
  replace X5 := X5.keep j6 hlN hlP
  replace eSl := j6.keep _ _ hslN hslP eSl
  -- __hash__
  refine wpAny_execs_cons (wpAny_Assign_Name (wpAny_Constant_none (cls_store (l := _) hk (by subst henv; rfl) (by rw [hN]; exact hD6) fun h₉ hD₉ hs₉ => ?_)) (by subst henv; rfl))
  rw [hN] at hD₉ hs₉
  have k₉ : Keep2 g6 h₉ N Pc := keep2_of hs₉
  refine wpAny_execs_nil ?_
  exact h f1 f2 f3 f4 f5 f6 _ _ _ h₉ _ (K6.trans k₉) hD₉ (Nat.le_of_eq hsl₁) (k₉.keep _ _ hslN hslP eSl) (X1.keep k₉ hlN hlP) (X2.keep k₉ hlN hlP) (X3.keep k₉ hlN hlP) (X4.keep k₉ hlN hlP) (X5.keep k₉ hlN hlP) (X6.keep k₉ hlN hlP)
end Mine
namespace Mine
open PySem PySem.W PySem.W.X PyProof.Rows

/-! a walk over the model's own texts, node by node, under a room that is told by one number -/
noncomputable def AA (n : Nat) : Around := { handled := none, depth := 500 + 10 * n, frames := none, guards := none, units := 2000 + 100 * n }
section
variable {α β : Type} {prog : Program} {w : World} {n : Nat} {Q : α → Shared → Prop} {E : Value → Shared → Prop} {h₀ h : Heap} {chg news : List (Addr × Obj)} {g : Array GenState} {d : Drawn} {t : Nat} {os : OsState} {s : Shared} {tr : Sem α}
noncomputable def At (news : List (Addr × Obj)) (a : Addr) (o : Obj) (i : Nat) : Prop := news[i]? = some (a, o)
theorem notMods {who : String} {a : Addr} (hne : a ≠ sysModules) : notTheModulesDict who a = pure () := by
  unfold notTheModulesDict
  rw [if_neg (by simpa using hne)]
/-- a code run below -/
noncomputable def CA (prog : Program) (w : World) (n : Nat) (c : Code) (R : Result → Shared → Prop) (s : Shared) : Prop := ∀ A : Around, A.handled = none → A.depth ≤ 500 + 10 * n → A.units ≤ 2000 + 100 * n → codeAny (model prog w) A c R s
noncomputable def PC (prog : Program) (w : World) (n : Nat) (R : Result → Shared → Prop) : Fin → Shared → Prop
  | .done f, s => R (.ok f) s
  | .again c, s => c.quiet = true ∧ CA prog w n c R s
end
end Mine
namespace Mine
open PySem PySem.W PySem.W.X PyProof.Rows
theorem en3 : entryFor table "type.__new__" = some Builtin.«type.__new__» := entryFor_of_tree (by kernel_rfl)
theorem en4 : entryFor table "type.__init__" = some Builtin.«type.__init__» := entryFor_of_tree (by kernel_rfl)
theorem en5 : entryFor table "super.__getattribute__" = some Builtin.«super.__getattribute__» := entryFor_of_tree (by kernel_rfl)
end Mine
namespace Mine
open PySem PySem.W PySem.W.X PyProof.Rows PySem.Calls PySem.Spec
namespace Fc
theorem sub_tuple : isSubtype (.type "tuple") (.type "tuple") = pure true := by rw [isSubtype_type]; kernel_rfl
theorem sub_dict : isSubtype (.type "dict") (.type "dict") = pure true := by rw [isSubtype_type]; kernel_rfl
theorem sub_type : isSubtype (.type "type") (.type "type") = pure true := by rw [isSubtype_type]; kernel_rfl
theorem ty_object : typeOf (.type "object") = pure (.type "type") := by rw [XFast.xe14684505520029207082]; kernel_rfl
theorem isT_object : isType (.type "object") = pure true := by kernel_rfl
theorem turned : Builtin.notOverATurnedClass [.type "object"] = pure () := by kernel_rfl
theorem ext_object : Builtin.extendedBase [.type "object"] = pure (.type "object") := by kernel_rfl
theorem lin_object : Builtin.linearize [.type "object"] mroOf = pure [.type "object"] := by kernel_rfl
theorem made_object : Bind.madeBy (.type "object") = pure (some "object.__new__") := by kernel_rfl
theorem made_type : Bind.madeBy (.type "type") = pure (some "type.__new__") := by kernel_rfl
theorem hook_type : Builtin.mroHook? (.type "type") = pure none := by kernel_rfl
theorem best_object : Builtin.Slots.bestBase [.type "object"] = pure (.type "object") := by kernel_rfl
theorem slots_object : Builtin.Slots.slotNamesOf (.type "object") = pure [] := by kernel_rfl
theorem dict_object : Builtin.Slots.givesDict (.type "object") = pure false := by kernel_rfl
theorem weak_object : Builtin.Slots.givesWeak (.type "object") = pure false := by kernel_rfl
theorem var_object : Builtin.Slots.varSize (.type "object") = pure false := by kernel_rfl
theorem mro_type : mroOf (.type "type") = pure [.type "type", .type "object"] := by kernel_rfl
theorem look_new : typeLookup (.type "type") "__new__" = pure (some (.builtin "type.__new__")) := by rw [typeLookup_type, builtinLookup_eq_fast]; kernel_rfl
theorem it_dict : typeLookup (.type "dict") (Str.ofString "__iter__") = pure (some (.builtin "dict.__iter__")) := by rw [typeLookup_type, builtinLookup_eq_fast]; kernel_rfl
theorem own_new : classOwn (.type "object") (Str.ofString "__new__") = pure (some (.builtin "object.__new__")) := F.own_object (by kernel_rfl)
theorem fil (C : Addr) : List.filter (fun x => x != Value.ref C) [Value.ref C, Value.type "object"] = [Value.type "object"] := by
  rw [List.filter_cons_of_neg (by simp)]
  rfl
theorem sn_str : typeLookup (.type "str") (Str.ofString "__set_name__") = pure none := by rw [typeLookup_type, builtinLookup_eq_fast]; kernel_rfl
theorem sn_int : typeLookup (.type "int") (Str.ofString "__set_name__") = pure none := by rw [typeLookup_type, builtinLookup_eq_fast]; kernel_rfl
theorem sn_list : typeLookup (.type "list") (Str.ofString "__set_name__") = pure none := by rw [typeLookup_type, builtinLookup_eq_fast]; kernel_rfl
theorem sn_function : typeLookup (.type "function") (Str.ofString "__set_name__") = pure none := by rw [typeLookup_type, builtinLookup_eq_fast]; kernel_rfl
theorem sn_NoneType : typeLookup (.type "NoneType") (Str.ofString "__set_name__") = pure none := by rw [typeLookup_type, builtinLookup_eq_fast]; kernel_rfl
theorem sn_tuple : typeLookup (.type "tuple") (Str.ofString "__set_name__") = pure none := by rw [typeLookup_type, builtinLookup_eq_fast]; kernel_rfl
theorem sn_member_descriptor : typeLookup (.type "member_descriptor") (Str.ofString "__set_name__") = pure none := by rw [typeLookup_type, builtinLookup_eq_fast]; kernel_rfl
end Fc
end Mine
section
set_option maxHeartbeats 4000000
namespace Mine
open PySem PySem.W PySem.W.X PyProof.Rows PySem.Calls PySem.Spec
section
variable {prog : Program} {w : World} {A : Around} {E : Value → Shared → Prop} {h : Heap} {g : Array GenState} {d : Drawn} {t : Nat} {os : OsState}
theorem slots_read {sl st f1 f2 f3 f4 f5 f6 : Addr} {x0 x1 x2 x3 x4 x5 x6 x7 x8 x9 x10 x11 : Int} {t0 t1 t2 t3 t4 t5 t6 t7 t8 t9 t10 t11 u0 u1 u2 u : Tok} {n : Nat} {Q : Builtin.Slots.Plan → Shared → Prop}
    (hsl : h.get? sl = some { cls := .type "list", data := .seq #[.str (Str.ofString "obj") u] n })
    (hQ : ∀ h', (∀ b o, h.get? b = some o → h'.get? b = some o) → Q { names := [Str.ofString "obj"], dict := false, weak := false, inherited := [] } ⟨h', g, d, t, os⟩) :
    wpAny (model prog w) A (Builtin.Slots.read (Str.ofString "K") [.type "object"] #[⟨x0, .str (Str.ofString "__module__") t0, .str (Str.ofString "cpy313.functools") u0⟩, ⟨x1, .str (Str.ofString "__qualname__") t1, .str (Str.ofString "cmp_to_key.<locals>.K") u1⟩, ⟨x2, .str (Str.ofString "__firstlineno__") t2, .int 4 u2⟩, ⟨x3, .str (Str.ofString "__slots__") t3, .ref sl⟩, ⟨x4, .str (Str.ofString "__init__") t4, .ref f1⟩, ⟨x5, .str (Str.ofString "__lt__") t5, .ref f2⟩, ⟨x6, .str (Str.ofString "__gt__") t6, .ref f3⟩, ⟨x7, .str (Str.ofString "__eq__") t7, .ref f4⟩, ⟨x8, .str (Str.ofString "__le__") t8, .ref f5⟩, ⟨x9, .str (Str.ofString "__ge__") t9, .ref f6⟩, ⟨x10, .str (Str.ofString "__hash__") t10, .none⟩, ⟨x11, .str (Str.ofString "__static_attributes__") t11, .ref st⟩]) Q E ⟨h, g, d, t, os⟩ := by
  have hT : Shared.TypeIs ⟨h, g, d, t, os⟩ (.ref sl) "list" := ⟨_, hsl, rfl⟩
  unfold Builtin.Slots.read
  refine wpAny_bind (wpAny_of_eq Fc.best_object (wpAny_bind (wpAny_of_eq Fc.slots_object (wpAny_bind (wpAny_of_eq Fc.dict_object (wpAny_bind (wpAny_of_eq Fc.weak_object (wpAny_bind (wpAny_of_eq Fc.var_object ?_)))))))))
  refine wpAny_bind (wpAny_rule ?_)
  show wpAny _ _ (asStr? (Value.ref sl) >>= _) _ _ _
  refine wpAny_bind (wpAny_bind (wpAny_load hsl (wpAny_pure ?_)))
  show wpAny _ _ (collect (Value.ref sl) >>= _) _ _ _
  refine wpAny_bind (wpAny_collect_seq (T := "list") sl (.inl rfl) hsl rfl rfl (fun h' hk => ?_))
  exact wpAny_of_eq (a := { names := [Str.ofString "obj"], dict := false, weak := false, inherited := [] }) (by kernel_rfl) (hQ h' hk)
end
/-- two objects of one's own that change, and what stands beside them -/
structure TW (h : Heap) (P : Fz) (ns C : Addr) (on oc : Obj) : Prop where
  has : Has P h
  hn : h.get? ns = some on
  hc : h.get? C = some oc
  ne : ns ≠ C
  nn : ∀ o, ¬ P ns o
  nc : ∀ o, ¬ P C o
section
variable {M : Model} {A : Around} {E : Value → Shared → Prop} {h : Heap} {g : Array GenState} {d : Drawn} {t : Nat} {os : OsState} {P : Fz} {ns C : Addr} {on oc on' oc' : Obj} {q : Option Value} {f : Obj → Obj}
theorem TW.updC (T : TW h P ns C on oc) (hf : f oc = oc') (hfr : oc'.isFreed = false) : TW (h.update C f) P ns C on oc' :=
  ⟨fun b o x => (Heap.get?_update_other _ _ (by rintro rfl; exact T.nc o x)).trans (T.has b o x), (Heap.get?_update_other _ _ T.ne.symm).trans T.hn, (Heap.get?_update_self _ T.hc (by rw [hf]; exact hfr)).trans (congrArg some hf), T.ne, T.nn, T.nc⟩
theorem TW.updN (T : TW h P ns C on oc) (hf : f on = on') (hfr : on'.isFreed = false) : TW (h.update ns f) P ns C on' oc :=
  ⟨fun b o x => (Heap.get?_update_other _ _ (by rintro rfl; exact T.nn o x)).trans (T.has b o x), (Heap.get?_update_self _ T.hn (by rw [hf]; exact hfr)).trans (congrArg some hf), (Heap.get?_update_other _ _ T.ne).trans T.hc, T.ne, T.nn, T.nc⟩
theorem TW.push (T : TW h P ns C on oc) {o : Obj} (hfr : o.isFreed = false) : TW (h.push o) (P.add h.objs.size o) ns C on oc where
  has := fun b p x => x.elim (fun y => Heap.get?_push_of_some _ (T.has b p y)) fun y => by rw [y.1, y.2]; exact Heap.get?_push_size _ hfr
  hn := Heap.get?_push_of_some _ T.hn
  hc := Heap.get?_push_of_some _ T.hc
  ne := T.ne
  nn := fun o x => x.elim (T.nn o) fun y => Nat.ne_of_lt (Heap.lt_size T.hn) y.1
  nc := fun o x => x.elim (T.nc o) fun y => Nat.ne_of_lt (Heap.lt_size T.hc) y.1
theorem TW.loose (T : TW h P ns C on oc) {h' : Heap} (hk : ∀ b o, h.get? b = some o → h'.get? b = some o) : TW h' P ns C on oc :=
  ⟨fun b o x => hk _ _ (T.has b o x), hk _ _ T.hn, hk _ _ T.hc, T.ne, T.nn, T.nc⟩
theorem tw_updPC {Q : Unit → Shared → Prop} (T : TW h P ns C on oc) (oc' : Obj) (hf : f oc = oc') (hfr : oc'.isFreed = false) (hq : ∀ h', TW h' P ns C on oc' → Q () ⟨h', g, d, t, os⟩) : wpAny M A (updatePart C q f) Q E ⟨h, g, d, t, os⟩ :=
  wpAny_updatePart T.hc (hq _ (T.updC hf hfr))
theorem tw_updC {Q : Unit → Shared → Prop} (T : TW h P ns C on oc) (oc' : Obj) (hf : f oc = oc') (hfr : oc'.isFreed = false) (hq : ∀ h', TW h' P ns C on oc' → Q () ⟨h', g, d, t, os⟩) : wpAny M A (update C f) Q E ⟨h, g, d, t, os⟩ :=
  wpAny_update T.hc (hq _ (T.updC hf hfr))
theorem tw_updPN {Q : Unit → Shared → Prop} (T : TW h P ns C on oc) (on' : Obj) (hf : f on = on') (hfr : on'.isFreed = false) (hq : ∀ h', TW h' P ns C on' oc → Q () ⟨h', g, d, t, os⟩) : wpAny M A (updatePart ns q f) Q E ⟨h, g, d, t, os⟩ :=
  wpAny_updatePart T.hn (hq _ (T.updN hf hfr))
theorem tw_setSlot {Q : Unit → Shared → Prop} {i : Nat} {v : Option Value} (T : TW h P ns C on oc) (oc' : Obj) (hf : { oc with slots := (oc.slots ++ Array.replicate (i + 1 - oc.slots.size) none).setIfInBounds i v } = oc') (hi : Nat.ble sizeLine i = false) (hfr : oc'.isFreed = false)
    (hq : ∀ h', TW h' P ns C on oc' → Q () ⟨h', g, d, t, os⟩) : wpAny M A (setSlotAt C i v) Q E ⟨h, g, d, t, os⟩ := by
  unfold setSlotAt
  rw [if_neg (fun h => by have := Nat.ble_eq.mpr h; rw [this] at hi; cases hi)]
  exact tw_updPC T oc' hf hfr hq
theorem tw_slotAt {Q : Option Value → Shared → Prop} {i : Nat} (T : TW h P ns C on oc) (r : Option Value) (hr : (oc.slots[i]?).join = r) (hq : Q r ⟨h, g, d, t, os⟩) : wpAny M A (slotAt C i) Q E ⟨h, g, d, t, os⟩ := by
  unfold slotAt
  refine wpAny_bind (wpAny_loadPart T.hc (wpAny_pure ?_))
  rw [hr]; exact hq
theorem get_ex {N : Addr} {x : Str} {o : Obj} {Q : Option Value → Shared → Prop} (ho : h.get? N = some o) (r : Option Value) (hr : nsLook x o = pure r) (hq : Q r ⟨h, g, d, t, os⟩) : wpAny M A (nsGet N x) Q E ⟨h, g, d, t, os⟩ := by
  unfold nsGet
  refine wpAny_bind (wpAny_loadPart ho ?_)
  rw [hr]; exact wpAny_pure hq
theorem tw_nsGet {x : Str} {Q : Option Value → Shared → Prop} (T : TW h P ns C on oc) (r : Option Value) (hr : nsLook x on = pure r) (hq : Q r ⟨h, g, d, t, os⟩) : wpAny M A (nsGet ns x) Q E ⟨h, g, d, t, os⟩ := get_ex T.hn r hr hq
theorem tw_nsDel {x : Str} {Q : Bool → Shared → Prop} (T : TW h P ns C on oc) (on' : Obj) (hh : nsHas x on = pure true) (hf : Obj.dropName x on = on') (hfr : on'.isFreed = false) (hq : ∀ h', TW h' P ns C on' oc → Q true ⟨h', g, d, t, os⟩) : wpAny M A (nsDel ns x) Q E ⟨h, g, d, t, os⟩ := by
  unfold nsDel
  refine wpAny_bind (wpAny_loadPart T.hn ?_)
  rw [hh]
  refine wpAny_bind (wpAny_pure ?_)
  rw [if_pos rfl]
  exact wpAny_bind (tw_updPN T on' hf hfr fun h' T' => wpAny_pure (hq h' T'))
theorem tw_nsSet {x : Str} {v : Value} {Q : Unit → Shared → Prop} {es : Array DictEntry} {n : Nat} (T : TW h P ns C on oc) (he : on = dictOb es n) (hr : aRefKeyMayBeTheName x es = false) (on' : Int → Tok → Obj) (hf : ∀ hs tk, Obj.putName x hs (.str x tk) v on = on' hs tk) (hfr : ∀ hs tk, (on' hs tk).isFreed = false)
    (hq : ∀ h' hs tk, TW h' P ns C (on' hs tk) oc → Q () ⟨h', g, d, t + 1, os⟩) : wpAny M A (nsSet ns x v) Q E ⟨h, g, d, t, os⟩ := fun Γ p _ => by
  simp only [nsSet, strHash, Sem.wp_bind', Sem.wp_cmd_ask, Sem.wp_pure', Sem.wp_cmd_mkText]
  rw [Sem.wp_loadPart_of M Γ _ p ⟨h, g, d, t + 1, os⟩ (o := on) _ T.hn]
  subst he
  simp only [dictOb, hr, Bool.false_eq_true, if_false, Sem.wp_cmd_updatePart]
  exact ⟨by rw [T.hn]; rfl, hq _ _ t (T.updN (hf _ _) (hfr _ _))⟩
theorem tw_start {Q : Addr → Shared → Prop} {o : Obj} (hk : Has P h) (hn : h.get? ns = some on) (nn : ∀ o, ¬ P ns o) (oc : Obj) (e : o = oc) (hfr : oc.isFreed = false) (hq : ∀ C h', TW h' P ns C on oc → (∀ o, ¬ P C o) → Q C ⟨h', g, d, t, os⟩) : wpAny M A (alloc o) Q E ⟨h, g, d, t, os⟩ := by
  subst e
  refine wpAny_alloc' (hq _ _ ⟨fun b p x => Heap.get?_push_of_some _ (hk b p x), Heap.get?_push_of_some _ hn, Heap.get?_push_size _ hfr, Nat.ne_of_lt (Heap.lt_size hn), nn, fun p x => ?_⟩ fun p x => ?_) <;>
  · exact absurd (Heap.lt_size (hk _ _ x)) (Nat.lt_irrefl _)
theorem tw_updateCls {Q : Unit → Shared → Prop} {f : ClassData → ClassData} (T : TW h P ns C on oc) (oc' : Obj) {cd : ClassData} (hcd : oc.data = .cls cd) (hf : Obj.mapCls f oc = oc') (hp : oc'.data.pastItsLine = none) (hfr : oc'.isFreed = false)
    (hq : ∀ h', TW h' P ns C on oc' → Q () ⟨h', g, d, t, os⟩) : wpAny M A (updateCls C f) Q E ⟨h, g, d, t, os⟩ := by
  unfold updateCls
  refine wpAny_bind (wpAny_load T.hc ?_)
  rw [hcd]
  exact wpAny_bind (tw_updC T oc' hf hfr fun h' T' => wpAny_lookBehind T'.hc hp (hq h' T'))
end
noncomputable def clsOb (ns : Addr) (mro : List Value) (hd : Bool) (sn : List Str) (slots : Array (Option Value)) : Obj := { cls := .type "type", data := .cls { name := Str.ofString "K", bases := [.type "object"], mro := mro, ns := ns, qualname := Str.ofString "cmp_to_key.<locals>.K", hasDict := hd, slotNames := sn }, slots := slots }
section
variable {M : Model} {A : Around} {E : Value → Shared → Prop} {h : Heap} {g : Array GenState} {d : Drawn} {t : Nat} {os : OsState} {P : Fz} {ns C : Addr} {on oc on' oc' : Obj} {q : Option Value} {f : Obj → Obj}
theorem tw_lookup {x : Str} {hd : Bool} {sn : List Str} {sl : Array (Option Value)} {Q : Option Value → Shared → Prop} (T : TW h P ns C on (clsOb ns [.ref C, .type "object"] hd sn sl)) (r ro : Option Value) (hr : nsLook x on = pure r) (ho : classOwn (.type "object") x = pure ro)
    (hq : Q (match r with | some v => some v | none => ro) ⟨h, g, d, t, os⟩) : wpAny M A (typeLookup (.ref C) x) Q E ⟨h, g, d, t, os⟩ := by
  rw [typeLookup_eq]
  refine wpAny_bind ?_
  unfold mroOf
  refine wpAny_bind ?_
  unfold classData
  refine wpAny_bind (wpAny_load T.hc (wpAny_pure (wpAny_pure ?_)))
  show wpAny _ _ (lookupAlong [.ref C, .type "object"] x) _ _ _
  rw [lookupAlong_cons]
  refine wpAny_bind ?_
  unfold classOwn classData
  refine wpAny_bind (wpAny_bind (wpAny_load T.hc (wpAny_pure ?_)))
  refine tw_nsGet T r hr ?_
  cases r with
  | some v => exact wpAny_pure hq
  | none =>
    show wpAny _ _ (lookupAlong [.type "object"] x) _ _ _
    rw [lookupAlong_cons, ho]
    refine wpAny_bind (wpAny_pure ?_)
    cases ro with
    | some v => exact wpAny_pure hq
    | none => exact wpAny_pure hq
theorem forIn_quiet {es : Array DictEntry} {body : DictEntry → PUnit → Sem (ForInStep PUnit)} {s : Shared} {Q : PUnit → Shared → Prop} (hb : ∀ e ∈ es.toList, ∀ Q' : ForInStep PUnit → Shared → Prop, Q' (.yield ⟨⟩) s → wpAny M A (body e ⟨⟩) Q' E s) (hq : Q ⟨⟩ s) :
    wpAny M A (forIn es PUnit.unit body) Q E s := by
  rw [← Array.forIn_toList]
  generalize es.toList = l at hb
  induction l with
  | nil => rw [List.forIn_nil]; exact wpAny_pure hq
  | cons e l ih =>
    rw [List.forIn_cons]
    exact wpAny_bind (hb e List.mem_cons_self _ (ih fun e' he' => hb e' (List.mem_cons_of_mem _ he')))
theorem tw_newFields {Ty : String} {vs : List Value} {Q : Value → Shared → Prop} (T : TW h P ns C on oc) (hs : vs.toArray.size ≤ sizeLine + 2)
    (hq : ∀ a h', h'.get? a = some { cls := .type Ty, data := .fields vs.toArray } → TW h' (P.add a { cls := .type Ty, data := .fields vs.toArray }) ns C on oc → (∀ o, ¬ P a o) → Q (.ref a) ⟨h', g, d, t, os⟩) : wpAny M A (newFields Ty vs) Q E ⟨h, g, d, t, os⟩ := by
  unfold newFields
  exact wpAny_newObj_type (hq _ _ (Heap.get?_push_size _ rfl) (T.push rfl) (fun o x => absurd (Heap.lt_size (T.has _ _ x)) (Nat.lt_irrefl _))) hs
end
end Mine
end
section
set_option maxHeartbeats 4000000
namespace Mine
open PySem PySem.W PySem.W.X PyProof.Rows PySem.Calls PySem.Spec
noncomputable def A0 : Around := { handled := none, depth := 500, frames := none, guards := none, units := 9000 }
structure Small (A : Around) : Prop where
  handled : A.handled = none
  depth : A.depth + 40 ≤ 500
  units : A.units + 400 ≤ 9000
theorem any_small {α : Type} {M : Model} {A : Around} {tr : Sem α} {Q : α → Shared → Prop} {E : Value → Shared → Prop} {s : Shared} (h : wpAny M A0 tr Q E s) (hA : A.handled = Option.none) (hA0 : A.depth ≤ 500 ∧ A.units ≤ 9000) : wpAny M A tr Q E s := fun Γ p hΓ =>
  h Γ p ⟨hΓ.1.trans hA, Nat.le_trans hΓ.2.1 hA0.1, (by intro l hl; cases hl), (by intro l hl; cases hl), Nat.le_trans hΓ.2.2.2.2 hA0.2⟩
noncomputable def superOb (C : Addr) : Obj := { cls := .type "super", data := .fields #[.ref C, .ref C, .ref C] }
set_option hygiene false in
local macro_rules | `(tactic| x_close) => `(tactic| (exact hQ _ _ _ D))
theorem sup1 {prog : Program} {w : World} {h : Heap} {g : Array GenState} {d : Drawn} {t : Nat} {os : OsState} {ns C : Addr} {sl : Array (Option Value)} {Q E : Value → Shared → Prop}
    (hc : h.get? C = some (clsOb ns [.ref C, .type "object"] false [Str.ofString "obj"] sl))
    (hQ : ∀ sp h' t', Mem h h' [] [(sp, superOb C)] → Q (.ref sp) ⟨h', g, d, t', os⟩) :
    wpAny (model prog w) A0 (call (.type "super") [.ref C, .ref C]) Q E ⟨h, g, d, t, os⟩ := by
  unfold clsOb at hc
  x_run
noncomputable def mdOb (C : Addr) (z : Tok) : Obj := { cls := .type "member_descriptor", data := .fields #[.str (Str.ofString "obj") z, .ref C, .builtin "proto.slot", .builtin "proto.slot#set", rawInt 0] }
noncomputable def bmOb (C : Addr) : Obj := { cls := .type "builtin_function_or_method", data := .fields #[.builtin "object.__init_subclass__", .ref C] }
set_option hygiene false in
local macro_rules | `(tactic| x_close) => `(tactic| (exact hQ _ _ _ D))
theorem sup3 {prog : Program} {w : World} {h : Heap} {g : Array GenState} {d : Drawn} {t : Nat} {os : OsState} {ns C : Addr} {sl : Array (Option Value)} {Q E : Value → Shared → Prop}
    (hc : h.get? C = some (clsOb ns [.ref C, .type "object"] false [Str.ofString "obj"] sl))
    (hQ : ∀ sp h' t', Mem h h' [] [(sp, bmOb C)] → Q (.ref sp) ⟨h', g, d, t', os⟩) :
    wpAny (model prog w) A0 (call (.builtin "classmethod_descriptor.__get__") [.builtin "object.__init_subclass__", .none, .ref C]) Q E ⟨h, g, d, t, os⟩ := by
  unfold clsOb at hc
  x_run
set_option hygiene false in
local macro_rules | `(tactic| x_close) => `(tactic| (exact hQ))
theorem sup4 {prog : Program} {w : World} {h : Heap} {g : Array GenState} {d : Drawn} {t : Nat} {os : OsState} {ns C bm : Addr} {sl : Array (Option Value)} {Q E : Value → Shared → Prop}
    (hc : h.get? C = some (clsOb ns [.ref C, .type "object"] false [Str.ofString "obj"] sl)) (hb : h.get? bm = some (bmOb C))
    (hQ : Q .none ⟨h, g, d, t, os⟩) :
    wpAny (model prog w) A0 (call (.ref bm) []) Q E ⟨h, g, d, t, os⟩ := by
  unfold clsOb at hc
  unfold bmOb at hb
  x_run
theorem none_of {h : Heap} {a : Addr} (n : ∀ o, ¬ h.get? a = some o) : h.get? a = Option.none := by
  cases e : h.get? a with
  | none => rfl
  | some o => exact absurd e (n o)
theorem memKeep {h₀ h : Heap} {news : List (Addr × Obj)} (D : Mem h₀ h [] news) (b : Addr) (o : Obj) (e : h₀.get? b = some o) : h.get? b = some o := Mem.old D b o e (by rw [show away [] b = true from rfl, Bool.or_true])
section
variable {prog : Program} {w : World} {A : Around} {E : Value → Shared → Prop} {h : Heap} {g : Array GenState} {d : Drawn} {t : Nat} {os : OsState} {P : Fz} {ns C sp : Addr} {on : Obj} {sl : Array (Option Value)}
theorem forIn_on {α β : Type} {M : Model} {A : Around} {l l' : List α} {b : β} {f : α → β → Sem (ForInStep β)} {Q : β → Shared → Prop} {E : Value → Shared → Prop} {s : Shared} (e : l = l') (h : wpAny M A (forIn l' b f) Q E s) : wpAny M A (forIn l b f) Q E s := e ▸ h
theorem fo1 : classOwn (.type "object") (Str.ofString "__init_subclass__") = pure (some (.builtin "object.__init_subclass__")) := F.own_object (by kernel_rfl)
theorem fo2 : typeOf (.builtin "object.__init_subclass__") = pure (.type "classmethod_descriptor") := by show builtinType _ = _; rw [builtinType_eq_fast]; kernel_rfl
theorem fo3 : typeLookup (.type "classmethod_descriptor") (Str.ofString "__get__") = pure (some (.builtin "classmethod_descriptor.__get__")) := by rw [typeLookup_type, builtinLookup_eq_fast]; kernel_rfl
theorem call_to {M : Model} {A : Around} {f : Value} {args args' : List Value} {Q E : Value → Shared → Prop} {s : Shared} (e : args = args') (h : wpAny M A (call f args') Q E s) : wpAny M A (call f args) Q E s := e ▸ h
theorem slot_super_ga : SlotG "super" (Str.ofString "__getattribute__") "super.__getattribute__" :=
  .of (owner := "super") (n := "__getattribute__") (by rw [typeLookup_type, builtinLookup_eq_fast]; kernel_rfl) (by decide +kernel) (by decide +kernel) (by decide +kernel)
    (by first | exact .inl (by decide +kernel) | exact .inr (by decide +kernel)) (by rw [isSubtype_type]; kernel_rfl)
theorem sup2 {Q : Value → Shared → Prop} {mc : Str → Option Value} (T : TW h P ns C on (clsOb ns [.ref C, .type "object"] false [Str.ofString "obj"] sl)) (hs : h.get? sp = some (superOb C)) (hcs : h.Ns cStatics mc) (hmc : mc (Str.ofString "thirdparty.any") = Option.none) (hA : Small A)
    (hQ : ∀ bm h' t', Mem h h' [] [(bm, bmOb C)] → Q (.ref bm) ⟨h', g, d, t', os⟩) :
    wpAny (model prog w) A (getAttr (.ref sp) (Str.ofString "__init_subclass__")) Q E ⟨h, g, d, t, os⟩ := by
  have hTS : Shared.TypeIs ⟨h, g, d, t + 1, os⟩ (.ref sp) "super" := ⟨_, hs, rfl⟩
  have hC := T.hc
  unfold getAttr getAttrBy
  refine wpAny_bind (wpAny_mkText (wpAny_holding (wpAny_bind (wpAny_typeOf hTS (wpAny_bind (wpAny_of_eq slot_super_ga.lookup ?_))))))
  show wpAny _ _ (getAttrByItsOwn (.ref sp) (.str (Str.ofString "__init_subclass__") t) (.type "super") (.builtin "super.__getattribute__") true false) _ _ _
  unfold getAttrByItsOwn
  refine wpAny_bind (wpAny_of_eq (a := Option.none) rfl (wpAny_bind (wpAny_attempt (wpAny_holding ?_))))
  show wpAny _ _ (boundAndCalled (.builtin "super.__getattribute__") (.ref sp) _) _ _ _
  unfold boundAndCalled
  refine wpAny_bind (wpAny_of_eq (slot_super_ga.bind _) ?_)
  refine wpAny_call (codeAny_call_builtin_at (by kernel_rfl) en5 (slot_super_ga.check _ _ _ _ _ _ _ _ hTS (by unfold argsOk; kernel_rfl) ?_))
  unfold Builtin.«super.__getattribute__»
  repeat ((fail_if_success (with_reducible show wpAny _ _ (forIn _ _ _) _ _ _)); (first | ((with_reducible show wpAny _ _ (nsGet _ _) _ _ _); refine wpAny_nsGet hcs ?_; rw [hmc]) | (first | (with_reducible refine wpAny_bind ?_) | (with_reducible refine wpAny_pure ?_) | (with_reducible refine wpAny_holding ?_) | (with_reducible refine wpAny_rule ?_) | (with_reducible refine wpAny_standAt ?_) | (with_reducible refine wpAny_point ?_) | (with_reducible refine wpAny_letGo ?_) | (with_reducible refine wpAny_mkInt' ?_) | (with_reducible refine wpAny_mkStr' ?_) | (with_reducible refine wpAny_fresh' ?_) | (with_reducible refine wpAny_alloc' ?_) | (with_reducible refine wpAny_attempt ?_) | ((with_reducible show wpAny _ _ (isSubtype _ _) _ _ _); first | (refine wpAny_of_eq Fc.sub_tuple ?_) | (refine wpAny_of_eq Fc.sub_dict ?_) | (refine wpAny_of_eq Fc.sub_type ?_)) | ((with_reducible show wpAny _ _ (typeOf _) _ _ _); first | (refine wpAny_of_eq Fc.ty_object ?_)) | ((with_reducible show wpAny _ _ (isType _) _ _ _); first | (refine wpAny_of_eq Fc.isT_object ?_)) | ((with_reducible show wpAny _ _ (Builtin.notOverATurnedClass _) _ _ _); first | (refine wpAny_of_eq Fc.turned ?_)) | ((with_reducible show wpAny _ _ (Builtin.extendedBase _) _ _ _); first | (refine wpAny_of_eq Fc.ext_object ?_)) | ((with_reducible show wpAny _ _ (Builtin.linearize _ _) _ _ _); first | (refine wpAny_of_eq Fc.lin_object ?_)) | ((with_reducible show wpAny _ _ (Bind.madeBy _) _ _ _); first | (refine wpAny_of_eq Fc.made_object ?_) | (refine wpAny_of_eq Fc.made_type ?_)) | ((with_reducible show wpAny _ _ (Builtin.mroHook? _) _ _ _); first | (refine wpAny_of_eq Fc.hook_type ?_)) | ((with_reducible show wpAny _ _ (Builtin.Slots.bestBase _) _ _ _); first | (refine wpAny_of_eq Fc.best_object ?_)) | ((with_reducible show wpAny _ _ (Builtin.Slots.slotNamesOf _) _ _ _); first | (refine wpAny_of_eq Fc.slots_object ?_)) | ((with_reducible show wpAny _ _ (Builtin.Slots.givesDict _) _ _ _); first | (refine wpAny_of_eq Fc.dict_object ?_)) | ((with_reducible show wpAny _ _ (Builtin.Slots.givesWeak _) _ _ _); first | (refine wpAny_of_eq Fc.weak_object ?_)) | ((with_reducible show wpAny _ _ (Builtin.Slots.varSize _) _ _ _); first | (refine wpAny_of_eq Fc.var_object ?_)) | ((with_reducible show wpAny _ _ (mroOf _) _ _ _); first | (refine wpAny_of_eq Fc.mro_type ?_)) | ((with_reducible show wpAny _ _ (typeLookup _ _) _ _ _); first | (refine wpAny_of_eq Fc.look_new ?_) | (refine wpAny_of_eq Fc.it_dict ?_) | (refine wpAny_of_eq Fc.sn_str ?_) | (refine wpAny_of_eq Fc.sn_int ?_) | (refine wpAny_of_eq Fc.sn_list ?_) | (refine wpAny_of_eq Fc.sn_function ?_) | (refine wpAny_of_eq Fc.sn_NoneType ?_) | (refine wpAny_of_eq Fc.sn_tuple ?_) | (refine wpAny_of_eq Fc.sn_member_descriptor ?_)) | (with_reducible refine wpAny_isInstance (by assumption) (by assumption) ?_) | (with_reducible refine wpAny_typeOf (by assumption) ?_) | ((with_reducible show wpAny _ _ (load _) _ _ _); with_reducible apply wpAny_load'; focus (heap_get; done)) | ((with_reducible show wpAny _ _ (loadPart _ _) _ _ _); with_reducible apply wpAny_loadPart'; focus (heap_get; done)) | ((with_reducible show wpAny _ _ (update _ _) _ _ _); with_reducible apply wpAny_update'; focus (heap_get; done)) | ((with_reducible show wpAny _ _ (updatePart _ _ _) _ _ _); with_reducible apply wpAny_updatePart'; focus (heap_get; done)) | ((with_reducible show wpAny _ _ (ite _ _ _) _ _ _); first | ((with_reducible apply wpAny_ite_false); focus (kernel_rfl!; done)) | ((with_reducible apply wpAny_ite_true); focus (kernel_rfl!; done))) | wp_delta | (with_reducible_and_instances refine wpAny_pure ?_) | (with_reducible_and_instances refine wpAny_bind ?_))))
  refine forIn_on (l' := [.type "object"]) (by show List.drop 1 (List.dropWhile (fun x => x != Value.ref C) [Value.ref C, Value.type "object"]) = _; simp) ?_
  rw [List.forIn_cons]
  refine wpAny_bind (wpAny_bind (wpAny_of_eq fo1 (wpAny_bind (wpAny_of_eq fo2 (wpAny_bind (wpAny_of_eq fo3 ?_))))))
  refine wpAny_bind (wpAny_holding ?_)
  refine call_to (args' := [.builtin "object.__init_subclass__", .none, .ref C]) (by simp) ?_
  refine any_small (sup3 hC fun bm h' t' D' => ?_) hA.handled ⟨?_, ?_⟩
  · repeat (first | (with_reducible refine wpAny_bind ?_) | (with_reducible refine wpAny_pure ?_) | (with_reducible refine wpAny_holding ?_) | (with_reducible refine wpAny_rule ?_) | (with_reducible refine wpAny_standAt ?_) | (with_reducible refine wpAny_point ?_) | (with_reducible refine wpAny_letGo ?_) | (with_reducible refine wpAny_mkInt' ?_) | (with_reducible refine wpAny_mkStr' ?_) | (with_reducible refine wpAny_fresh' ?_) | (with_reducible refine wpAny_alloc' ?_) | (with_reducible refine wpAny_attempt ?_) | wp_delta | (with_reducible_and_instances refine wpAny_pure ?_) | (with_reducible_and_instances refine wpAny_bind ?_))
    exact hQ _ _ _ D'
  · have h1 := hA.depth
    have h2 : (Code.builtin "super.__getattribute__" { pos := [Value.ref sp] ++ [Value.str (Str.ofString "__init_subclass__") t] }).weight ≤ 10 := Nat.le_of_ble_eq_true (by kernel_rfl)
    show A.depth + _ ≤ 500
    omega
  · have h1 := hA.units
    have h2 : (Code.builtin "super.__getattribute__" { pos := [Value.ref sp] ++ [Value.str (Str.ofString "__init_subclass__") t] }).cUnits ≤ 100 := Nat.le_of_ble_eq_true (by kernel_rfl)
    show A.units + _ ≤ 9000
    omega
end
end Mine
end
section
set_option maxHeartbeats 4000000
namespace Mine
open PySem PySem.W PySem.W.X PyProof.Rows PySem.Calls PySem.Spec
theorem typeNew {prog : Program} {w : World} {A : Around} {N B sl st f1 f2 f3 f4 f5 f6 : Addr} {x0 x1 x2 x3 x4 x5 x6 x7 x8 x9 x10 x11 : Int} {t0 t1 t2 t3 t4 t5 t6 t7 t8 t9 t10 t11 u0 u1 u2 u3 tk tn : Tok} {n : Nat} {h : Heap} {g : Array GenState} {d : Drawn} {t : Nat} {os : OsState}
    {o1 o2 o3 o4 o5 o6 : FuncData}
    (NL : h.NoLimit)
    (hB : h.get? B = some { cls := .type "tuple", data := .seq #[.type "object"] }) (hN : h.get? N = some { cls := .type "dict", data := .dict #[⟨x0, .str (Str.ofString "__module__") t0, .str (Str.ofString "cpy313.functools") u0⟩, ⟨x1, .str (Str.ofString "__qualname__") t1, .str (Str.ofString "cmp_to_key.<locals>.K") u1⟩, ⟨x2, .str (Str.ofString "__firstlineno__") t2, .int 4 u2⟩, ⟨x3, .str (Str.ofString "__slots__") t3, .ref sl⟩, ⟨x4, .str (Str.ofString "__init__") t4, .ref f1⟩, ⟨x5, .str (Str.ofString "__lt__") t5, .ref f2⟩, ⟨x6, .str (Str.ofString "__gt__") t6, .ref f3⟩, ⟨x7, .str (Str.ofString "__eq__") t7, .ref f4⟩, ⟨x8, .str (Str.ofString "__le__") t8, .ref f5⟩, ⟨x9, .str (Str.ofString "__ge__") t9, .ref f6⟩, ⟨x10, .str (Str.ofString "__hash__") t10, .none⟩, ⟨x11, .str (Str.ofString "__static_attributes__") t11, .ref st⟩] n })
    (hsl : h.get? sl = some { cls := .type "list", data := .seq #[.str (Str.ofString "obj") u3] })
    (hst : h.get? st = some { cls := .type "tuple", data := .seq #[.str (Str.ofString "obj") tk] })
    (hf1 : h.get? f1 = some { cls := .type "function", data := .func o1 }) (hf2 : h.get? f2 = some { cls := .type "function", data := .func o2 }) (hf3 : h.get? f3 = some { cls := .type "function", data := .func o3 }) (hf4 : h.get? f4 = some { cls := .type "function", data := .func o4 }) (hf5 : h.get? f5 = some { cls := .type "function", data := .func o5 }) (hf6 : h.get? f6 = some { cls := .type "function", data := .func o6 })
    (hNs : (N == sysModules) = false) {mc : Str → Option Value} (hcs : h.Ns cStatics mc) (hmc : mc (Str.ofString "thirdparty.any") = Option.none) (hA : Small A) {Q : Fin → Shared → Prop} {E : Value → Shared → Prop}
    (hQ : ∀ C ns md h' t' y1 y2 z1 z2 z3, TW h' (Fz.add (fun b o => h.get? b = some o) md (mdOb C z3)) ns C (dictOb #[⟨x0, .str (Str.ofString "__module__") t0, .str (Str.ofString "cpy313.functools") u0⟩, ⟨x2, .str (Str.ofString "__firstlineno__") t2, .int 4 u2⟩, ⟨x3, .str (Str.ofString "__slots__") t3, .ref sl⟩, ⟨x4, .str (Str.ofString "__init__") t4, .ref f1⟩, ⟨x5, .str (Str.ofString "__lt__") t5, .ref f2⟩, ⟨x6, .str (Str.ofString "__gt__") t6, .ref f3⟩, ⟨x7, .str (Str.ofString "__eq__") t7, .ref f4⟩, ⟨x8, .str (Str.ofString "__le__") t8, .ref f5⟩, ⟨x9, .str (Str.ofString "__ge__") t9, .ref f6⟩, ⟨x10, .str (Str.ofString "__hash__") t10, .none⟩, ⟨x11, .str (Str.ofString "__static_attributes__") t11, .ref st⟩, ⟨y1, .str (Str.ofString "obj") z1, .ref md⟩, ⟨y2, .str (Str.ofString "__doc__") z2, .none⟩] 3) (clsOb ns [.ref C, .type "object"] false [Str.ofString "obj"] #[some (.ref B), none, some (.str (Str.ofString "K") tn), some (.str (Str.ofString "cmp_to_key.<locals>.K") u1), some (.builtin "object.__new__"), some (.bool false)]) → h.get? C = Option.none → h.get? ns = Option.none → h.get? md = Option.none → Q (.done (.ret (.ref C))) ⟨h', g, d, t', os⟩) :
    wpAny (model prog w) A (Builtin.«type.__new__» ⟨[.type "type", .str (Str.ofString "K") tn, .ref B, .ref N], []⟩) Q E ⟨h, g, d, t, os⟩ := by
  have hTB : Shared.TypeIs ⟨h, g, d, t, os⟩ (.ref B) "tuple" := ⟨_, hB, rfl⟩
  have hTN : Shared.TypeIs ⟨h, g, d, t, os⟩ (.ref N) "dict" := ⟨_, hN, rfl⟩
  unfold Builtin.«type.__new__»
  have hqv : (Value.str (Str.ofString "cmp_to_key.<locals>.K") u1) = (Value.str (Str.ofString "cmp_to_key.<locals>.K") u1) := rfl
  repeat ((fail_if_success (with_reducible show wpAny _ _ (Builtin.Slots.read _ _ _) _ _ _)); (first | (with_reducible refine wpAny_bind ?_) | (with_reducible refine wpAny_pure ?_) | (with_reducible refine wpAny_holding ?_) | (with_reducible refine wpAny_rule ?_) | (with_reducible refine wpAny_standAt ?_) | (with_reducible refine wpAny_point ?_) | (with_reducible refine wpAny_letGo ?_) | (with_reducible refine wpAny_mkInt' ?_) | (with_reducible refine wpAny_mkStr' ?_) | (with_reducible refine wpAny_fresh' ?_) | (with_reducible refine wpAny_alloc' ?_) | (with_reducible refine wpAny_attempt ?_) | ((with_reducible show wpAny _ _ (isSubtype _ _) _ _ _); first | (refine wpAny_of_eq Fc.sub_type ?_)) | ((with_reducible show wpAny _ _ (typeOf _) _ _ _); first | (refine wpAny_of_eq Fc.ty_object ?_)) | ((with_reducible show wpAny _ _ (isType _) _ _ _); first | (refine wpAny_of_eq Fc.isT_object ?_)) | ((with_reducible show wpAny _ _ (Builtin.notOverATurnedClass _) _ _ _); first | (refine wpAny_of_eq Fc.turned ?_)) | ((with_reducible show wpAny _ _ (Builtin.extendedBase _) _ _ _); first | (refine wpAny_of_eq Fc.ext_object ?_)) | ((with_reducible show wpAny _ _ (typeLookup _ _) _ _ _); first | (refine wpAny_of_eq Fc.it_dict ?_)) | (with_reducible refine wpAny_isInstance (by assumption) (by assumption) ?_) | (with_reducible refine wpAny_typeOf (by assumption) ?_) | ((with_reducible show wpAny _ _ (load _) _ _ _); with_reducible apply wpAny_load'; focus (heap_get; done)) | ((with_reducible show wpAny _ _ (loadPart _ _) _ _ _); with_reducible apply wpAny_loadPart'; focus (heap_get; done)) | ((with_reducible show wpAny _ _ (update _ _) _ _ _); with_reducible apply wpAny_update'; focus (heap_get; done)) | ((with_reducible show wpAny _ _ (updatePart _ _ _) _ _ _); with_reducible apply wpAny_updatePart'; focus (heap_get; done)) | ((with_reducible show wpAny _ _ (ite _ _ _) _ _ _); first | ((with_reducible apply wpAny_ite_false); focus (kernel_rfl!; done)) | ((with_reducible apply wpAny_ite_true); focus (kernel_rfl!; done))) | ((with_reducible show wpAny _ _ (ite _ _ _) _ _ _); rw [if_neg (by rw [hNs]; decide)]) | wp_delta | (with_reducible_and_instances refine wpAny_pure ?_) | (with_reducible_and_instances refine wpAny_bind ?_)))
  refine slots_read hsl (fun h1 k1 => ?_)
  show wpAny _ _ (newObj (.type "dict") (.dict #[⟨x0, .str (Str.ofString "__module__") t0, .str (Str.ofString "cpy313.functools") u0⟩, ⟨x1, .str (Str.ofString "__qualname__") t1, .str (Str.ofString "cmp_to_key.<locals>.K") u1⟩, ⟨x2, .str (Str.ofString "__firstlineno__") t2, .int 4 u2⟩, ⟨x3, .str (Str.ofString "__slots__") t3, .ref sl⟩, ⟨x4, .str (Str.ofString "__init__") t4, .ref f1⟩, ⟨x5, .str (Str.ofString "__lt__") t5, .ref f2⟩, ⟨x6, .str (Str.ofString "__gt__") t6, .ref f3⟩, ⟨x7, .str (Str.ofString "__eq__") t7, .ref f4⟩, ⟨x8, .str (Str.ofString "__le__") t8, .ref f5⟩, ⟨x9, .str (Str.ofString "__ge__") t9, .ref f6⟩, ⟨x10, .str (Str.ofString "__hash__") t10, .none⟩, ⟨x11, .str (Str.ofString "__static_attributes__") t11, .ref st⟩]) >>= _) _ _ _
  refine wpAny_bind (wpAny_newObj_type ?_ (Nat.le_of_ble_eq_true rfl))
  have hns : (h1.push (dictOb #[⟨x0, .str (Str.ofString "__module__") t0, .str (Str.ofString "cpy313.functools") u0⟩, ⟨x1, .str (Str.ofString "__qualname__") t1, .str (Str.ofString "cmp_to_key.<locals>.K") u1⟩, ⟨x2, .str (Str.ofString "__firstlineno__") t2, .int 4 u2⟩, ⟨x3, .str (Str.ofString "__slots__") t3, .ref sl⟩, ⟨x4, .str (Str.ofString "__init__") t4, .ref f1⟩, ⟨x5, .str (Str.ofString "__lt__") t5, .ref f2⟩, ⟨x6, .str (Str.ofString "__gt__") t6, .ref f3⟩, ⟨x7, .str (Str.ofString "__eq__") t7, .ref f4⟩, ⟨x8, .str (Str.ofString "__le__") t8, .ref f5⟩, ⟨x9, .str (Str.ofString "__ge__") t9, .ref f6⟩, ⟨x10, .str (Str.ofString "__hash__") t10, .none⟩, ⟨x11, .str (Str.ofString "__static_attributes__") t11, .ref st⟩] 0)).get? h1.objs.size = some (dictOb #[⟨x0, .str (Str.ofString "__module__") t0, .str (Str.ofString "cpy313.functools") u0⟩, ⟨x1, .str (Str.ofString "__qualname__") t1, .str (Str.ofString "cmp_to_key.<locals>.K") u1⟩, ⟨x2, .str (Str.ofString "__firstlineno__") t2, .int 4 u2⟩, ⟨x3, .str (Str.ofString "__slots__") t3, .ref sl⟩, ⟨x4, .str (Str.ofString "__init__") t4, .ref f1⟩, ⟨x5, .str (Str.ofString "__lt__") t5, .ref f2⟩, ⟨x6, .str (Str.ofString "__gt__") t6, .ref f3⟩, ⟨x7, .str (Str.ofString "__eq__") t7, .ref f4⟩, ⟨x8, .str (Str.ofString "__le__") t8, .ref f5⟩, ⟨x9, .str (Str.ofString "__ge__") t9, .ref f6⟩, ⟨x10, .str (Str.ofString "__hash__") t10, .none⟩, ⟨x11, .str (Str.ofString "__static_attributes__") t11, .ref st⟩] 0) := Heap.get?_push_size _ rfl
  have k2 : ∀ b o, h.get? b = some o → (h1.push (dictOb #[⟨x0, .str (Str.ofString "__module__") t0, .str (Str.ofString "cpy313.functools") u0⟩, ⟨x1, .str (Str.ofString "__qualname__") t1, .str (Str.ofString "cmp_to_key.<locals>.K") u1⟩, ⟨x2, .str (Str.ofString "__firstlineno__") t2, .int 4 u2⟩, ⟨x3, .str (Str.ofString "__slots__") t3, .ref sl⟩, ⟨x4, .str (Str.ofString "__init__") t4, .ref f1⟩, ⟨x5, .str (Str.ofString "__lt__") t5, .ref f2⟩, ⟨x6, .str (Str.ofString "__gt__") t6, .ref f3⟩, ⟨x7, .str (Str.ofString "__eq__") t7, .ref f4⟩, ⟨x8, .str (Str.ofString "__le__") t8, .ref f5⟩, ⟨x9, .str (Str.ofString "__ge__") t9, .ref f6⟩, ⟨x10, .str (Str.ofString "__hash__") t10, .none⟩, ⟨x11, .str (Str.ofString "__static_attributes__") t11, .ref st⟩] 0)).get? b = some o := fun b o e => Heap.get?_push_of_some _ (k1 b o e)
  have nns : ∀ o, ¬ h.get? h1.objs.size = some o := fun o e => absurd (Heap.lt_size (k1 _ o e)) (Nat.lt_irrefl _)
  rw [show ({ cls := .type "dict", dict := Option.none, data := .dict #[⟨x0, .str (Str.ofString "__module__") t0, .str (Str.ofString "cpy313.functools") u0⟩, ⟨x1, .str (Str.ofString "__qualname__") t1, .str (Str.ofString "cmp_to_key.<locals>.K") u1⟩, ⟨x2, .str (Str.ofString "__firstlineno__") t2, .int 4 u2⟩, ⟨x3, .str (Str.ofString "__slots__") t3, .ref sl⟩, ⟨x4, .str (Str.ofString "__init__") t4, .ref f1⟩, ⟨x5, .str (Str.ofString "__lt__") t5, .ref f2⟩, ⟨x6, .str (Str.ofString "__gt__") t6, .ref f3⟩, ⟨x7, .str (Str.ofString "__eq__") t7, .ref f4⟩, ⟨x8, .str (Str.ofString "__le__") t8, .ref f5⟩, ⟨x9, .str (Str.ofString "__ge__") t9, .ref f6⟩, ⟨x10, .str (Str.ofString "__hash__") t10, .none⟩, ⟨x11, .str (Str.ofString "__static_attributes__") t11, .ref st⟩] 0 } : Obj) = dictOb #[⟨x0, .str (Str.ofString "__module__") t0, .str (Str.ofString "cpy313.functools") u0⟩, ⟨x1, .str (Str.ofString "__qualname__") t1, .str (Str.ofString "cmp_to_key.<locals>.K") u1⟩, ⟨x2, .str (Str.ofString "__firstlineno__") t2, .int 4 u2⟩, ⟨x3, .str (Str.ofString "__slots__") t3, .ref sl⟩, ⟨x4, .str (Str.ofString "__init__") t4, .ref f1⟩, ⟨x5, .str (Str.ofString "__lt__") t5, .ref f2⟩, ⟨x6, .str (Str.ofString "__gt__") t6, .ref f3⟩, ⟨x7, .str (Str.ofString "__eq__") t7, .ref f4⟩, ⟨x8, .str (Str.ofString "__le__") t8, .ref f5⟩, ⟨x9, .str (Str.ofString "__ge__") t9, .ref f6⟩, ⟨x10, .str (Str.ofString "__hash__") t10, .none⟩, ⟨x11, .str (Str.ofString "__static_attributes__") t11, .ref st⟩] 0 from rfl]
  generalize h1.push (dictOb #[⟨x0, .str (Str.ofString "__module__") t0, .str (Str.ofString "cpy313.functools") u0⟩, ⟨x1, .str (Str.ofString "__qualname__") t1, .str (Str.ofString "cmp_to_key.<locals>.K") u1⟩, ⟨x2, .str (Str.ofString "__firstlineno__") t2, .int 4 u2⟩, ⟨x3, .str (Str.ofString "__slots__") t3, .ref sl⟩, ⟨x4, .str (Str.ofString "__init__") t4, .ref f1⟩, ⟨x5, .str (Str.ofString "__lt__") t5, .ref f2⟩, ⟨x6, .str (Str.ofString "__gt__") t6, .ref f3⟩, ⟨x7, .str (Str.ofString "__eq__") t7, .ref f4⟩, ⟨x8, .str (Str.ofString "__le__") t8, .ref f5⟩, ⟨x9, .str (Str.ofString "__ge__") t9, .ref f6⟩, ⟨x10, .str (Str.ofString "__hash__") t10, .none⟩, ⟨x11, .str (Str.ofString "__static_attributes__") t11, .ref st⟩] 0) = h2 at *
  generalize h1.objs.size = ns at *
  repeat (first | (with_reducible refine wpAny_bind ?_) | (with_reducible refine wpAny_pure ?_) | (with_reducible refine wpAny_holding ?_) | (with_reducible refine wpAny_rule ?_) | (with_reducible refine wpAny_standAt ?_) | (with_reducible refine wpAny_point ?_) | (with_reducible refine wpAny_letGo ?_) | (with_reducible refine wpAny_mkInt' ?_) | (with_reducible refine wpAny_mkStr' ?_) | (with_reducible refine wpAny_fresh' ?_) | (with_reducible refine wpAny_attempt ?_) | (with_reducible refine wpAny_isInstance (by assumption) (by assumption) ?_) | (with_reducible refine wpAny_typeOf (by assumption) ?_) | ((with_reducible show wpAny _ _ (load _) _ _ _); with_reducible apply wpAny_load'; focus (heap_get; done)) | ((with_reducible show wpAny _ _ (loadPart _ _) _ _ _); with_reducible apply wpAny_loadPart'; focus (heap_get; done)) | ((with_reducible show wpAny _ _ (update _ _) _ _ _); with_reducible apply wpAny_update'; focus (heap_get; done)) | ((with_reducible show wpAny _ _ (updatePart _ _ _) _ _ _); with_reducible apply wpAny_updatePart'; focus (heap_get; done)) | ((with_reducible show wpAny _ _ (ite _ _ _) _ _ _); first | ((with_reducible apply wpAny_ite_false); focus (kernel_rfl!; done)) | ((with_reducible apply wpAny_ite_true); focus (kernel_rfl!; done))) | ((with_reducible show wpAny _ _ (nsGet _ _) _ _ _); refine get_ex (by first | assumption | exact TW.hn (by assumption)) none (by kernel_rfl!) ?_) | ((fail_if_success (with_reducible show wpAny _ _ (Sem.tryCatch _ _) _ _ _)); (fail_if_success (with_reducible show wpAny _ _ (nsGet _ _) _ _ _)); (fail_if_success (with_reducible show wpAny _ _ (nsSet _ _ _) _ _ _)); (fail_if_success (with_reducible show wpAny _ _ (nsDel _ _) _ _ _)); (fail_if_success (with_reducible show wpAny _ _ (setSlotAt _ _ _) _ _ _)); (fail_if_success (with_reducible show wpAny _ _ (slotAt _ _) _ _ _)); (fail_if_success (with_reducible show wpAny _ _ (updateCls _ _) _ _ _)); (fail_if_success (with_reducible show wpAny _ _ (alloc _) _ _ _)); (fail_if_success (with_reducible show wpAny _ _ (newFields _ _) _ _ _)); (fail_if_success (with_reducible show wpAny _ _ (newObj _ _ _) _ _ _)); (fail_if_success (with_reducible show wpAny _ _ (typeLookup _ _) _ _ _)); (fail_if_success (with_reducible show wpAny _ _ (Bind.refreshMaker _) _ _ _)); (fail_if_success (with_reducible show wpAny _ _ (dictEntries _ _) _ _ _)); (fail_if_success (with_reducible show wpAny _ _ (call _ _ _) _ _ _)); (fail_if_success (with_reducible show wpAny _ _ (getAttr _ _) _ _ _)); (fail_if_success (with_reducible show wpAny _ _ (specialOf _ _) _ _ _)); (fail_if_success (with_reducible show wpAny _ _ (Builtin.linearize _ _) _ _ _)); (fail_if_success (with_reducible show wpAny _ _ (Bind.madeBy _) _ _ _)); (fail_if_success (with_reducible show wpAny _ _ (Builtin.mroHook? _) _ _ _)); (fail_if_success (with_reducible show wpAny _ _ (Builtin.Slots.givesWeak _) _ _ _)); first | wp_delta | (with_reducible_and_instances refine wpAny_pure ?_) | (with_reducible_and_instances refine wpAny_bind ?_)))
  refine get_ex hns (some (.str (Str.ofString "cmp_to_key.<locals>.K") u1)) (by kernel_rfl!) ?_
  repeat (first | (with_reducible refine wpAny_bind ?_) | (with_reducible refine wpAny_pure ?_) | (with_reducible refine wpAny_holding ?_) | (with_reducible refine wpAny_rule ?_) | (with_reducible refine wpAny_standAt ?_) | (with_reducible refine wpAny_point ?_) | (with_reducible refine wpAny_letGo ?_) | (with_reducible refine wpAny_mkInt' ?_) | (with_reducible refine wpAny_mkStr' ?_) | (with_reducible refine wpAny_fresh' ?_) | (with_reducible refine wpAny_attempt ?_) | (with_reducible refine wpAny_isInstance (by assumption) (by assumption) ?_) | (with_reducible refine wpAny_typeOf (by assumption) ?_) | ((with_reducible show wpAny _ _ (load _) _ _ _); with_reducible apply wpAny_load'; focus (heap_get; done)) | ((with_reducible show wpAny _ _ (loadPart _ _) _ _ _); with_reducible apply wpAny_loadPart'; focus (heap_get; done)) | ((with_reducible show wpAny _ _ (update _ _) _ _ _); with_reducible apply wpAny_update'; focus (heap_get; done)) | ((with_reducible show wpAny _ _ (updatePart _ _ _) _ _ _); with_reducible apply wpAny_updatePart'; focus (heap_get; done)) | ((with_reducible show wpAny _ _ (ite _ _ _) _ _ _); first | ((with_reducible apply wpAny_ite_false); focus (kernel_rfl!; done)) | ((with_reducible apply wpAny_ite_true); focus (kernel_rfl!; done))) | ((with_reducible show wpAny _ _ (nsGet _ _) _ _ _); refine get_ex (by first | assumption | exact TW.hn (by assumption)) none (by kernel_rfl!) ?_) | ((fail_if_success (with_reducible show wpAny _ _ (Sem.tryCatch _ _) _ _ _)); (fail_if_success (with_reducible show wpAny _ _ (nsGet _ _) _ _ _)); (fail_if_success (with_reducible show wpAny _ _ (nsSet _ _ _) _ _ _)); (fail_if_success (with_reducible show wpAny _ _ (nsDel _ _) _ _ _)); (fail_if_success (with_reducible show wpAny _ _ (setSlotAt _ _ _) _ _ _)); (fail_if_success (with_reducible show wpAny _ _ (slotAt _ _) _ _ _)); (fail_if_success (with_reducible show wpAny _ _ (updateCls _ _) _ _ _)); (fail_if_success (with_reducible show wpAny _ _ (alloc _) _ _ _)); (fail_if_success (with_reducible show wpAny _ _ (newFields _ _) _ _ _)); (fail_if_success (with_reducible show wpAny _ _ (newObj _ _ _) _ _ _)); (fail_if_success (with_reducible show wpAny _ _ (typeLookup _ _) _ _ _)); (fail_if_success (with_reducible show wpAny _ _ (Bind.refreshMaker _) _ _ _)); (fail_if_success (with_reducible show wpAny _ _ (dictEntries _ _) _ _ _)); (fail_if_success (with_reducible show wpAny _ _ (call _ _ _) _ _ _)); (fail_if_success (with_reducible show wpAny _ _ (getAttr _ _) _ _ _)); (fail_if_success (with_reducible show wpAny _ _ (specialOf _ _) _ _ _)); (fail_if_success (with_reducible show wpAny _ _ (Builtin.linearize _ _) _ _ _)); (fail_if_success (with_reducible show wpAny _ _ (Bind.madeBy _) _ _ _)); (fail_if_success (with_reducible show wpAny _ _ (Builtin.mroHook? _) _ _ _)); (fail_if_success (with_reducible show wpAny _ _ (Builtin.Slots.givesWeak _) _ _ _)); first | wp_delta | (with_reducible_and_instances refine wpAny_pure ?_) | (with_reducible_and_instances refine wpAny_bind ?_)))
  refine get_ex hns (some (.str (Str.ofString "cmp_to_key.<locals>.K") u1)) (by kernel_rfl!) ?_
  repeat (first | (with_reducible refine wpAny_bind ?_) | (with_reducible refine wpAny_pure ?_) | (with_reducible refine wpAny_holding ?_) | (with_reducible refine wpAny_rule ?_) | (with_reducible refine wpAny_standAt ?_) | (with_reducible refine wpAny_point ?_) | (with_reducible refine wpAny_letGo ?_) | (with_reducible refine wpAny_mkInt' ?_) | (with_reducible refine wpAny_mkStr' ?_) | (with_reducible refine wpAny_fresh' ?_) | (with_reducible refine wpAny_attempt ?_) | (with_reducible refine wpAny_isInstance (by assumption) (by assumption) ?_) | (with_reducible refine wpAny_typeOf (by assumption) ?_) | ((with_reducible show wpAny _ _ (load _) _ _ _); with_reducible apply wpAny_load'; focus (heap_get; done)) | ((with_reducible show wpAny _ _ (loadPart _ _) _ _ _); with_reducible apply wpAny_loadPart'; focus (heap_get; done)) | ((with_reducible show wpAny _ _ (update _ _) _ _ _); with_reducible apply wpAny_update'; focus (heap_get; done)) | ((with_reducible show wpAny _ _ (updatePart _ _ _) _ _ _); with_reducible apply wpAny_updatePart'; focus (heap_get; done)) | ((with_reducible show wpAny _ _ (ite _ _ _) _ _ _); first | ((with_reducible apply wpAny_ite_false); focus (kernel_rfl!; done)) | ((with_reducible apply wpAny_ite_true); focus (kernel_rfl!; done))) | ((with_reducible show wpAny _ _ (nsGet _ _) _ _ _); refine get_ex (by first | assumption | exact TW.hn (by assumption)) none (by kernel_rfl!) ?_) | ((fail_if_success (with_reducible show wpAny _ _ (Sem.tryCatch _ _) _ _ _)); (fail_if_success (with_reducible show wpAny _ _ (nsGet _ _) _ _ _)); (fail_if_success (with_reducible show wpAny _ _ (nsSet _ _ _) _ _ _)); (fail_if_success (with_reducible show wpAny _ _ (nsDel _ _) _ _ _)); (fail_if_success (with_reducible show wpAny _ _ (setSlotAt _ _ _) _ _ _)); (fail_if_success (with_reducible show wpAny _ _ (slotAt _ _) _ _ _)); (fail_if_success (with_reducible show wpAny _ _ (updateCls _ _) _ _ _)); (fail_if_success (with_reducible show wpAny _ _ (alloc _) _ _ _)); (fail_if_success (with_reducible show wpAny _ _ (newFields _ _) _ _ _)); (fail_if_success (with_reducible show wpAny _ _ (newObj _ _ _) _ _ _)); (fail_if_success (with_reducible show wpAny _ _ (typeLookup _ _) _ _ _)); (fail_if_success (with_reducible show wpAny _ _ (Bind.refreshMaker _) _ _ _)); (fail_if_success (with_reducible show wpAny _ _ (dictEntries _ _) _ _ _)); (fail_if_success (with_reducible show wpAny _ _ (call _ _ _) _ _ _)); (fail_if_success (with_reducible show wpAny _ _ (getAttr _ _) _ _ _)); (fail_if_success (with_reducible show wpAny _ _ (specialOf _ _) _ _ _)); (fail_if_success (with_reducible show wpAny _ _ (Builtin.linearize _ _) _ _ _)); (fail_if_success (with_reducible show wpAny _ _ (Bind.madeBy _) _ _ _)); (fail_if_success (with_reducible show wpAny _ _ (Builtin.mroHook? _) _ _ _)); (fail_if_success (with_reducible show wpAny _ _ (Builtin.Slots.givesWeak _) _ _ _)); first | wp_delta | (with_reducible_and_instances refine wpAny_pure ?_) | (with_reducible_and_instances refine wpAny_bind ?_)))
  refine tw_start (P := fun b o => h.get? b = some o) k2 hns nns (clsOb ns [] true [] #[]) (by kernel_rfl) rfl fun C h3 T nC => ?_
  repeat (first | (with_reducible refine wpAny_bind ?_) | (with_reducible refine wpAny_pure ?_) | (with_reducible refine wpAny_holding ?_) | (with_reducible refine wpAny_rule ?_) | (with_reducible refine wpAny_standAt ?_) | (with_reducible refine wpAny_point ?_) | (with_reducible refine wpAny_letGo ?_) | (with_reducible refine wpAny_mkInt' ?_) | (with_reducible refine wpAny_mkStr' ?_) | (with_reducible refine wpAny_fresh' ?_) | (with_reducible refine wpAny_attempt ?_) | (with_reducible refine wpAny_isInstance (by assumption) (by assumption) ?_) | (with_reducible refine wpAny_typeOf (by assumption) ?_) | ((with_reducible show wpAny _ _ (load _) _ _ _); with_reducible apply wpAny_load'; focus (heap_get; done)) | ((with_reducible show wpAny _ _ (loadPart _ _) _ _ _); with_reducible apply wpAny_loadPart'; focus (heap_get; done)) | ((with_reducible show wpAny _ _ (update _ _) _ _ _); with_reducible apply wpAny_update'; focus (heap_get; done)) | ((with_reducible show wpAny _ _ (updatePart _ _ _) _ _ _); with_reducible apply wpAny_updatePart'; focus (heap_get; done)) | ((with_reducible show wpAny _ _ (ite _ _ _) _ _ _); first | ((with_reducible apply wpAny_ite_false); focus (kernel_rfl!; done)) | ((with_reducible apply wpAny_ite_true); focus (kernel_rfl!; done))) | ((with_reducible show wpAny _ _ (nsGet _ _) _ _ _); refine get_ex (by first | assumption | exact TW.hn (by assumption)) none (by kernel_rfl!) ?_) | ((fail_if_success (with_reducible show wpAny _ _ (Sem.tryCatch _ _) _ _ _)); (fail_if_success (with_reducible show wpAny _ _ (nsGet _ _) _ _ _)); (fail_if_success (with_reducible show wpAny _ _ (nsSet _ _ _) _ _ _)); (fail_if_success (with_reducible show wpAny _ _ (nsDel _ _) _ _ _)); (fail_if_success (with_reducible show wpAny _ _ (setSlotAt _ _ _) _ _ _)); (fail_if_success (with_reducible show wpAny _ _ (slotAt _ _) _ _ _)); (fail_if_success (with_reducible show wpAny _ _ (updateCls _ _) _ _ _)); (fail_if_success (with_reducible show wpAny _ _ (alloc _) _ _ _)); (fail_if_success (with_reducible show wpAny _ _ (newFields _ _) _ _ _)); (fail_if_success (with_reducible show wpAny _ _ (newObj _ _ _) _ _ _)); (fail_if_success (with_reducible show wpAny _ _ (typeLookup _ _) _ _ _)); (fail_if_success (with_reducible show wpAny _ _ (Bind.refreshMaker _) _ _ _)); (fail_if_success (with_reducible show wpAny _ _ (dictEntries _ _) _ _ _)); (fail_if_success (with_reducible show wpAny _ _ (call _ _ _) _ _ _)); (fail_if_success (with_reducible show wpAny _ _ (getAttr _ _) _ _ _)); (fail_if_success (with_reducible show wpAny _ _ (specialOf _ _) _ _ _)); (fail_if_success (with_reducible show wpAny _ _ (Builtin.linearize _ _) _ _ _)); (fail_if_success (with_reducible show wpAny _ _ (Bind.madeBy _) _ _ _)); (fail_if_success (with_reducible show wpAny _ _ (Builtin.mroHook? _) _ _ _)); (fail_if_success (with_reducible show wpAny _ _ (Builtin.Slots.givesWeak _) _ _ _)); first | wp_delta | (with_reducible_and_instances refine wpAny_pure ?_) | (with_reducible_and_instances refine wpAny_bind ?_)))
  refine tw_setSlot T (clsOb ns [] true [] #[some (.ref B)]) (by kernel_rfl) rfl rfl fun h4 T => ?_
  repeat (first | (with_reducible refine wpAny_bind ?_) | (with_reducible refine wpAny_pure ?_) | (with_reducible refine wpAny_holding ?_) | (with_reducible refine wpAny_rule ?_) | (with_reducible refine wpAny_standAt ?_) | (with_reducible refine wpAny_point ?_) | (with_reducible refine wpAny_letGo ?_) | (with_reducible refine wpAny_mkInt' ?_) | (with_reducible refine wpAny_mkStr' ?_) | (with_reducible refine wpAny_fresh' ?_) | (with_reducible refine wpAny_attempt ?_) | (with_reducible refine wpAny_isInstance (by assumption) (by assumption) ?_) | (with_reducible refine wpAny_typeOf (by assumption) ?_) | ((with_reducible show wpAny _ _ (load _) _ _ _); with_reducible apply wpAny_load'; focus (heap_get; done)) | ((with_reducible show wpAny _ _ (loadPart _ _) _ _ _); with_reducible apply wpAny_loadPart'; focus (heap_get; done)) | ((with_reducible show wpAny _ _ (update _ _) _ _ _); with_reducible apply wpAny_update'; focus (heap_get; done)) | ((with_reducible show wpAny _ _ (updatePart _ _ _) _ _ _); with_reducible apply wpAny_updatePart'; focus (heap_get; done)) | ((with_reducible show wpAny _ _ (ite _ _ _) _ _ _); first | ((with_reducible apply wpAny_ite_false); focus (kernel_rfl!; done)) | ((with_reducible apply wpAny_ite_true); focus (kernel_rfl!; done))) | ((with_reducible show wpAny _ _ (nsGet _ _) _ _ _); refine get_ex (by first | assumption | exact TW.hn (by assumption)) none (by kernel_rfl!) ?_) | ((fail_if_success (with_reducible show wpAny _ _ (Sem.tryCatch _ _) _ _ _)); (fail_if_success (with_reducible show wpAny _ _ (nsGet _ _) _ _ _)); (fail_if_success (with_reducible show wpAny _ _ (nsSet _ _ _) _ _ _)); (fail_if_success (with_reducible show wpAny _ _ (nsDel _ _) _ _ _)); (fail_if_success (with_reducible show wpAny _ _ (setSlotAt _ _ _) _ _ _)); (fail_if_success (with_reducible show wpAny _ _ (slotAt _ _) _ _ _)); (fail_if_success (with_reducible show wpAny _ _ (updateCls _ _) _ _ _)); (fail_if_success (with_reducible show wpAny _ _ (alloc _) _ _ _)); (fail_if_success (with_reducible show wpAny _ _ (newFields _ _) _ _ _)); (fail_if_success (with_reducible show wpAny _ _ (newObj _ _ _) _ _ _)); (fail_if_success (with_reducible show wpAny _ _ (typeLookup _ _) _ _ _)); (fail_if_success (with_reducible show wpAny _ _ (Bind.refreshMaker _) _ _ _)); (fail_if_success (with_reducible show wpAny _ _ (dictEntries _ _) _ _ _)); (fail_if_success (with_reducible show wpAny _ _ (call _ _ _) _ _ _)); (fail_if_success (with_reducible show wpAny _ _ (getAttr _ _) _ _ _)); (fail_if_success (with_reducible show wpAny _ _ (specialOf _ _) _ _ _)); (fail_if_success (with_reducible show wpAny _ _ (Builtin.linearize _ _) _ _ _)); (fail_if_success (with_reducible show wpAny _ _ (Bind.madeBy _) _ _ _)); (fail_if_success (with_reducible show wpAny _ _ (Builtin.mroHook? _) _ _ _)); (fail_if_success (with_reducible show wpAny _ _ (Builtin.Slots.givesWeak _) _ _ _)); first | wp_delta | (with_reducible_and_instances refine wpAny_pure ?_) | (with_reducible_and_instances refine wpAny_bind ?_)))
  refine tw_setSlot T (clsOb ns [] true [] #[some (.ref B), none, some (.str (Str.ofString "K") tn)]) (by kernel_rfl) rfl rfl fun h5 T => ?_
  repeat (first | (with_reducible refine wpAny_bind ?_) | (with_reducible refine wpAny_pure ?_) | (with_reducible refine wpAny_holding ?_) | (with_reducible refine wpAny_rule ?_) | (with_reducible refine wpAny_standAt ?_) | (with_reducible refine wpAny_point ?_) | (with_reducible refine wpAny_letGo ?_) | (with_reducible refine wpAny_mkInt' ?_) | (with_reducible refine wpAny_mkStr' ?_) | (with_reducible refine wpAny_fresh' ?_) | (with_reducible refine wpAny_attempt ?_) | (with_reducible refine wpAny_isInstance (by assumption) (by assumption) ?_) | (with_reducible refine wpAny_typeOf (by assumption) ?_) | ((with_reducible show wpAny _ _ (load _) _ _ _); with_reducible apply wpAny_load'; focus (heap_get; done)) | ((with_reducible show wpAny _ _ (loadPart _ _) _ _ _); with_reducible apply wpAny_loadPart'; focus (heap_get; done)) | ((with_reducible show wpAny _ _ (update _ _) _ _ _); with_reducible apply wpAny_update'; focus (heap_get; done)) | ((with_reducible show wpAny _ _ (updatePart _ _ _) _ _ _); with_reducible apply wpAny_updatePart'; focus (heap_get; done)) | ((with_reducible show wpAny _ _ (ite _ _ _) _ _ _); first | ((with_reducible apply wpAny_ite_false); focus (kernel_rfl!; done)) | ((with_reducible apply wpAny_ite_true); focus (kernel_rfl!; done))) | ((with_reducible show wpAny _ _ (nsGet _ _) _ _ _); refine get_ex (by first | assumption | exact TW.hn (by assumption)) none (by kernel_rfl!) ?_) | ((fail_if_success (with_reducible show wpAny _ _ (Sem.tryCatch _ _) _ _ _)); (fail_if_success (with_reducible show wpAny _ _ (nsGet _ _) _ _ _)); (fail_if_success (with_reducible show wpAny _ _ (nsSet _ _ _) _ _ _)); (fail_if_success (with_reducible show wpAny _ _ (nsDel _ _) _ _ _)); (fail_if_success (with_reducible show wpAny _ _ (setSlotAt _ _ _) _ _ _)); (fail_if_success (with_reducible show wpAny _ _ (slotAt _ _) _ _ _)); (fail_if_success (with_reducible show wpAny _ _ (updateCls _ _) _ _ _)); (fail_if_success (with_reducible show wpAny _ _ (alloc _) _ _ _)); (fail_if_success (with_reducible show wpAny _ _ (newFields _ _) _ _ _)); (fail_if_success (with_reducible show wpAny _ _ (newObj _ _ _) _ _ _)); (fail_if_success (with_reducible show wpAny _ _ (typeLookup _ _) _ _ _)); (fail_if_success (with_reducible show wpAny _ _ (Bind.refreshMaker _) _ _ _)); (fail_if_success (with_reducible show wpAny _ _ (dictEntries _ _) _ _ _)); (fail_if_success (with_reducible show wpAny _ _ (call _ _ _) _ _ _)); (fail_if_success (with_reducible show wpAny _ _ (getAttr _ _) _ _ _)); (fail_if_success (with_reducible show wpAny _ _ (specialOf _ _) _ _ _)); (fail_if_success (with_reducible show wpAny _ _ (Builtin.linearize _ _) _ _ _)); (fail_if_success (with_reducible show wpAny _ _ (Bind.madeBy _) _ _ _)); (fail_if_success (with_reducible show wpAny _ _ (Builtin.mroHook? _) _ _ _)); (fail_if_success (with_reducible show wpAny _ _ (Builtin.Slots.givesWeak _) _ _ _)); first | wp_delta | (with_reducible_and_instances refine wpAny_pure ?_) | (with_reducible_and_instances refine wpAny_bind ?_)))
  refine tw_setSlot T (clsOb ns [] true [] #[some (.ref B), none, some (.str (Str.ofString "K") tn), some (.str (Str.ofString "cmp_to_key.<locals>.K") u1)]) (by kernel_rfl) rfl rfl fun h6 T => ?_
  repeat (first | (with_reducible refine wpAny_bind ?_) | (with_reducible refine wpAny_pure ?_) | (with_reducible refine wpAny_holding ?_) | (with_reducible refine wpAny_rule ?_) | (with_reducible refine wpAny_standAt ?_) | (with_reducible refine wpAny_point ?_) | (with_reducible refine wpAny_letGo ?_) | (with_reducible refine wpAny_mkInt' ?_) | (with_reducible refine wpAny_mkStr' ?_) | (with_reducible refine wpAny_fresh' ?_) | (with_reducible refine wpAny_attempt ?_) | (with_reducible refine wpAny_isInstance (by assumption) (by assumption) ?_) | (with_reducible refine wpAny_typeOf (by assumption) ?_) | ((with_reducible show wpAny _ _ (load _) _ _ _); with_reducible apply wpAny_load'; focus (heap_get; done)) | ((with_reducible show wpAny _ _ (loadPart _ _) _ _ _); with_reducible apply wpAny_loadPart'; focus (heap_get; done)) | ((with_reducible show wpAny _ _ (update _ _) _ _ _); with_reducible apply wpAny_update'; focus (heap_get; done)) | ((with_reducible show wpAny _ _ (updatePart _ _ _) _ _ _); with_reducible apply wpAny_updatePart'; focus (heap_get; done)) | ((with_reducible show wpAny _ _ (ite _ _ _) _ _ _); first | ((with_reducible apply wpAny_ite_false); focus (kernel_rfl!; done)) | ((with_reducible apply wpAny_ite_true); focus (kernel_rfl!; done))) | ((with_reducible show wpAny _ _ (nsGet _ _) _ _ _); refine get_ex (by first | assumption | exact TW.hn (by assumption)) none (by kernel_rfl!) ?_) | ((fail_if_success (with_reducible show wpAny _ _ (Sem.tryCatch _ _) _ _ _)); (fail_if_success (with_reducible show wpAny _ _ (nsGet _ _) _ _ _)); (fail_if_success (with_reducible show wpAny _ _ (nsSet _ _ _) _ _ _)); (fail_if_success (with_reducible show wpAny _ _ (nsDel _ _) _ _ _)); (fail_if_success (with_reducible show wpAny _ _ (setSlotAt _ _ _) _ _ _)); (fail_if_success (with_reducible show wpAny _ _ (slotAt _ _) _ _ _)); (fail_if_success (with_reducible show wpAny _ _ (updateCls _ _) _ _ _)); (fail_if_success (with_reducible show wpAny _ _ (alloc _) _ _ _)); (fail_if_success (with_reducible show wpAny _ _ (newFields _ _) _ _ _)); (fail_if_success (with_reducible show wpAny _ _ (newObj _ _ _) _ _ _)); (fail_if_success (with_reducible show wpAny _ _ (typeLookup _ _) _ _ _)); (fail_if_success (with_reducible show wpAny _ _ (Bind.refreshMaker _) _ _ _)); (fail_if_success (with_reducible show wpAny _ _ (dictEntries _ _) _ _ _)); (fail_if_success (with_reducible show wpAny _ _ (call _ _ _) _ _ _)); (fail_if_success (with_reducible show wpAny _ _ (getAttr _ _) _ _ _)); (fail_if_success (with_reducible show wpAny _ _ (specialOf _ _) _ _ _)); (fail_if_success (with_reducible show wpAny _ _ (Builtin.linearize _ _) _ _ _)); (fail_if_success (with_reducible show wpAny _ _ (Bind.madeBy _) _ _ _)); (fail_if_success (with_reducible show wpAny _ _ (Builtin.mroHook? _) _ _ _)); (fail_if_success (with_reducible show wpAny _ _ (Builtin.Slots.givesWeak _) _ _ _)); first | wp_delta | (with_reducible_and_instances refine wpAny_pure ?_) | (with_reducible_and_instances refine wpAny_bind ?_)))
  refine tw_nsDel T (dictOb #[⟨x0, .str (Str.ofString "__module__") t0, .str (Str.ofString "cpy313.functools") u0⟩, ⟨x2, .str (Str.ofString "__firstlineno__") t2, .int 4 u2⟩, ⟨x3, .str (Str.ofString "__slots__") t3, .ref sl⟩, ⟨x4, .str (Str.ofString "__init__") t4, .ref f1⟩, ⟨x5, .str (Str.ofString "__lt__") t5, .ref f2⟩, ⟨x6, .str (Str.ofString "__gt__") t6, .ref f3⟩, ⟨x7, .str (Str.ofString "__eq__") t7, .ref f4⟩, ⟨x8, .str (Str.ofString "__le__") t8, .ref f5⟩, ⟨x9, .str (Str.ofString "__ge__") t9, .ref f6⟩, ⟨x10, .str (Str.ofString "__hash__") t10, .none⟩, ⟨x11, .str (Str.ofString "__static_attributes__") t11, .ref st⟩] 1) (by kernel_rfl) (by kernel_rfl) rfl fun h7 T => ?_
  repeat (first | (with_reducible refine wpAny_bind ?_) | (with_reducible refine wpAny_pure ?_) | (with_reducible refine wpAny_holding ?_) | (with_reducible refine wpAny_rule ?_) | (with_reducible refine wpAny_standAt ?_) | (with_reducible refine wpAny_point ?_) | (with_reducible refine wpAny_letGo ?_) | (with_reducible refine wpAny_mkInt' ?_) | (with_reducible refine wpAny_mkStr' ?_) | (with_reducible refine wpAny_fresh' ?_) | (with_reducible refine wpAny_attempt ?_) | ((with_reducible show wpAny _ _ (Builtin.linearize _ _) _ _ _); first | (refine wpAny_of_eq Fc.lin_object ?_)) | ((with_reducible show wpAny _ _ (Builtin.mroHook? _) _ _ _); first | (refine wpAny_of_eq Fc.hook_type ?_)) | (with_reducible refine wpAny_isInstance (by assumption) (by assumption) ?_) | (with_reducible refine wpAny_typeOf (by assumption) ?_) | ((with_reducible show wpAny _ _ (load _) _ _ _); with_reducible apply wpAny_load'; focus (heap_get; done)) | ((with_reducible show wpAny _ _ (loadPart _ _) _ _ _); with_reducible apply wpAny_loadPart'; focus (heap_get; done)) | ((with_reducible show wpAny _ _ (update _ _) _ _ _); with_reducible apply wpAny_update'; focus (heap_get; done)) | ((with_reducible show wpAny _ _ (updatePart _ _ _) _ _ _); with_reducible apply wpAny_updatePart'; focus (heap_get; done)) | ((with_reducible show wpAny _ _ (ite _ _ _) _ _ _); first | ((with_reducible apply wpAny_ite_false); focus (kernel_rfl!; done)) | ((with_reducible apply wpAny_ite_true); focus (kernel_rfl!; done))) | ((with_reducible show wpAny _ _ (nsGet _ _) _ _ _); refine get_ex (by first | assumption | exact TW.hn (by assumption)) none (by kernel_rfl!) ?_) | ((fail_if_success (with_reducible show wpAny _ _ (Sem.tryCatch _ _) _ _ _)); (fail_if_success (with_reducible show wpAny _ _ (nsGet _ _) _ _ _)); (fail_if_success (with_reducible show wpAny _ _ (nsSet _ _ _) _ _ _)); (fail_if_success (with_reducible show wpAny _ _ (nsDel _ _) _ _ _)); (fail_if_success (with_reducible show wpAny _ _ (setSlotAt _ _ _) _ _ _)); (fail_if_success (with_reducible show wpAny _ _ (slotAt _ _) _ _ _)); (fail_if_success (with_reducible show wpAny _ _ (updateCls _ _) _ _ _)); (fail_if_success (with_reducible show wpAny _ _ (alloc _) _ _ _)); (fail_if_success (with_reducible show wpAny _ _ (newFields _ _) _ _ _)); (fail_if_success (with_reducible show wpAny _ _ (newObj _ _ _) _ _ _)); (fail_if_success (with_reducible show wpAny _ _ (typeLookup _ _) _ _ _)); (fail_if_success (with_reducible show wpAny _ _ (Bind.refreshMaker _) _ _ _)); (fail_if_success (with_reducible show wpAny _ _ (dictEntries _ _) _ _ _)); (fail_if_success (with_reducible show wpAny _ _ (call _ _ _) _ _ _)); (fail_if_success (with_reducible show wpAny _ _ (getAttr _ _) _ _ _)); (fail_if_success (with_reducible show wpAny _ _ (specialOf _ _) _ _ _)); (fail_if_success (with_reducible show wpAny _ _ (Builtin.linearize _ _) _ _ _)); (fail_if_success (with_reducible show wpAny _ _ (Bind.madeBy _) _ _ _)); (fail_if_success (with_reducible show wpAny _ _ (Builtin.mroHook? _) _ _ _)); (fail_if_success (with_reducible show wpAny _ _ (Builtin.Slots.givesWeak _) _ _ _)); first | wp_delta | (with_reducible_and_instances refine wpAny_pure ?_) | (with_reducible_and_instances refine wpAny_bind ?_)))
  rw [Fc.fil C]
  refine wpAny_of_eq (a := false) (by kernel_rfl) ?_
  repeat (first | (with_reducible refine wpAny_bind ?_) | (with_reducible refine wpAny_pure ?_) | (with_reducible refine wpAny_holding ?_) | (with_reducible refine wpAny_rule ?_) | (with_reducible refine wpAny_standAt ?_) | (with_reducible refine wpAny_point ?_) | (with_reducible refine wpAny_letGo ?_) | (with_reducible refine wpAny_mkInt' ?_) | (with_reducible refine wpAny_mkStr' ?_) | (with_reducible refine wpAny_fresh' ?_) | (with_reducible refine wpAny_attempt ?_) | (with_reducible refine wpAny_isInstance (by assumption) (by assumption) ?_) | (with_reducible refine wpAny_typeOf (by assumption) ?_) | ((with_reducible show wpAny _ _ (load _) _ _ _); with_reducible apply wpAny_load'; focus (heap_get; done)) | ((with_reducible show wpAny _ _ (loadPart _ _) _ _ _); with_reducible apply wpAny_loadPart'; focus (heap_get; done)) | ((with_reducible show wpAny _ _ (update _ _) _ _ _); with_reducible apply wpAny_update'; focus (heap_get; done)) | ((with_reducible show wpAny _ _ (updatePart _ _ _) _ _ _); with_reducible apply wpAny_updatePart'; focus (heap_get; done)) | ((with_reducible show wpAny _ _ (ite _ _ _) _ _ _); first | ((with_reducible apply wpAny_ite_false); focus (kernel_rfl!; done)) | ((with_reducible apply wpAny_ite_true); focus (kernel_rfl!; done))) | ((with_reducible show wpAny _ _ (nsGet _ _) _ _ _); refine get_ex (by first | assumption | exact TW.hn (by assumption)) none (by kernel_rfl!) ?_) | ((fail_if_success (with_reducible show wpAny _ _ (Sem.tryCatch _ _) _ _ _)); (fail_if_success (with_reducible show wpAny _ _ (nsGet _ _) _ _ _)); (fail_if_success (with_reducible show wpAny _ _ (nsSet _ _ _) _ _ _)); (fail_if_success (with_reducible show wpAny _ _ (nsDel _ _) _ _ _)); (fail_if_success (with_reducible show wpAny _ _ (setSlotAt _ _ _) _ _ _)); (fail_if_success (with_reducible show wpAny _ _ (slotAt _ _) _ _ _)); (fail_if_success (with_reducible show wpAny _ _ (updateCls _ _) _ _ _)); (fail_if_success (with_reducible show wpAny _ _ (alloc _) _ _ _)); (fail_if_success (with_reducible show wpAny _ _ (newFields _ _) _ _ _)); (fail_if_success (with_reducible show wpAny _ _ (newObj _ _ _) _ _ _)); (fail_if_success (with_reducible show wpAny _ _ (typeLookup _ _) _ _ _)); (fail_if_success (with_reducible show wpAny _ _ (Bind.refreshMaker _) _ _ _)); (fail_if_success (with_reducible show wpAny _ _ (dictEntries _ _) _ _ _)); (fail_if_success (with_reducible show wpAny _ _ (call _ _ _) _ _ _)); (fail_if_success (with_reducible show wpAny _ _ (getAttr _ _) _ _ _)); (fail_if_success (with_reducible show wpAny _ _ (specialOf _ _) _ _ _)); (fail_if_success (with_reducible show wpAny _ _ (Builtin.linearize _ _) _ _ _)); (fail_if_success (with_reducible show wpAny _ _ (Bind.madeBy _) _ _ _)); (fail_if_success (with_reducible show wpAny _ _ (Builtin.mroHook? _) _ _ _)); (fail_if_success (with_reducible show wpAny _ _ (Builtin.Slots.givesWeak _) _ _ _)); first | wp_delta | (with_reducible_and_instances refine wpAny_pure ?_) | (with_reducible_and_instances refine wpAny_bind ?_)))
  refine tw_updateCls T (clsOb ns [.ref C, .type "object"] true [] #[some (.ref B), none, some (.str (Str.ofString "K") tn), some (.str (Str.ofString "cmp_to_key.<locals>.K") u1)]) rfl (by kernel_rfl) (by kernel_rfl) rfl fun h8 T => ?_
  repeat (first | (with_reducible refine wpAny_bind ?_) | (with_reducible refine wpAny_pure ?_) | (with_reducible refine wpAny_holding ?_) | (with_reducible refine wpAny_rule ?_) | (with_reducible refine wpAny_standAt ?_) | (with_reducible refine wpAny_point ?_) | (with_reducible refine wpAny_letGo ?_) | (with_reducible refine wpAny_mkInt' ?_) | (with_reducible refine wpAny_mkStr' ?_) | (with_reducible refine wpAny_fresh' ?_) | (with_reducible refine wpAny_attempt ?_) | ((with_reducible show wpAny _ _ (Bind.madeBy _) _ _ _); first | (refine wpAny_of_eq Fc.made_object ?_)) | (with_reducible refine wpAny_isInstance (by assumption) (by assumption) ?_) | (with_reducible refine wpAny_typeOf (by assumption) ?_) | ((with_reducible show wpAny _ _ (load _) _ _ _); with_reducible apply wpAny_load'; focus (heap_get; done)) | ((with_reducible show wpAny _ _ (loadPart _ _) _ _ _); with_reducible apply wpAny_loadPart'; focus (heap_get; done)) | ((with_reducible show wpAny _ _ (update _ _) _ _ _); with_reducible apply wpAny_update'; focus (heap_get; done)) | ((with_reducible show wpAny _ _ (updatePart _ _ _) _ _ _); with_reducible apply wpAny_updatePart'; focus (heap_get; done)) | ((with_reducible show wpAny _ _ (ite _ _ _) _ _ _); first | ((with_reducible apply wpAny_ite_false); focus (kernel_rfl!; done)) | ((with_reducible apply wpAny_ite_true); focus (kernel_rfl!; done))) | ((with_reducible show wpAny _ _ (nsGet _ _) _ _ _); refine get_ex (by first | assumption | exact TW.hn (by assumption)) none (by kernel_rfl!) ?_) | ((fail_if_success (with_reducible show wpAny _ _ (Sem.tryCatch _ _) _ _ _)); (fail_if_success (with_reducible show wpAny _ _ (nsGet _ _) _ _ _)); (fail_if_success (with_reducible show wpAny _ _ (nsSet _ _ _) _ _ _)); (fail_if_success (with_reducible show wpAny _ _ (nsDel _ _) _ _ _)); (fail_if_success (with_reducible show wpAny _ _ (setSlotAt _ _ _) _ _ _)); (fail_if_success (with_reducible show wpAny _ _ (slotAt _ _) _ _ _)); (fail_if_success (with_reducible show wpAny _ _ (updateCls _ _) _ _ _)); (fail_if_success (with_reducible show wpAny _ _ (alloc _) _ _ _)); (fail_if_success (with_reducible show wpAny _ _ (newFields _ _) _ _ _)); (fail_if_success (with_reducible show wpAny _ _ (newObj _ _ _) _ _ _)); (fail_if_success (with_reducible show wpAny _ _ (typeLookup _ _) _ _ _)); (fail_if_success (with_reducible show wpAny _ _ (Bind.refreshMaker _) _ _ _)); (fail_if_success (with_reducible show wpAny _ _ (dictEntries _ _) _ _ _)); (fail_if_success (with_reducible show wpAny _ _ (call _ _ _) _ _ _)); (fail_if_success (with_reducible show wpAny _ _ (getAttr _ _) _ _ _)); (fail_if_success (with_reducible show wpAny _ _ (specialOf _ _) _ _ _)); (fail_if_success (with_reducible show wpAny _ _ (Builtin.linearize _ _) _ _ _)); (fail_if_success (with_reducible show wpAny _ _ (Bind.madeBy _) _ _ _)); (fail_if_success (with_reducible show wpAny _ _ (Builtin.mroHook? _) _ _ _)); (fail_if_success (with_reducible show wpAny _ _ (Builtin.Slots.givesWeak _) _ _ _)); first | wp_delta | (with_reducible_and_instances refine wpAny_pure ?_) | (with_reducible_and_instances refine wpAny_bind ?_)))
  refine tw_setSlot T (clsOb ns [.ref C, .type "object"] true [] #[some (.ref B), none, some (.str (Str.ofString "K") tn), some (.str (Str.ofString "cmp_to_key.<locals>.K") u1), some (.builtin "object.__new__")]) (by kernel_rfl) rfl rfl fun h9 T => ?_
  repeat (first | (with_reducible refine wpAny_bind ?_) | (with_reducible refine wpAny_pure ?_) | (with_reducible refine wpAny_holding ?_) | (with_reducible refine wpAny_rule ?_) | (with_reducible refine wpAny_standAt ?_) | (with_reducible refine wpAny_point ?_) | (with_reducible refine wpAny_letGo ?_) | (with_reducible refine wpAny_mkInt' ?_) | (with_reducible refine wpAny_mkStr' ?_) | (with_reducible refine wpAny_fresh' ?_) | (with_reducible refine wpAny_attempt ?_) | ((with_reducible show wpAny _ _ (Bind.madeBy _) _ _ _); first | (refine wpAny_of_eq Fc.made_object ?_)) | (with_reducible refine wpAny_isInstance (by assumption) (by assumption) ?_) | (with_reducible refine wpAny_typeOf (by assumption) ?_) | ((with_reducible show wpAny _ _ (load _) _ _ _); with_reducible apply wpAny_load'; focus (heap_get; done)) | ((with_reducible show wpAny _ _ (loadPart _ _) _ _ _); with_reducible apply wpAny_loadPart'; focus (heap_get; done)) | ((with_reducible show wpAny _ _ (update _ _) _ _ _); with_reducible apply wpAny_update'; focus (heap_get; done)) | ((with_reducible show wpAny _ _ (updatePart _ _ _) _ _ _); with_reducible apply wpAny_updatePart'; focus (heap_get; done)) | ((with_reducible show wpAny _ _ (ite _ _ _) _ _ _); first | ((with_reducible apply wpAny_ite_false); focus (kernel_rfl!; done)) | ((with_reducible apply wpAny_ite_true); focus (kernel_rfl!; done))) | ((with_reducible show wpAny _ _ (nsGet _ _) _ _ _); refine get_ex (by first | assumption | exact TW.hn (by assumption)) none (by kernel_rfl!) ?_) | ((fail_if_success (with_reducible show wpAny _ _ (Sem.tryCatch _ _) _ _ _)); (fail_if_success (with_reducible show wpAny _ _ (nsGet _ _) _ _ _)); (fail_if_success (with_reducible show wpAny _ _ (nsSet _ _ _) _ _ _)); (fail_if_success (with_reducible show wpAny _ _ (nsDel _ _) _ _ _)); (fail_if_success (with_reducible show wpAny _ _ (setSlotAt _ _ _) _ _ _)); (fail_if_success (with_reducible show wpAny _ _ (slotAt _ _) _ _ _)); (fail_if_success (with_reducible show wpAny _ _ (updateCls _ _) _ _ _)); (fail_if_success (with_reducible show wpAny _ _ (alloc _) _ _ _)); (fail_if_success (with_reducible show wpAny _ _ (newFields _ _) _ _ _)); (fail_if_success (with_reducible show wpAny _ _ (newObj _ _ _) _ _ _)); (fail_if_success (with_reducible show wpAny _ _ (typeLookup _ _) _ _ _)); (fail_if_success (with_reducible show wpAny _ _ (Bind.refreshMaker _) _ _ _)); (fail_if_success (with_reducible show wpAny _ _ (dictEntries _ _) _ _ _)); (fail_if_success (with_reducible show wpAny _ _ (call _ _ _) _ _ _)); (fail_if_success (with_reducible show wpAny _ _ (getAttr _ _) _ _ _)); (fail_if_success (with_reducible show wpAny _ _ (specialOf _ _) _ _ _)); (fail_if_success (with_reducible show wpAny _ _ (Builtin.linearize _ _) _ _ _)); (fail_if_success (with_reducible show wpAny _ _ (Bind.madeBy _) _ _ _)); (fail_if_success (with_reducible show wpAny _ _ (Builtin.mroHook? _) _ _ _)); (fail_if_success (with_reducible show wpAny _ _ (Builtin.Slots.givesWeak _) _ _ _)); first | wp_delta | (with_reducible_and_instances refine wpAny_pure ?_) | (with_reducible_and_instances refine wpAny_bind ?_)))
  unfold Bind.refreshMaker
  refine wpAny_bind (tw_slotAt T (some (.builtin "object.__new__")) rfl ?_)
  repeat (first | (with_reducible refine wpAny_bind ?_) | (with_reducible refine wpAny_pure ?_) | (with_reducible refine wpAny_holding ?_) | (with_reducible refine wpAny_rule ?_) | (with_reducible refine wpAny_standAt ?_) | (with_reducible refine wpAny_point ?_) | (with_reducible refine wpAny_letGo ?_) | (with_reducible refine wpAny_mkInt' ?_) | (with_reducible refine wpAny_mkStr' ?_) | (with_reducible refine wpAny_fresh' ?_) | (with_reducible refine wpAny_attempt ?_) | ((with_reducible show wpAny _ _ (Bind.madeBy _) _ _ _); first | (refine wpAny_of_eq Fc.made_object ?_)) | (with_reducible refine wpAny_isInstance (by assumption) (by assumption) ?_) | (with_reducible refine wpAny_typeOf (by assumption) ?_) | ((with_reducible show wpAny _ _ (load _) _ _ _); with_reducible apply wpAny_load'; focus (heap_get; done)) | ((with_reducible show wpAny _ _ (loadPart _ _) _ _ _); with_reducible apply wpAny_loadPart'; focus (heap_get; done)) | ((with_reducible show wpAny _ _ (update _ _) _ _ _); with_reducible apply wpAny_update'; focus (heap_get; done)) | ((with_reducible show wpAny _ _ (updatePart _ _ _) _ _ _); with_reducible apply wpAny_updatePart'; focus (heap_get; done)) | ((with_reducible show wpAny _ _ (ite _ _ _) _ _ _); first | ((with_reducible apply wpAny_ite_false); focus (kernel_rfl!; done)) | ((with_reducible apply wpAny_ite_true); focus (kernel_rfl!; done))) | ((with_reducible show wpAny _ _ (nsGet _ _) _ _ _); refine get_ex (by first | assumption | exact TW.hn (by assumption)) none (by kernel_rfl!) ?_) | ((fail_if_success (with_reducible show wpAny _ _ (Sem.tryCatch _ _) _ _ _)); (fail_if_success (with_reducible show wpAny _ _ (nsGet _ _) _ _ _)); (fail_if_success (with_reducible show wpAny _ _ (nsSet _ _ _) _ _ _)); (fail_if_success (with_reducible show wpAny _ _ (nsDel _ _) _ _ _)); (fail_if_success (with_reducible show wpAny _ _ (setSlotAt _ _ _) _ _ _)); (fail_if_success (with_reducible show wpAny _ _ (slotAt _ _) _ _ _)); (fail_if_success (with_reducible show wpAny _ _ (updateCls _ _) _ _ _)); (fail_if_success (with_reducible show wpAny _ _ (alloc _) _ _ _)); (fail_if_success (with_reducible show wpAny _ _ (newFields _ _) _ _ _)); (fail_if_success (with_reducible show wpAny _ _ (newObj _ _ _) _ _ _)); (fail_if_success (with_reducible show wpAny _ _ (typeLookup _ _) _ _ _)); (fail_if_success (with_reducible show wpAny _ _ (Bind.refreshMaker _) _ _ _)); (fail_if_success (with_reducible show wpAny _ _ (dictEntries _ _) _ _ _)); (fail_if_success (with_reducible show wpAny _ _ (call _ _ _) _ _ _)); (fail_if_success (with_reducible show wpAny _ _ (getAttr _ _) _ _ _)); (fail_if_success (with_reducible show wpAny _ _ (specialOf _ _) _ _ _)); (fail_if_success (with_reducible show wpAny _ _ (Builtin.linearize _ _) _ _ _)); (fail_if_success (with_reducible show wpAny _ _ (Bind.madeBy _) _ _ _)); (fail_if_success (with_reducible show wpAny _ _ (Builtin.mroHook? _) _ _ _)); (fail_if_success (with_reducible show wpAny _ _ (Builtin.Slots.givesWeak _) _ _ _)); first | wp_delta | (with_reducible_and_instances refine wpAny_pure ?_) | (with_reducible_and_instances refine wpAny_bind ?_)))
  refine tw_lookup T none _ (by kernel_rfl) Fc.own_new ?_
  refine wpAny_of_eq (a := ()) (by kernel_rfl) ?_
  repeat (first | (with_reducible refine wpAny_bind ?_) | (with_reducible refine wpAny_pure ?_) | (with_reducible refine wpAny_holding ?_) | (with_reducible refine wpAny_rule ?_) | (with_reducible refine wpAny_standAt ?_) | (with_reducible refine wpAny_point ?_) | (with_reducible refine wpAny_letGo ?_) | (with_reducible refine wpAny_mkInt' ?_) | (with_reducible refine wpAny_mkStr' ?_) | (with_reducible refine wpAny_fresh' ?_) | (with_reducible refine wpAny_attempt ?_) | ((with_reducible show wpAny _ _ (Bind.madeBy _) _ _ _); first | (refine wpAny_of_eq Fc.made_object ?_)) | (with_reducible refine wpAny_isInstance (by assumption) (by assumption) ?_) | (with_reducible refine wpAny_typeOf (by assumption) ?_) | ((with_reducible show wpAny _ _ (load _) _ _ _); with_reducible apply wpAny_load'; focus (heap_get; done)) | ((with_reducible show wpAny _ _ (loadPart _ _) _ _ _); with_reducible apply wpAny_loadPart'; focus (heap_get; done)) | ((with_reducible show wpAny _ _ (update _ _) _ _ _); with_reducible apply wpAny_update'; focus (heap_get; done)) | ((with_reducible show wpAny _ _ (updatePart _ _ _) _ _ _); with_reducible apply wpAny_updatePart'; focus (heap_get; done)) | ((with_reducible show wpAny _ _ (ite _ _ _) _ _ _); first | ((with_reducible apply wpAny_ite_false); focus (kernel_rfl!; done)) | ((with_reducible apply wpAny_ite_true); focus (kernel_rfl!; done))) | ((with_reducible show wpAny _ _ (nsGet _ _) _ _ _); refine get_ex (by first | assumption | exact TW.hn (by assumption)) none (by kernel_rfl!) ?_) | ((fail_if_success (with_reducible show wpAny _ _ (Sem.tryCatch _ _) _ _ _)); (fail_if_success (with_reducible show wpAny _ _ (nsGet _ _) _ _ _)); (fail_if_success (with_reducible show wpAny _ _ (nsSet _ _ _) _ _ _)); (fail_if_success (with_reducible show wpAny _ _ (nsDel _ _) _ _ _)); (fail_if_success (with_reducible show wpAny _ _ (setSlotAt _ _ _) _ _ _)); (fail_if_success (with_reducible show wpAny _ _ (slotAt _ _) _ _ _)); (fail_if_success (with_reducible show wpAny _ _ (updateCls _ _) _ _ _)); (fail_if_success (with_reducible show wpAny _ _ (alloc _) _ _ _)); (fail_if_success (with_reducible show wpAny _ _ (newFields _ _) _ _ _)); (fail_if_success (with_reducible show wpAny _ _ (newObj _ _ _) _ _ _)); (fail_if_success (with_reducible show wpAny _ _ (typeLookup _ _) _ _ _)); (fail_if_success (with_reducible show wpAny _ _ (Bind.refreshMaker _) _ _ _)); (fail_if_success (with_reducible show wpAny _ _ (dictEntries _ _) _ _ _)); (fail_if_success (with_reducible show wpAny _ _ (call _ _ _) _ _ _)); (fail_if_success (with_reducible show wpAny _ _ (getAttr _ _) _ _ _)); (fail_if_success (with_reducible show wpAny _ _ (specialOf _ _) _ _ _)); (fail_if_success (with_reducible show wpAny _ _ (Builtin.linearize _ _) _ _ _)); (fail_if_success (with_reducible show wpAny _ _ (Bind.madeBy _) _ _ _)); (fail_if_success (with_reducible show wpAny _ _ (Builtin.mroHook? _) _ _ _)); (fail_if_success (with_reducible show wpAny _ _ (Builtin.Slots.givesWeak _) _ _ _)); first | wp_delta | (with_reducible_and_instances refine wpAny_pure ?_) | (with_reducible_and_instances refine wpAny_bind ?_)))
  refine tw_newFields T (Nat.le_of_ble_eq_true rfl) fun md h10 hmd T nmd => ?_
  have T : TW h10 (Fz.add (fun b o => h.get? b = some o) md (mdOb C _)) ns C _ _ := T
  repeat (first | (with_reducible refine wpAny_bind ?_) | (with_reducible refine wpAny_pure ?_) | (with_reducible refine wpAny_holding ?_) | (with_reducible refine wpAny_rule ?_) | (with_reducible refine wpAny_standAt ?_) | (with_reducible refine wpAny_point ?_) | (with_reducible refine wpAny_letGo ?_) | (with_reducible refine wpAny_mkInt' ?_) | (with_reducible refine wpAny_mkStr' ?_) | (with_reducible refine wpAny_fresh' ?_) | (with_reducible refine wpAny_attempt ?_) | ((with_reducible show wpAny _ _ (Builtin.Slots.givesDict _) _ _ _); first | (refine wpAny_of_eq Fc.dict_object ?_)) | ((with_reducible show wpAny _ _ (Builtin.Slots.givesWeak _) _ _ _); first | (refine wpAny_of_eq Fc.weak_object ?_)) | (with_reducible refine wpAny_isInstance (by assumption) (by assumption) ?_) | (with_reducible refine wpAny_typeOf (by assumption) ?_) | ((with_reducible show wpAny _ _ (load _) _ _ _); with_reducible apply wpAny_load'; focus (heap_get; done)) | ((with_reducible show wpAny _ _ (loadPart _ _) _ _ _); with_reducible apply wpAny_loadPart'; focus (heap_get; done)) | ((with_reducible show wpAny _ _ (update _ _) _ _ _); with_reducible apply wpAny_update'; focus (heap_get; done)) | ((with_reducible show wpAny _ _ (updatePart _ _ _) _ _ _); with_reducible apply wpAny_updatePart'; focus (heap_get; done)) | ((with_reducible show wpAny _ _ (ite _ _ _) _ _ _); first | ((with_reducible apply wpAny_ite_false); focus (kernel_rfl!; done)) | ((with_reducible apply wpAny_ite_true); focus (kernel_rfl!; done))) | ((with_reducible show wpAny _ _ (nsGet _ _) _ _ _); refine get_ex (by first | assumption | exact TW.hn (by assumption)) none (by kernel_rfl!) ?_) | ((fail_if_success (with_reducible show wpAny _ _ (Sem.tryCatch _ _) _ _ _)); (fail_if_success (with_reducible show wpAny _ _ (nsGet _ _) _ _ _)); (fail_if_success (with_reducible show wpAny _ _ (nsSet _ _ _) _ _ _)); (fail_if_success (with_reducible show wpAny _ _ (nsDel _ _) _ _ _)); (fail_if_success (with_reducible show wpAny _ _ (setSlotAt _ _ _) _ _ _)); (fail_if_success (with_reducible show wpAny _ _ (slotAt _ _) _ _ _)); (fail_if_success (with_reducible show wpAny _ _ (updateCls _ _) _ _ _)); (fail_if_success (with_reducible show wpAny _ _ (alloc _) _ _ _)); (fail_if_success (with_reducible show wpAny _ _ (newFields _ _) _ _ _)); (fail_if_success (with_reducible show wpAny _ _ (newObj _ _ _) _ _ _)); (fail_if_success (with_reducible show wpAny _ _ (typeLookup _ _) _ _ _)); (fail_if_success (with_reducible show wpAny _ _ (Bind.refreshMaker _) _ _ _)); (fail_if_success (with_reducible show wpAny _ _ (dictEntries _ _) _ _ _)); (fail_if_success (with_reducible show wpAny _ _ (call _ _ _) _ _ _)); (fail_if_success (with_reducible show wpAny _ _ (getAttr _ _) _ _ _)); (fail_if_success (with_reducible show wpAny _ _ (specialOf _ _) _ _ _)); (fail_if_success (with_reducible show wpAny _ _ (Builtin.linearize _ _) _ _ _)); (fail_if_success (with_reducible show wpAny _ _ (Bind.madeBy _) _ _ _)); (fail_if_success (with_reducible show wpAny _ _ (Builtin.mroHook? _) _ _ _)); (fail_if_success (with_reducible show wpAny _ _ (Builtin.Slots.givesWeak _) _ _ _)); first | wp_delta | (with_reducible_and_instances refine wpAny_pure ?_) | (with_reducible_and_instances refine wpAny_bind ?_)))
  refine wpAny_loadPart T.hn ?_
  repeat (first | (with_reducible refine wpAny_bind ?_) | (with_reducible refine wpAny_pure ?_) | (with_reducible refine wpAny_holding ?_) | (with_reducible refine wpAny_rule ?_) | (with_reducible refine wpAny_standAt ?_) | (with_reducible refine wpAny_point ?_) | (with_reducible refine wpAny_letGo ?_) | (with_reducible refine wpAny_mkInt' ?_) | (with_reducible refine wpAny_mkStr' ?_) | (with_reducible refine wpAny_fresh' ?_) | (with_reducible refine wpAny_attempt ?_) | ((with_reducible show wpAny _ _ (Builtin.Slots.givesDict _) _ _ _); first | (refine wpAny_of_eq Fc.dict_object ?_)) | ((with_reducible show wpAny _ _ (Builtin.Slots.givesWeak _) _ _ _); first | (refine wpAny_of_eq Fc.weak_object ?_)) | (with_reducible refine wpAny_isInstance (by assumption) (by assumption) ?_) | (with_reducible refine wpAny_typeOf (by assumption) ?_) | ((with_reducible show wpAny _ _ (load _) _ _ _); with_reducible apply wpAny_load'; focus (heap_get; done)) | ((with_reducible show wpAny _ _ (loadPart _ _) _ _ _); with_reducible apply wpAny_loadPart'; focus (heap_get; done)) | ((with_reducible show wpAny _ _ (update _ _) _ _ _); with_reducible apply wpAny_update'; focus (heap_get; done)) | ((with_reducible show wpAny _ _ (updatePart _ _ _) _ _ _); with_reducible apply wpAny_updatePart'; focus (heap_get; done)) | ((with_reducible show wpAny _ _ (ite _ _ _) _ _ _); first | ((with_reducible apply wpAny_ite_false); focus (kernel_rfl!; done)) | ((with_reducible apply wpAny_ite_true); focus (kernel_rfl!; done))) | ((with_reducible show wpAny _ _ (nsGet _ _) _ _ _); refine get_ex (by first | assumption | exact TW.hn (by assumption)) none (by kernel_rfl!) ?_) | ((fail_if_success (with_reducible show wpAny _ _ (Sem.tryCatch _ _) _ _ _)); (fail_if_success (with_reducible show wpAny _ _ (nsGet _ _) _ _ _)); (fail_if_success (with_reducible show wpAny _ _ (nsSet _ _ _) _ _ _)); (fail_if_success (with_reducible show wpAny _ _ (nsDel _ _) _ _ _)); (fail_if_success (with_reducible show wpAny _ _ (setSlotAt _ _ _) _ _ _)); (fail_if_success (with_reducible show wpAny _ _ (slotAt _ _) _ _ _)); (fail_if_success (with_reducible show wpAny _ _ (updateCls _ _) _ _ _)); (fail_if_success (with_reducible show wpAny _ _ (alloc _) _ _ _)); (fail_if_success (with_reducible show wpAny _ _ (newFields _ _) _ _ _)); (fail_if_success (with_reducible show wpAny _ _ (newObj _ _ _) _ _ _)); (fail_if_success (with_reducible show wpAny _ _ (typeLookup _ _) _ _ _)); (fail_if_success (with_reducible show wpAny _ _ (Bind.refreshMaker _) _ _ _)); (fail_if_success (with_reducible show wpAny _ _ (dictEntries _ _) _ _ _)); (fail_if_success (with_reducible show wpAny _ _ (call _ _ _) _ _ _)); (fail_if_success (with_reducible show wpAny _ _ (getAttr _ _) _ _ _)); (fail_if_success (with_reducible show wpAny _ _ (specialOf _ _) _ _ _)); (fail_if_success (with_reducible show wpAny _ _ (Builtin.linearize _ _) _ _ _)); (fail_if_success (with_reducible show wpAny _ _ (Bind.madeBy _) _ _ _)); (fail_if_success (with_reducible show wpAny _ _ (Builtin.mroHook? _) _ _ _)); (fail_if_success (with_reducible show wpAny _ _ (Builtin.Slots.givesWeak _) _ _ _)); first | wp_delta | (with_reducible_and_instances refine wpAny_pure ?_) | (with_reducible_and_instances refine wpAny_bind ?_)))
  refine tw_nsSet T rfl (by kernel_rfl) (fun y1 z1 => dictOb #[⟨x0, .str (Str.ofString "__module__") t0, .str (Str.ofString "cpy313.functools") u0⟩, ⟨x2, .str (Str.ofString "__firstlineno__") t2, .int 4 u2⟩, ⟨x3, .str (Str.ofString "__slots__") t3, .ref sl⟩, ⟨x4, .str (Str.ofString "__init__") t4, .ref f1⟩, ⟨x5, .str (Str.ofString "__lt__") t5, .ref f2⟩, ⟨x6, .str (Str.ofString "__gt__") t6, .ref f3⟩, ⟨x7, .str (Str.ofString "__eq__") t7, .ref f4⟩, ⟨x8, .str (Str.ofString "__le__") t8, .ref f5⟩, ⟨x9, .str (Str.ofString "__ge__") t9, .ref f6⟩, ⟨x10, .str (Str.ofString "__hash__") t10, .none⟩, ⟨x11, .str (Str.ofString "__static_attributes__") t11, .ref st⟩, ⟨y1, .str (Str.ofString "obj") z1, .ref md⟩] 2) (fun _ _ => by kernel_rfl) (fun _ _ => rfl) fun h11 y1 z1 T => ?_
  repeat (first | (with_reducible refine wpAny_bind ?_) | (with_reducible refine wpAny_pure ?_) | (with_reducible refine wpAny_holding ?_) | (with_reducible refine wpAny_rule ?_) | (with_reducible refine wpAny_standAt ?_) | (with_reducible refine wpAny_point ?_) | (with_reducible refine wpAny_letGo ?_) | (with_reducible refine wpAny_mkInt' ?_) | (with_reducible refine wpAny_mkStr' ?_) | (with_reducible refine wpAny_fresh' ?_) | (with_reducible refine wpAny_attempt ?_) | ((with_reducible show wpAny _ _ (Builtin.Slots.givesDict _) _ _ _); first | (refine wpAny_of_eq Fc.dict_object ?_)) | ((with_reducible show wpAny _ _ (Builtin.Slots.givesWeak _) _ _ _); first | (refine wpAny_of_eq Fc.weak_object ?_)) | (with_reducible refine wpAny_isInstance (by assumption) (by assumption) ?_) | (with_reducible refine wpAny_typeOf (by assumption) ?_) | ((with_reducible show wpAny _ _ (load _) _ _ _); with_reducible apply wpAny_load'; focus (heap_get; done)) | ((with_reducible show wpAny _ _ (loadPart _ _) _ _ _); with_reducible apply wpAny_loadPart'; focus (heap_get; done)) | ((with_reducible show wpAny _ _ (update _ _) _ _ _); with_reducible apply wpAny_update'; focus (heap_get; done)) | ((with_reducible show wpAny _ _ (updatePart _ _ _) _ _ _); with_reducible apply wpAny_updatePart'; focus (heap_get; done)) | ((with_reducible show wpAny _ _ (ite _ _ _) _ _ _); first | ((with_reducible apply wpAny_ite_false); focus (kernel_rfl!; done)) | ((with_reducible apply wpAny_ite_true); focus (kernel_rfl!; done))) | ((with_reducible show wpAny _ _ (nsGet _ _) _ _ _); refine get_ex (by first | assumption | exact TW.hn (by assumption)) none (by kernel_rfl!) ?_) | ((fail_if_success (with_reducible show wpAny _ _ (Sem.tryCatch _ _) _ _ _)); (fail_if_success (with_reducible show wpAny _ _ (nsGet _ _) _ _ _)); (fail_if_success (with_reducible show wpAny _ _ (nsSet _ _ _) _ _ _)); (fail_if_success (with_reducible show wpAny _ _ (nsDel _ _) _ _ _)); (fail_if_success (with_reducible show wpAny _ _ (setSlotAt _ _ _) _ _ _)); (fail_if_success (with_reducible show wpAny _ _ (slotAt _ _) _ _ _)); (fail_if_success (with_reducible show wpAny _ _ (updateCls _ _) _ _ _)); (fail_if_success (with_reducible show wpAny _ _ (alloc _) _ _ _)); (fail_if_success (with_reducible show wpAny _ _ (newFields _ _) _ _ _)); (fail_if_success (with_reducible show wpAny _ _ (newObj _ _ _) _ _ _)); (fail_if_success (with_reducible show wpAny _ _ (typeLookup _ _) _ _ _)); (fail_if_success (with_reducible show wpAny _ _ (Bind.refreshMaker _) _ _ _)); (fail_if_success (with_reducible show wpAny _ _ (dictEntries _ _) _ _ _)); (fail_if_success (with_reducible show wpAny _ _ (call _ _ _) _ _ _)); (fail_if_success (with_reducible show wpAny _ _ (getAttr _ _) _ _ _)); (fail_if_success (with_reducible show wpAny _ _ (specialOf _ _) _ _ _)); (fail_if_success (with_reducible show wpAny _ _ (Builtin.linearize _ _) _ _ _)); (fail_if_success (with_reducible show wpAny _ _ (Bind.madeBy _) _ _ _)); (fail_if_success (with_reducible show wpAny _ _ (Builtin.mroHook? _) _ _ _)); (fail_if_success (with_reducible show wpAny _ _ (Builtin.Slots.givesWeak _) _ _ _)); first | wp_delta | (with_reducible_and_instances refine wpAny_pure ?_) | (with_reducible_and_instances refine wpAny_bind ?_)))
  refine tw_updateCls T (clsOb ns [.ref C, .type "object"] false [Str.ofString "obj"] #[some (.ref B), none, some (.str (Str.ofString "K") tn), some (.str (Str.ofString "cmp_to_key.<locals>.K") u1), some (.builtin "object.__new__")]) rfl (by kernel_rfl) (by kernel_rfl) rfl fun h12 T => ?_
  repeat (first | (with_reducible refine wpAny_bind ?_) | (with_reducible refine wpAny_pure ?_) | (with_reducible refine wpAny_holding ?_) | (with_reducible refine wpAny_rule ?_) | (with_reducible refine wpAny_standAt ?_) | (with_reducible refine wpAny_point ?_) | (with_reducible refine wpAny_letGo ?_) | (with_reducible refine wpAny_mkInt' ?_) | (with_reducible refine wpAny_mkStr' ?_) | (with_reducible refine wpAny_fresh' ?_) | (with_reducible refine wpAny_attempt ?_) | ((with_reducible show wpAny _ _ (Builtin.Slots.givesDict _) _ _ _); first | (refine wpAny_of_eq Fc.dict_object ?_)) | ((with_reducible show wpAny _ _ (Builtin.Slots.givesWeak _) _ _ _); first | (refine wpAny_of_eq Fc.weak_object ?_)) | (with_reducible refine wpAny_isInstance (by assumption) (by assumption) ?_) | (with_reducible refine wpAny_typeOf (by assumption) ?_) | ((with_reducible show wpAny _ _ (load _) _ _ _); with_reducible apply wpAny_load'; focus (heap_get; done)) | ((with_reducible show wpAny _ _ (loadPart _ _) _ _ _); with_reducible apply wpAny_loadPart'; focus (heap_get; done)) | ((with_reducible show wpAny _ _ (update _ _) _ _ _); with_reducible apply wpAny_update'; focus (heap_get; done)) | ((with_reducible show wpAny _ _ (updatePart _ _ _) _ _ _); with_reducible apply wpAny_updatePart'; focus (heap_get; done)) | ((with_reducible show wpAny _ _ (ite _ _ _) _ _ _); first | ((with_reducible apply wpAny_ite_false); focus (kernel_rfl!; done)) | ((with_reducible apply wpAny_ite_true); focus (kernel_rfl!; done))) | ((with_reducible show wpAny _ _ (nsGet _ _) _ _ _); refine get_ex (by first | assumption | exact TW.hn (by assumption)) none (by kernel_rfl!) ?_) | ((fail_if_success (with_reducible show wpAny _ _ (Sem.tryCatch _ _) _ _ _)); (fail_if_success (with_reducible show wpAny _ _ (nsGet _ _) _ _ _)); (fail_if_success (with_reducible show wpAny _ _ (nsSet _ _ _) _ _ _)); (fail_if_success (with_reducible show wpAny _ _ (nsDel _ _) _ _ _)); (fail_if_success (with_reducible show wpAny _ _ (setSlotAt _ _ _) _ _ _)); (fail_if_success (with_reducible show wpAny _ _ (slotAt _ _) _ _ _)); (fail_if_success (with_reducible show wpAny _ _ (updateCls _ _) _ _ _)); (fail_if_success (with_reducible show wpAny _ _ (alloc _) _ _ _)); (fail_if_success (with_reducible show wpAny _ _ (newFields _ _) _ _ _)); (fail_if_success (with_reducible show wpAny _ _ (newObj _ _ _) _ _ _)); (fail_if_success (with_reducible show wpAny _ _ (typeLookup _ _) _ _ _)); (fail_if_success (with_reducible show wpAny _ _ (Bind.refreshMaker _) _ _ _)); (fail_if_success (with_reducible show wpAny _ _ (dictEntries _ _) _ _ _)); (fail_if_success (with_reducible show wpAny _ _ (call _ _ _) _ _ _)); (fail_if_success (with_reducible show wpAny _ _ (getAttr _ _) _ _ _)); (fail_if_success (with_reducible show wpAny _ _ (specialOf _ _) _ _ _)); (fail_if_success (with_reducible show wpAny _ _ (Builtin.linearize _ _) _ _ _)); (fail_if_success (with_reducible show wpAny _ _ (Bind.madeBy _) _ _ _)); (fail_if_success (with_reducible show wpAny _ _ (Builtin.mroHook? _) _ _ _)); (fail_if_success (with_reducible show wpAny _ _ (Builtin.Slots.givesWeak _) _ _ _)); first | wp_delta | (with_reducible_and_instances refine wpAny_pure ?_) | (with_reducible_and_instances refine wpAny_bind ?_)))
  refine tw_setSlot T (clsOb ns [.ref C, .type "object"] false [Str.ofString "obj"] #[some (.ref B), none, some (.str (Str.ofString "K") tn), some (.str (Str.ofString "cmp_to_key.<locals>.K") u1), some (.builtin "object.__new__"), some (.bool false)]) (by kernel_rfl) rfl rfl fun h13 T => ?_
  repeat (first | (with_reducible refine wpAny_bind ?_) | (with_reducible refine wpAny_pure ?_) | (with_reducible refine wpAny_holding ?_) | (with_reducible refine wpAny_rule ?_) | (with_reducible refine wpAny_standAt ?_) | (with_reducible refine wpAny_point ?_) | (with_reducible refine wpAny_letGo ?_) | (with_reducible refine wpAny_mkInt' ?_) | (with_reducible refine wpAny_mkStr' ?_) | (with_reducible refine wpAny_fresh' ?_) | (with_reducible refine wpAny_attempt ?_) | ((with_reducible show wpAny _ _ (Builtin.Slots.givesDict _) _ _ _); first | (refine wpAny_of_eq Fc.dict_object ?_)) | ((with_reducible show wpAny _ _ (Builtin.Slots.givesWeak _) _ _ _); first | (refine wpAny_of_eq Fc.weak_object ?_)) | (with_reducible refine wpAny_isInstance (by assumption) (by assumption) ?_) | (with_reducible refine wpAny_typeOf (by assumption) ?_) | ((with_reducible show wpAny _ _ (load _) _ _ _); with_reducible apply wpAny_load'; focus (heap_get; done)) | ((with_reducible show wpAny _ _ (loadPart _ _) _ _ _); with_reducible apply wpAny_loadPart'; focus (heap_get; done)) | ((with_reducible show wpAny _ _ (update _ _) _ _ _); with_reducible apply wpAny_update'; focus (heap_get; done)) | ((with_reducible show wpAny _ _ (updatePart _ _ _) _ _ _); with_reducible apply wpAny_updatePart'; focus (heap_get; done)) | ((with_reducible show wpAny _ _ (ite _ _ _) _ _ _); first | ((with_reducible apply wpAny_ite_false); focus (kernel_rfl!; done)) | ((with_reducible apply wpAny_ite_true); focus (kernel_rfl!; done))) | ((with_reducible show wpAny _ _ (nsGet _ _) _ _ _); refine get_ex (by first | assumption | exact TW.hn (by assumption)) none (by kernel_rfl!) ?_) | ((fail_if_success (with_reducible show wpAny _ _ (Sem.tryCatch _ _) _ _ _)); (fail_if_success (with_reducible show wpAny _ _ (nsGet _ _) _ _ _)); (fail_if_success (with_reducible show wpAny _ _ (nsSet _ _ _) _ _ _)); (fail_if_success (with_reducible show wpAny _ _ (nsDel _ _) _ _ _)); (fail_if_success (with_reducible show wpAny _ _ (setSlotAt _ _ _) _ _ _)); (fail_if_success (with_reducible show wpAny _ _ (slotAt _ _) _ _ _)); (fail_if_success (with_reducible show wpAny _ _ (updateCls _ _) _ _ _)); (fail_if_success (with_reducible show wpAny _ _ (alloc _) _ _ _)); (fail_if_success (with_reducible show wpAny _ _ (newFields _ _) _ _ _)); (fail_if_success (with_reducible show wpAny _ _ (newObj _ _ _) _ _ _)); (fail_if_success (with_reducible show wpAny _ _ (typeLookup _ _) _ _ _)); (fail_if_success (with_reducible show wpAny _ _ (Bind.refreshMaker _) _ _ _)); (fail_if_success (with_reducible show wpAny _ _ (dictEntries _ _) _ _ _)); (fail_if_success (with_reducible show wpAny _ _ (call _ _ _) _ _ _)); (fail_if_success (with_reducible show wpAny _ _ (getAttr _ _) _ _ _)); (fail_if_success (with_reducible show wpAny _ _ (specialOf _ _) _ _ _)); (fail_if_success (with_reducible show wpAny _ _ (Builtin.linearize _ _) _ _ _)); (fail_if_success (with_reducible show wpAny _ _ (Bind.madeBy _) _ _ _)); (fail_if_success (with_reducible show wpAny _ _ (Builtin.mroHook? _) _ _ _)); (fail_if_success (with_reducible show wpAny _ _ (Builtin.Slots.givesWeak _) _ _ _)); first | wp_delta | (with_reducible_and_instances refine wpAny_pure ?_) | (with_reducible_and_instances refine wpAny_bind ?_)))
  refine tw_nsSet T rfl (by kernel_rfl) (fun y2 z2 => dictOb #[⟨x0, .str (Str.ofString "__module__") t0, .str (Str.ofString "cpy313.functools") u0⟩, ⟨x2, .str (Str.ofString "__firstlineno__") t2, .int 4 u2⟩, ⟨x3, .str (Str.ofString "__slots__") t3, .ref sl⟩, ⟨x4, .str (Str.ofString "__init__") t4, .ref f1⟩, ⟨x5, .str (Str.ofString "__lt__") t5, .ref f2⟩, ⟨x6, .str (Str.ofString "__gt__") t6, .ref f3⟩, ⟨x7, .str (Str.ofString "__eq__") t7, .ref f4⟩, ⟨x8, .str (Str.ofString "__le__") t8, .ref f5⟩, ⟨x9, .str (Str.ofString "__ge__") t9, .ref f6⟩, ⟨x10, .str (Str.ofString "__hash__") t10, .none⟩, ⟨x11, .str (Str.ofString "__static_attributes__") t11, .ref st⟩, ⟨y1, .str (Str.ofString "obj") z1, .ref md⟩, ⟨y2, .str (Str.ofString "__doc__") z2, .none⟩] 3) (fun _ _ => by kernel_rfl) (fun _ _ => rfl) fun h14 y2 z2 T => ?_
  repeat (first | (with_reducible refine wpAny_bind ?_) | (with_reducible refine wpAny_pure ?_) | (with_reducible refine wpAny_holding ?_) | (with_reducible refine wpAny_rule ?_) | (with_reducible refine wpAny_standAt ?_) | (with_reducible refine wpAny_point ?_) | (with_reducible refine wpAny_letGo ?_) | (with_reducible refine wpAny_mkInt' ?_) | (with_reducible refine wpAny_mkStr' ?_) | (with_reducible refine wpAny_fresh' ?_) | (with_reducible refine wpAny_attempt ?_) | ((with_reducible show wpAny _ _ (Builtin.Slots.givesDict _) _ _ _); first | (refine wpAny_of_eq Fc.dict_object ?_)) | ((with_reducible show wpAny _ _ (Builtin.Slots.givesWeak _) _ _ _); first | (refine wpAny_of_eq Fc.weak_object ?_)) | (with_reducible refine wpAny_isInstance (by assumption) (by assumption) ?_) | (with_reducible refine wpAny_typeOf (by assumption) ?_) | ((with_reducible show wpAny _ _ (load _) _ _ _); with_reducible apply wpAny_load'; focus (heap_get; done)) | ((with_reducible show wpAny _ _ (loadPart _ _) _ _ _); with_reducible apply wpAny_loadPart'; focus (heap_get; done)) | ((with_reducible show wpAny _ _ (update _ _) _ _ _); with_reducible apply wpAny_update'; focus (heap_get; done)) | ((with_reducible show wpAny _ _ (updatePart _ _ _) _ _ _); with_reducible apply wpAny_updatePart'; focus (heap_get; done)) | ((with_reducible show wpAny _ _ (ite _ _ _) _ _ _); first | ((with_reducible apply wpAny_ite_false); focus (kernel_rfl!; done)) | ((with_reducible apply wpAny_ite_true); focus (kernel_rfl!; done))) | ((with_reducible show wpAny _ _ (nsGet _ _) _ _ _); refine get_ex (by first | assumption | exact TW.hn (by assumption)) none (by kernel_rfl!) ?_) | ((fail_if_success (with_reducible show wpAny _ _ (Sem.tryCatch _ _) _ _ _)); (fail_if_success (with_reducible show wpAny _ _ (nsGet _ _) _ _ _)); (fail_if_success (with_reducible show wpAny _ _ (nsSet _ _ _) _ _ _)); (fail_if_success (with_reducible show wpAny _ _ (nsDel _ _) _ _ _)); (fail_if_success (with_reducible show wpAny _ _ (setSlotAt _ _ _) _ _ _)); (fail_if_success (with_reducible show wpAny _ _ (slotAt _ _) _ _ _)); (fail_if_success (with_reducible show wpAny _ _ (updateCls _ _) _ _ _)); (fail_if_success (with_reducible show wpAny _ _ (alloc _) _ _ _)); (fail_if_success (with_reducible show wpAny _ _ (newFields _ _) _ _ _)); (fail_if_success (with_reducible show wpAny _ _ (newObj _ _ _) _ _ _)); (fail_if_success (with_reducible show wpAny _ _ (typeLookup _ _) _ _ _)); (fail_if_success (with_reducible show wpAny _ _ (Bind.refreshMaker _) _ _ _)); (fail_if_success (with_reducible show wpAny _ _ (dictEntries _ _) _ _ _)); (fail_if_success (with_reducible show wpAny _ _ (call _ _ _) _ _ _)); (fail_if_success (with_reducible show wpAny _ _ (getAttr _ _) _ _ _)); (fail_if_success (with_reducible show wpAny _ _ (specialOf _ _) _ _ _)); (fail_if_success (with_reducible show wpAny _ _ (Builtin.linearize _ _) _ _ _)); (fail_if_success (with_reducible show wpAny _ _ (Bind.madeBy _) _ _ _)); (fail_if_success (with_reducible show wpAny _ _ (Builtin.mroHook? _) _ _ _)); (fail_if_success (with_reducible show wpAny _ _ (Builtin.Slots.givesWeak _) _ _ _)); first | wp_delta | (with_reducible_and_instances refine wpAny_pure ?_) | (with_reducible_and_instances refine wpAny_bind ?_)))
  refine tw_nsGet T (some (.ref f4)) (by kernel_rfl!) ?_
  repeat (first | (with_reducible refine wpAny_bind ?_) | (with_reducible refine wpAny_pure ?_) | (with_reducible refine wpAny_holding ?_) | (with_reducible refine wpAny_rule ?_) | (with_reducible refine wpAny_standAt ?_) | (with_reducible refine wpAny_point ?_) | (with_reducible refine wpAny_letGo ?_) | (with_reducible refine wpAny_mkInt' ?_) | (with_reducible refine wpAny_mkStr' ?_) | (with_reducible refine wpAny_fresh' ?_) | (with_reducible refine wpAny_attempt ?_) | ((with_reducible show wpAny _ _ (Builtin.Slots.givesDict _) _ _ _); first | (refine wpAny_of_eq Fc.dict_object ?_)) | ((with_reducible show wpAny _ _ (Builtin.Slots.givesWeak _) _ _ _); first | (refine wpAny_of_eq Fc.weak_object ?_)) | (with_reducible refine wpAny_isInstance (by assumption) (by assumption) ?_) | (with_reducible refine wpAny_typeOf (by assumption) ?_) | ((with_reducible show wpAny _ _ (load _) _ _ _); with_reducible apply wpAny_load'; focus (heap_get; done)) | ((with_reducible show wpAny _ _ (loadPart _ _) _ _ _); with_reducible apply wpAny_loadPart'; focus (heap_get; done)) | ((with_reducible show wpAny _ _ (update _ _) _ _ _); with_reducible apply wpAny_update'; focus (heap_get; done)) | ((with_reducible show wpAny _ _ (updatePart _ _ _) _ _ _); with_reducible apply wpAny_updatePart'; focus (heap_get; done)) | ((with_reducible show wpAny _ _ (ite _ _ _) _ _ _); first | ((with_reducible apply wpAny_ite_false); focus (kernel_rfl!; done)) | ((with_reducible apply wpAny_ite_true); focus (kernel_rfl!; done))) | ((with_reducible show wpAny _ _ (nsGet _ _) _ _ _); refine get_ex (by first | assumption | exact TW.hn (by assumption)) none (by kernel_rfl!) ?_) | ((fail_if_success (with_reducible show wpAny _ _ (Sem.tryCatch _ _) _ _ _)); (fail_if_success (with_reducible show wpAny _ _ (nsGet _ _) _ _ _)); (fail_if_success (with_reducible show wpAny _ _ (nsSet _ _ _) _ _ _)); (fail_if_success (with_reducible show wpAny _ _ (nsDel _ _) _ _ _)); (fail_if_success (with_reducible show wpAny _ _ (setSlotAt _ _ _) _ _ _)); (fail_if_success (with_reducible show wpAny _ _ (slotAt _ _) _ _ _)); (fail_if_success (with_reducible show wpAny _ _ (updateCls _ _) _ _ _)); (fail_if_success (with_reducible show wpAny _ _ (alloc _) _ _ _)); (fail_if_success (with_reducible show wpAny _ _ (newFields _ _) _ _ _)); (fail_if_success (with_reducible show wpAny _ _ (newObj _ _ _) _ _ _)); (fail_if_success (with_reducible show wpAny _ _ (typeLookup _ _) _ _ _)); (fail_if_success (with_reducible show wpAny _ _ (Bind.refreshMaker _) _ _ _)); (fail_if_success (with_reducible show wpAny _ _ (dictEntries _ _) _ _ _)); (fail_if_success (with_reducible show wpAny _ _ (call _ _ _) _ _ _)); (fail_if_success (with_reducible show wpAny _ _ (getAttr _ _) _ _ _)); (fail_if_success (with_reducible show wpAny _ _ (specialOf _ _) _ _ _)); (fail_if_success (with_reducible show wpAny _ _ (Builtin.linearize _ _) _ _ _)); (fail_if_success (with_reducible show wpAny _ _ (Bind.madeBy _) _ _ _)); (fail_if_success (with_reducible show wpAny _ _ (Builtin.mroHook? _) _ _ _)); (fail_if_success (with_reducible show wpAny _ _ (Builtin.Slots.givesWeak _) _ _ _)); first | wp_delta | (with_reducible_and_instances refine wpAny_pure ?_) | (with_reducible_and_instances refine wpAny_bind ?_)))
  refine tw_nsGet T (some .none) (by kernel_rfl!) ?_
  repeat (first | (with_reducible refine wpAny_bind ?_) | (with_reducible refine wpAny_pure ?_) | (with_reducible refine wpAny_holding ?_) | (with_reducible refine wpAny_rule ?_) | (with_reducible refine wpAny_standAt ?_) | (with_reducible refine wpAny_point ?_) | (with_reducible refine wpAny_letGo ?_) | (with_reducible refine wpAny_mkInt' ?_) | (with_reducible refine wpAny_mkStr' ?_) | (with_reducible refine wpAny_fresh' ?_) | (with_reducible refine wpAny_attempt ?_) | ((with_reducible show wpAny _ _ (Builtin.Slots.givesDict _) _ _ _); first | (refine wpAny_of_eq Fc.dict_object ?_)) | ((with_reducible show wpAny _ _ (Builtin.Slots.givesWeak _) _ _ _); first | (refine wpAny_of_eq Fc.weak_object ?_)) | (with_reducible refine wpAny_isInstance (by assumption) (by assumption) ?_) | (with_reducible refine wpAny_typeOf (by assumption) ?_) | ((with_reducible show wpAny _ _ (load _) _ _ _); with_reducible apply wpAny_load'; focus (heap_get; done)) | ((with_reducible show wpAny _ _ (loadPart _ _) _ _ _); with_reducible apply wpAny_loadPart'; focus (heap_get; done)) | ((with_reducible show wpAny _ _ (update _ _) _ _ _); with_reducible apply wpAny_update'; focus (heap_get; done)) | ((with_reducible show wpAny _ _ (updatePart _ _ _) _ _ _); with_reducible apply wpAny_updatePart'; focus (heap_get; done)) | ((with_reducible show wpAny _ _ (ite _ _ _) _ _ _); first | ((with_reducible apply wpAny_ite_false); focus (kernel_rfl!; done)) | ((with_reducible apply wpAny_ite_true); focus (kernel_rfl!; done))) | ((with_reducible show wpAny _ _ (nsGet _ _) _ _ _); refine get_ex (by first | assumption | exact TW.hn (by assumption)) none (by kernel_rfl!) ?_) | ((fail_if_success (with_reducible show wpAny _ _ (Sem.tryCatch _ _) _ _ _)); (fail_if_success (with_reducible show wpAny _ _ (nsGet _ _) _ _ _)); (fail_if_success (with_reducible show wpAny _ _ (nsSet _ _ _) _ _ _)); (fail_if_success (with_reducible show wpAny _ _ (nsDel _ _) _ _ _)); (fail_if_success (with_reducible show wpAny _ _ (setSlotAt _ _ _) _ _ _)); (fail_if_success (with_reducible show wpAny _ _ (slotAt _ _) _ _ _)); (fail_if_success (with_reducible show wpAny _ _ (updateCls _ _) _ _ _)); (fail_if_success (with_reducible show wpAny _ _ (alloc _) _ _ _)); (fail_if_success (with_reducible show wpAny _ _ (newFields _ _) _ _ _)); (fail_if_success (with_reducible show wpAny _ _ (newObj _ _ _) _ _ _)); (fail_if_success (with_reducible show wpAny _ _ (typeLookup _ _) _ _ _)); (fail_if_success (with_reducible show wpAny _ _ (Bind.refreshMaker _) _ _ _)); (fail_if_success (with_reducible show wpAny _ _ (dictEntries _ _) _ _ _)); (fail_if_success (with_reducible show wpAny _ _ (call _ _ _) _ _ _)); (fail_if_success (with_reducible show wpAny _ _ (getAttr _ _) _ _ _)); (fail_if_success (with_reducible show wpAny _ _ (specialOf _ _) _ _ _)); (fail_if_success (with_reducible show wpAny _ _ (Builtin.linearize _ _) _ _ _)); (fail_if_success (with_reducible show wpAny _ _ (Bind.madeBy _) _ _ _)); (fail_if_success (with_reducible show wpAny _ _ (Builtin.mroHook? _) _ _ _)); (fail_if_success (with_reducible show wpAny _ _ (Builtin.Slots.givesWeak _) _ _ _)); first | wp_delta | (with_reducible_and_instances refine wpAny_pure ?_) | (with_reducible_and_instances refine wpAny_bind ?_)))
  refine wpAny_tryCatch (wpAny_holding ?_)
  refine wpAny_bind (wpAny_dictEntries T.hn rfl ?_)
  refine wpAny_bind (wpAny_of_eq (a := false) (by kernel_rfl) ?_)
  repeat (first | (with_reducible refine wpAny_bind ?_) | (with_reducible refine wpAny_pure ?_) | (with_reducible refine wpAny_holding ?_) | (with_reducible refine wpAny_rule ?_) | (with_reducible refine wpAny_standAt ?_) | (with_reducible refine wpAny_point ?_) | (with_reducible refine wpAny_letGo ?_) | (with_reducible refine wpAny_mkInt' ?_) | (with_reducible refine wpAny_mkStr' ?_) | (with_reducible refine wpAny_fresh' ?_) | (with_reducible refine wpAny_attempt ?_) | (with_reducible refine wpAny_isInstance (by assumption) (by assumption) ?_) | (with_reducible refine wpAny_typeOf (by assumption) ?_) | ((with_reducible show wpAny _ _ (load _) _ _ _); with_reducible apply wpAny_load'; focus (heap_get; done)) | ((with_reducible show wpAny _ _ (loadPart _ _) _ _ _); with_reducible apply wpAny_loadPart'; focus (heap_get; done)) | ((with_reducible show wpAny _ _ (update _ _) _ _ _); with_reducible apply wpAny_update'; focus (heap_get; done)) | ((with_reducible show wpAny _ _ (updatePart _ _ _) _ _ _); with_reducible apply wpAny_updatePart'; focus (heap_get; done)) | ((with_reducible show wpAny _ _ (ite _ _ _) _ _ _); first | ((with_reducible apply wpAny_ite_false); focus (kernel_rfl!; done)) | ((with_reducible apply wpAny_ite_true); focus (kernel_rfl!; done))) | ((with_reducible show wpAny _ _ (nsGet _ _) _ _ _); refine get_ex (by first | assumption | exact TW.hn (by assumption)) none (by kernel_rfl!) ?_) | ((fail_if_success (with_reducible show wpAny _ _ (Sem.tryCatch _ _) _ _ _)); (fail_if_success (with_reducible show wpAny _ _ (nsGet _ _) _ _ _)); (fail_if_success (with_reducible show wpAny _ _ (nsSet _ _ _) _ _ _)); (fail_if_success (with_reducible show wpAny _ _ (nsDel _ _) _ _ _)); (fail_if_success (with_reducible show wpAny _ _ (setSlotAt _ _ _) _ _ _)); (fail_if_success (with_reducible show wpAny _ _ (slotAt _ _) _ _ _)); (fail_if_success (with_reducible show wpAny _ _ (updateCls _ _) _ _ _)); (fail_if_success (with_reducible show wpAny _ _ (alloc _) _ _ _)); (fail_if_success (with_reducible show wpAny _ _ (newFields _ _) _ _ _)); (fail_if_success (with_reducible show wpAny _ _ (newObj _ _ _) _ _ _)); (fail_if_success (with_reducible show wpAny _ _ (typeLookup _ _) _ _ _)); (fail_if_success (with_reducible show wpAny _ _ (Bind.refreshMaker _) _ _ _)); (fail_if_success (with_reducible show wpAny _ _ (dictEntries _ _) _ _ _)); (fail_if_success (with_reducible show wpAny _ _ (call _ _ _) _ _ _)); (fail_if_success (with_reducible show wpAny _ _ (getAttr _ _) _ _ _)); (fail_if_success (with_reducible show wpAny _ _ (specialOf _ _) _ _ _)); (fail_if_success (with_reducible show wpAny _ _ (Builtin.linearize _ _) _ _ _)); (fail_if_success (with_reducible show wpAny _ _ (Bind.madeBy _) _ _ _)); (fail_if_success (with_reducible show wpAny _ _ (Builtin.mroHook? _) _ _ _)); (fail_if_success (with_reducible show wpAny _ _ (Builtin.Slots.givesWeak _) _ _ _)); first | wp_delta | (with_reducible_and_instances refine wpAny_pure ?_) | (with_reducible_and_instances refine wpAny_bind ?_)))
  refine wpAny_dictEntries T.hn rfl ?_
  refine wpAny_bind (forIn_quiet (fun e he Q' hq' => ?_) ?_)
  ·
    simp only [dictOb, List.mem_cons, List.not_mem_nil, or_false] at he
    rcases he with rfl | rfl | rfl | rfl | rfl | rfl | rfl | rfl | rfl | rfl | rfl | rfl | rfl
    · exact wpAny_ite_false (by kernel_rfl) (wpAny_bind (wpAny_specialOf (T := "str") rfl Fc.sn_str (wpAny_pure hq')))
    · exact wpAny_ite_false (by kernel_rfl) (wpAny_bind (wpAny_specialOf (T := "int") rfl Fc.sn_int (wpAny_pure hq')))
    · exact wpAny_ite_false (by kernel_rfl) (wpAny_bind (wpAny_specialOf (T := "list") ⟨_, T.has _ _ (.inl hsl), rfl⟩ Fc.sn_list (wpAny_pure hq')))
    · exact wpAny_ite_false (by kernel_rfl) (wpAny_bind (wpAny_specialOf (T := "function") ⟨_, T.has _ _ (.inl hf1), rfl⟩ Fc.sn_function (wpAny_pure hq')))
    · exact wpAny_ite_false (by kernel_rfl) (wpAny_bind (wpAny_specialOf (T := "function") ⟨_, T.has _ _ (.inl hf2), rfl⟩ Fc.sn_function (wpAny_pure hq')))
    · exact wpAny_ite_false (by kernel_rfl) (wpAny_bind (wpAny_specialOf (T := "function") ⟨_, T.has _ _ (.inl hf3), rfl⟩ Fc.sn_function (wpAny_pure hq')))
    · exact wpAny_ite_false (by kernel_rfl) (wpAny_bind (wpAny_specialOf (T := "function") ⟨_, T.has _ _ (.inl hf4), rfl⟩ Fc.sn_function (wpAny_pure hq')))
    · exact wpAny_ite_false (by kernel_rfl) (wpAny_bind (wpAny_specialOf (T := "function") ⟨_, T.has _ _ (.inl hf5), rfl⟩ Fc.sn_function (wpAny_pure hq')))
    · exact wpAny_ite_false (by kernel_rfl) (wpAny_bind (wpAny_specialOf (T := "function") ⟨_, T.has _ _ (.inl hf6), rfl⟩ Fc.sn_function (wpAny_pure hq')))
    · exact wpAny_ite_false (by kernel_rfl) (wpAny_bind (wpAny_specialOf (T := "NoneType") rfl Fc.sn_NoneType (wpAny_pure hq')))
    · exact wpAny_ite_false (by kernel_rfl) (wpAny_bind (wpAny_specialOf (T := "tuple") ⟨_, T.has _ _ (.inl hst), rfl⟩ Fc.sn_tuple (wpAny_pure hq')))
    · exact wpAny_ite_false (by kernel_rfl) (wpAny_bind (wpAny_specialOf (T := "member_descriptor") ⟨_, T.has _ _ (.inr ⟨rfl, rfl⟩), rfl⟩ Fc.sn_member_descriptor (wpAny_pure hq')))
    · exact wpAny_ite_false (by kernel_rfl) (wpAny_bind (wpAny_specialOf (T := "NoneType") rfl Fc.sn_NoneType (wpAny_pure hq')))
  refine wpAny_bind (any_small (sup1 T.hc fun sp h15 t15 D1 => ?_) hA.handled ⟨by have := hA.depth; omega, by have := hA.units; omega⟩)
  have T := T.loose (memKeep D1)
  have hcs' : h15.Ns cStatics mc := let ⟨o, es, ep, e, r⟩ := hcs; ⟨o, es, ep, T.has _ _ (.inl e), r⟩
  refine wpAny_bind (wpAny_holding (sup2 T (Mem.at D1 0 sp _ rfl) hcs' hmc hA fun bm h16 t16 D2 => ?_))
  have T := T.loose (memKeep D2)
  refine wpAny_bind (any_small (sup4 T.hc (Mem.at D2 0 bm _ rfl) ?_) hA.handled ⟨by have := hA.depth; omega, by have := hA.units; omega⟩)
  repeat (first | (with_reducible refine wpAny_bind ?_) | (with_reducible refine wpAny_pure ?_) | (with_reducible refine wpAny_holding ?_) | (with_reducible refine wpAny_rule ?_) | (with_reducible refine wpAny_standAt ?_) | (with_reducible refine wpAny_point ?_) | (with_reducible refine wpAny_letGo ?_) | (with_reducible refine wpAny_mkInt' ?_) | (with_reducible refine wpAny_mkStr' ?_) | (with_reducible refine wpAny_fresh' ?_) | (with_reducible refine wpAny_alloc' ?_) | (with_reducible refine wpAny_attempt ?_) | wp_delta | (with_reducible_and_instances refine wpAny_pure ?_) | (with_reducible_and_instances refine wpAny_bind ?_))
  exact hQ C ns md _ _ y1 y2 z1 z2 _ T (none_of nC) (none_of nns) (none_of nmd)

end Mine
end
section
set_option maxHeartbeats 4000000
namespace Mine
open PySem PySem.W PySem.W.X PyProof.Rows PySem.Calls PySem.Spec
theorem slot_type_init : SlotG "type" (Str.ofString "__init__") "type.__init__" :=
  .of (owner := "type") (n := "__init__") (by rw [typeLookup_type, builtinLookup_eq_fast]; kernel_rfl) (by decide +kernel) (by decide +kernel) (by decide +kernel)
    (by first | exact .inl (by decide +kernel) | exact .inr (by decide +kernel)) (by rw [isSubtype_type]; kernel_rfl)
theorem typeCall {prog : Program} {w : World} {A : Around} {N B sl st f1 f2 f3 f4 f5 f6 : Addr} {x0 x1 x2 x3 x4 x5 x6 x7 x8 x9 x10 x11 : Int} {t0 t1 t2 t3 t4 t5 t6 t7 t8 t9 t10 t11 u0 u1 u2 u3 tk tn : Tok} {n : Nat} {h : Heap} {g : Array GenState} {d : Drawn} {t : Nat} {os : OsState}
    {o1 o2 o3 o4 o5 o6 : FuncData}
    (NL : h.NoLimit)
    (hB : h.get? B = some { cls := .type "tuple", data := .seq #[.type "object"] }) (hN : h.get? N = some { cls := .type "dict", data := .dict #[⟨x0, .str (Str.ofString "__module__") t0, .str (Str.ofString "cpy313.functools") u0⟩, ⟨x1, .str (Str.ofString "__qualname__") t1, .str (Str.ofString "cmp_to_key.<locals>.K") u1⟩, ⟨x2, .str (Str.ofString "__firstlineno__") t2, .int 4 u2⟩, ⟨x3, .str (Str.ofString "__slots__") t3, .ref sl⟩, ⟨x4, .str (Str.ofString "__init__") t4, .ref f1⟩, ⟨x5, .str (Str.ofString "__lt__") t5, .ref f2⟩, ⟨x6, .str (Str.ofString "__gt__") t6, .ref f3⟩, ⟨x7, .str (Str.ofString "__eq__") t7, .ref f4⟩, ⟨x8, .str (Str.ofString "__le__") t8, .ref f5⟩, ⟨x9, .str (Str.ofString "__ge__") t9, .ref f6⟩, ⟨x10, .str (Str.ofString "__hash__") t10, .none⟩, ⟨x11, .str (Str.ofString "__static_attributes__") t11, .ref st⟩] n })
    (hsl : h.get? sl = some { cls := .type "list", data := .seq #[.str (Str.ofString "obj") u3] })
    (hst : h.get? st = some { cls := .type "tuple", data := .seq #[.str (Str.ofString "obj") tk] })
    (hf1 : h.get? f1 = some { cls := .type "function", data := .func o1 }) (hf2 : h.get? f2 = some { cls := .type "function", data := .func o2 }) (hf3 : h.get? f3 = some { cls := .type "function", data := .func o3 }) (hf4 : h.get? f4 = some { cls := .type "function", data := .func o4 }) (hf5 : h.get? f5 = some { cls := .type "function", data := .func o5 }) (hf6 : h.get? f6 = some { cls := .type "function", data := .func o6 })
    (hNs : (N == sysModules) = false) {mc : Str → Option Value} (hcs : h.Ns cStatics mc) (hmc : mc (Str.ofString "thirdparty.any") = Option.none) (hh : A.handled = Option.none) (hd : A.depth + 80 ≤ 500) (hu : A.units + 1000 ≤ 9000) {Q : Value → Shared → Prop} {E : Value → Shared → Prop}
    (hQ : ∀ C ns md h' t' y1 y2 z1 z2 z3, TW h' (Fz.add (fun b o => h.get? b = some o) md (mdOb C z3)) ns C (dictOb #[⟨x0, .str (Str.ofString "__module__") t0, .str (Str.ofString "cpy313.functools") u0⟩, ⟨x2, .str (Str.ofString "__firstlineno__") t2, .int 4 u2⟩, ⟨x3, .str (Str.ofString "__slots__") t3, .ref sl⟩, ⟨x4, .str (Str.ofString "__init__") t4, .ref f1⟩, ⟨x5, .str (Str.ofString "__lt__") t5, .ref f2⟩, ⟨x6, .str (Str.ofString "__gt__") t6, .ref f3⟩, ⟨x7, .str (Str.ofString "__eq__") t7, .ref f4⟩, ⟨x8, .str (Str.ofString "__le__") t8, .ref f5⟩, ⟨x9, .str (Str.ofString "__ge__") t9, .ref f6⟩, ⟨x10, .str (Str.ofString "__hash__") t10, .none⟩, ⟨x11, .str (Str.ofString "__static_attributes__") t11, .ref st⟩, ⟨y1, .str (Str.ofString "obj") z1, .ref md⟩, ⟨y2, .str (Str.ofString "__doc__") z2, .none⟩] 3) (clsOb ns [.ref C, .type "object"] false [Str.ofString "obj"] #[some (.ref B), none, some (.str (Str.ofString "K") tn), some (.str (Str.ofString "cmp_to_key.<locals>.K") u1), some (.builtin "object.__new__"), some (.bool false)]) → h.get? C = Option.none → h.get? ns = Option.none → h.get? md = Option.none → Q (.ref C) ⟨h', g, d, t', os⟩) :
    wpAny (model prog w) A (call (.type "type") [.str (Str.ofString "K") tn, .ref B, .ref N]) Q E ⟨h, g, d, t, os⟩ := by
  have g1 : checkTypeCall "type" ⟨[.str (Str.ofString "K") tn, .ref B, .ref N], []⟩ = pure () := by kernel_rfl
  have g2 : checkBuiltinCall "type.__new__" ⟨.type "type" :: [.str (Str.ofString "K") tn, .ref B, .ref N], []⟩ = pure () := by rw [XFast.xe10254737850608025244]; kernel_rfl
  refine wpAny_call (codeAny_of_tree ?_)
  show wpAny _ _ (again (.builtin "type.__call__" ⟨.type "type" :: [.str (Str.ofString "K") tn, .ref B, .ref N], []⟩)) _ _ _
  refine wpAny_pure ⟨Code.quiet_builtin _ (by decide +kernel), codeAny_builtin entry_typeCall ?_⟩
  unfold Builtin.«type.__call__»
  repeat (first | ((with_reducible show wpAny _ _ (checkTypeCall _ _) _ _ _); exact wpAny_of_eq g1 ?_) | (first | (with_reducible refine wpAny_bind ?_) | (with_reducible refine wpAny_pure ?_) | (with_reducible refine wpAny_holding ?_) | (with_reducible refine wpAny_rule ?_) | (with_reducible refine wpAny_standAt ?_) | (with_reducible refine wpAny_point ?_) | (with_reducible refine wpAny_letGo ?_) | (with_reducible refine wpAny_mkInt' ?_) | (with_reducible refine wpAny_mkStr' ?_) | (with_reducible refine wpAny_fresh' ?_) | (with_reducible refine wpAny_alloc' ?_) | (with_reducible refine wpAny_attempt ?_) | ((with_reducible show wpAny _ _ (Bind.madeBy _) _ _ _); first | (refine wpAny_of_eq Fc.made_type ?_)) | ((with_reducible show wpAny _ _ (mroOf _) _ _ _); first | (refine wpAny_of_eq Fc.mro_type ?_)) | (with_reducible refine wpAny_isInstance (by assumption) (by assumption) ?_) | (with_reducible refine wpAny_typeOf (by assumption) ?_) | ((with_reducible show wpAny _ _ (load _) _ _ _); with_reducible apply wpAny_load'; focus (heap_get; done)) | ((with_reducible show wpAny _ _ (loadPart _ _) _ _ _); with_reducible apply wpAny_loadPart'; focus (heap_get; done)) | ((with_reducible show wpAny _ _ (update _ _) _ _ _); with_reducible apply wpAny_update'; focus (heap_get; done)) | ((with_reducible show wpAny _ _ (updatePart _ _ _) _ _ _); with_reducible apply wpAny_updatePart'; focus (heap_get; done)) | ((with_reducible show wpAny _ _ (ite _ _ _) _ _ _); first | ((with_reducible apply wpAny_ite_false); focus (kernel_rfl!; done)) | ((with_reducible apply wpAny_ite_true); focus (kernel_rfl!; done))) | wp_delta | (with_reducible_and_instances refine wpAny_pure ?_) | (with_reducible_and_instances refine wpAny_bind ?_)))
  refine wpAny_call (codeAny_call_builtin_at (Code.quiet_builtin _ (by decide +kernel)) en3 (wpAny_of_eq g2 (typeNew NL hB hN hsl hst hf1 hf2 hf3 hf4 hf5 hf6 hNs hcs hmc ⟨by exact hh, ?_, ?_⟩ ?_)))
  · have h1 : (Code.builtin "type.__call__" { pos := [Value.type "type", Value.str (Str.ofString "K") tn, Value.ref B, Value.ref N] }).weight ≤ 10 := Nat.le_of_ble_eq_true (by kernel_rfl)
    have h2 : (Code.builtin "type.__new__" { pos := [Value.type "type", Value.str (Str.ofString "K") tn, Value.ref B, Value.ref N] }).weight ≤ 10 := Nat.le_of_ble_eq_true (by kernel_rfl)
    refine Nat.le_trans (Nat.add_le_add_right (Nat.add_le_add (Nat.add_le_add_left h1 A.depth) h2) 40) (by omega)
  · have h1 : (Code.builtin "type.__call__" { pos := [Value.type "type", Value.str (Str.ofString "K") tn, Value.ref B, Value.ref N] }).cUnits ≤ 100 := Nat.le_of_ble_eq_true (by kernel_rfl)
    have h2 : (Code.builtin "type.__new__" { pos := [Value.type "type", Value.str (Str.ofString "K") tn, Value.ref B, Value.ref N] }).cUnits ≤ 100 := Nat.le_of_ble_eq_true (by kernel_rfl)
    refine Nat.le_trans (Nat.add_le_add_right (Nat.add_le_add (Nat.add_le_add_left h1 A.units) h2) 400) (by omega)
  intro C ns md h' t' y1 y2 z1 z2 z3 T nC nns nmd
  have hTC : Shared.TypeIs ⟨h', g, d, t', os⟩ (.ref C) "type" := ⟨_, T.hc, rfl⟩
  refine wpAny_bind (wpAny_isInstance hTC Fc.sub_type (wpAny_ite_false rfl (wpAny_bind (wpAny_holding ?_))))
  unfold callSpecial?
  refine wpAny_bind (wpAny_specialOf hTC slot_type_init.lookup (wpAny_holding (wpAny_bind (wpAny_of_eq (slot_type_init.bind _) ?_))))
  refine wpAny_bind (wpAny_call (codeAny_call_builtin_at (Code.quiet_builtin _ (by decide +kernel)) en4 (slot_type_init.check _ _ _ _ _ _ _ _ hTC (by unfold argsOk; kernel_rfl) ?_)))
  unfold Builtin.«type.__init__»
  repeat (first | (with_reducible refine wpAny_bind ?_) | (with_reducible refine wpAny_pure ?_) | (with_reducible refine wpAny_holding ?_) | (with_reducible refine wpAny_rule ?_) | (with_reducible refine wpAny_standAt ?_) | (with_reducible refine wpAny_point ?_) | (with_reducible refine wpAny_letGo ?_) | (with_reducible refine wpAny_mkInt' ?_) | (with_reducible refine wpAny_mkStr' ?_) | (with_reducible refine wpAny_fresh' ?_) | (with_reducible refine wpAny_alloc' ?_) | (with_reducible refine wpAny_attempt ?_) | ((with_reducible show wpAny _ _ (ite _ _ _) _ _ _); first | ((with_reducible apply wpAny_ite_false); focus (kernel_rfl!; done)) | ((with_reducible apply wpAny_ite_true); focus (kernel_rfl!; done))) | wp_delta | (with_reducible_and_instances refine wpAny_pure ?_) | (with_reducible_and_instances refine wpAny_bind ?_))
  exact hQ _ _ _ _ _ _ _ _ _ _ T nC nns nmd
end Mine
end
namespace Mine
open PySem PySem.W PySem.W.X PyProof.Rows PySem.Calls PySem.Spec
section
variable {M : Model} {A : Around} {E : Value → Shared → Prop} {s : Shared}
theorem wp_classCode {env : Env} {c P : Addr} {ps : Array Value} {pos : Pos} {firstLine : Nat} {name qual : Str} {scope : Scope} {Q : Value → Shared → Prop} (hc : env.code = .ref c) (C : CodeHd s.heap c P) (hP : s.heap.get? P = some (tabObj ps)) (ht : TriplesOk ps.toList) (hnf : codeAmong pos ps.toList = none)
    (hQ : ∀ c' P' h' tk, Heap.ExtBut P s.heap h' → s.heap.objs.size ≤ c' → s.heap.objs.size ≤ P' → CodeHd h' c' P' → h'.get? P' = some (tabObj #[]) → h'.CodeRec (.ref c') qual → h'.get? P = some (tabObj (ps ++ #[rawInt pos.line, rawInt pos.col, .ref c'])) → Q (.ref c') { s with heap := h', toks := tk }) :
    wpAny M A (classCode env pos firstLine name qual scope) Q E s := by
  have hok := C.code hP ht
  obtain ⟨o, vs, file, tf, flags, tg, inF, text, tt, op, ho, hd, h11, h2, h7, h9, h10, hop, hpd, htr, hne⟩ := id hok
  unfold classCode codeAt
  rw [hc, if_neg (show ¬ ((Value.ref c == Value.none) = true) from Bool.false_ne_true)]
  refine wpAny_bind (wpAny_fieldsOf ho hd ?_)
  rw [h11]
  refine wpAny_bind (wpAny_fieldsOf hop hpd ?_)
  rw [hnf, h2, h7, h9, h10]
  refine wpAny_bind (wpAny_newCodeX fun c' P' h' tk hk hc' hP' hcode' htab' hrec' => ?_)
  have hop' := hk _ _ hop
  refine wpAny_bind (wpAny_updateFieldsOfTheText hop' hpd ?_)
  have hop2 : op = tabObj ps := by rw [hP] at hop; exact (Option.some.inj hop).symm
  have hnew : Obj.mapFields (fun vs => if (codeAmong pos vs.toList).isSome = true then vs else vs ++ #[rawInt pos.line, rawInt pos.col, .ref c']) op = tabObj (ps ++ #[rawInt pos.line, rawInt pos.col, .ref c']) := by
    subst hop2
    show ({ cls := .none, data := .fields (if (codeAmong pos ps.toList).isSome = true then ps else ps ++ #[rawInt pos.line, rawInt pos.col, .ref c']) } : Obj) = _
    rw [hnf]; rfl
  have hget := Heap.get?_update_self (h := h') (fun o => Obj.mapFields (fun vs => if (codeAmong pos vs.toList).isSome = true then vs else
    vs ++ #[rawInt pos.line, rawInt pos.col, .ref c']) o) hop' (by rw [hnew]; rfl)
  rw [hnew] at hget
  refine wpAny_bind (wpAny_fieldsOf hget rfl ?_)
  have hl : (ps ++ #[rawInt pos.line, rawInt pos.col, Value.ref c']).toList = ps.toList ++ [rawInt pos.line, rawInt pos.col, .ref c'] := by simp
  rw [hl, codeAmong_snoc _ htr hnf]
  have hPlt := Heap.lt_size hop
  have hcP : c' ≠ P := Nat.ne_of_gt (Nat.lt_of_lt_of_le hPlt hc')
  have hPP : P' ≠ P := Nat.ne_of_gt (Nat.lt_of_lt_of_le hPlt hP')
  have hsb := (Heap.SameBut.update h' P (fun o => Obj.mapFields (fun vs => if (codeAmong pos vs.toList).isSome = true then vs else vs ++ #[rawInt pos.line, rawInt pos.col, .ref c']) o)).extBut
  refine wpAny_pure (hQ _ P' _ _ (fun b o' hb e => hsb b o' hb (hk b o' e)) hc' hP' (CodeHd.of (hcode'.extBut hsb hcP hPP) (htab'.extBut hsb hcP hPP)) (htab'.extBut hsb hcP hPP).2 ?_ hget)
  obtain ⟨c₂, o₂, vs₂, t₂, e₂, g₂, r₂⟩ := hrec'
  cases e₂
  exact ⟨_, o₂, vs₂, t₂, rfl, hsb _ _ hcP g₂, r₂⟩
theorem cls_storeN {env : Env} {l : List (Str × Value)} {x : Str} {v : Value} {Q : Unit → Shared → Prop} (hk : env.scope.kind = .class) (hx : env.kindOf x = none) (hcn : compilersOwnNames.contains x = true) (hn : DictIs s.heap env.locals l)
    (h : ∀ h', DictIs h' env.locals (put x v l) → Heap.SameBut env.locals s.heap h' → Q () { s with heap := h', toks := s.toks + 1 }) : wpAny M A (storeName env x v) Q E s := by
  have e : storeName env x v = localSet env x v := by
    have hb : env.blockKind = .class := by unfold Env.blockKind; rw [hk]; rfl
    unfold storeName
    rw [hx, hb, hk, hcn]
    rfl
  rw [e]
  obtain ⟨es, n, ho, he⟩ := id hn
  unfold localSet
  refine wpAny_bind (wpAny_load ho ?_)
  rw [if_pos (show ((dictOb es n).cls == Value.type "dict") = true from by first | rfl | kernel_rfl)]
  exact wp_nsSetE hn h
noncomputable def look (x : Str) : List (Str × Value) → Option Value
  | [] => none
  | (y, v) :: r => if y == x then some v else look x r
theorem Ents.look {es : List DictEntry} {l : List (Str × Value)} (E : Ents es l) (x : Str) : ∀ b, (nsNameIn x.cps.size x.cps.toList es b) = match es.find? (fun e => e.key.isStr x) with | some e => (some e, b) | none => (none, b) := by
  induction E with
  | nil => intro b; rfl
  | @cons hs y t u es l E ih =>
    intro b
    rw [nsNameIn, Value.isStrByCps_eq, List.find?_cons]
    cases hb : (Value.str y t).isStr x with
    | true => simp only [if_true]
    | false =>
      simp only [Bool.false_eq_true, if_false]
      rw [show (b || (DictEntry.refKey ⟨hs, .str y t, u⟩)) = b from by simp [DictEntry.refKey]]
      exact ih b
theorem Ents.find {es : List DictEntry} {l : List (Str × Value)} (E : Ents es l) (x : Str) : (es.find? (fun e => e.key.isStr x)).map (·.val) = Mine.look x l := by
  induction E with
  | nil => rfl
  | @cons hs y t u es l E ih =>
    rw [List.find?_cons, Mine.look]
    show Option.map _ (match y == x with | true => _ | false => _) = _
    cases hb : y == x with
    | true => rfl
    | false => simpa using ih
theorem wp_nsGetE {N : Addr} {l : List (Str × Value)} {x : Str} {r : Option Value} {Q : Option Value → Shared → Prop} (hn : DictIs s.heap N l) (hr : look x l = r) (h : Q r s) : wpAny M A (nsGet N x) Q E s := by
  obtain ⟨es, n, ho, he⟩ := hn
  unfold nsGet
  refine wpAny_bind (wpAny_loadPart ho ?_)
  unfold nsLook dictOb
  dsimp only
  rw [he.look x false]
  rw [← he.find x] at hr
  cases hf : es.toList.find? (fun e => e.key.isStr x) with
  | some e => rw [hf] at hr; subst hr; exact wpAny_pure h
  | none => rw [hf] at hr; subst hr; exact wpAny_pure h
theorem cls_loadN {env : Env} {l : List (Str × Value)} {x : Str} {mg : Str → Option Value} {v : Value} {Q : Value → Shared → Prop} (hk : env.scope.kind = .class) (hx : env.kindOf x = none) (hcn : compilersOwnNames.contains x = true) (hn : DictIs s.heap env.locals l) (hl : look x l = none)
    (hg : s.heap.Ns env.globals mg) (hv : mg x = some v) (h : Q v s) : wpAny M A (loadName env x) Q E s := by
  have hb : env.blockKind = .class := by unfold Env.blockKind; rw [hk]; rfl
  unfold loadName
  rw [hx, hb, hk, hcn]
  repeat ((fail_if_success (with_reducible show wpAny _ _ (localGet _ _) _ _ _)); first | (with_reducible refine wpAny_bind ?_) | (with_reducible refine wpAny_pure ?_) | (with_reducible refine wpAny_holding ?_) | (with_reducible refine wpAny_rule ?_) | (with_reducible refine wpAny_standAt ?_) | (with_reducible refine wpAny_point ?_) | (with_reducible refine wpAny_letGo ?_) | (with_reducible refine wpAny_mkInt' ?_) | (with_reducible refine wpAny_mkStr' ?_) | (with_reducible refine wpAny_fresh' ?_) | (with_reducible refine wpAny_alloc' ?_) | (with_reducible refine wpAny_attempt ?_) | ((with_reducible show wpAny _ _ (ite _ _ _) _ _ _); first | ((with_reducible apply wpAny_ite_false); focus (kernel_rfl!; done)) | ((with_reducible apply wpAny_ite_true); focus (kernel_rfl!; done))) | wp_delta | (with_reducible_and_instances refine wpAny_pure ?_) | (with_reducible_and_instances refine wpAny_bind ?_))
  obtain ⟨es, n, ho, he⟩ := id hn
  unfold localGet
  refine wpAny_bind (wpAny_load ho ?_)
  rw [if_pos (show ((dictOb es n).cls == Value.type "dict") = true from by first | rfl | kernel_rfl)]
  refine wp_nsGetE hn hl ?_
  unfold loadGlobal
  refine wpAny_bind (wpAny_nsGet hg ?_)
  rw [hv]
  exact wpAny_pure h
theorem wp_newBodyFrame {code : Value} {gl lo b : Addr} {mg : Str → Option Value} {Q : Addr → Shared → Prop} (hg : s.heap.Ns gl mg) (h : ∀ f h', (∀ b o, s.heap.get? b = some o → h'.get? b = some o) → h'.objs.size = s.heap.objs.size + 1 → Q f { s with heap := h' }) :
    wpAny M A (newBodyFrame code gl lo b) Q E s := by
  unfold newBodyFrame
  refine wpAny_bind (wpAny_nsGet hg (wpAny_alloc (h _ _ (fun b o e => Heap.get?_push_of_some _ e) (Heap.size_push _ _))))
end
end Mine
section
set_option maxHeartbeats 4000000
namespace Mine
open PySem PySem.W PySem.W.X PyProof.Rows PySem.Calls PySem.Spec
theorem slot_type_ga : SlotG "type" (Str.ofString "__getattribute__") "type.__getattribute__" :=
  .of (owner := "type") (n := "__getattribute__") (by rw [typeLookup_type, builtinLookup_eq_fast]; kernel_rfl) (by decide +kernel) (by decide +kernel) (by decide +kernel)
    (by first | exact .inl (by decide +kernel) | exact .inr (by decide +kernel)) (by rw [isSubtype_type]; kernel_rfl)
noncomputable def prOb : Obj := { cls := .type "builtin_function_or_method", data := .fields #[.builtin "type.__prepare__", .type "type"] }
set_option hygiene false in
local macro_rules | `(tactic| x_close) => `(tactic| (exact hQ _ _ _ D))
theorem prep1 {prog : Program} {w : World} {h : Heap} {g : Array GenState} {d : Drawn} {t tk : Nat} {os : OsState} {Q E : Value → Shared → Prop}
    (hQ : ∀ sp h' t', Mem h h' [] [(sp, prOb)] → Q (.ref sp) ⟨h', g, d, t', os⟩) :
    wpAny (model prog w) A0 (call (.builtin "type.__getattribute__") [.type "type", .str (Str.ofString "__prepare__") tk]) Q E ⟨h, g, d, t, os⟩ := by
  x_run
theorem prep2 {prog : Program} {w : World} {h : Heap} {g : Array GenState} {d : Drawn} {t tn : Nat} {os : OsState} {pr B : Addr} {Q E : Value → Shared → Prop} (hp : h.get? pr = some { cls := .type "builtin_function_or_method", data := .fields #[.builtin "type.__prepare__", .type "type"] })
    (hQ : ∀ sp h' t', Mem h h' [] [(sp, dictOb #[] 0)] → Q (.ref sp) ⟨h', g, d, t', os⟩) :
    wpAny (model prog w) A0 (call (.ref pr) [.str (Str.ofString "K") tn, .ref B]) Q E ⟨h, g, d, t, os⟩ := by
  x_run
theorem Ents.uncons {l : List DictEntry} {n : Str} {v : Value} {ps : List (Str × Value)} (E : Ents l ((n, v) :: ps)) : ∃ x t l', l = ⟨x, .str n t, v⟩ :: l' ∧ Ents l' ps := by
  cases E with | cons E => exact ⟨_, _, _, rfl, E⟩
theorem ents12 {es : Array DictEntry} {n0 n1 n2 n3 n4 n5 n6 n7 n8 n9 n10 n11 : Str} {v0 v1 v2 v3 v4 v5 v6 v7 v8 v9 v10 v11 : Value} (E : Ents es.toList [(n0, v0), (n1, v1), (n2, v2), (n3, v3), (n4, v4), (n5, v5), (n6, v6), (n7, v7), (n8, v8), (n9, v9), (n10, v10), (n11, v11)]) {Q : Prop} (h : ∀ (x0 x1 x2 x3 x4 x5 x6 x7 x8 x9 x10 x11 : Int) (t0 t1 t2 t3 t4 t5 t6 t7 t8 t9 t10 t11 : Tok), es = #[⟨x0, .str n0 t0, v0⟩, ⟨x1, .str n1 t1, v1⟩, ⟨x2, .str n2 t2, v2⟩, ⟨x3, .str n3 t3, v3⟩, ⟨x4, .str n4 t4, v4⟩, ⟨x5, .str n5 t5, v5⟩, ⟨x6, .str n6 t6, v6⟩, ⟨x7, .str n7 t7, v7⟩, ⟨x8, .str n8 t8, v8⟩, ⟨x9, .str n9 t9, v9⟩, ⟨x10, .str n10 t10, v10⟩, ⟨x11, .str n11 t11, v11⟩] → Q) : Q := by
  obtain ⟨l⟩ := es
  dsimp only at E
  obtain ⟨x0, t0, l0, rfl, E1⟩ := E.uncons
  obtain ⟨x1, t1, l1, rfl, E2⟩ := E1.uncons
  obtain ⟨x2, t2, l2, rfl, E3⟩ := E2.uncons
  obtain ⟨x3, t3, l3, rfl, E4⟩ := E3.uncons
  obtain ⟨x4, t4, l4, rfl, E5⟩ := E4.uncons
  obtain ⟨x5, t5, l5, rfl, E6⟩ := E5.uncons
  obtain ⟨x6, t6, l6, rfl, E7⟩ := E6.uncons
  obtain ⟨x7, t7, l7, rfl, E8⟩ := E7.uncons
  obtain ⟨x8, t8, l8, rfl, E9⟩ := E8.uncons
  obtain ⟨x9, t9, l9, rfl, E10⟩ := E9.uncons
  obtain ⟨x10, t10, l10, rfl, E11⟩ := E10.uncons
  obtain ⟨x11, t11, l11, rfl, E12⟩ := E11.uncons
  cases E12
  exact h _ _ _ _ _ _ _ _ _ _ _ _ _ _ _ _ _ _ _ _ _ _ _ _ rfl
structure KD where
  (C ns md B f1 f2 f3 f4 f5 f6 sl st : Addr)
  (x0 x1 x2 x3 x4 x5 x6 x7 x8 x9 x10 x11 y1 y2 : Int)
  (t0 t1 t2 t3 t4 t5 t6 t7 t8 t9 t10 t11 z1 z2 z3 u0 u1 u2 tn : Tok)
noncomputable def KD.es (K : KD) : Array DictEntry := #[⟨K.x0, .str (Str.ofString "__module__") K.t0, .str (Str.ofString "cpy313.functools") K.u0⟩, ⟨K.x2, .str (Str.ofString "__firstlineno__") K.t2, .int 4 K.u2⟩, ⟨K.x3, .str (Str.ofString "__slots__") K.t3, .ref K.sl⟩, ⟨K.x4, .str (Str.ofString "__init__") K.t4, .ref K.f1⟩, ⟨K.x5, .str (Str.ofString "__lt__") K.t5, .ref K.f2⟩, ⟨K.x6, .str (Str.ofString "__gt__") K.t6, .ref K.f3⟩, ⟨K.x7, .str (Str.ofString "__eq__") K.t7, .ref K.f4⟩, ⟨K.x8, .str (Str.ofString "__le__") K.t8, .ref K.f5⟩, ⟨K.x9, .str (Str.ofString "__ge__") K.t9, .ref K.f6⟩, ⟨K.x10, .str (Str.ofString "__hash__") K.t10, .none⟩, ⟨K.x11, .str (Str.ofString "__static_attributes__") K.t11, .ref K.st⟩, ⟨K.y1, .str (Str.ofString "obj") K.z1, .ref K.md⟩, ⟨K.y2, .str (Str.ofString "__doc__") K.z2, .none⟩]
noncomputable def KD.slots (K : KD) : Array (Option Value) := #[some (.ref K.B), none, some (.str (Str.ofString "K") K.tn), some (.str (Str.ofString "cmp_to_key.<locals>.K") K.u1), some (.builtin "object.__new__"), some (.bool false)]
noncomputable def KF (fr : Addr → Prop) (i : Nat) (clos : List (Str × Addr)) (pm : Value) (f : Addr) (h : Heap) : Prop :=
  ∃ c' ctv doc, fr f ∧ fr c' ∧ h.get? f = some (kFn i clos doc pm c' ctv) ∧ h.CodeRec (.ref c') (kQual ++ nameOf (kD i))
structure KAt (K : KD) (fr : Addr → Prop) (m : Addr) (pm : Value) (h : Heap) : Prop where
  frC : fr K.C
  frN : fr K.ns
  frM : fr K.md
  hC : h.get? K.C = some (clsOb K.ns [.ref K.C, .type "object"] false [Str.ofString "obj"] K.slots)
  hN : h.get? K.ns = some (dictOb K.es 3)
  hM : h.get? K.md = some (mdOb K.C K.z3)
  f1 : KF fr 2 [] pm K.f1 h
  f2 : KF fr 3 [(Str.ofString "mycmp", m)] pm K.f2 h
  f3 : KF fr 4 [(Str.ofString "mycmp", m)] pm K.f3 h
  f4 : KF fr 5 [(Str.ofString "mycmp", m)] pm K.f4 h
  f5 : KF fr 6 [(Str.ofString "mycmp", m)] pm K.f5 h
  f6 : KF fr 7 [(Str.ofString "mycmp", m)] pm K.f6 h
theorem KFnAt.kf {lo i : Nat} {clos : List (Str × Addr)} {pm : Value} {f : Addr} {h h' : Heap} {fr : Addr → Prop} (X : KFnAt lo i clos pm f h) (k : ∀ b o, lo ≤ b → h.get? b = some o → h'.get? b = some o) (hf : ∀ b, lo ≤ b → fr b) : KF fr i clos pm f h' := by
  obtain ⟨hlo, c', ctv, doc, hc, e, r⟩ := X
  obtain ⟨c₂, o₂, vs₂, t₂, e₂, g₂, r₂⟩ := r
  cases e₂
  exact ⟨_, ctv, doc, hf _ hlo, hf _ hc, k _ _ hlo e, _, o₂, vs₂, t₂, rfl, k _ _ hc g₂, r₂⟩
theorem put12 (a b c e q : Value) (f1 f2 f3 f4 f5 f6 : Addr) : put (Str.ofString "__static_attributes__") q (kNames a b c e f1 f2 f3 f4 f5 f6) = [(Str.ofString "__module__", a), (Str.ofString "__qualname__", b), (Str.ofString "__firstlineno__", c), (Str.ofString "__slots__", e), (Str.ofString "__init__", .ref f1), (Str.ofString "__lt__", .ref f2), (Str.ofString "__gt__", .ref f3), (Str.ofString "__eq__", .ref f4), (Str.ofString "__le__", .ref f5), (Str.ofString "__ge__", .ref f6), (Str.ofString "__hash__", .none), (Str.ofString "__static_attributes__", q)] := by kernel_rfl
structure BCtx (mg mc : Str → Option Value) (cc Pc : Addr) (ps : Array Value) (h : Heap) : Prop where
  g : h.Ns mainGlobals mg
  nm : ∃ nv, mg (Str.ofString "__name__") = some nv
  b : ∃ bm o, mg "__builtins__" = some (.ref bm) ∧ bm ≠ builtinsNs ∧ bm ≠ mainGlobals ∧ h.get? bm = some o ∧ o.cls = .type "module" ∧ o.dict = some builtinsNs ∧ o.data = .plain
  nl : h.NoLimit
  cs : h.Ns cStatics mc
  tp : mc (Str.ofString "thirdparty.any") = Option.none
  hd : CodeHd h cc Pc
  hP : h.get? Pc = some (tabObj ps)
  sm : ∃ o, h.get? sysModules = some o
theorem BCtx.keeps {mg mc : Str → Option Value} {cc Pc : Addr} {ps : Array Value} {h h' : Heap} (B : BCtx mg mc cc Pc ps h) (k : ∀ b o, h.get? b = some o → h'.get? b = some o) : BCtx mg mc cc Pc ps h' :=
  ⟨B.g.keeps k, B.nm, let ⟨bm, o, x1, x2, x3, x4, r⟩ := B.b; ⟨bm, o, x1, x2, x3, k _ _ x4, r⟩, B.nl.keeps k, B.cs.keeps k, B.tp, B.hd.keeps k, k _ _ B.hP, let ⟨o, e⟩ := B.sm; ⟨o, k _ _ e⟩⟩
theorem ty_type : typeOf (.type "type") = pure (.type "type") := by rw [XFast.xe14684505520029207082]; kernel_rfl
theorem dict_getitem : typeLookup (.type "dict") (Str.ofString "__getitem__") = pure (some (.builtin "dict.__getitem__")) := by rw [typeLookup_type, builtinLookup_eq_fast]; kernel_rfl
theorem buildK {prog : Program} {w : World} {A : Around} {h : Heap} {g : Array GenState} {d : Drawn} {t : Nat} {os : OsState} {mg mc : Str → Option Value} {cc Pc m : Addr} {ps : Array Value} {env : Env} {Q E : Value → Shared → Prop}
    (X : BCtx mg mc cc Pc ps h) (tr : TriplesOk ps.toList) (hnf : codeAmong kPos ps.toList = Option.none) (hE1 : env.globals = mainGlobals) (hE2 : env.code = .ref cc) (hE3 : closureFor kScope env = pure [(Str.ofString "mycmp", m)]) (hE4 : env.builtins = builtinsNs)
    (hh : A.handled = Option.none) (hd : A.depth + 100 ≤ 500) (hu : A.units + 1200 ≤ 9000)
    (hQ : ∀ (K : KD) (h' : Heap) (t' : Nat) (c' : Addr), (∀ b o, b ≠ Pc → h.get? b = some o → h'.get? b = some o) → h'.get? Pc = some (tabObj (ps ++ #[rawInt kPos.line, rawInt kPos.col, .ref c'])) → h'.CodeRec (.ref c') (Str.ofString "cmp_to_key.<locals>.K") → h.get? c' = Option.none →
      KAt K (fun b => h.get? b = Option.none) m ((mg "__name__").getD .none) h' → Q (.ref K.C) ⟨h', g, d, t', os⟩) :
    wpAny (model prog w) A (buildClass (Str.ofString "K") (Str.ofString "cmp_to_key.<locals>.K") [.type "object"] [] kBody kScope kStatics 4 env kPos Option.none) Q E ⟨h, g, d, t, os⟩ := by
  have sm0 : A.depth ≤ 500 ∧ A.units ≤ 9000 := ⟨by omega, by omega⟩
  unfold buildClass
  refine wpAny_bind (wpAny_newTuple ?_)
  have hB := Heap.get?_push_size h (o := { cls := .type "tuple", data := .seq [Value.type "object"].toArray }) rfl
  have X1 := X.keeps (fun b o e => Heap.get?_push_of_some { cls := .type "tuple", data := .seq [Value.type "object"].toArray } e)
  have kB : ∀ b o, h.get? b = some o → (h.push { cls := .type "tuple", data := .seq [Value.type "object"].toArray }).get? b = some o := fun b o e => Heap.get?_push_of_some _ e
  show wpAny _ _ _ _ _ ⟨h.push { cls := .type "tuple", data := .seq [Value.type "object"].toArray }, g, d, t, os⟩
  generalize h.push { cls := .type "tuple", data := .seq [Value.type "object"].toArray } = h1 at *
  generalize h.objs.size = B at *
  repeat ((fail_if_success (with_reducible show wpAny _ _ (getAttr? _ _) _ _ _)); (first | (with_reducible refine wpAny_bind ?_) | (with_reducible refine wpAny_pure ?_) | (with_reducible refine wpAny_holding ?_) | (with_reducible refine wpAny_rule ?_) | (with_reducible refine wpAny_standAt ?_) | (with_reducible refine wpAny_point ?_) | (with_reducible refine wpAny_letGo ?_) | (with_reducible refine wpAny_mkInt' ?_) | (with_reducible refine wpAny_mkStr' ?_) | (with_reducible refine wpAny_fresh' ?_) | (with_reducible refine wpAny_alloc' ?_) | (with_reducible refine wpAny_attempt ?_) | ((with_reducible show wpAny _ _ (isSubtype _ _) _ _ _); first | (refine wpAny_of_eq Fc.sub_type ?_)) | ((with_reducible show wpAny _ _ (typeOf _) _ _ _); first | (refine wpAny_of_eq Fc.ty_object ?_)) | ((with_reducible show wpAny _ _ (isType _) _ _ _); first | (refine wpAny_of_eq Fc.isT_object ?_)) | (with_reducible refine wpAny_isInstance (by assumption) (by assumption) ?_) | (with_reducible refine wpAny_typeOf (by assumption) ?_) | ((with_reducible show wpAny _ _ (load _) _ _ _); with_reducible apply wpAny_load'; focus (heap_get; done)) | ((with_reducible show wpAny _ _ (loadPart _ _) _ _ _); with_reducible apply wpAny_loadPart'; focus (heap_get; done)) | ((with_reducible show wpAny _ _ (update _ _) _ _ _); with_reducible apply wpAny_update'; focus (heap_get; done)) | ((with_reducible show wpAny _ _ (updatePart _ _ _) _ _ _); with_reducible apply wpAny_updatePart'; focus (heap_get; done)) | ((with_reducible show wpAny _ _ (ite _ _ _) _ _ _); first | ((with_reducible apply wpAny_ite_false); focus (kernel_rfl!; done)) | ((with_reducible apply wpAny_ite_true); focus (kernel_rfl!; done))) | wp_delta | (with_reducible_and_instances refine wpAny_pure ?_) | (with_reducible_and_instances refine wpAny_bind ?_)))
  unfold getAttr? getAttrBy?
  refine wpAny_bind (wpAny_mkText (wpAny_bind (wpAny_attempt ?_)))
  unfold getAttrBy
  refine wpAny_holding (wpAny_bind (wpAny_of_eq ty_type (wpAny_bind (wpAny_of_eq slot_type_ga.lookup ?_))))
  unfold getAttrByItsOwn
  refine wpAny_bind (wpAny_of_eq (a := Option.none) rfl (wpAny_bind (wpAny_attempt (wpAny_holding ?_))))
  show wpAny _ _ (boundAndCalled (.builtin "type.__getattribute__") (.type "type") _) _ _ _
  unfold boundAndCalled
  refine wpAny_bind (wpAny_of_eq (slot_type_ga.bind _) (any_small (prep1 fun pr h2 t2 D2 => ?_) hh sm0))
  dsimp only at D2 ⊢
  have X2 := X1.keeps (memKeep D2)
  have hB2 := memKeep D2 _ _ hB
  have hpr := Mem.at D2 0 pr _ rfl
  repeat ((fail_if_success (with_reducible show wpAny _ _ (call _ _ _) _ _ _)); first | (with_reducible refine wpAny_bind ?_) | (with_reducible refine wpAny_pure ?_) | (with_reducible refine wpAny_holding ?_) | (with_reducible refine wpAny_rule ?_) | (with_reducible refine wpAny_standAt ?_) | (with_reducible refine wpAny_point ?_) | (with_reducible refine wpAny_letGo ?_) | (with_reducible refine wpAny_mkInt' ?_) | (with_reducible refine wpAny_mkStr' ?_) | (with_reducible refine wpAny_fresh' ?_) | (with_reducible refine wpAny_alloc' ?_) | (with_reducible refine wpAny_attempt ?_) | wp_delta | (with_reducible_and_instances refine wpAny_pure ?_) | (with_reducible_and_instances refine wpAny_bind ?_))
  refine any_small (prep2 hpr fun N h3 t3 D3 => ?_) hh sm0
  dsimp only at D3 ⊢
  have X3 := X2.keeps (memKeep D3)
  have hB3 := memKeep D3 _ _ hB2
  have hN := Mem.at D3 0 N _ rfl
  obtain ⟨osm, hsm⟩ := X2.sm
  have hNm : N ≠ sysModules := Mem.ne_old D3 0 _ _ rfl _ _ hsm
  have hTN : Shared.TypeIs ⟨h3, g, d, t3, os⟩ (.ref N) "dict" := ⟨_, hN, rfl⟩
  show wpAny _ _ (notTheModulesDict _ N >>= _) _ _ _
  refine wpAny_bind (wpAny_of_eq (notMods hNm) (wpAny_bind (wpAny_specialOf hTN dict_getitem ?_)))
  repeat ((fail_if_success (with_reducible show wpAny _ _ (classCode _ _ _ _ _ _) _ _ _)); first | (with_reducible refine wpAny_bind ?_) | (with_reducible refine wpAny_pure ?_) | (with_reducible refine wpAny_holding ?_) | (with_reducible refine wpAny_rule ?_) | (with_reducible refine wpAny_standAt ?_) | (with_reducible refine wpAny_point ?_) | (with_reducible refine wpAny_letGo ?_) | (with_reducible refine wpAny_mkInt' ?_) | (with_reducible refine wpAny_mkStr' ?_) | (with_reducible refine wpAny_fresh' ?_) | (with_reducible refine wpAny_alloc' ?_) | (with_reducible refine wpAny_attempt ?_) | ((with_reducible show wpAny _ _ (ite _ _ _) _ _ _); first | ((with_reducible apply wpAny_ite_false); focus (kernel_rfl!; done)) | ((with_reducible apply wpAny_ite_true); focus (kernel_rfl!; done))) | wp_delta | (with_reducible_and_instances refine wpAny_pure ?_) | (with_reducible_and_instances refine wpAny_bind ?_))
  rw [hE1, hE4]
  refine wp_classCode hE2 X3.hd X3.hP tr hnf fun c P' h4 t4 x4 hc4 hP4 hd4 hP4' hrec4 hPc4 => ?_
  dsimp only at x4 hc4 hP4
  -- what stands apart from the table
  have gP : mainGlobals ≠ Pc := by
    obtain ⟨o, es, ep, e, hdd, _⟩ := X3.g
    rintro q
    rw [q, X3.hP] at e
    cases e; cases hdd
  have sP : cStatics ≠ Pc := by
    obtain ⟨o, es, ep, e, hdd, _⟩ := X3.cs
    rintro q
    rw [q, X3.hP] at e
    cases e; cases hdd
  obtain ⟨bm, ob, b1, b2, b3, b4, b5, b6, b7⟩ := X3.b
  have bP : bm ≠ Pc := by
    rintro q
    rw [q, X3.hP] at b4
    cases b4; cases b5
  have NP : N ≠ Pc := by
    rintro q
    rw [q, X3.hP] at hN
    cases hN
  have g4 := X3.g.extBut x4 gP
  refine wpAny_bind (wpAny_builtinsFor g4 b1 b2 (x4 _ _ bP b4) b5 b6 b7 ?_)
  refine wpAny_bind (wp_newBodyFrame g4 fun fr h5 k5 s5 => ?_)
  refine wpAny_bind (wpAny_of_eq hE3 ?_)
  rw [show Str.ofString "cmp_to_key.<locals>.K" ++ Str.ofString "." = kQual from by kernel_rfl]
  refine wpAny_holding (wpAny_bind (wpAny_enterFrame ((X3.nl.extBut x4 sP).keeps k5) (by show A.depth < 1000; omega) ?_))
  obtain ⟨nv, hnv⟩ := X3.nm
  have hN5 := k5 _ _ (x4 _ _ NP hN)
  have hD5 : DictIs h5 N [] := ⟨#[], 0, hN5, .nil⟩
  have g5 := g4.keeps k5
  refine wpAny_bind (wpAny_onRaise (wpAny_bind (cls_loadN (l := []) rfl (by kernel_rfl) (by decide +kernel) hD5 rfl g5 hnv ?_)))
  refine wpAny_bind (cls_store (l := []) rfl (by kernel_rfl) hD5 fun h6 hD6 s6 => ?_)
  refine wpAny_bind (wpAny_mkText (wpAny_bind (cls_storeN rfl (by kernel_rfl) (by decide +kernel) hD6 fun h7 hD7 s7 => ?_)))
  refine wpAny_bind (wpAny_mkInt (wpAny_bind (cls_storeN rfl (by kernel_rfl) (by decide +kernel) hD7 fun h8 hD8 s8 => wpAny_pure ?_)))
  have hNN : N < h5.objs.size := Heap.lt_size hN5
  have gN : mainGlobals ≠ N := by
    obtain ⟨o, es, ep, e, _⟩ := X2.g
    exact (Mem.ne_old D3 0 _ _ rfl _ _ e).symm
  have bN : bm ≠ N := by
    rintro q
    rw [q, hN] at b4
    cases b4; cases b7
  have hg3 : mainGlobals < h3.objs.size := X3.g.lt
  have hb3 : bm < h3.objs.size := Heap.lt_size b4
  have hN3 : N < h3.objs.size := Heap.lt_size hN
  have hP3 : Pc < h3.objs.size := Heap.lt_size X3.hP
  have K58 : Keep2 h5 h8 N P' := ((keep2_of s6).trans (keep2_of s7)).trans (keep2_of s8)
  have cP' : c ≠ P' := by
    obtain ⟨_, _, _, _, _, _, _, _, _, _, _, _, _, _, _, _, _, _, q⟩ := hd4
    exact q
  have C5 : ClsAt mg N c P' h5 := ⟨g5, gN, Nat.ne_of_lt (Nat.lt_of_lt_of_le hg3 hP4), ⟨bm, ob, b1, b2, b3, Nat.ne_of_lt (Nat.lt_of_lt_of_le hb3 hP4), bN, k5 _ _ (x4 _ _ bP b4), b5, b6, b7⟩, hd4.keeps k5,
    Nat.ne_of_gt (Nat.lt_of_lt_of_le hN3 hc4), cP', Nat.ne_of_lt (Nat.lt_of_lt_of_le hN3 hP4)⟩
  have C8 := C5.keep K58
  have NP' : N ≠ P' := C5.NP
  have hP8 : h8.get? P' = some (tabObj #[]) := s8.extBut _ _ NP'.symm (s7.extBut _ _ NP'.symm (s6.extBut _ _ NP'.symm (k5 _ _ hP4')))
  refine wpAny_bind (body_ok C8 hD8 hP8 fun f1 f2 f3 f4 f5 f6 sl tm ts h9 t9 k9 hD9 hsl hsl' m1 m2 m3 m4 m5 m6 => ?_)
  rw [show kStatics = [Str.ofString "obj"] from by kernel_rfl]
  refine wpAny_bind (wpAny_onRaise ?_)
  repeat ((fail_if_success (with_reducible show wpAny _ _ (storeName _ _ _) _ _ _)); first | (with_reducible refine wpAny_bind ?_) | (with_reducible refine wpAny_pure ?_) | (with_reducible refine wpAny_holding ?_) | (with_reducible refine wpAny_rule ?_) | (with_reducible refine wpAny_standAt ?_) | (with_reducible refine wpAny_point ?_) | (with_reducible refine wpAny_letGo ?_) | (with_reducible refine wpAny_mkInt' ?_) | (with_reducible refine wpAny_mkStr' ?_) | (with_reducible refine wpAny_fresh' ?_) | (with_reducible refine wpAny_alloc' ?_) | (with_reducible refine wpAny_attempt ?_) | wp_delta | (with_reducible_and_instances refine wpAny_pure ?_) | (with_reducible_and_instances refine wpAny_bind ?_))
  have hD9' : DictIs (h9.push { cls := .type "tuple", data := .seq [Value.str (Str.ofString "obj") t9].toArray }) N (kNames _ _ _ (.ref sl) f1 f2 f3 f4 f5 f6) := let ⟨es, n, e, r⟩ := hD9; ⟨es, n, Heap.get?_push_of_some _ e, r⟩
  refine cls_storeN (l := kNames _ _ _ (.ref sl) f1 f2 f3 f4 f5 f6) rfl (by kernel_rfl) (by decide +kernel) hD9' fun h10 hD10 s10 => ?_
  repeat ((fail_if_success (with_reducible show wpAny _ _ (call _ _ _) _ _ _)); first | (with_reducible refine wpAny_bind ?_) | (with_reducible refine wpAny_pure ?_) | (with_reducible refine wpAny_holding ?_) | (with_reducible refine wpAny_rule ?_) | (with_reducible refine wpAny_standAt ?_) | (with_reducible refine wpAny_point ?_) | (with_reducible refine wpAny_letGo ?_) | (with_reducible refine wpAny_mkInt' ?_) | (with_reducible refine wpAny_mkStr' ?_) | (with_reducible refine wpAny_fresh' ?_) | (with_reducible refine wpAny_alloc' ?_) | (with_reducible refine wpAny_attempt ?_) | ((with_reducible show wpAny _ _ (ite _ _ _) _ _ _); first | ((with_reducible apply wpAny_ite_false); focus (kernel_rfl!; done)) | ((with_reducible apply wpAny_ite_true); focus (kernel_rfl!; done))) | wp_delta | (with_reducible_and_instances refine wpAny_pure ?_) | (with_reducible_and_instances refine wpAny_bind ?_))
  obtain ⟨es, ne, eN, EN⟩ := hD10
  rw [put12] at EN
  refine ents12 EN fun q0 q1 q2 q3 q4 q5 q6 q7 q8 q9 q10 q11 w0 w1 w2 w3 w4 w5 w6 w7 w8 w9 w10 w11 ees => ?_
  subst ees
  dsimp only at s10 eN
  have kA : ∀ b o, h5.objs.size ≤ b → h9.get? b = some o → h10.get? b = some o := fun b o hb e => s10.extBut b o (Nat.ne_of_gt (Nat.lt_of_lt_of_le hNN hb)) (Heap.get?_push_of_some _ e)
  have sz58 : h5.objs.size ≤ h8.objs.size := K58.size
  have sz35 : h3.objs.size ≤ h5.objs.size := by
    have e1 : P' < h4.objs.size := Heap.lt_size hP4'
    have s5' : h5.objs.size = h4.objs.size + 1 := s5
    have hP4q : h3.objs.size ≤ P' := hP4
    omega
  have kH3 : ∀ b o, b ≠ Pc → b ≠ N → h3.get? b = some o → h10.get? b = some o := fun b o hbP bN e3 => by
    have bP' : b ≠ P' := Nat.ne_of_lt (Nat.lt_of_lt_of_le (Heap.lt_size e3) hP4)
    have e5 := k5 b o (x4 b o hbP e3)
    exact s10.extBut b o bN (Heap.get?_push_of_some _ (k9.keep b o bN bP' (K58.keep b o bN bP' e5)))
  have k3 : ∀ b o, h.get? b = some o → h3.get? b = some o ∧ b ≠ N := fun b o e => by
    have e2 := memKeep D2 b o (kB b o e)
    exact ⟨memKeep D3 b o e2, (Mem.ne_old D3 0 _ _ rfl _ _ e2).symm⟩
  have kH : ∀ b o, b ≠ Pc → h.get? b = some o → h10.get? b = some o := fun b o hbP e => kH3 b o hbP (k3 b o e).2 (k3 b o e).1
  have PP' : Pc ≠ P' := Nat.ne_of_lt (Nat.lt_of_lt_of_le hP3 hP4)
  have hPc10 : h10.get? Pc = some (tabObj (ps ++ #[rawInt kPos.line, rawInt kPos.col, .ref c])) :=
    s10.extBut _ _ NP.symm (Heap.get?_push_of_some _ (k9.keep _ _ NP.symm PP' (K58.keep _ _ NP.symm PP' (k5 _ _ hPc4))))
  have hB10 := kH3 B _ (by rintro q; rw [q, X3.hP] at hB3; exact absurd (congrArg Obj.data (Option.some.inj hB3)) (by intro q; cases q)) (by rintro q; rw [q, hN] at hB3; exact absurd (congrArg Obj.data (Option.some.inj hB3)) (by intro q; cases q)) hB3
  have NL10 : h10.NoLimit := let ⟨mc', ⟨o, es, ep, ho, r⟩, q⟩ := X.nl; ⟨mc', ⟨o, es, ep, kH _ _ sP ho, r⟩, q⟩
  have cs10 : h10.Ns cStatics mc := let ⟨o, es, ep, ho, r⟩ := X.cs; ⟨o, es, ep, kH _ _ sP ho, r⟩
  have hst10 := s10.extBut _ _ (Nat.ne_of_gt (Nat.lt_of_lt_of_le hNN (Nat.le_trans sz58 k9.size))) (Heap.get?_push_size h9 (o := { cls := .type "tuple", data := .seq [Value.str (Str.ofString "obj") t9].toArray }) rfl)
  have fr10 : ∀ b, h10.get? b = Option.none → h.get? b = Option.none := fun b e => by
    cases q : h.get? b with
    | none => rfl
    | some o =>
      by_cases hb : b = Pc
      · subst hb; rw [hPc10] at e; cases e
      · rw [kH b o hb q] at e; cases e
  have frS : ∀ b, h8.objs.size ≤ b → h.get? b = Option.none := fun b hb => by
    cases q : h.get? b with
    | none => rfl
    | some o => have := Heap.lt_size (k3 b o q).1; exact absurd this (by show ¬ b < h3.objs.size; omega)
  have hfs : ∀ {i f : Nat} {cl : List (Str × Addr)}, KFnAt h8.objs.size i cl ((mg "__name__").getD .none) f h9 → ∃ fd, h10.get? f = some { cls := .type "function", data := .func fd } := fun X => by
    obtain ⟨hlo, c', ctv, doc, hc, e, r⟩ := X
    exact ⟨_, kA _ _ (Nat.le_trans sz58 hlo) e⟩
  obtain ⟨_, e1⟩ := hfs m1
  obtain ⟨_, e2⟩ := hfs m2
  obtain ⟨_, e3⟩ := hfs m3
  obtain ⟨_, e4⟩ := hfs m4
  obtain ⟨_, e5⟩ := hfs m5
  obtain ⟨_, e6⟩ := hfs m6
  refine typeCall NL10 hB10 eN (kA _ _ (Nat.le_trans sz58 hsl) hsl') hst10 e1 e2 e3 e4 e5 e6 (beq_eq_false_iff_ne.mpr hNm) cs10 X.tp hh (by omega) (by omega) (fun C ns md h' t' y1 y2 z1 z2 z3 T nC nns nmd => ?_)
  show wpAny _ _ (pure (Value.ref C)) _ _ _
  have kF : ∀ b o, h8.objs.size ≤ b → h9.get? b = some o → h'.get? b = some o := fun b o hb e => T.has _ _ (.inl (kA b o (Nat.le_trans sz58 hb) e))
  refine wpAny_pure (hQ ⟨C, ns, md, B, f1, f2, f3, f4, f5, f6, sl, _, q0, q1, q2, q3, q4, q5, q6, q7, q8, q9, q10, q11, y1, y2, w0, w1, w2, w3, w4, w5, w6, w7, w8, w9, w10, w11, z1, z2, z3, tm, _, _, t⟩ h' t' c (fun b o hb e => T.has _ _ (.inl (kH b o hb e))) (T.has _ _ (.inl hPc10)) ?_ ?_ ⟨fr10 _ nC, fr10 _ nns, fr10 _ nmd, T.hc, T.hn, T.has _ _ (.inr ⟨rfl, rfl⟩), m1.kf kF frS, m2.kf kF frS, m3.kf kF frS, m4.kf kF frS, m5.kf kF frS, m6.kf kF frS⟩)
  · obtain ⟨c₂, o₂, vs₂, t₂, e₂, g₂, r₂⟩ := hrec4
    cases e₂
    exact ⟨_, o₂, vs₂, t₂, rfl, T.has _ _ (.inl (s10.extBut _ _ C5.cN (Heap.get?_push_of_some _ (k9.keep _ _ C5.cN cP' (K58.keep _ _ C5.cN cP' (k5 _ _ g₂)))))), r₂⟩
  · cases q : h.get? c with
    | none => rfl
    | some o => have := Heap.lt_size (k3 c o q).1; exact absurd this (by show ¬ c < h3.objs.size; omega)
end Mine
end
namespace Mine
open PySem PySem.W PySem.W.X PyProof.Rows PySem.Calls PySem.Spec

/-! the class K, frozen -/
noncomputable def KFP (P : Fz) (i : Nat) (clos : List (Str × Addr)) (pm : Value) (f : Addr) : Prop := ∃ c' ctv doc, P f (kFn i clos doc pm c' ctv) ∧ CodeF P (.ref c') (kQual ++ nameOf (kD i))
noncomputable abbrev kFd (i : Nat) (clos : List (Str × Addr)) (doc pm : Value) (c' : Addr) (ctv : Value) : FuncData := fnX (nameOf (kD i)) (kQual ++ nameOf (kD i)) (paramsOf (kD i)) (bodyOf (kD i)) (scopeOf (kD i)) clos .none .none doc pm none (.ref c') ctv
noncomputable abbrev kFo (i : Nat) (clos : List (Str × Addr)) (doc pm : Value) (c' : Addr) (ctv : Value) : Obj := { cls := .type "function", data := .func (kFd i clos doc pm c' ctv) }
noncomputable def clsK (K : KD) : Obj := clsOb K.ns [.ref K.C, .type "object"] false [Str.ofString "obj"] K.slots
structure KP (P : Fz) (K : KD) (m : Addr) (pm : Value) : Prop where
  C : P K.C (clsK K)
  N : P K.ns (dictOb K.es 3)
  M : P K.md (mdOb K.C K.z3)
  f1 : KFP P 2 [] pm K.f1
  f2 : KFP P 3 [(Str.ofString "mycmp", m)] pm K.f2
  f3 : KFP P 4 [(Str.ofString "mycmp", m)] pm K.f3
  f4 : KFP P 5 [(Str.ofString "mycmp", m)] pm K.f4
  f5 : KFP P 6 [(Str.ofString "mycmp", m)] pm K.f5
  f6 : KFP P 7 [(Str.ofString "mycmp", m)] pm K.f6
theorem KFP.mono {P P' : Fz} {i : Nat} {clos : List (Str × Addr)} {pm : Value} {f : Addr} (h : KFP P i clos pm f) (hl : P.le P') : KFP P' i clos pm f := let ⟨c', ctv, doc, x, y⟩ := h; ⟨c', ctv, doc, hl _ _ x, y.mono hl⟩
theorem KP.mono {P P' : Fz} {K : KD} {m : Addr} {pm : Value} (h : KP P K m pm) (hl : P.le P') : KP P' K m pm :=
  ⟨hl _ _ h.C, hl _ _ h.N, hl _ _ h.M, h.f1.mono hl, h.f2.mono hl, h.f3.mono hl, h.f4.mono hl, h.f5.mono hl, h.f6.mono hl⟩
noncomputable def KFrag (K : KD) (f : Addr) (fo : Obj) : Frag := [(K.C, clsK K), (K.ns, dictOb K.es 3), (K.md, mdOb K.C K.z3), (f, fo)]
structure FragOk (K : KD) (f : Addr) (fo : Obj) (h : Heap) : Prop where
  In : (KFrag K f fo).In h
  lC : (KFrag K f fo).lookup K.C = some (clsK K)
  lN : (KFrag K f fo).lookup K.ns = some (dictOb K.es 3)
  lM : (KFrag K f fo).lookup K.md = some (mdOb K.C K.z3)
  lf : (KFrag K f fo).lookup f = some fo
theorem ne_of_objs {h : Heap} {a b : Addr} {oa ob : Obj} (ha : h.get? a = some oa) (hb : h.get? b = some ob) (hne : oa.data ≠ ob.data) : a ≠ b := by
  rintro rfl
  rw [ha] at hb
  exact hne (congrArg Obj.data (Option.some.inj hb))
theorem FragOk.of {K : KD} {f : Addr} {fd : FuncData} {h : Heap} (hC : h.get? K.C = some (clsK K)) (hN : h.get? K.ns = some (dictOb K.es 3)) (hM : h.get? K.md = some (mdOb K.C K.z3)) (hf : h.get? f = some { cls := .type "function", data := .func fd }) :
    FragOk K f { cls := .type "function", data := .func fd } h := by
  have n1 : (K.ns == K.C) = false := beq_eq_false_iff_ne.mpr (ne_of_objs hN hC (by intro q; cases q))
  have n2 : (K.md == K.C) = false := beq_eq_false_iff_ne.mpr (ne_of_objs hM hC (by intro q; cases q))
  have n3 : (K.md == K.ns) = false := beq_eq_false_iff_ne.mpr (ne_of_objs hM hN (by intro q; cases q))
  have n4 : (f == K.C) = false := beq_eq_false_iff_ne.mpr (ne_of_objs hf hC (by intro q; cases q))
  have n5 : (f == K.ns) = false := beq_eq_false_iff_ne.mpr (ne_of_objs hf hN (by intro q; cases q))
  have n6 : (f == K.md) = false := beq_eq_false_iff_ne.mpr (ne_of_objs hf hM (by intro q; cases q))
  refine ⟨fun a o e => ?_, ?_, ?_, ?_, ?_⟩
  · have hm := mem_of_lookupK e
    simp only [KFrag, List.mem_cons, List.not_mem_nil, or_false, Prod.mk.injEq] at hm
    rcases hm with ⟨rfl, rfl⟩ | ⟨rfl, rfl⟩ | ⟨rfl, rfl⟩ | ⟨rfl, rfl⟩
    · exact hC
    · exact hN
    · exact hM
    · exact hf
  · simp [KFrag, List.lookup_cons]
  · simp [KFrag, List.lookup_cons, n1]
  · simp [KFrag, List.lookup_cons, n2, n3]
  · simp [KFrag, List.lookup_cons, n4, n5, n6]
section
variable {K : KD} {f : Addr} {fo : Obj} {h : Heap}
theorem FragOk.find (X : FragOk K f fo h) {x : Str} {v : Value} (he : (K.es.toList.find? (·.key.isStr x)).map (·.val) = some v) : findIn (KFrag K f fo) (.ref K.C) x = some (some v) := by
  have e1 : nsIn (KFrag K f fo) K.ns x = some (some v) := by
    unfold nsIn
    rw [X.lN]
    show (match K.es.toList.find? (·.key.isStr x) with | some e => some (some e.val) | none => _) = _
    cases hq : K.es.toList.find? (·.key.isStr x) with
    | none => rw [hq] at he; cases he
    | some e => rw [hq] at he; exact congrArg some (show some e.val = some v from he)
  have e2 : ownIn (KFrag K f fo) x (.ref K.C) = some (some v) := by
    unfold ownIn
    dsimp only
    rw [X.lC]
    exact e1
  unfold findIn
  dsimp only
  rw [X.lC]
  show alongIn (KFrag K f fo) x [.ref K.C, .type "object"] = _
  unfold alongIn
  rw [e2]
theorem FragOk.findUp (X : FragOk K f fo h) {x : Str} {r : Option Value} (he : K.es.toList.find? (·.key.isStr x) = none) (hr : K.es.toList.any (·.refKey) = false) (ho : fastBuiltinOwn "object" x = r) : findIn (KFrag K f fo) (.ref K.C) x = some r := by
  have e1 : nsIn (KFrag K f fo) K.ns x = some none := by
    unfold nsIn
    rw [X.lN]
    show (match K.es.toList.find? (·.key.isStr x) with | some e => some (some e.val) | none => if K.es.toList.any (·.refKey) then none else some none) = _
    rw [he]
    dsimp only
    rw [hr]
    rfl
  have e2 : ownIn (KFrag K f fo) x (.ref K.C) = some none := by
    unfold ownIn
    dsimp only
    rw [X.lC]
    exact e1
  unfold findIn
  dsimp only
  rw [X.lC]
  show alongIn (KFrag K f fo) x [.ref K.C, .type "object"] = _
  unfold alongIn
  rw [e2]
  dsimp only
  unfold alongIn ownIn
  dsimp only
  rw [ho]
  cases r with
  | some v => rfl
  | none => rfl
theorem FragOk.makes (X : FragOk K f fo h) : makesIn (KFrag K f fo) K.C = true := by
  unfold makesIn
  rw [X.lC]
  show (!false && !false && _ == _ && _ && [Value.ref K.C, .type "object"].contains (.ref K.C) && [Value.ref K.C, .type "object"].contains (.type "object") && specialIn (KFrag K f fo) (.ref K.C) "__call__" == _ && instIn (KFrag K f fo) (.ref K.C) (.type "type") == _) = true
  have t1 : typeIn (KFrag K f fo) (.ref K.C) = some (.type "type") := by unfold typeIn; dsimp only; rw [X.lC]; rfl
  have t2 : specialIn (KFrag K f fo) (.ref K.C) "__call__" = some (some (.builtin "type.__call__")) := by
    unfold specialIn
    rw [t1]
    kernel_rfl
  have t3 : instIn (KFrag K f fo) (.ref K.C) (.type "type") = some true := by
    unfold instIn
    rw [t1]
    kernel_rfl
  rw [t2, t3]
  simp [KD.slots, clsK, clsOb]
end
theorem es_init (K : KD) : (K.es.toList.find? (·.key.isStr (Str.ofString "__init__"))).map (·.val) = some (.ref K.f1) := by kernel_rfl
theorem es_obj (K : KD) : (K.es.toList.find? (·.key.isStr (Str.ofString "obj"))).map (·.val) = some (.ref K.md) := by kernel_rfl
theorem es_noref (K : KD) : K.es.toList.any (·.refKey) = false := by kernel_rfl
theorem es_setattr (K : KD) : K.es.toList.find? (·.key.isStr (Str.ofString "__setattr__")) = none := by kernel_rfl
section
variable {Θ : Th} {n : Nat} {P₀ : Fz} {K : KD} {m : Addr} {pm : Value}
theorem KP.frag {P : Fz} (X : KP P K m pm) {h : Heap} (H : Has P h) {f : Addr} {fd : FuncData} (hf : P f { cls := .type "function", data := .func fd }) : FragOk K f { cls := .type "function", data := .func fd } h :=
  .of (H _ _ X.C) (H _ _ X.N) (H _ _ X.M) (H _ _ hf)
noncomputable def keyObj (C dx : Addr) (v : Value) : Obj := { cls := .ref C, dict := some dx, data := .plain, slots := #[some v] }
set_option maxHeartbeats 1000000 in
theorem key_make (X : KP P₀ K m pm) {d : D} : CallOk Θ (n + 2) P₀ (.ref K.C) [d] (.key K.C d) := by
  intro A s P vs Q E R l G rs hQ
  cases rs with | @cons v _ _ _ r rs =>
  cases rs
  have X := X.mono l
  obtain ⟨c', ctv, doc, hf, c₂, oc, ovs, tq, ec, hoc, hod, hov⟩ := X.f1
  cases ec
  have Fr₀ := X.frag G.has (f := K.f1) (fd := kFd 2 [] doc pm c' ctv) hf
  obtain ⟨h, g, dr, t, os⟩ := s
  have hty : typeIn (KFrag K K.f1 (kFo 2 [] doc pm c' ctv)) (.ref K.f1) = some (.type "function") := by unfold typeIn; dsimp only; rw [Fr₀.lf]; rfl
  refine wpAny_call (make_core (makes_of Fr₀.In Fr₀.makes) (looks_findIn Fr₀.In (Fr₀.find (es_init K))) (fun self => bind_fn Fr₀.In self hty) (.inl rfl) ?_)
  have k2 : ∀ b o, h.get? b = some o → ((h.push emptyDict).push (instObj K.C h.objs.size)).get? b = some o := fun b o e => Heap.get?_push_of_some _ (Heap.get?_push_of_some _ e)
  have hx : ((h.push emptyDict).push (instObj K.C h.objs.size)).get? (h.objs.size + 1) = some (instObj K.C h.objs.size) := by heap_get
  have hdx : ((h.push emptyDict).push (instObj K.C h.objs.size)).get? h.objs.size = some emptyDict := Heap.get?_push_of_some _ (Heap.get?_push_size _ rfl)
  have hsz : ((h.push emptyDict).push (instObj K.C h.objs.size)).objs.size = h.objs.size + 2 := by rw [Heap.size_push, Heap.size_push]
  have R0 := R.toRoom0
  have hG := G.has
  dsimp only at hG
  generalize (h.push emptyDict).push (instObj K.C h.objs.size) = h2 at *
  refine codeAny_call_function (body := bodyOf (kD 2)) ?_ (k2 _ _ (hG _ _ hf)) rfl rfl rfl rfl ⟨c', oc, ovs, tq, rfl, k2 _ _ (hG _ _ hoc), hod, hov⟩ ?_
  · have h1 := R0.depth
    have h2 : (Code.builtin "type.__call__" { pos := [Value.ref K.C, v] }).weight ≤ 10 := Nat.le_of_ble_eq_true (by kernel_rfl)
    refine Nat.lt_of_le_of_lt (Nat.add_le_add_left h2 A.depth) ?_
    show A.depth + 10 < 1000
    omega
  rw [show bindArgs (fnX (nameOf (kD 2)) (kQual ++ nameOf (kD 2)) (paramsOf (kD 2)) (bodyOf (kD 2)) (scopeOf (kD 2)) [] .none .none doc pm none (.ref c') ctv) ⟨.ref (h.objs.size + 1) :: [v], []⟩ = pure [(Str.ofString "self", .ref (h.objs.size + 1)), (Str.ofString "obj", v)] from rfl]
  refine wpAny_pure (wpAny_newFunctionEnv (show ∀ x ∈ (scopeOf (kD 2)).names, x.2 ≠ .cell from by decide) (show ∀ x ∈ [(Str.ofString "self", Value.ref (h.objs.size + 1)), (Str.ofString "obj", v)], (scopeOf (kD 2)).names.lookup x.1 = some .local from by intro x hx; simp at hx; rcases hx with rfl | rfl <;> rfl) (fun h₁ hns hsb => ?_) rfl)
  have k1 : ∀ b o, h2.get? b = some o → h₁.get? b = some o := fun b o e => hsb.extBut b o (Nat.ne_of_lt (Heap.lt_size e)) (Heap.get?_push_of_some _ e)
  refine ⟨(Θ.nolim G.k0).keeps (fun b o e => k1 _ _ (k2 b o e)), codeAny_func ?_⟩
  generalize henv : newEnv _ _ _ _ _ _ _ _ _ = env
  have eL : env.locals = h2.objs.size := by subst henv; rfl
  have eK : env.scope.kind = .function := by subst henv; rfl
  dsimp only at hns hsb
  have X₁ := Fr₀.In.keeps (fun b o e => k1 _ _ (k2 b o e))
  have I₁ : InstAt h₁ (h.objs.size + 1) (instObj K.C h.objs.size) K.C (some emptyDict) := ⟨k1 _ _ hx, rfl, rfl, k1 _ _ hdx⟩
  refine wpAny_execs_cons (plainObj_wpAny_Assign_Attribute ?_ (by subst henv; rfl))
  refine wpAny_Name (wpAny_loadName_local eK (by subst henv; rfl) (by rw [eL]; exact hns) rfl ?_) (by decide)
  refine wpAny_Name (wpAny_loadName_local eK (by subst henv; rfl) (by rw [eL]; exact hns) rfl ?_) (by decide)
  have hbb : (fun y => List.lookup y ([(Str.ofString "self", Value.ref (h.objs.size + 1)), (Str.ofString "obj", v)] : List (Str × Value)).reverse) (Str.ofString "self") = some (.ref (h.objs.size + 1)) := rfl
  refine set_plain (K := KFrag K K.f1 (kFo 2 [] doc pm c' ctv)) X₁ I₁ (Fr₀.findUp (es_setattr K) (es_noref K) (by kernel_rfl)) ?_
  have F₁ : Fr h h2.objs.size h₁ _ := ⟨hns, fun b o e => k1 _ _ (k2 b o e), by rw [hsz]; omega⟩
  have N₁ : News h h2.objs.size h₁ ([] ++ (h.objs.size + 1, instObj K.C h.objs.size) :: [(h.objs.size, emptyDict)]) := fun p hp => by
    simp only [List.nil_append, List.mem_cons, List.not_mem_nil, or_false] at hp
    rcases hp with rfl | rfl
    · exact ⟨k1 _ _ hx, by rw [hsz]; exact Nat.ne_of_lt (by omega), none_of_size (by omega)⟩
    · exact ⟨k1 _ _ hdx, by rw [hsz]; exact Nat.ne_of_lt (by omega), none_of_size (by omega)⟩
  have hT : typeIn (KFrag K K.f1 (kFo 2 [] doc pm c' ctv)) (.ref K.md) = some (.type "member_descriptor") := by unfold typeIn; dsimp only; rw [Fr₀.lM]; rfl
  have hcl : clsIn (KFrag K K.f1 (kFo 2 [] doc pm c' ctv)) K.C = some { name := Str.ofString "K", bases := [.type "object"], mro := [.ref K.C, .type "object"], ns := K.ns, qualname := Str.ofString "cmp_to_key.<locals>.K", hasDict := false, slotNames := [Str.ofString "obj"] } := by unfold clsIn; rw [Fr₀.lC]; rfl
  have hpl : plainOver (KFrag K K.f1 (kFo 2 [] doc pm c' ctv)) K.C = true := by unfold plainOver; rw [hcl]; rfl
  have htk : takerIn (KFrag K K.f1 (kFo 2 [] doc pm c' ctv)) K.C (Str.ofString "obj") = some (some (.ref K.md)) := by
    unfold takerIn
    rw [Fr₀.find (es_obj K)]
    show (takesIn _ _).map _ = _
    unfold takesIn specialIn
    rw [hT]
    kernel_rfl
  have hsl : slotIn (KFrag K K.f1 (kFo 2 [] doc pm c' ctv)) K.md K.C = some 0 := by
    unfold slotIn recIn
    rw [Fr₀.lM, hcl]
    simp [mdOb, rawInt]
  refine osa_descr KF.slot_mset X₁ I₁ hpl htk hT ?_
  refine slot_set (ox' := keyObj K.C h.objs.size v) (s := ⟨h₁, g, dr, _, os⟩) F₁ N₁ X₁ I₁ hsl (by decide) (by intro p hp; cases hp) (by intro p hp; simp at hp; subst hp; exact Nat.ne_of_lt (Nat.lt_succ_self _)) rfl rfl fun h' F' N' => ?_
  refine wpAny_execs_nil ?_
  refine ⟨rfl, ?_⟩
  have e1 := (N' (h.objs.size + 1, keyObj K.C h.objs.size v) (by simp)).1
  have e2 := (N' (h.objs.size, emptyDict) (by simp)).1
  have fin : ∀ tk, Q (.ref (h.objs.size + 1)) ⟨h', g, dr, tk, os⟩ := fun tk => by
    have p : Post Θ ⟨h, g, dr, t, os⟩ ⟨h', g, dr, tk, os⟩ P P := Post.keeps (s := ⟨h, g, dr, t, os⟩) G F'.keep
    refine hQ _ _ _ ((p.freeze (none_of_size (Nat.le_refl _)) e2).freeze (none_of_size (Nat.le_succ _)) e1) ?_
    exact .key (Fz.add_at _ _ _) (.inl (Fz.add_at _ _ _)) (r.mono ((Fz.add_le _ _ _).trans (Fz.add_le _ _ _)))
  exact fin _
end
end Mine
namespace Mine
open PySem PySem.W PySem.W.X PyProof.Rows PySem.Calls PySem.Spec

section
variable {Θ : Th} {n : Nat} {P₀ : Fz} {K : KD} {m fa : Addr} {pm : Value} {env : Env} {σ : Store}
theorem es_getattribute (K : KD) : K.es.toList.find? (·.key.isStr (Str.ofString "__getattribute__")) = none := by kernel_rfl
theorem es_getattr (K : KD) : K.es.toList.find? (·.key.isStr (Str.ofString "__getattr__")) = none := by kernel_rfl
theorem Rep.handed {P : Fz} {v : Value} {d : D} (r : Rep P v d) : handedIn v = true := by cases r <;> rfl
set_option maxHeartbeats 1000000 in
theorem EvS.attrKey (X : KP P₀ K m pm) {x : Str} {px pos : Pos} {d : D} (hx : EvS Θ n P₀ env σ (.Name x px) (.key K.C d)) : EvS Θ n P₀ env σ (.Attribute (.Name x px) (Str.ofString "obj") pos) d := by
  intro A s P Q E R l S h
  refine Attribute_name (hx A s P _ _ R l S fun v s₁ P₁ p r => ?_)
  cases r with | @key a _ dx v _ h1 h2 h3 =>
  have X₁ := X.mono (l.trans p.le)
  obtain ⟨c', ctv, doc, hf, _⟩ := X₁.f1
  have Fr₀ := X₁.frag p.good.has (f := K.f1) (fd := kFd 2 [] doc pm c' ctv) hf
  have I₁ : InstAt s₁.heap a (keyObj K.C dx v) K.C (some emptyDict) := ⟨p.good.has _ _ h1, rfl, rfl, p.good.has _ _ h2⟩
  have hT : typeIn (KFrag K K.f1 (kFo 2 [] doc pm c' ctv)) (.ref K.md) = some (.type "member_descriptor") := by unfold typeIn; dsimp only; rw [Fr₀.lM]; rfl
  have hcl : clsIn (KFrag K K.f1 (kFo 2 [] doc pm c' ctv)) K.C = some { name := Str.ofString "K", bases := [.type "object"], mro := [.ref K.C, .type "object"], ns := K.ns, qualname := Str.ofString "cmp_to_key.<locals>.K", hasDict := false, slotNames := [Str.ofString "obj"] } := by unfold clsIn; rw [Fr₀.lC]; rfl
  have htk : takesIn (KFrag K K.f1 (kFo 2 [] doc pm c' ctv)) (.ref K.md) = some true := by
    unfold takesIn specialIn
    rw [hT]
    kernel_rfl
  have hgt : specialIn (KFrag K K.f1 (kFo 2 [] doc pm c' ctv)) (.ref K.md) "__get__" = some (some (.builtin "member_descriptor.__get__")) := by
    unfold specialIn
    rw [hT]
    kernel_rfl
  have hsl : slotIn (KFrag K K.f1 (kFo 2 [] doc pm c' ctv)) K.md K.C = some 0 := by
    unfold slotIn recIn
    rw [Fr₀.lM, hcl]
    simp [mdOb, rawInt]
  refine get_bind Fr₀.In I₁ (Fr₀.findUp (es_getattribute K) (es_noref K) (by kernel_rfl)) (findObj_data (by rw [hcl]; rfl) (Fr₀.find (es_obj K)) hgt htk) (Fr₀.findUp (es_getattr K) (es_noref K) (by kernel_rfl)) ?_
  refine wpAny_call (slot_get (s := { s₁ with toks := s₁.toks + 1 }) Fr₀.In I₁ hsl rfl (handed_on h3.handed ?_))
  exact h _ _ P₁ (p.trans (Post.toks p.good _)) h3
/-- the cell of mycmp -/
noncomputable def CellF (P : Fz) (m fa : Addr) : Prop := ∃ o, P m o ∧ o.data = .cell (some (.ref fa))
theorem CellF.mono {P P' : Fz} (h : CellF P m fa) (hl : P.le P') : CellF P' m fa := let ⟨o, x, y⟩ := h; ⟨o, hl _ _ x, y⟩
theorem meth_fun {i : Nat} {f c' ctv : _} {doc : Value} (hm : CellF P₀ m fa) (hf : P₀ f (kFo i [(Str.ofString "mycmp", m)] doc pm c' ctv)) (hcd : CodeF P₀ (.ref c') (kQual ++ nameOf (kD i)))
    (h1 : ∀ x ∈ (scopeOf (kD i)).names, x.2 ≠ .cell) (h2 : (scopeOf (kD i)).isCoroutine = false) (h3 : (scopeOf (kD i)).isGenerator = false) (h4 : (scopeOf (kD i)).kind = .function) (h5 : (scopeOf (kD i)).names.lookup (Str.ofString "mycmp") = some .free) :
    FunF P₀ f (kFd i [(Str.ofString "mycmp", m)] doc pm c' ctv) [(Str.ofString "mycmp", .ref fa)] := by
  obtain ⟨o, g1, g2⟩ := hm
  refine ⟨⟨_, hf, rfl⟩, rfl, rfl, hcd, fun x d e => ?_, fun x c e => ?_, .cons (by intro _ h; cases h) .nil, h1, h2, h3, h4⟩
  · rw [List.lookup_cons] at e
    split at e
    · rename_i q
      cases beq_iff_eq.mp q
      cases e
      exact ⟨m, .ref fa, o, rfl, g1, g2, .ref fa, h5, by decide⟩
    · cases e
  · have e' : List.lookup x [(Str.ofString "mycmp", m)] = some c := e
    rw [List.lookup_cons] at e'
    split at e'
    · cases e'; exact ⟨o, _, g1, g2⟩
    · cases e'
theorem meth_lt (X : KP P₀ K m pm) (hm : CellF P₀ m fa) (hfa : FunAt P₀ fa) {x y : D} {z : Int} (hc : CallOk Θ n P₀ (.ref fa) [x, y] (.int z)) : CallOk Θ (n + 1) P₀ (.ref K.f2) [.key K.C x, .key K.C y] (.bool (decide (z < 0))) := by
  obtain ⟨c', ctv, doc, hf, hcd⟩ := X.f2
  refine CallOk.defF (names := [Str.ofString "self", Str.ofString "other"]) (meth_fun hm hf hcd (by decide) rfl rfl rfl rfl) (body := bodyOf (kD 3)) rfl (of2 fun _ _ => rfl) rfl (mem2 rfl rfl) (by decide) (mem2 rfl rfl) fun L => ?_
  generalize henv : envF (kFd 3 [(Str.ofString "mycmp", m)] doc pm c' ctv) L K.f2 = env
  exact ExsS.ret (ExS.ret (EvS.cmp (EvS.call (EvS.name rfl) hfa (EvSs.cons (EvS.attrKey X (EvS.name rfl)) (EvSs.cons (EvS.attrKey X (EvS.name rfl)) EvSs.nil)) hc) EvS.int OpOk.lt_int))
theorem meth_gt (X : KP P₀ K m pm) (hm : CellF P₀ m fa) (hfa : FunAt P₀ fa) {x y : D} {z : Int} (hc : CallOk Θ n P₀ (.ref fa) [x, y] (.int z)) : CallOk Θ (n + 1) P₀ (.ref K.f3) [.key K.C x, .key K.C y] (.bool (decide (0 < z))) := by
  obtain ⟨c', ctv, doc, hf, hcd⟩ := X.f3
  refine CallOk.defF (names := [Str.ofString "self", Str.ofString "other"]) (meth_fun hm hf hcd (by decide) rfl rfl rfl rfl) (body := bodyOf (kD 4)) rfl (of2 fun _ _ => rfl) rfl (mem2 rfl rfl) (by decide) (mem2 rfl rfl) fun L => ?_
  generalize henv : envF (kFd 4 [(Str.ofString "mycmp", m)] doc pm c' ctv) L K.f3 = env
  exact ExsS.ret (ExS.ret (EvS.cmp (EvS.call (EvS.name rfl) hfa (EvSs.cons (EvS.attrKey X (EvS.name rfl)) (EvSs.cons (EvS.attrKey X (EvS.name rfl)) EvSs.nil)) hc) EvS.int OpOk.gt_int))
end

theorem es_str (K : KD) : StrKeys K.es := by
  intro e he
  have : e ∈ K.es.toList := Array.mem_toList_iff.mpr he
  simp only [KD.es, List.mem_cons, List.not_mem_nil, or_false] at this
  rcases this with rfl | rfl | rfl | rfl | rfl | rfl | rfl | rfl | rfl | rfl | rfl | rfl | rfl <;> exact ⟨_, _, rfl⟩
theorem es_ns {K : KD} {h : Heap} (hN : h.get? K.ns = some (dictOb K.es 3)) : h.Ns K.ns (nsFind K.es) := ⟨_, K.es, 3, hN, rfl, es_str K, fun _ => rfl⟩
section
variable {Θ : Th} {n : Nat} {P₀ : Fz} {K : KD} {m fa : Addr} {pm : Value}
theorem mroObj : mroOf (.type "object") = pure [.type "object"] := F.cmp_object.mro
theorem OpOk.keyG (X : KP P₀ K m pm) {op : CmpOp} {sym : String} {f r : Str} {i : Nat} {fn : Addr} {y0 : Option Value} {clos : List (Str × Addr)} {b : Bool} (hop : cmpInfo op = (sym, f, r)) (hplain : op ≠ .Is ∧ op ≠ .IsNot ∧ op ≠ .In ∧ op ≠ .NotIn)
    (hN : nsFind K.es f = some (.ref fn)) (hT : typeLookup (.type "object") f = pure y0) (hF : KFP P₀ i clos pm fn) {x y : D} (hcall : CallOk Θ n P₀ (.ref fn) [.key K.C x, .key K.C y] (.bool b)) : OpOk Θ n P₀ (compareOp op) (.key K.C x) (.key K.C y) (.bool b) := by
  intro A s P va vb Q E R l G ra rb h
  have ra' := ra
  have rb' := rb
  cases ra with | @key a _ dx v _ h1 h2 h3 =>
  cases rb with | @key b _ dy u _ g1 g2 g3 =>
  have X₁ := X.mono l
  obtain ⟨c', ctv, doc, hf, _⟩ := hF
  have W : s.heap.OwnSpecial a K.C fn "object" f :=
    ⟨_, _, _, _, _, _, _, _, _, _, _, _, _, _, _, _, _, _, _, _, _, G.has _ _ h1, rfl, G.has _ _ X₁.C, es_ns (G.has _ _ X₁.N), hN, G.has _ _ (l _ _ hf), rfl, mroObj, hT⟩
  obtain ⟨hh, g, d, t, os⟩ := s
  refine compareOp_own_same hop hplain W (G.has _ _ g1) rfl R.toRoom0.line ?_
  exact hcall A _ P _ _ E R l G (.cons ra' (.cons rb' .nil)) fun v s' P' p r => by cases r; exact ⟨_, rfl, h _ _ _ p (.bool _)⟩
theorem tl_lt : typeLookup (.type "object") (Str.ofString "__lt__") = pure (some (.builtin "object.__lt__")) := by rw [typeLookup_type, builtinLookup_eq_fast]; kernel_rfl
theorem es_ns_lt (K : KD) : nsFind K.es (Str.ofString "__lt__") = some (.ref K.f2) := by kernel_rfl
theorem tl_gt : typeLookup (.type "object") (Str.ofString "__gt__") = pure (some (.builtin "object.__gt__")) := by rw [typeLookup_type, builtinLookup_eq_fast]; kernel_rfl
theorem es_ns_gt (K : KD) : nsFind K.es (Str.ofString "__gt__") = some (.ref K.f3) := by kernel_rfl
theorem OpOk.key_gt (X : KP P₀ K m pm) (hm : CellF P₀ m fa) (hfa : FunAt P₀ fa) {x y : D} {z : Int} (hc : CallOk Θ n P₀ (.ref fa) [x, y] (.int z)) : OpOk Θ (n + 1) P₀ (compareOp .Gt) (.key K.C x) (.key K.C y) (.bool (decide (0 < z))) :=
  OpOk.keyG X (f := Str.ofString "__gt__") (by rfl) (by decide) (es_ns_gt K) tl_gt X.f3 (meth_gt X hm hfa hc)
end
end Mine
namespace Mine
open PySem PySem.W PySem.W.X PyProof.Rows PySem.Calls PySem.Spec

/-! the sort's tree of questions: run with fixed answers -/
noncomputable def runT {α : Type} (b : Nat → Nat → Bool) : KasT α → α
  | .ret a => a
  | .ask i j k => runT b (k (b i j))
noncomputable def AllT {α : Type} (N : Nat) (R : α → Prop) : KasT α → Prop
  | .ret a => R a
  | .ask i j k => i < N ∧ j < N ∧ ∀ c, AllT N R (k c)
theorem AllT.bind {α β : Type} {N : Nat} {R : α → Prop} {R' : β → Prop} {f : α → KasT β} (hf : ∀ a, R a → AllT N R' (f a)) : ∀ t : KasT α, AllT N R t → AllT N R' (t.bind f)
  | .ret a, h => hf a h
  | .ask i j k, h => ⟨h.1, h.2.1, fun c => AllT.bind hf (k c) (h.2.2 c)⟩
theorem AllT.run {α : Type} {N : Nat} {R : α → Prop} (b : Nat → Nat → Bool) : ∀ t : KasT α, AllT N R t → R (runT b t)
  | .ret a, h => h
  | .ask i j k, h => AllT.run b (k (b i j)) (h.2.2 _)
theorem wp_runT {α : Type} {N : Nat} {R : α → Prop} {cmp : Nat → Nat → (Bool → Shared → Prop) → Shared → Prop} {b : Nat → Nat → Bool} {Inv : Shared → Prop} {Q : α → Shared → Prop}
    (hc : ∀ i j s C, i < N → j < N → Inv s → (∀ s', Inv s' → C (b i j) s') → cmp i j C s) : ∀ (t : KasT α) (s : Shared), AllT N R t → Inv s → (∀ s', Inv s' → Q (runT b t) s') → t.kasWp cmp Q s
  | .ret a, s, _, hI, hQ => hQ s hI
  | .ask i j k, s, ha, hI, hQ => hc i j s _ ha.1 ha.2.1 hI fun s' hI' => wp_runT hc (k (b i j)) s' (ha.2.2 _) hI' hQ
/-- the places in p are below N, and p is a permutation of what it was -/
noncomputable def Bd (N : Nat) (p : Array Nat) : Prop := ∀ x ∈ p.toList, x < N
theorem Bd.at {N : Nat} {p : Array Nat} (h : Bd N p) (h0 : 0 < N) (i : Nat) : p.getD i 0 < N := by
  by_cases hi : i < p.size
  · have e : p.getD i 0 = p[i] := by simp [Array.getD, hi]
    rw [e]
    exact h _ (by simp)
  · have e : p.getD i 0 = 0 := by simp [Array.getD, hi]
    rw [e]; exact h0
theorem Bd.perm {N : Nat} {p q : Array Nat} (h : Bd N p) (hp : q.Perm p) : Bd N q := fun x hx => h x ((Array.perm_iff_toList_perm.mp hp).mem_iff.mp hx)
section
variable {N : Nat} (h0 : 0 < N)
include h0
theorem all_asc : ∀ (f : Nat) (p : Array Nat) (n : Nat), Bd N p → AllT N (fun _ => True) (kas_asc p f n)
  | 0, p, n, h => trivial
  | f + 1, p, n, h => ⟨h.at h0 _, h.at h0 _, fun c => by
      cases c with
      | true => exact trivial
      | false => exact all_asc f p (n + 1) h⟩
theorem all_desc : ∀ (f : Nat) (p : Array Nat) (n q : Nat), Bd N p → AllT N (fun r => Bd N r.1) (kas_desc f p n q)
  | 0, p, n, q, h => h
  | f + 1, p, n, q, h => ⟨h.at h0 _, h.at h0 _, fun c => by
      cases c with
      | true =>
        show AllT N _ (if q > 0 then _ else _)
        split
        · exact all_desc f _ (n + 1) 0 (h.perm (mirror_perm _ _ _ _))
        · exact all_desc f _ (n + 1) 0 h
      | false =>
        refine ⟨h.at h0 _, h.at h0 _, fun d => ?_⟩
        cases d with
        | true => exact h
        | false => exact all_desc f p (n + 1) (q + 1) h⟩
theorem all_tail3 (n nrem : Nat) (p : Array Nat) (h : Bd N p) : AllT N (fun r => Bd N r.2) (kas_tail3 n nrem p) := by
  have h' : Bd N (kas_rev p 0 n) := h.perm (mirror_perm _ _ _ _)
  unfold kas_tail3
  refine AllT.bind (R := fun _ => True) (fun m _ => ?_) _ (all_asc h0 _ _ _ h')
  exact h'
theorem all_descPart (n nrem : Nat) (p : Array Nat) (h : Bd N p) : AllT N (fun r => Bd N r.2) (kas_descPart n nrem p) := by
  refine AllT.bind (fun r hr => ?_) _ (all_desc h0 _ _ _ _ h)
  split
  · exact all_tail3 h0 _ _ _ (hr.perm (mirror_perm _ _ _ _))
  · exact all_tail3 h0 _ _ _ hr
theorem all_count (nrem : Nat) (p : Array Nat) (h : Bd N p) : AllT N (fun r => Bd N r.2) (kas_count nrem p) := by
  refine AllT.bind (fun n _ => ?_) _ (all_asc h0 _ _ _ h)
  have h' : Bd N (kas_rev p 0 n) := h.perm (mirror_perm _ _ _ _)
  split
  · exact h
  · split
    · refine ⟨h.at h0 _, h.at h0 _, fun c => ?_⟩
      cases c with
      | true => exact h
      | false => exact all_descPart h0 _ _ _ h'
    · exact all_descPart h0 _ _ _ h
theorem all_place (p : Array Nat) (h : Bd N p) (k : Nat) : ∀ (f l r : Nat), AllT N (fun _ => True) (kas_place p k f l r)
  | 0, l, r => trivial
  | f + 1, l, r => by
    unfold kas_place
    split
    · exact trivial
    · refine ⟨h.at h0 _, h.at h0 _, fun c => ?_⟩
      cases c with
      | true => exact all_place p h k f _ _
      | false => exact all_place p h k f _ _
theorem all_bin : ∀ (f : Nat) (p : Array Nat) (k : Nat), Bd N p → AllT N (fun r => Bd N r) (kas_bin f p k)
  | 0, p, k, h => h
  | f + 1, p, k, h => AllT.bind (fun l _ => all_bin f _ (k + 1) (h.perm (bubble_perm _ _ _))) _ (all_place h0 p h k _ _ _)
theorem all_sort : AllT N (fun r => Bd N r) (kas_sort N) := by
  have h : Bd N (List.toArray (List.range N)) := fun x hx => by simpa using hx
  refine AllT.bind (fun r hr => ?_) _ (all_count h0 _ _ h)
  split
  · exact all_bin h0 _ _ _ hr
  · exact hr
end
theorem runT_congr {α : Type} {N : Nat} {R : α → Prop} {b b' : Nat → Nat → Bool} (hb : ∀ i j, i < N → j < N → b i j = b' i j) : ∀ t : KasT α, AllT N R t → runT b t = runT b' t
  | .ret a, _ => rfl
  | .ask i j k, h => by
    show runT b (k (b i j)) = runT b' (k (b' i j))
    rw [← hb i j h.1 h.2.1]
    exact runT_congr hb _ (h.2.2 _)

/-! collect of a range -/
end Mine
namespace Mine
open PySem PySem.W PySem.W.X PyProof.Rows PySem.Calls PySem.Spec

section
variable {Θ : Th} {n : Nat} {P₀ : Fz}
/-- an object that is not frozen -/
structure Loose (Θ : Th) (P : Fz) (h : Heap) (a : Addr) (o : Obj) : Prop where
  at_ : h.get? a = some o
  no : ∀ o', ¬ P a o'
  nt : ¬ Θ.T a
theorem Loose.post {s s' : Shared} {P P' : Fz} {a : Addr} {o : Obj} (L : Loose Θ P s.heap a o) (p : Post Θ s s' P P') : Loose Θ P' s'.heap a o :=
  ⟨p.keep _ _ L.at_ L.nt, fun o' x => (p.new _ _ x).elim (L.no o') (fun e => by rw [L.at_] at e; cases e), L.nt⟩
theorem Loose.new {P : Fz} {h h' : Heap} {a : Addr} {o : Obj} (G : Good Θ P h) (hn : h.get? a = none) (ho : h'.get? a = some o) : Loose Θ P h' a o := ⟨ho, G.notIn hn, G.notT hn⟩
theorem Loose.other {P : Fz} {h h' : Heap} {a b : Addr} {o : Obj} (L : Loose Θ P h a o) (hs : Heap.SameBut b h h') (hb : a ≠ b) : Loose Θ P h' a o := ⟨(hs.2 a hb).trans L.at_, L.no, L.nt⟩
theorem Loose.upd {P : Fz} {h h' : Heap} {a : Addr} {o o' : Obj} (L : Loose Θ P h a o) (ho : h'.get? a = some o') : Loose Θ P h' a o' := ⟨ho, L.no, L.nt⟩
theorem Post.upd {s s' : Shared} {P P' : Fz} {a : Addr} {o : Obj} (p : Post Θ s s' P P') (L : Loose Θ P' s'.heap a o) (hn : s.heap.get? a = none) {h' : Heap} {tk : Nat} (hs : Heap.SameBut a s'.heap h') : Post Θ s { s' with heap := h', toks := tk } P P' :=
  ⟨p.gens, p.drawn, p.os, p.good.keepsBut L.no L.nt (fun b o hb e => (hs.2 b hb).trans e), p.le, p.new, fun b o e ht => (hs.2 b (by rintro rfl; rw [hn] at e; cases e)).trans (p.keep b o e ht), p.pre⟩

noncomputable def LtKey (Θ : Th) (n : Nat) (P₀ : Fz) (a b : D) (c : Bool) : Prop :=
  ∀ (A : Around) (s : Shared) (P : Fz) (va vb : Value) (Q : Bool → Shared → Prop) (E : Value → Shared → Prop), Room n A → P₀.le P → Good Θ P s.heap → Rep P va a → Rep P vb b →
    (∀ s' P', Post Θ s s' P P' → Q c s') → wpAny Θ.M A (keyLt' oneType' va vb) Q E s
theorem LtKey.int {a b : Int} : LtKey Θ n P₀ (.int a) (.int b) (decide (a < b)) := fun A s P va vb Q E R l G ra rb h => by
  cases ra; cases rb
  rw [keyLt'_oneType]
  exact oneLt_int (h _ _ (Post.refl G))
theorem LtKey.key {K : KD} {m fa : Addr} {pm : Value} (X : KP P₀ K m pm) (hm : CellF P₀ m fa) (hfa : FunAt P₀ fa) {x y : D} {z : Int} (hc : CallOk Θ n P₀ (.ref fa) [x, y] (.int z)) : LtKey Θ (n + 1) P₀ (.key K.C x) (.key K.C y) (decide (z < 0)) := by
  intro A s P va vb Q E R l G ra rb h
  have hcall := meth_lt X hm hfa hc
  have ra' := ra
  have rb' := rb
  cases ra with | @key a _ dx v _ h1 h2 h3 =>
  cases rb with | @key b _ dy u _ g1 g2 g3 =>
  have X₁ := X.mono l
  obtain ⟨c', ctv, doc, hf, _⟩ := X₁.f2
  have W : s.heap.OwnSpecial a K.C K.f2 "object" (Str.ofString "__lt__") :=
    ⟨_, _, _, _, _, _, _, _, _, _, _, _, _, _, _, _, _, _, _, _, _, G.has _ _ h1, rfl, G.has _ _ X₁.C, es_ns (G.has _ _ X₁.N), es_ns_lt K, G.has _ _ hf, rfl, mroObj, tl_lt⟩
  obtain ⟨hh, g, d, t, os⟩ := s
  rw [keyLt'_oneType, oneLt'_eq]
  simp only [if_true]
  refine wpAny_bind (wpAny_cRoomFor R.toRoom0.line ?_)
  refine wpAny_bind (wpAny_callSpecialIfBound?_own W ?_)
  refine hcall A _ P _ _ E R l G (.cons ra' (.cons rb' .nil)) fun v s' P' p r => ?_
  cases r
  exact wpAny_truthy_bool (h _ _ p)

noncomputable def intD (i : Nat) : D := .int (i : Int)
theorem items_reps {acc : Array Value} {N : Nat} (h : ItemsOf (fun i v => ∃ t, v = .int (0 + i * 1) t) acc N) (P : Fz) : Reps P acc.toList ((List.range N).map intD) := by
  have gen : ∀ (l : List Value) (k : Nat), (∀ j v, l[j]? = some v → ∃ t, v = Value.int ((k + j : Nat) : Int) t) → Reps P l ((List.range' k l.length).map intD) := by
    intro l
    induction l with
    | nil => intro k _; exact .nil
    | cons v l ih =>
      intro k hk
      obtain ⟨t, rfl⟩ := hk 0 v rfl
      refine .cons (.int _ _) ?_
      exact ih (k + 1) fun j u hu => by
        obtain ⟨t, rfl⟩ := hk (j + 1) u hu
        exact ⟨t, by congr 2; omega⟩
  have := gen acc.toList 0 (fun j v hv => by
    obtain ⟨t, rfl⟩ := h.2 j v (by simpa using hv)
    exact ⟨t, by congr 1; omega⟩)
  rw [Array.length_toList, h.1] at this
  rwa [List.range_eq_range']
theorem Reps.getD {P : Fz} {vs : List Value} {f : Nat → D} {N : Nat} (h : Reps P vs ((List.range N).map f)) {i : Nat} (hi : i < N) : Rep P (vs.getD i .none) (f i) := by
  obtain ⟨v, e, r⟩ := h.get (i := i) (d := f i) (by simp [hi])
  rw [List.getD_eq_getElem?_getD, e]
  exact r
theorem Reps.snoc {P : Fz} {vs : List Value} {ds : List D} {v : Value} {d : D} (h : Reps P vs ds) (r : Rep P v d) : Reps P (vs ++ [v]) (ds ++ [d]) := h.append (.cons r .nil)
theorem Reps.pick {P : Fz} {vs : List Value} {f : Nat → D} {N : Nat} (h : Reps P vs ((List.range N).map f)) : ∀ p : List Nat, (∀ x ∈ p, x < N) → Reps P (p.map fun i => vs.getD i .none) (p.map f)
  | [], _ => .nil
  | x :: p, hp => .cons (h.getD (hp x (.head _))) (Reps.pick h p fun y hy => hp y (.tail _ hy))

theorem zip_item {kA : Array Value} {vs : List Value} {i : Nat} (hi : i < vs.length) (hk : kA.size = vs.length) : kas_item (kA.zip vs.toArray) i = (kA.toList.getD i .none, vs.getD i .none) := by
  have hz : (kA.zip vs.toArray).size = vs.length := by rw [Array.size_zip, hk, List.size_toArray, Nat.min_self]
  unfold kas_item
  have h1 : i < (kA.zip vs.toArray).size := by omega
  have h2 : i < kA.toList.length := by rw [Array.length_toList]; omega
  have e : (kA.zip vs.toArray).getD i (Value.none, Value.none) = (kA.zip vs.toArray)[i] := by unfold Array.getD; rw [dif_pos h1]; rfl
  rw [e, List.getD_eq_getElem?_getD, List.getD_eq_getElem?_getD, List.getElem?_eq_getElem h2, List.getElem?_eq_getElem hi]
  simp

theorem range_size (N : Nat) : Builtin.Range.rangeSize 0 (N : Int) 1 = (N : Int) := by
  unfold Builtin.Range.rangeSize
  rw [if_pos (by decide)]
  split
  · rw [Int.ediv_one]; omega
  · omega
theorem range_small {N : Nat} (h : N < 1000) : Builtin.Range.small 0 (N : Int) 1 = true := by
  unfold Builtin.Range.small
  rw [range_size]
  simp [Builtin.Range.rangeFitsLong]
  omega
end
end Mine
namespace Mine
open PySem PySem.W PySem.W.X PyProof.Rows PySem.Calls PySem.Spec

/-! lists of plain data with the same answers -/
noncomputable def Flat : D → Prop
  | .int _ => True
  | .bool _ => True
  | .bytes _ => True
  | _ => False
section
variable {Θ : Th} {n : Nat} {P₀ : Fz}
theorem flat_eqAt {P : Fz} {u v : Value} {d : D} (ru : Rep P u d) (rv : Rep P v d) (hd : Flat d) (A : Around) (s : Shared) : SeqAt.EqAt A s u v true := by
  cases ru with
  | int i t => cases rv with | int _ u => have := SeqAt.EqAt.int_int (A := A) (s := s) i t i u; rwa [beq_self_eq_true] at this
  | bool b => cases rv; exact .same _
  | bytes b t => cases rv with | bytes _ u => exact fun prog w E Q h => eqBool_bytes (by simpa using h)
  | _ => exact hd.elim
theorem Reps.getE {P : Fz} {vs ws : List Value} {ds : List D} (hv : Reps P vs ds) (hw : Reps P ws ds) {j : Nat} (h1 : j < vs.length) (h2 : j < ws.length) : ∃ d, d ∈ ds ∧ Rep P vs[j] d ∧ Rep P ws[j] d := by
  have hj : j < ds.length := by rw [← hv.length]; exact h1
  obtain ⟨v, e1, r1⟩ := hv.get (List.getElem?_eq_getElem hj)
  obtain ⟨w, e2, r2⟩ := hw.get (List.getElem?_eq_getElem hj)
  rw [List.getElem?_eq_getElem h1] at e1; cases e1
  rw [List.getElem?_eq_getElem h2] at e2; cases e2
  exact ⟨_, List.getElem_mem hj, r1, r2⟩
theorem allTrue (k : Nat) : ((List.range k).all fun _ => true) = true := by simp
theorem OpOk.ne_same {ds : List D} (hd : ∀ d ∈ ds, Flat d) : OpOk Θ n P₀ (compareOp .NotEq) (.list ds) (.list ds) (.bool false) := fun A s P va vb Q E R l G ra rb h => by
  cases ra with | @list a na va _ h1 r1 =>
  cases rb with | @list b nb vb _ h2 r2 =>
  refine SeqAt.RcNeAt.lists (items := va.toArray) (items2 := vb.toArray) (e := fun _ => true) ⟨_, G.has _ _ h1, rfl, _, rfl⟩ ⟨_, G.has _ _ h2, rfl, _, rfl⟩ (by simp [r1.length, r2.length]) R.toRoom0.line (fun j h1 h2 => ?_) Θ.prog Θ.w E Q ?_
  · obtain ⟨d, hm, x, y⟩ := r1.getE r2 (by simpa using h1) (by simpa using h2)
    simpa using flat_eqAt x y (hd d hm) A.in1 s
  · rw [allTrue]
    exact h _ _ P (Post.refl G) (.bool _)

variable {K : KD} {m fa : Addr} {pm : Value} {env : Env} {σ : Store}
theorem FragOk.keep {f : Addr} {fo : Obj} {h : Heap} (X : FragOk K f fo h) : keepIn (KFrag K f fo) (.ref K.C) = true := by
  have t1 : typeIn (KFrag K f fo) (.ref K.C) = some (.type "type") := by unfold typeIn; dsimp only; rw [X.lC]; rfl
  have t2 : specialIn (KFrag K f fo) (.ref K.C) "__call__" = some (some (.builtin "type.__call__")) := by
    unfold specialIn
    rw [t1]
    kernel_rfl
  unfold keepIn
  dsimp only
  rw [X.lC]
  show (specialIn (KFrag K f fo) (.ref K.C) "__call__" == _) = true
  rw [t2]
  rfl
/-- key(e) -/
theorem EvS.callKey (X : KP P₀ K m pm) {f : Str} {px pos : Pos} {e : Expr} {d : D} (hf : EvS Θ (n + 2) P₀ env σ (.Name f px) (.ref K.C)) (hs : EvSs Θ (n + 2) P₀ env σ [e] [d]) (he : starEach [e] env = (false, eval e env) :: starEach [] env := by rfl) :
    EvS Θ (n + 2) P₀ env σ (.Call (.Name f px) [e] [] pos) (.key K.C d) :=
  fun A s P Q E R l S h => Call_ (hf A s P _ _ R l S fun v s₁ P₁ p r => by
    cases r
    have X₁ := X.mono (l.trans p.le)
    obtain ⟨c', ctv, doc, hff, _⟩ := X₁.f1
    have Fr := X₁.frag p.good.has (f := K.f1) (fd := kFd 2 [] doc pm c' ctv) hff
    have hs' := hs A s₁ P₁ pos
    rw [he] at hs' ⊢
    refine callWith_of (P := fun h => (KFrag K K.f1 (kFo 2 [] doc pm c' ctv)).In h) rfl (keeps_K Fr.keep) (evalArgs_plain ?_)
    refine hs' _ _ R (l.trans p.le) (S.post p) fun vs s₂ P₂ p₂ rs => ⟨(X₁.mono p₂.le).frag p₂.good.has (f := K.f1) (fd := kFd 2 [] doc pm c' ctv) (p₂.le _ _ hff) |>.In, ?_⟩
    exact key_make X A s₂ P₂ _ _ _ R (l.trans (p.le.trans p₂.le)) p₂.good rs fun v s₃ P₃ p₃ r₃ => h v s₃ P₃ ((p.trans p₂).trans p₃) r₃)
end
end Mine
namespace Mine
open PySem PySem.W PySem.W.X PyProof.Rows PySem.Calls PySem.Spec

section
variable {Θ : Th} {n : Nat} {P₀ : Fz} {env : Env} {σ : Store} {tabs : TabL}
theorem LtKey.mono {P₁ : Fz} {a b : D} {c : Bool} (h : LtKey Θ n P₀ a b c) (hl : P₀.le P₁) : LtKey Θ n P₁ a b c := fun A s P va vb Q E R l G ra rb k => h A s P va vb Q E R (hl.trans l) G ra rb k
theorem Call_kw {M : Model} {A : Around} {E : Value → Shared → Prop} {s : Shared} {env : Env} {func : Expr} {args : List Expr} {kws : List Keyword} {pos : Pos} {Q : Value → Shared → Prop}
    (h : wpAny M A (eval func env) (fun f s₁ => wpAny M A (callWith pos f [] (backTo pos (starEach args env)) (backToKw pos (keywordEach kws env))) Q E s₁) E s)
    (he : eval (.Call func args kws pos) env = (do callWith pos (← eval func env) [] (backTo pos (starEach args env)) (backToKw pos (keywordEach kws env)))) :
    wpAny M A (eval (.Call func args kws pos) env) Q E s := by
  rw [he]; exact wpAny_bind h
/-- the value of a key= expression: a function that answers as kd -/
noncomputable def EvKey (Θ : Th) (n : Nat) (P₀ : Fz) (env : Env) (σ : Store) (ke : Expr) (N : Nat) (kd : Nat → D) : Prop :=
  ∀ (A : Around) (s : Shared) (P : Fz) (Q E : Value → Shared → Prop), Room (n + 2) A → P₀.le P → StE Θ env σ P s.heap →
    (∀ fa s' P', Post Θ s s' P P' → (∀ i, i < N → CallOk Θ n P' (.ref fa) [intD i] (kd i)) → Q (.ref fa) s') → wpAny Θ.M A (eval ke env) Q E s
theorem EvKey.lam (TS : Tabs Θ tabs) {N : Nat} {kd : Nat → D} {c t : Addr} {q : Str} {params : Arguments} {body : Expr} {scope : Scope} {lpos : Pos} {clos : List (Str × Addr)}
    (hm : (c, t, q) ∈ tabs) (hcode : env.code = .ref c) (hq : env.qual ++ Str.ofString "<lambda>" = q) (hg : env.globals = mainGlobals) (hcl : closureFor scope env = pure clos) (hdef : defaultsOf params env = ([], []))
    (hc : ∀ P₁ fa, P₀.le P₁ → LamAt Θ P₁ fa q params body scope clos → ∀ i, i < N → CallOk Θ n P₁ (.ref fa) [intD i] (kd i)) : EvKey Θ n P₀ env σ (.Lambda params body scope lpos) N kd :=
  fun A s P Q E R l S h => wp_lambda TS hm hcode hq hg hcl hdef S.good fun fa s' P' p L => h fa s' P' p (hc P' fa (l.trans p.le) L)
theorem type_int {P' : Fz} {s' : Shared} {u : Value} {i : Int} (r : Rep P' u (.int i)) : Looks Θ.M s'.heap (typeOf u) (.type "int") := by
  cases r
  exact Looks.of_pure rfl
theorem type_key {P' : Fz} {s' : Shared} {u : Value} {C : Addr} {d : D} (G : Good Θ P' s'.heap) (r : Rep P' u (.key C d)) : Looks Θ.M s'.heap (typeOf u) (.ref C) := by
  cases r with | key h1 h2 h3 => exact (Looks.ld (part := none) (G.has _ _ h1)).andThen .now
end
end Mine
namespace Mine
open PySem PySem.W PySem.W.X PyProof.Rows PySem.Calls PySem.Spec

theorem KF.kfp {P : Fz} {fr : Addr → Prop} {i : Nat} {clos : List (Str × Addr)} {pm : Value} {f : Addr} {h : Heap} (X : KF fr i clos pm f h) (hp : ∀ b o, fr b → h.get? b = some o → P b o) : KFP P i clos pm f := by
  obtain ⟨c', ctv, doc, h1, h2, h3, c₂, oc, vs, t, e, g, d, q⟩ := X
  cases e
  exact ⟨c', ctv, doc, hp _ _ h1 h3, c', oc, vs, t, rfl, hp _ _ h2 g, d, q⟩
theorem KAt.kp {P : Fz} {fr : Addr → Prop} {K : KD} {m : Addr} {pm : Value} {h : Heap} (X : KAt K fr m pm h) (hp : ∀ b o, fr b → h.get? b = some o → P b o) : KP P K m pm :=
  ⟨hp _ _ X.frC X.hC, hp _ _ X.frN X.hN, hp _ _ X.frM X.hM, X.f1.kfp hp, X.f2.kfp hp, X.f3.kfp hp, X.f4.kfp hp, X.f5.kfp hp, X.f6.kfp hp⟩
theorem kSt_eq : ∃ p, kSt = .ClassDef (Str.ofString "K") [.Name (Str.ofString "object") p] [] kBody [] [] kScope none (Str.ofString "K") kStatics kPos := ⟨_, rfl⟩
theorem cmp_body : ∃ p p', bodyOf (stm pw 1) = [kSt, .Return (some (.Name (Str.ofString "K") p)) p'] := ⟨_, _, rfl⟩

theorem evalArgs_plainF {M : Model} {A : Around} {E : Value → Shared → Prop} {s : Shared} {f : Value} {x : Sem Value} {rest : List (Bool × Sem Value)} {Q : Args → Shared → Prop}
    (h : wpAny M A (spliced ((false, x) :: rest)) (fun vs s' => Q ⟨vs, []⟩ s') E s) : wpAny M A (evalArgs f false ((false, x) :: rest) []) Q E s := by
  unfold evalArgs
  show wpAny M A (spliced ((false, x) :: rest) >>= _) Q E s
  refine wpAny_bind (wpAny_mono h (fun vs s' h' => ?_) fun _ _ x => x)
  refine wpAny_holding ?_
  exact wpAny_bind (wpAny_pure (wpAny_bind (wpAny_pure (wpAny_pure h'))))
section
variable {Θ : Th} {n : Nat} {tabs : TabL}
theorem code_minus {P : Fz} {h : Heap} {Pc : Addr} {ps : Array Value} (hP : h.get? Pc = some (tabObj ps)) (ht : TriplesOk ps.toList) (H : Has P h) {cv : Value} {q : Str} (C : CodeF P cv q) : CodeF (fun b o => P b o ∧ b ≠ Pc) cv q := by
  obtain ⟨c, oc, vs, t, e, x, d, u⟩ := C
  refine ⟨c, oc, vs, t, e, ⟨x, ?_⟩, d, u⟩
  rintro rfl
  have := H _ _ x
  rw [hP] at this
  cases this
  have hv : vs = ps := by cases d; rfl
  subst hv
  rw [← Array.getElem?_toList] at u
  generalize vs.toList = l at ht u
  unfold TriplesOk at ht
  split at ht
  · simp at u
  · simp at u
  · exact ht
set_option maxHeartbeats 2000000 in
theorem wp_cmpToKey (TS : Tabs Θ tabs) {A : Around} {s : Shared} {P : Fz} {Q E : Value → Shared → Prop} {fa ca cc Pc : Addr} {ps : Array Value} {mc : Str → Option Value} {pm doc : Value}
    (hd : DefAt P ca (fdOf pw 1 pm (.ref cc) doc) (bodyOf (stm pw 1))) (X : BCtx Θ.mg mc cc Pc ps s.heap) (tr : TriplesOk ps.toList) (hnf : codeAmong kPos ps.toList = none)
    (hobj : Blt Θ "object" (.type "object")) (hbc : Θ.mb (Str.ofString "__build_class__") = some (.builtin "__build_class__"))
    (G : Good Θ P s.heap) (hPT : ¬ Θ.T Pc) (hPK : ∀ o, ¬ Θ.K0 Pc o) (hh : A.handled = none) (hdp : A.depth + 110 ≤ 500) (hu : A.units + 1300 ≤ 9000)
    (hQ : ∀ (K : KD) (m : Addr) (h' : Heap) (tk : Nat) (P' : Fz), (∀ b o, P b o → b ≠ Pc → P' b o) → (∀ b o, P' b o → P b o ∨ s.heap.get? b = none) → (∀ b o, s.heap.get? b = some o → b ≠ Pc → h'.get? b = some o) → (∃ ps', h'.get? Pc = some (tabObj ps')) → Good Θ P' h' →
      KP P' K m ((Θ.mg "__name__").getD .none) → CellF P' m fa → Q (.ref K.C) { s with heap := h', toks := tk }) :
    wpAny Θ.M A (call (.ref ca) [.ref fa]) Q E s := by
  refine wpAny_call ?_
  obtain ⟨o, ho, hdat⟩ := hd.obj
  have hcd : s.heap.CodeRec (.ref cc) (fdOf pw 1 pm (.ref cc) doc).qualname := by
    obtain ⟨c, oc, vs', t, h1, h2, h3, h4⟩ := hd.code
    exact ⟨c, oc, vs', t, h1, G.has _ _ h2, h3, h4⟩
  refine codeAny_call_cells (binds := [(Str.ofString "mycmp", .ref fa)]) (by show A.depth < 1000; omega) (G.has _ _ ho) hdat (Θ.nolim G.k0) hcd hd.body rfl hd.clo (fun x hx => ?_) (fun s₁ x => ?_) hd.co hd.gen hd.kind
  · simp at hx; subst hx
    exact .inr ⟨rfl, rfl⟩
  have S := entered (Θ := Θ) (a := ca) (names := [Str.ofString "mycmp"]) (vs := [.ref fa]) (ds := [.ref fa]) rfl hd.kind (by intro y hy; simp at hy; subst hy; exact .inr rfl) G (.cons (.ref fa) .nil) x
  have hcell : s₁.heap.IsCell (s.heap.objs.size + 1) (some (.ref fa)) := x.cell (Str.ofString "mycmp") (s.heap.objs.size + 1) rfl
  obtain ⟨h1, tk1, rfl⟩ := x.toInCall.same
  have keep1 : ∀ b o, s.heap.get? b = some o → h1.get? b = some o := x.toInCall.keep
  have hns := x.toInCall.ns
  have hL0 : s.heap.get? s.heap.objs.size = none := none_of_size (Nat.le_refl _)
  have hm0 : s.heap.get? (s.heap.objs.size + 1) = none := none_of_size (Nat.le_succ _)
  have hE3 : closureFor kScope (callEnvC (fdOf pw 1 pm (.ref cc) doc) s.heap.objs.size ca) = pure [(Str.ofString "mycmp", s.heap.objs.size + 1)] := by kernel_rfl
  have hE5 : qualnameIn (callEnvC (fdOf pw 1 pm (.ref cc) doc) s.heap.objs.size ca) (Str.ofString "K") (Str.ofString "K") = Str.ofString "cmp_to_key.<locals>.K" := by kernel_rfl
  have eL : (callEnvC (fdOf pw 1 pm (.ref cc) doc) s.heap.objs.size ca).locals = s.heap.objs.size := rfl
  have eB : (callEnvC (fdOf pw 1 pm (.ref cc) doc) s.heap.objs.size ca).builtins = builtinsNs := rfl
  have eG : (callEnvC (fdOf pw 1 pm (.ref cc) doc) s.heap.objs.size ca).globals = mainGlobals := rfl
  have eC : (callEnvC (fdOf pw 1 pm (.ref cc) doc) s.heap.objs.size ca).code = .ref cc := rfl
  have hko : (callEnvC (fdOf pw 1 pm (.ref cc) doc) s.heap.objs.size ca).kindOf (Str.ofString "object") = some .globalImplicit := rfl
  have hkK : (callEnvC (fdOf pw 1 pm (.ref cc) doc) s.heap.objs.size ca).kindOf (Str.ofString "K") = some .local := rfl
  rw [eL] at hns
  obtain ⟨p1, p2, eb⟩ := cmp_body
  rw [eb]
  clear hcd hdat eb
  generalize callEnvC (fdOf pw 1 pm (.ref cc) doc) s.heap.objs.size ca = env at *
  have gen : env.scope.kind = .function := S.fn
  have G1 := S.good
  have X1 := X.keeps keep1
  dsimp only at G1 hns hcell
  obtain ⟨p0, ek⟩ := kSt_eq
  refine wpAny_execs_cons ?_
  rw [ek, arm_exec_ClassDef, hE5]
  refine wpAny_bind (wpAny_of_eq (a := []) rfl (wpAny_bind (wpAny_standAt (wpAny_bind ?_))))
  unfold buildClassGuard
  rw [eB]
  refine wpAny_bind (wpAny_nsGet (Θ.bns G1.k0) ?_)
  rw [hbc]
  refine wpAny_pure (wpAny_bind (wpAny_holding (wpAny_bind ?_)))
  refine evalArgs_plainF (f := .builtin "__build_class__") (x := eval (.Name (Str.ofString "object") p0) env) (rest := []) ?_
  have hF : FnS Θ env (bindD [Str.ofString "mycmp"] [.ref fa] []) (.Name (Str.ofString "object") p0) (.type "object") := FnS.builtin hobj.g hobj.b hko eG eB
  refine args_cons (pos := kPos) (e := .Name (Str.ofString "object") p0) (rest := []) (env := env) (hF _ _ _ _ _ S.toStE (args_nil ?_)) (by rfl)
  dsimp only
  refine wpAny_bind (wpAny_standAt (wpAny_holding ?_))
  refine buildK X1 tr hnf eG eC hE3 eB hh (by show A.depth + 1 + 100 ≤ 500; omega) (by show A.units + 3 + 1200 ≤ 9000; omega) fun K h2 t2 c' k2 hPc2 hrec2 hc2 KA => ?_
  refine wpAny_bind (wpAny_of_eq (a := .ref K.C) rfl (wpAny_bind (wpAny_standAt (wpAny_bind (wpAny_bindName ?_)))))
  obtain ⟨oP, hoP⟩ : ∃ o, s.heap.get? Pc = some o := ⟨_, X.hP⟩
  have ltP : Pc < s.heap.objs.size := Heap.lt_size hoP
  have nPL : s.heap.objs.size ≠ Pc := Nat.ne_of_gt ltP
  have hns2 : h2.Ns env.locals (bindL env.kindOf [(Str.ofString "mycmp", Value.ref fa)] fun x => none) := by
    rw [eL]
    obtain ⟨o, es, ep, e, r⟩ := hns
    exact ⟨o, es, ep, k2 _ _ nPL e, r⟩
  refine wpAny_storeName_local hkK hns2 (fun h3 hns3 hs3 => ?_) (notClass gen)
  refine wpAny_pure (wpAny_execs_cons (wpAny_Return_some (wpAny_Name (wpAny_loadName_local gen hkK hns3 (if_pos rfl) ?_) (by decide))))
  dsimp only
  rw [eL] at hs3
  -- what is new
  have hk3 : ∀ b o, b ≠ s.heap.objs.size → b ≠ Pc → h1.get? b = some o → h3.get? b = some o := fun b o hb hb' e => hs3.extBut b o hb (k2 b o hb' e)
  have fr1 : ∀ b, h1.get? b = none → s.heap.get? b = none := fun b e => by
    cases q : s.heap.get? b with
    | none => rfl
    | some o => rw [keep1 b o q] at e; cases e
  have nL1 : h1.get? s.heap.objs.size ≠ none := by
    obtain ⟨o, _, _, e, _⟩ := hns
    rw [e]; exact fun q => nomatch q
  have keep : ∀ b o, s.heap.get? b = some o → b ≠ Pc → h3.get? b = some o := fun b o e hb => hk3 b o (by rintro rfl; rw [hL0] at e; cases e) hb (keep1 b o e)
  have hP3 : ∃ ps', h3.get? Pc = some (tabObj ps') := ⟨_, hs3.extBut _ _ nPL.symm hPc2⟩
  have Tt : ∀ t, Θ.T t → ∃ o, s.heap.get? t = some o := fun t ht => Θ.tabIn G.tab ht
  have TnP : ∀ t, Θ.T t → t ≠ Pc := fun t ht e => hPT (e ▸ ht)
  refine hQ K (s.heap.objs.size + 1) h3 _ (fun b o => (P b o ∧ b ≠ Pc) ∨ (s.heap.get? b = none ∧ h3.get? b = some o)) (fun b o x hb => .inl ⟨x, hb⟩) (fun b o x => x.elim (fun y => .inl y.1) fun y => .inr y.1) keep hP3 ?_ ?_ ?_
  · refine ⟨fun b o x => x.elim (fun y => keep b o (G.has _ _ y.1) y.2) fun y => y.2, ?_, fun b o x => .inl ⟨G.top _ _ x, fun e => hPK o (e ▸ x)⟩, fun t o ht x => x.elim (fun y => G.nt t o ht y.1) fun y => ?_⟩
    · refine (TS.tab _ _).mpr fun c2 t2 q2 hm2 => ?_
      obtain ⟨ps2, e2, h2', a2⟩ := (TS.tab P s.heap).mp G.tab c2 t2 q2 hm2
      refine ⟨ps2, keep _ _ e2 (TnP _ ((TS.T t2).mpr ⟨c2, q2, hm2⟩)), h2', fun pos cv hcv => ?_⟩
      exact (code_minus X.hP tr G.has (a2 pos cv hcv)).mono fun b o x => .inl x
    · obtain ⟨o', e'⟩ := Tt t ht
      rw [y.1] at e'; cases e'
  · refine KA.kp fun b o hb e => .inr ⟨fr1 b hb, hs3.extBut b o (fun q => nL1 (q ▸ hb)) e⟩
  · obtain ⟨o, ho', hdd⟩ := hcell
    exact ⟨o, .inr ⟨hm0, hk3 _ _ (Nat.ne_of_gt (Nat.lt_succ_self _)) (Nat.ne_of_gt (Nat.lt_succ_of_lt ltP)) ho'⟩, hdd⟩
end
end Mine
namespace Mine
open PySem PySem.W

/-! sets of sets as nested lists: the plain side of law 02 -/
inductive HF where
  | mk (l : List HF)
noncomputable def HF.els : HF → List HF
  | .mk l => l
mutual
noncomputable def HF.toD : HF → D
  | .mk l => .list (toDs l)
noncomputable def toDs : List HF → List D
  | [] => []
  | x :: xs => x.toD :: toDs xs
end

theorem toDs_map (l : List HF) : toDs l = l.map HF.toD := by
  induction l with
  | nil => rfl
  | cons x xs ih => show _ :: toDs xs = _; rw [ih]; rfl
theorem toD_mk (l : List HF) : (HF.mk l).toD = .list (l.map HF.toD) := by rw [← toDs_map]; rfl
mutual
noncomputable def heq : HF → HF → Bool
  | .mk xs, .mk ys => heqs xs ys
noncomputable def heqs : List HF → List HF → Bool
  | [], [] => true
  | x :: xs, y :: ys => heq x y && heqs xs ys
  | [], _ :: _ => false
  | _ :: _, [] => false
end

mutual
theorem heq_eq : ∀ a b : HF, heq a b = true → a = b
  | .mk xs, .mk ys, h => congrArg HF.mk (heqs_eq xs ys h)
theorem heqs_eq : ∀ xs ys : List HF, heqs xs ys = true → xs = ys
  | [], [], _ => rfl
  | x :: xs, y :: ys, h => by
    have h : (heq x y && heqs xs ys) = true := h
    rw [Bool.and_eq_true] at h
    rw [heq_eq x y h.1, heqs_eq xs ys h.2]
  | [], _ :: _, h => by cases h
  | _ :: _, [], h => by cases h
end

mutual
theorem heq_self : ∀ a : HF, heq a a = true
  | .mk xs => heqs_self xs
theorem heqs_self : ∀ xs : List HF, heqs xs xs = true
  | [] => rfl
  | x :: xs => by
    show (heq x x && heqs xs xs) = true
    rw [heq_self x, heqs_self xs]; rfl
end

theorem heqs_length : ∀ xs ys : List HF, heqs xs ys = true → xs.length = ys.length := fun xs ys h => by rw [heqs_eq xs ys h]
theorem heqs_all : ∀ xs ys : List HF, xs.length = ys.length → heqs xs ys = (List.range xs.length).all fun j => heq (xs.getD j (.mk [])) (ys.getD j (.mk []))
  | [], [], _ => rfl
  | x :: xs, y :: ys, h => by
    show (heq x y && heqs xs ys) = _
    rw [heqs_all xs ys (by simpa using h), List.length_cons, List.range_succ_eq_map, List.all_cons, List.all_map]
    rfl
  | [], _ :: _, h => by cases h
  | _ :: _, [], h => by cases h
theorem heqs_false {xs ys : List HF} (h : xs.length ≠ ys.length) : heqs xs ys = false := by
  cases e : heqs xs ys with
  | false => rfl
  | true => exact absurd (heqs_length xs ys e) h
mutual
noncomputable def HF.rank : HF → Nat
  | .mk l => ranks l
noncomputable def ranks : List HF → Nat
  | [] => 0
  | x :: xs => max (x.rank + 1) (ranks xs)
end

theorem rank_mem : ∀ {l : List HF} {x : HF}, x ∈ l → x.rank + 1 ≤ ranks l
  | y :: l, x, h => by
    show _ ≤ max (y.rank + 1) (ranks l)
    rcases List.mem_cons.mp h with rfl | h
    · exact Nat.le_max_left _ _
    · exact Nat.le_trans (rank_mem h) (Nat.le_max_right _ _)
theorem rank_le {k : Nat} : ∀ {l : List HF}, (∀ x ∈ l, x.rank + 1 ≤ k) → ranks l ≤ k
  | [], _ => Nat.zero_le _
  | y :: l, h => Nat.max_le.mpr ⟨h y (.head _), rank_le fun x hx => h x (.tail _ hx)⟩
mutual
noncomputable def HF.num : HF → Nat
  | .mk l => nums l
noncomputable def nums : List HF → Nat
  | [] => 0
  | x :: xs => 2 ^ x.num ||| nums xs
end

theorem nums_snoc (l : List HF) (x : HF) : nums (l ++ [x]) = nums l ||| 2 ^ x.num := by
  induction l with
  | nil => show 2 ^ x.num ||| 0 = 0 ||| 2 ^ x.num; rw [Nat.or_zero, Nat.zero_or]
  | cons y l ih => show 2 ^ y.num ||| nums (l ++ [x]) = (2 ^ y.num ||| nums l) ||| 2 ^ x.num; rw [ih, Nat.or_assoc]
theorem nums_bit (l : List HF) (i : Nat) : (nums l).testBit i = true ↔ ∃ x ∈ l, x.num = i := by
  induction l with
  | nil => simp [nums]
  | cons y l ih =>
    show (2 ^ y.num ||| nums l).testBit i = true ↔ _
    rw [Nat.testBit_or, Bool.or_eq_true, ih, Nat.testBit_two_pow]
    simp
theorem nums_lt {k : Nat} : ∀ {l : List HF}, (∀ x ∈ l, x.num < k) → nums l < 2 ^ k
  | [], _ => Nat.two_pow_pos k
  | y :: l, h => Nat.or_lt_two_pow (Nat.pow_lt_pow_right (by decide) (h y (.head _))) (nums_lt fun x hx => h x (.tail _ hx))
mutual
noncomputable def ord : HF → HF → Int
  | .mk xs, .mk ys => ordZ xs ys
noncomputable def ordZ : List HF → List HF → Int
  | [], ys => -(ys.length : Int)
  | x :: xs, [] => (xs.length : Int) + 1
  | x :: xs, y :: ys => if ord x y = 0 then ordZ xs ys else ord x y
end

end Mine
namespace Mine
open PySem PySem.W PyProof.Rows PySem.Calls PySem.Spec

section
variable {Θ : Th} {n : Nat} {P₀ : Fz}
theorem OpOk.pow_int {a b : Int} (ha : 2 ≤ a) (hb : 0 ≤ b) (hsz : ¬Builtin.Int.intTooBig (((Builtin.Int.intBits a : Nat) : Int) * b) = true) : OpOk Θ n P₀ (binaryOp .Pow) (.int a) (.int b) (.int (a ^ b.toNat)) := fun A s P va vb Q E R l G ra rb h => by
  cases ra; cases rb
  by_cases h0 : b = 0
  · subst h0
    refine PySem.AutoIntOps.pow_0 (by decide) (by decide) ?_
    refine h _ _ P (Post.toks G _) ?_
    show Rep P _ (.int (a ^ 0))
    rw [Int.pow_zero]
    exact .int _ _
  · refine PySem.AutoIntOps.pow_4 hb (by simpa using h0) (by simp; omega) (by simp; omega) hsz ?_
    exact h _ _ P (Post.toks G _) (.int _ _)
theorem CallOk.listRange {N : Nat} (h : N < 1000) : CallOk Θ n P₀ (.type "list") [.range 0 N 1] (.list ((List.range N).map intD)) := fun A s P vs Q E R l G rs k => by
  cases rs with | cons r rs =>
  cases rs
  cases r with | @range r _ _ _ t u w hr =>
  refine call_list_range (n := N) R.handled (G.has _ _ hr) (range_small h) (range_size N) (by omega) fun h' tk acc c hk hS hit => ?_
  have p1 : Post Θ s { s with heap := h', toks := tk } P P := Post.keeps G hk
  have p2 := p1.freeze (none_of_size (Nat.le_refl _)) hS
  exact k _ _ _ p2 (.list (n := c) (by have := Fz.add_at P s.heap.objs.size { cls := .type "list", dict := none, data := .seq acc c, slots := #[] }; simpa using this) ((items_reps hit P).mono (Fz.add_le _ _ _)))

/-! nested lists compared -/
noncomputable def Fun1 (P : Fz) : Prop := ∀ a o o', P a o → P a o' → o = o'
theorem Has.fun1 {P : Fz} {h : Heap} (H : Has P h) : Fun1 P := fun a o o' x y => by
  have e := H a o x
  rw [H a o' y] at e
  exact (Option.some.inj e).symm
mutual
theorem rep_inj {P : Fz} (hf : Fun1 P) : ∀ (a b : HF) (v : Value), Rep P v a.toD → Rep P v b.toD → a = b
  | .mk xs, .mk ys, v, ra, rb => by
    have ra : Rep P v (.list (toDs xs)) := ra
    have rb : Rep P v (.list (toDs ys)) := rb
    cases ra with | @list l n vs _ h1 r1 =>
    cases rb with | @list _ m ws _ h2 r2 =>
    have e := hf _ _ _ h1 h2
    have e : vs = ws := by
      have e := congrArg Obj.data e
      simp only [Data.seq.injEq] at e
      exact congrArg Array.toList e.1
    subst e
    exact congrArg HF.mk (reps_inj hf xs ys vs r1 r2)
theorem reps_inj {P : Fz} (hf : Fun1 P) : ∀ (xs ys : List HF) (vs : List Value), Reps P vs (toDs xs) → Reps P vs (toDs ys) → xs = ys
  | [], [], _, _, _ => rfl
  | x :: xs, y :: ys, vs, r1, r2 => by
    have r1 : Reps P vs (x.toD :: toDs xs) := r1
    have r2 : Reps P vs (y.toD :: toDs ys) := r2
    cases r1 with | cons a1 b1 =>
    cases r2 with | cons a2 b2 =>
    rw [rep_inj hf x y _ a1 a2, reps_inj hf xs ys _ b1 b2]
  | [], y :: ys, vs, r1, r2 => by have := r1.length; have e := r2.length; rw [this] at e; cases e
  | x :: xs, [], vs, r1, r2 => by have := r1.length; have e := r2.length; rw [this] at e; cases e
end

theorem toDs_get : ∀ {xs : List HF} {j : Nat}, j < xs.length → (toDs xs)[j]? = some (xs.getD j (.mk [])).toD := fun {xs j} h => by
  rw [toDs_map, List.getElem?_map, List.getD_eq_getElem?_getD, List.getElem?_eq_getElem h]; rfl
theorem toDs_length (xs : List HF) : (toDs xs).length = xs.length := by rw [toDs_map, List.length_map]
theorem Reps.hf {P : Fz} {vs : List Value} {xs : List HF} (r : Reps P vs (toDs xs)) {j : Nat} (h : j < vs.length) : Rep P vs[j] (xs.getD j (.mk [])).toD := by
  have hl := r.length
  rw [toDs_length] at hl
  obtain ⟨v, e, x⟩ := r.get (toDs_get (xs := xs) (j := j) (by omega))
  rw [List.getElem?_eq_getElem h] at e
  cases e; exact x
theorem getD_mem {xs : List HF} {j : Nat} (h : j < xs.length) : xs.getD j (.mk []) ∈ xs := by
  rw [List.getD_eq_getElem?_getD, List.getElem?_eq_getElem h]; exact List.getElem_mem h
theorem hf_eqAt {P : Fz} {s : Shared} (H : Has P s.heap) : ∀ (k : Nat) (a b : HF) (u v : Value) (A : Around), a.rank ≤ k → Rep P u a.toD → Rep P v b.toD → A.units + k < cLine → SeqAt.EqAt A s u v (heq a b) := by
  intro k
  induction k with
  | zero =>
    rintro ⟨xs⟩ ⟨ys⟩ u v A hk ra rb hu
    have ra : Rep P u (.list (toDs xs)) := ra
    have rb : Rep P v (.list (toDs ys)) := rb
    have hx : xs = [] := by
      match xs, hk with
      | [], _ => rfl
      | x :: xs, hk => have := rank_mem (l := x :: xs) (.head _); have hk : ranks (x :: xs) ≤ 0 := hk; omega
    subst hx
    by_cases e : HF.mk [] = HF.mk ys
    · injection e with e
      subst e
      cases ra with | @list a na va _ h1 r1 =>
      cases rb with | @list b nb vb _ h2 r2 =>
      by_cases hab : a = b
      · subst hab; exact .same _
      · have l1 : va.length = 0 := r1.length
        refine .of_refs hab ?_
        have := SeqAt.RcAt.lists (e := fun _ => true) (A := A) (s := s) (items := va.toArray) (items2 := vb.toArray) ⟨_, H _ _ h1, rfl, _, rfl⟩ ⟨_, H _ _ h2, rfl, _, rfl⟩ (by have := r2.length; rw [toDs_length] at this; simp [l1]; exact this.symm) (by omega) (fun j h1 _ => by simp [l1] at h1)
        rw [allTrue] at this
        exact this
    · have hy : ys ≠ [] := fun h => e (by rw [h])
      have e1 : heq (.mk []) (.mk ys) = false := by cases ys with | nil => exact absurd rfl hy | cons => rfl
      rw [e1]
      cases ra with | @list a na va _ h1 r1 =>
      cases rb with | @list b nb vb _ h2 r2 =>
      have l1 : va.length = 0 := r1.length
      have l2 : vb.length = ys.length := by rw [r2.length, toDs_length]
      have l3 : ys.length ≠ 0 := fun h => hy (List.eq_nil_of_length_eq_zero h)
      refine .of_refs (fun hab => ?_) (SeqAt.RcAt.lists_lengths (items := va.toArray) (items2 := vb.toArray) ⟨_, H _ _ h1, rfl, _, rfl⟩ ⟨_, H _ _ h2, rfl, _, rfl⟩ (by simp; omega) (by omega))
      subst hab
      exact e (rep_inj H.fun1 (.mk []) (.mk ys) _ (.list h1 r1) (.list h2 r2))
  | succ k ih =>
    rintro ⟨xs⟩ ⟨ys⟩ u v A hk ra rb hu
    have ra' := ra
    have rb' := rb
    have ra : Rep P u (.list (toDs xs)) := ra
    have rb : Rep P v (.list (toDs ys)) := rb
    have hk : ranks xs ≤ k + 1 := hk
    cases ra with | @list a na va _ h1 r1 =>
    cases rb with | @list b nb vb _ h2 r2 =>
    have l1 : va.length = xs.length := by rw [r1.length, toDs_length]
    have l2 : vb.length = ys.length := by rw [r2.length, toDs_length]
    by_cases hab : a = b
    · subst hab
      have e := rep_inj H.fun1 _ _ _ ra' rb'
      injection e with e
      subst e
      rw [heq_self]
      exact .same _
    · refine .of_refs hab ?_
      show SeqAt.RcAt A s _ _ (heqs xs ys)
      by_cases hl : xs.length = ys.length
      · rw [heqs_all xs ys hl]
        have := SeqAt.RcAt.lists (e := fun j => heq (xs.getD j (.mk [])) (ys.getD j (.mk []))) (A := A) (s := s) (items := va.toArray) (items2 := vb.toArray) ⟨_, H _ _ h1, rfl, _, rfl⟩ ⟨_, H _ _ h2, rfl, _, rfl⟩ (by simp; omega) (by omega)
          (fun j g1 g2 => by
            have g1 : j < va.length := by simpa using g1
            have g2 : j < vb.length := by simpa using g2
            have := rank_mem (getD_mem (xs := xs) (j := j) (by omega))
            simpa using ih _ _ va[j] vb[j] A.in1 (by omega) (r1.hf g1) (r2.hf g2) (by show A.units + 1 + k < cLine; omega))
        rw [List.size_toArray, l1] at this
        exact this
      · rw [heqs_false hl]
        exact SeqAt.RcAt.lists_lengths (items := va.toArray) (items2 := vb.toArray) ⟨_, H _ _ h1, rfl, _, rfl⟩ ⟨_, H _ _ h2, rfl, _, rfl⟩ (by simp; omega) (by omega)
theorem OpOk.eq_hf {a b : HF} (hk : a.rank ≤ 500) : OpOk Θ n P₀ (compareOp .Eq) a.toD b.toD (.bool (heq a b)) := fun A s P va vb Q E R l G ra rb h => by
  obtain ⟨xs⟩ := a
  obtain ⟨ys⟩ := b
  have hu := R.units
  have hk : ranks xs ≤ 500 := hk
  have ra : Rep P va (.list (toDs xs)) := ra
  have rb : Rep P vb (.list (toDs ys)) := rb
  cases ra with | @list a na va _ h1 r1 =>
  cases rb with | @list b nb vb _ h2 r2 =>
  have l1 : va.length = xs.length := by rw [r1.length, toDs_length]
  have l2 : vb.length = ys.length := by rw [r2.length, toDs_length]
  have hQ : Q (.bool (heqs xs ys)) s := h _ _ P (Post.refl G) (.bool _)
  by_cases hl : xs.length = ys.length
  · refine SeqAt.eq_listAt (e := fun j => heq (xs.getD j (.mk [])) (ys.getD j (.mk []))) (items := va.toArray) (items2 := vb.toArray) ⟨_, G.has _ _ h1, rfl, _, rfl⟩ ⟨_, G.has _ _ h2, rfl, _, rfl⟩ (by simp; omega) R.toRoom0.line (fun j g1 g2 => ?_) ?_
    · have g1 : j < va.length := by simpa using g1
      have g2 : j < vb.length := by simpa using g2
      have := rank_mem (getD_mem (xs := xs) (j := j) (by omega))
      simpa using hf_eqAt G.has 500 _ _ va[j] vb[j] A.in1 (by omega) (r1.hf g1) (r2.hf g2) (by show A.units + 1 + 500 < 9900; omega)
    · rw [List.size_toArray, l1, ← heqs_all xs ys hl]
      exact hQ
  · rw [heqs_false hl] at hQ
    exact SeqAt.eq_list_lengthsAt (items := va.toArray) (items2 := vb.toArray) ⟨_, G.has _ _ h1, rfl, _, rfl⟩ ⟨_, G.has _ _ h2, rfl, _, rfl⟩ (by simp; omega) R.toRoom0.line hQ
theorem OpOk.ne_hf {a b : HF} (hk : a.rank ≤ 500) : OpOk Θ n P₀ (compareOp .NotEq) a.toD b.toD (.bool (!heq a b)) := fun A s P va vb Q E R l G ra rb h => by
  obtain ⟨xs⟩ := a
  obtain ⟨ys⟩ := b
  have hu := R.units
  have hk : ranks xs ≤ 500 := hk
  have ra : Rep P va (.list (toDs xs)) := ra
  have rb : Rep P vb (.list (toDs ys)) := rb
  cases ra with | @list a na va _ h1 r1 =>
  cases rb with | @list b nb vb _ h2 r2 =>
  have l1 : va.length = xs.length := by rw [r1.length, toDs_length]
  have l2 : vb.length = ys.length := by rw [r2.length, toDs_length]
  have hQ : Q (.bool (!heqs xs ys)) s := h _ _ P (Post.refl G) (.bool _)
  by_cases hl : xs.length = ys.length
  · refine SeqAt.RcNeAt.lists (e := fun j => heq (xs.getD j (.mk [])) (ys.getD j (.mk []))) (items := va.toArray) (items2 := vb.toArray) ⟨_, G.has _ _ h1, rfl, _, rfl⟩ ⟨_, G.has _ _ h2, rfl, _, rfl⟩ (by simp; omega) R.toRoom0.line (fun j g1 g2 => ?_) Θ.prog Θ.w E Q ?_
    · have g1 : j < va.length := by simpa using g1
      have g2 : j < vb.length := by simpa using g2
      have := rank_mem (getD_mem (xs := xs) (j := j) (by omega))
      simpa using hf_eqAt G.has 500 _ _ va[j] vb[j] A.in1 (by omega) (r1.hf g1) (r2.hf g2) (by show A.units + 1 + 500 < 9900; omega)
    · rw [List.size_toArray, l1, ← heqs_all xs ys hl]
      exact hQ
  · rw [heqs_false hl] at hQ
    exact SeqAt.RcNeAt.lists_lengths (items := va.toArray) (items2 := vb.toArray) ⟨_, G.has _ _ h1, rfl, _, rfl⟩ ⟨_, G.has _ _ h2, rfl, _, rfl⟩ (by simp; omega) R.toRoom0.line Θ.prog Θ.w E Q hQ
open Classical in
theorem OpOk.in_hf {x : HF} {ys : List HF} (hk : ∀ y ∈ ys, y.rank ≤ 500) : OpOk Θ n P₀ (compareOp .In) x.toD (HF.mk ys).toD (.bool (ys.any fun y => heq y x)) := fun A s P va vb Q E R l G ra rb h => by
  have hu := R.units
  have rb : Rep P vb (.list (toDs ys)) := rb
  cases rb with | @list b nb vb _ h2 r2 =>
  have l2 : vb.length = ys.length := by rw [r2.length, toDs_length]
  have key : ∀ j (hj : j < vb.length), decide (Rep P vb[j] x.toD) = heq (ys.getD j (.mk [])) x := fun j hj => by
    have rj := r2.hf hj
    by_cases e : ys.getD j (.mk []) = x
    · rw [e, heq_self]
      rw [e] at rj
      exact decide_eq_true rj
    · have e1 : heq (ys.getD j (.mk [])) x = false := by
        cases q : heq (ys.getD j (.mk [])) x with
        | false => rfl
        | true => exact absurd (heq_eq _ _ q) e
      rw [e1]
      exact decide_eq_false fun r => e (rep_inj G.has.fun1 _ _ _ rj r)
  refine SeqAt.in_listAt (items := vb.toArray) (fun y => decide (Rep P y x.toD)) ⟨_, G.has _ _ h2, rfl, _, rfl⟩ (fun y hy => ?_) ?_
  · obtain ⟨j, hj, rfl⟩ := List.getElem_of_mem (l := vb) (by simpa using hy)
    rw [key j hj]
    exact hf_eqAt G.has 500 _ _ vb[j] va A.in1 (hk _ (getD_mem (by omega))) (r2.hf hj) ra (by show A.units + 1 + 500 < 9900; omega)
  · have e : (vb.toArray.any fun y => decide (Rep P y x.toD)) = ys.any fun y => heq y x := by
      rw [List.any_toArray]
      refine Bool.eq_iff_iff.mpr ?_
      rw [List.any_eq_true, List.any_eq_true]
      constructor
      · rintro ⟨y, hy, e⟩
        obtain ⟨j, hj, rfl⟩ := List.getElem_of_mem hy
        rw [key j hj] at e
        exact ⟨_, getD_mem (by omega), e⟩
      · rintro ⟨y, hy, e⟩
        obtain ⟨j, hj, rfl⟩ := List.getElem_of_mem hy
        refine ⟨vb[j]'(by omega), List.getElem_mem _, ?_⟩
        rw [key j (by omega), List.getD_eq_getElem?_getD, List.getElem?_eq_getElem hj]
        exact e
    rw [e]
    exact h _ _ P (Post.refl G) (.bool _)
end
end Mine
namespace Mine
open PySem PySem.W PyProof.Rows PySem.Calls PySem.Spec

section
variable {Θ : Th} {n : Nat} {P₀ : Fz} {env : Env} {σ : Store} {fz : List Str}
theorem StX.sameBut {P : Fz} {h h' : Heap} {C : Addr} (S : StX Θ env σ fz P h) (hs : Heap.SameBut C h h') (hP : ∀ o, ¬ P C o) (hT : ¬ Θ.T C) (hL : C ≠ env.locals) (hc : ∀ x, env.cells.lookup x ≠ some C) : StX Θ env σ fz P h' := by
  have k : ∀ b o, b ≠ C → h.get? b = some o → h'.get? b = some o := fun b o hb e => hs.extBut b o hb e
  obtain ⟨m, hn, hl⟩ := S.ns
  refine ⟨⟨S.good.keepsBut hP hT k, S.fn, ⟨m, hn.sameBut hs (Ne.symm hL), fun x d hx => ?_⟩, S.ntab⟩, S.own, S.apart, fun x c hx => ⟨?_, (S.cells x c hx).2⟩⟩
  · obtain ⟨v, r, L⟩ := hl x d hx
    refine ⟨v, r, ?_⟩
    cases L with
    | loc h1 h2 => exact .loc h1 h2
    | cell c h1 h2 h3 => obtain ⟨o, e, d⟩ := h3; exact .cell c h1 h2 ⟨o, k _ _ (fun q => hc _ (q ▸ h2)) e, d⟩
    | free c h1 h2 h3 h4 => obtain ⟨o, e, d⟩ := h3; exact .free c h1 h2 ⟨o, k _ _ (fun q => hc _ (q ▸ h2)) e, d⟩ h4
  · obtain ⟨v, o, e, d⟩ := (S.cells x c hx).1
    exact ⟨v, o, k _ _ (fun q => hc _ (q ▸ hx)) e, d⟩
theorem CompInv.closeX {A : Around} {y : Str} {py : Pos} {P P₁ P' : Fz} {s s' : Shared} {Dd C : Addr} {wr : List Addr} {out : List D} {Q : Shared → Prop} {E : Value → Shared → Prop} (J : CompInv Θ P₁ wr Dd C s P s' P' out) (SX : StX Θ env σ fz P s.heap) (hy : env.kindOf y = some .local) (sD : s.heap.get? Dd = none) (sC : s.heap.get? C = none) (hCD : C ≠ Dd)
    (h : ∀ (s' : Shared) (P' : Fz), PostX Θ env s s' P P' → StX Θ env ((y, .list out) :: σ) fz P' s'.heap → Q s') :
    wpAny Θ.M A (PySem.assign (.Name y py) env (.ref Dd)) (fun _ s'' => ∃ m, s''.heap.Ns C m ∧ ∀ h', Heap.SameBut C s''.heap h' → Q { s'' with heap := h' }) E s' := by
  obtain ⟨p, le, ⟨ys, ⟨ne, hD'⟩, rs⟩, ⟨m', hns'⟩, nD, nC, nw⟩ := J
  have hTC : ¬ Θ.T C := fun ht => by obtain ⟨o, e⟩ := p.pre _ ht; rw [sC] at e; cases e
  have q := p.freeze sD hD'
  have rL : Rep (P'.add Dd _) (.ref Dd) (.list out) := .list (n := ne) (Fz.add_at _ _ _) (rs.mono (Fz.add_le _ _ _))
  have hCL : C ≠ env.locals := by
    rintro e
    obtain ⟨m, ⟨o, _, _, eo, _⟩, _⟩ := SX.ns
    rw [← e, sC] at eo; cases eo
  have hCc : ∀ z, env.cells.lookup z ≠ some C := fun z hz => by
    obtain ⟨v, o, eo, _⟩ := (SX.cells z C hz).1
    rw [sC] at eo; cases eo
  refine wpAny_assign_Name (wp_storeL (SX.post q) hy rL fun s₅ px₅ S₅ => ?_)
  have hnC : ∀ o, ¬ (P'.add Dd (seqObj "list" ys.toArray ne)) C o := fun o z => z.elim (nC o) fun z => hCD z.1
  obtain ⟨oC, esC, epC, eC, rC⟩ := hns'
  refine ⟨m', ⟨oC, esC, epC, px₅.keep _ _ eC hTC hCL hCc, rC⟩, fun h₂ hs₂ => ?_⟩
  have pf := q.toX.trans px₅
  refine h _ _ ⟨pf.gens, pf.drawn, pf.os, pf.le, fun t ht => ?_, pf.new, fun b o e ht hb hc => ?_, fun b hb e => ?_⟩ (S₅.sameBut hs₂ hnC hTC hCL hCc)
  · obtain ⟨o, e⟩ := pf.tab t ht
    exact ⟨o, hs₂.extBut _ _ (fun z => hTC (z ▸ ht)) e⟩
  · exact hs₂.extBut _ _ (by rintro rfl; rw [sC] at e; cases e) (pf.keep b o e ht hb hc)
  · refine pf.own b hb ?_
    have hbC : b ≠ C := by
      rintro rfl
      rcases hb with hb | ⟨z, hz⟩
      · exact hCL hb
      · exact hCc z hz
    rw [← hs₂.2 b hbC]; exact e
set_option maxHeartbeats 1000000 in
theorem exS_assignComp {elt iter : Expr} {x y : Str} {px pos py spos : Pos} {ifs : List Expr} {scope : Scope} {cl : List (Str × Addr)} {d : D} {ds : List D} {σc : Store} (p : D → Bool) (f : D → D)
    (hi : EvS Θ n P₀ env σ iter d) (hit : IterOk Θ n d ds) (hsz : ds.length ≤ 16777216) (hs : ∀ C, SeesAll env (compEnvC scope cl C env) σ σc)
    (hifs : ∀ C a, a ∈ ds → EvIfs Θ n P₀ (compEnvC scope cl C env) ((x, a) :: σc) ifs (p a)) (helt : ∀ C a, a ∈ ds → p a = true → EvS Θ n P₀ (compEnvC scope cl C env) ((x, a) :: σc) elt (f a))
    (hclos : closureFor scope env = pure cl := by rfl) (hcell : ∀ y ∈ scope.names, y.2 ≠ .cell := by decide) (hkind : scope.kind = .function := by rfl) (hnames : ∀ y ∈ scope.names, y.2 = .local → scope.names.lookup y.1 = some .local := by decide) (hx : scope.names.lookup x = some .local := by rfl)
    (hfs : ∀ x, foldedSetIterable iter env x = pure x := by intro _; rfl) (hy : env.kindOf y = some .local := by rfl) (hsw : swapsWith (.ListComp elt [⟨.Name x px, iter, ifs, 0⟩] scope pos) (some (.Name y py)) spos.line env = pure true := by kernel_rfl) :
    ExS Θ n P₀ env σ fz (.Assign [.Name y py] (.ListComp elt [⟨.Name x px, iter, ifs, 0⟩] scope pos) spos) (.next ((y, .list ((ds.filter p).map f)) :: σ) fz) := by
  intro A s P Q E R l SX h
  have S := SX.toStE
  rw [exec_Assign_Name_used _ _ _ _ hsw]
  refine wpAny_bind (wpAny_standAt (wpAny_bind ?_))
  show wpAny _ A (do let _ ← comprehension (.ListComp elt [⟨.Name x px, iter, ifs, 0⟩] scope pos) scope env _ (newList []) false (eval iter env) (some (assign (.Name y py) env))) _ _ s
  refine wpAny_bind (wpAny_mono (comp_core (use := some (assign (.Name y py) env)) (Q := fun _ s' => Q .next s') p f hi hit hsz hs hifs helt hclos hcell hkind hnames hx hfs R l S fun P₁ wr Dd C s₅ P' sD sC hCD J => ?_) (fun _ s' hq => wpAny_pure (wpAny_pure hq)) fun _ _ e => e)
  exact J.closeX SX hy sD sC hCD h
end
end Mine
namespace Mine
open PySem PySem.W PyProof.Rows PySem.Calls PySem.Spec

section
variable {Θ : Th} {n : Nat} {P₀ : Fz} {env : Env} {σ : Store} {fz : List Str}
theorem wp_callT {f : Str} {px : Pos} {e : Expr} {es : List Expr} {pos : Pos} {T : String} {ds : List D} {A : Around} {s : Shared} {P : Fz} {Q E : Value → Shared → Prop} (hf : FnS Θ env σ (.Name f px) (.type T)) (hs : EvSs Θ n P₀ env σ (e :: es) ds)
    (R : Room n A) (l : P₀.le P) (S : StE Θ env σ P s.heap) (h : ∀ vs s₂ P₂, Post Θ s s₂ P P₂ → Reps P₂ vs ds → wpAny Θ.M A (call (.type T) vs) Q E s₂)
    (he : starEach (e :: es) env = (false, eval e env) :: starEach es env := by rfl) (hplain : (backTo pos (starEach es env)).any (·.1) = false := by rfl) : wpAny Θ.M A (eval (.Call (.Name f px) (e :: es) [] pos) env) Q E s :=
  Call_ (hf A s P _ _ S (PyProof.Rows.callWith_type1 (hs A s P pos _ _ R l S fun vs s₂ P₂ p₂ rs => h vs s₂ P₂ p₂ rs) he hplain))
theorem zipApart (m l1 l2 : Nat) (h1 : l1 < m) (h2 : l2 < m) : ZipApart (m + 4) (m + 2) (m + 3) m (m + 1) l1 l2 := by
  constructor <;> (intro (e : (_ : Nat) = _); omega)

/-- zip of two frozen lists, and its walk -/
theorem zip_walk {A : Around} {s : Shared} {P : Fz} {xs ys : List D} {va vb : List Value} {l1 l2 : Addr} {n1 n2 : Nat} {Q E : Value → Shared → Prop} (hh : A.handled = none) (G : Good Θ P s.heap) (hp1 : P l1 (seqObj "list" va.toArray n1)) (hp2 : P l2 (seqObj "list" vb.toArray n2)) (r1 : Reps P va xs) (r2 : Reps P vb ys)
    (h : ∀ It fp wr St Mid s₂, WalksT Θ.prog Θ.w A It fp wr (min xs.length ys.length) (fun i vals => ∃ x y, va.toArray[i]? = some x ∧ vb.toArray[i]? = some y ∧ vals = #[x, y]) St Mid → St 0 s₂.heap → Post Θ s s₂ P P → (∀ b ∈ wr, s.heap.get? b = none) → (∀ b ∈ fp, (∃ o, P b o) ∨ s.heap.get? b = none) →
      (∀ i h, St i h → ∀ b ∈ wr, ∃ o, h.get? b = some o) → Q (.ref It) s₂) : wpAny Θ.M A (call (.type "zip") [.ref l1, .ref l2]) (fun x s' => wpAny Θ.M A (pyIter x) Q E s') E s := by
  have hl1 : s.heap.IsList l1 va.toArray := ⟨_, G.has _ _ hp1, rfl, _, rfl⟩
  have hl2 : s.heap.IsList l2 vb.toArray := ⟨_, G.has _ _ hp2, rfl, _, rfl⟩
  have fresh : ∀ k, s.heap.get? (s.heap.objs.size + k) = none := fun k => none_of_size (Nat.le_add_right _ _)
  have W := WalksT.zip2 (prog := Θ.prog) (w := Θ.w) (A := A) hh _ _ _ _ _ l1 l2 (zipApart s.heap.objs.size l1 l2 (Heap.lt_size (G.has _ _ hp1)) (Heap.lt_size (G.has _ _ hp2))) va.toArray vb.toArray
  rw [show min va.toArray.size vb.toArray.size = min xs.length ys.length by rw [List.size_toArray, List.size_toArray, r1.length, r2.length]] at W
  refine call_zip_2 hl1 hl2 fun h2 zz zI zO zi1 zi2 zs zk => wpAny_pyIter_zip zz (h _ _ _ _ _ _ W ⟨zz, zI, ⟨_, _, zO⟩, zi1, zi2, hl1.at fun o e => zk _ _ e, hl2.at fun o e => zk _ _ e⟩ (Post.keeps (t := s.toks) G zk) ?_ ?_ ?_)
  · exact List.forall_mem_cons.2 ⟨fresh 4, List.forall_mem_cons.2 ⟨fresh 3, List.forall_mem_cons.2 ⟨fresh 0, List.forall_mem_cons.2 ⟨fresh 1, fun _ h => nomatch h⟩⟩⟩⟩
  · exact List.forall_mem_cons.2 ⟨.inr (fresh 4), List.forall_mem_cons.2 ⟨.inr (fresh 2), List.forall_mem_cons.2 ⟨.inr (fresh 3), List.forall_mem_cons.2 ⟨.inr (fresh 0), List.forall_mem_cons.2 ⟨.inr (fresh 1), List.forall_mem_cons.2 ⟨.inl ⟨_, hp1⟩, List.forall_mem_cons.2 ⟨.inl ⟨_, hp2⟩, fun _ h => nomatch h⟩⟩⟩⟩⟩⟩⟩
  · intro i h ⟨q1, q2, ⟨_, _, q3⟩, ⟨_, q4, _⟩, ⟨_, q5, _⟩, _⟩
    exact List.forall_mem_cons.2 ⟨⟨_, q1⟩, List.forall_mem_cons.2 ⟨⟨_, q3⟩, List.forall_mem_cons.2 ⟨⟨_, q4⟩, List.forall_mem_cons.2 ⟨⟨_, q5⟩, fun _ h => nomatch h⟩⟩⟩⟩
theorem Reps.in {P : Fz} {vs : List Value} {xs : List D} (r : Reps P vs xs) {i : Nat} {v : Value} (e : vs.toArray[i]? = some v) : ∃ a, xs[i]? = some a ∧ Rep P v a := by
  have e : vs[i]? = some v := by simpa using e
  have hi : i < xs.length := by rw [← r.length]; exact (List.getElem?_eq_some_iff.mp e).1
  obtain ⟨v', e', r'⟩ := r.get (List.getElem?_eq_getElem hi)
  rw [e] at e'; cases e'
  exact ⟨_, List.getElem?_eq_getElem hi, r'⟩
theorem assign_pair {A : Around} {s : Shared} {P : Fz} {T : Addr} {x y : Str} {px py tp : Pos} {x1 : Nat} {v w : Value} {a b : D} {Q : Unit → Shared → Prop} {E : Value → Shared → Prop} (hh : A.handled = none) (S : StX Θ env σ fz P s.heap) (ht : s.heap.IsTuple T #[v, w]) (ra : Rep P v a) (rb : Rep P w b) (hkx : env.kindOf x = some .local) (hky : env.kindOf y = some .local)
    (h : ∀ s', PostX Θ env s s' P P → StX Θ env ((y, b) :: (x, a) :: σ) fz P s'.heap → Q () s') : wpAny Θ.M A (assign (.Tuple [.Name x px, .Name y py] x1 tp) env (.ref T)) Q E s := by
  refine wpAny_assign_Tuple hh ht rfl rfl fun h₃ hx₃ => ?_
  have q₃ : Post Θ s { s with heap := h₃, toks := s.toks } P P := Post.keeps S.good fun b o x => hx₃ b o (Nat.ne_of_lt (Heap.lt_size x)) x
  show wpAny _ A (do holding [w] (PySem.assign (.Name x px) env v); do holding [] (PySem.assign (.Name y py) env w); pure ()) _ _ _
  refine wpAny_bind (wpAny_holding (wpAny_assign_Name (wp_storeL (s := { s with heap := h₃, toks := s.toks }) (S.post q₃) hkx ra fun s₅ p₅ S₅ => ?_)))
  exact wpAny_bind (wpAny_holding (wpAny_assign_Name (wp_storeL S₅ hky rb fun s₆ p₆ S₆ => wpAny_pure (h s₆ (q₃.toX.trans (p₅.trans p₆)) S₆))))
theorem zip_loop {A : Around} {s s₁ s₂ : Shared} {P P₁ : Fz} {x y : Str} {px py tp : Pos} {x1 : Nat} {body : List Stmt} {xs ys : List D} {va vb : List Value} {out : Out} {It : Addr} {fp wr : List Addr} {St : Nat → Heap → Prop} {Mid : Nat → Addr → Heap → Prop} {R' : Result → Shared → Prop} (I : Nat → Store) (k : Nat)
    (hkl : k ≤ min xs.length ys.length)
    (hst : ∀ i a b, i < k → xs[i]? = some a → ys[i]? = some b → ExsS Θ n P₀ env ((y, b) :: (x, a) :: I i) fz body (.next (I (i + 1)) fz))
    (he : k = min xs.length ys.length → out = .next (I k) fz) (hr : ∀ a b, xs[k]? = some a → ys[k]? = some b → ∃ r, out = .ret r ∧ ExsS Θ n P₀ env ((y, b) :: (x, a) :: I k) fz body (.ret r)) (hkx : env.kindOf x = some .local) (hky : env.kindOf y = some .local)
    (R : Room n A) (l : P₀.le P₁) (r1 : Reps P₁ va xs) (r2 : Reps P₁ vb ys) (B : Stood Θ env s₁) (back : ∀ b o, s.heap.get? b = some o → ¬ Θ.T b → s₁.heap.get? b ≠ none)
    (W : WalksT Θ.prog Θ.w A It fp wr (min xs.length ys.length) (fun i vals => ∃ x y, va.toArray[i]? = some x ∧ vb.toArray[i]? = some y ∧ vals = #[x, y]) St Mid) (st0 : St 0 s₂.heap) (p₂ : PostX Θ env s s₂ P P₁) (S₂ : StX Θ env (I 0) fz P₁ s₂.heap) (hwr : ∀ b ∈ wr, s₁.heap.get? b = none) (hfp : ∀ b ∈ fp, (∃ o, P₁ b o) ∨ s₁.heap.get? b = none)
    (hth : ∀ i h, St i h → ∀ b ∈ wr, ∃ o, h.get? b = some o) (hn0 : ∀ b ∈ wr, ∀ o, ¬ P₁ b o)
    (hR : ∀ s' P', PostX Θ env s s' P P' → out.Meets Θ env (fun f s => R' (.ok f) s) s' P') :
    codeAny Θ.M A (.forLoop (.Tuple [.Name x px, .Name y py] x1 tp) (.ref It) body [] env) R' s₂ := by
  refine codeAny_forLoop_any (fun j s' => ∃ i P', j = min xs.length ys.length + 1 - i ∧ i ≤ k ∧ PostX Θ env s s' P P' ∧ P₁.le P' ∧ St i s'.heap ∧ StX Θ env (I i) fz P' s'.heap ∧ (∀ b ∈ wr, ∀ o, ¬ P' b o)) ?_ (min xs.length ys.length + 1) ⟨0, P₁, rfl, Nat.zero_le _, p₂, .refl _, st0, S₂, hn0⟩
  refine fun j s' ⟨i, P', ej, hik, p, hle, hst', S', hnw⟩ => ?_
  by_cases hlt : i < min xs.length ys.length
  · refine W.item i s' _ _ hlt hst' fun T vals h₁ tk ⟨x', y', hx', hy', e⟩ _ hT hMid hk₁ => ?_
    refine W.go _ x1 tp i T _ _ _ hMid fun h₂ hst₂ hk₂ => ?_
    have SP := iter_step (tk := tk) B hwr back p S' hnw (fun b o hb e => hk₂ b o hb (hk₁ b o hb e))
    refine (r1.in hx').elim fun a qa => (r2.in hy').elim fun b qb => ?_
    refine assign_pair (s := { s' with heap := h₂, toks := tk }) R.handled SP.1 (hT.at (h' := h₂) (fun o e => hk₂ T o (W.apart i T h₁ hMid) e) |> fun q => e ▸ q) (qa.2.mono hle) (qb.2.mono hle) hkx hky fun s₆ p₄ S₆ => ?_
    have hst₄ : St (i + 1) s₆.heap := W.frame _ _ _ hst₂ (walk_stays (s := { s' with heap := h₂, toks := tk }) hfp hle SP.1.good B p₄ S₆.good)
    have p₆ := SP.2.trans p₄
    by_cases hk' : i < k
    · refine hst i a b hk' qa.1 qb.1 A s₆ P' _ _ R (l.trans hle) S₆ fun s₇ P₇ p₇ S₇ => ⟨min xs.length ys.length + 1 - (i + 1), by omega, i + 1, P₇, rfl, hk', p₆.trans p₇, hle.trans p₇.le, W.frame _ _ _ hst₄ (walk_stays hfp hle S₆.good B p₇ S₇.good), S₇, fun b hb o x => ?_⟩
      rcases p₇.new b o x with y | y | ⟨z, y⟩
      · exact hnw b hb o y
      · obtain ⟨o', e⟩ := hth _ _ hst₄ b hb
        rw [e] at y; cases y
      · exact B.c z b y (hwr b hb)
    · have hki : i = k := by omega
      refine (hr a b (hki ▸ qa.1) (hki ▸ qb.1)).elim fun r qr => ?_
      exact qr.2 A s₆ P' _ _ R (l.trans hle) (hki ▸ S₆) fun s₇ P₇ p₇ v' G₇ r₇ => by
        have := hR s₇ P₇ (p₆.trans p₇)
        rw [qr.1] at this
        exact this v' G₇ r₇
  · have hkl' : k = min xs.length ys.length := by omega
    have hil : i = k := by omega
    refine W.done s' _ _ (show St (min xs.length ys.length) s'.heap from hkl' ▸ hil ▸ hst') fun h' tk hkp => ?_
    have SP := iter_step (tk := tk) B hwr back p S' hnw hkp
    refine wpAny_execs_nil ?_
    have := hR _ P' SP.2
    rw [he hkl'] at this
    exact this (hil ▸ SP.1)
/-- for x, y in zip(a, b), whatever way it ends -/
theorem ExS.forZip {x y f : Str} {px py pf tp cp pos : Pos} {x1 : Nat} {e1 e2 : Expr} {body : List Stmt} {xs ys : List D} {out : Out} (I : Nat → Store) (k : Nat) (h0 : Sub (I 0) σ) (hf : FnS Θ env σ (.Name f pf) (.type "zip")) (hs : EvSs Θ n P₀ env σ [e1, e2] [.list xs, .list ys])
    (hkl : k ≤ min xs.length ys.length)
    (hst : ∀ i a b, i < k → xs[i]? = some a → ys[i]? = some b → ExsS Θ n P₀ env ((y, b) :: (x, a) :: I i) fz body (.next (I (i + 1)) fz))
    (he : k = min xs.length ys.length → out = .next (I k) fz) (hr : ∀ a b, xs[k]? = some a → ys[k]? = some b → ∃ r, out = .ret r ∧ ExsS Θ n P₀ env ((y, b) :: (x, a) :: I k) fz body (.ret r)) (hkx : env.kindOf x = some .local := by rfl) (hky : env.kindOf y = some .local := by rfl)
    (hfs : ∀ x, foldedSetIterable (.Call (.Name f pf) [e1, e2] [] cp) env x = pure x := by intro _; rfl)
    (he1 : starEach [e1, e2] env = (false, eval e1 env) :: starEach [e2] env := by rfl) (hpl : (backTo cp (starEach [e2] env)).any (·.1) = false := by rfl) :
    ExS Θ n P₀ env σ fz (.For (.Tuple [.Name x px, .Name y py] x1 tp) (.Call (.Name f pf) [e1, e2] [] cp) body [] pos) out := by
  intro A s P Q E R l S h
  refine wpAny_For (wp_callT hf hs R l S.toStE (fun vs s₁ P₁ p₁ rs => ?_) he1 hpl) hfs
  cases rs with | cons ra rs =>
  cases rs with | cons rb rs =>
  cases rs
  cases ra with | @list l1 n1 va _ hp1 r1 =>
  cases rb with | @list l2 n2 vb _ hp2 r2 =>
  refine zip_walk R.handled p₁.good hp1 hp2 r1 r2 fun It fp wr St Mid s₂ W st0 p₂ hwr hfp hth => ?_
  exact zip_loop I k hkl hst he hr hkx hky R (l.trans p₁.le) r1 r2 (S.post p₁).stood (fun b o e ht => by rw [p₁.keep b o e ht]; exact fun h => nomatch h) W st0 (p₁.trans p₂).toX (((S.post p₁).post p₂).sub h0) hwr hfp hth (fun b hb => p₁.good.notIn (hwr b hb)) h
end
end Mine
namespace Mine
open PySem PySem.W PyProof.Rows PySem.Calls PySem.Spec

/-! a theory in which one list of one's own, not frozen, stands as ds -/
noncomputable def Th.hold (Θ : Th) (a : Addr) (ds : List D) : Th where
  prog := Θ.prog
  w := Θ.w
  T := fun t => Θ.T t ∨ t = a
  Tab := fun P h => Θ.Tab P h ∧ ∃ vs n, h.get? a = some (seqObj "list" (List.toArray vs) n) ∧ Reps P vs ds
  K0 := Θ.K0
  tabMono := fun x hl hk => ⟨Θ.tabMono x.1 hl fun t o ht e => hk t o (.inl ht) e, let ⟨vs, n, e, r⟩ := x.2; ⟨vs, n, hk a _ (.inr rfl) e, r.mono hl⟩⟩
  tabIn := fun x ht => ht.elim (Θ.tabIn x.1) fun e => e ▸ let ⟨_, _, e, _⟩ := x.2; ⟨_, e⟩
  tabF := fun x ht e v hd => ht.elim (fun t => Θ.tabF x.1 t e v hd) fun q => by
    obtain ⟨_, _, e', _⟩ := x.2
    rw [q, e'] at e
    cases e; cases hd
  mg := Θ.mg
  mb := Θ.mb
  tree := Θ.tree
  nolim := Θ.nolim
  seer := Θ.seer
  gns := Θ.gns
  bns := Θ.bns
section
variable {Θ : Th} {n : Nat} {P₀ : Fz} {env : Env} {σ : Store} {fz : List Str} {a : Addr} {xs ys : List D}
theorem Good.unhold {P : Fz} {h : Heap} (G : Good (Θ.hold a xs) P h) : Good Θ P h := ⟨G.has, G.tab.1, G.top, fun t o ht => G.nt t o (.inl ht)⟩
theorem Post.hold {s s' : Shared} {P P' : Fz} (p : Post Θ s s' P P') (G : Good (Θ.hold a xs) P s.heap) (hna : ¬ Θ.T a) : Post (Θ.hold a xs) s s' P P' := by
  obtain ⟨vs, m, e, r⟩ := G.tab.2
  refine ⟨p.gens, p.drawn, p.os, ⟨p.good.has, ⟨p.good.tab, vs, m, p.keep a _ e hna, r.mono p.le⟩, p.good.top, fun t o ht x => ?_⟩, p.le, p.new, fun b o e ht => p.keep b o e fun h => ht (.inl h), fun t ht => Θ.hold a xs |>.tabIn G.tab ht⟩
  rcases ht with ht | rfl
  · exact p.good.nt t o ht x
  · rcases p.new _ _ x with y | y
    · exact G.nt _ _ (.inr rfl) y
    · rw [e] at y; cases y
theorem CallOk.hold {f : Value} {ds : List D} {d : D} (h : CallOk Θ n P₀ f ds d) (hna : ¬ Θ.T a) : CallOk (Θ.hold a xs) n P₀ f ds d :=
  fun A s P vs Q E R l G r k => h A s P vs Q E R l G.unhold r fun v s' P' p rv => k v s' P' (p.hold G hna) rv
theorem tyOwn : ∃ T id, typeLookup (.type T) "__getitem__" = pure (some (.builtin id)) ∧ ∀ (s : Shared) (P : Fz) v, Good (Θ.hold a xs) P s.heap → Rep P v (.ref a) → s.TypeIs v T :=
  ⟨"list", _, list_getitem_lookup, fun s P v G r => by cases r; obtain ⟨vs, m, e, _⟩ := G.tab.2; exact ⟨_, e, rfl⟩⟩
theorem OpOk.item_own {i : Nat} {d : D} (hl : xs.length ≤ 16777216) (hd : xs[i]? = some d) : OpOk (Θ.hold a xs) n P₀ getItem (.ref a) (.int (i : Int)) d := fun A s P va vb Q E R l G ra rb h => by
  cases rb; cases ra
  obtain ⟨vs, m, e, rs⟩ := G.tab.2
  have hIs : s.heap.IsList a vs.toArray := ⟨_, e, rfl, _, rfl⟩
  obtain ⟨v, hv, r⟩ := rs.get hd
  have hi : i < xs.length := (List.getElem?_eq_some_iff.mp hd).1
  exact wpAny_getItem_list hIs (by omega) (by omega) (by simpa using hv) (h v s P (Post.refl G) r)
theorem StX.toHold {P : Fz} {h : Heap} {vs : List Value} {m : Nat} (S : StX Θ env σ fz P h) (e : h.get? a = some (seqObj "list" (List.toArray vs) m)) (r : Reps P vs xs) (hn : ∀ o, ¬ P a o) (hL : env.locals ≠ a) : StX (Θ.hold a xs) env σ fz P h :=
  ⟨⟨⟨S.good.has, ⟨S.good.tab, vs, m, e, r⟩, S.good.top, fun t o ht => ht.elim (S.good.nt t o) fun q => q ▸ hn o⟩, S.fn, S.ns, fun ht => ht.elim S.ntab hL⟩, S.own, S.apart, S.cells⟩
/-- the list grows, all else stays -/
theorem StX.grow {P : Fz} {h h' : Heap} {ws : List Value} {m : Nat} (S : StX (Θ.hold a xs) env σ fz P h) (hna : ¬ Θ.T a) (hs : Heap.SameBut a h h') (e : h'.get? a = some (seqObj "list" (List.toArray ws) m)) (r : Reps P ws ys) : StX (Θ.hold a ys) env σ fz P h' := by
  obtain ⟨vs, k, e0, _⟩ := S.good.tab.2
  have keep : ∀ b o, b ≠ a → h.get? b = some o → h'.get? b = some o := fun b o hb q => (hs.2 b hb).trans q
  have hn : ∀ b o, P b o → b ≠ a := fun b o x q => S.good.nt b o (.inr q) x
  have hc : ∀ c v, h.IsCell c v → c ≠ a ∧ h'.IsCell c v := fun c v ⟨o, ho, hd⟩ => by
    have : c ≠ a := by rintro rfl; rw [e0] at ho; cases ho; cases hd
    exact ⟨this, o, keep _ _ this ho, hd⟩
  have hL : env.locals ≠ a := fun q => S.ntab (.inr q)
  obtain ⟨mm, hns, hl⟩ := S.ns
  refine ⟨⟨⟨fun b o x => keep b o (hn b o x) (S.good.has b o x), ⟨Θ.tabMono S.good.tab.1 (.refl _) fun t o ht q => keep t o (by rintro rfl; exact hna ht) q, ws, m, e, r⟩, S.good.top, S.good.nt⟩, S.fn, ⟨mm, hns.at' fun o q => keep _ _ hL q, fun x d hx => ?_⟩, S.ntab⟩, S.own, S.apart, fun x c hx => ?_⟩
  · obtain ⟨v, rv, L⟩ := hl x d hx
    exact ⟨v, rv, L.keeps fun c v q => (hc c v q).2⟩
  · obtain ⟨⟨v, q⟩, y⟩ := S.cells x c hx
    exact ⟨⟨v, (hc c v q).2⟩, y⟩
theorem PostX.cast {s s' : Shared} {P P' : Fz} (p : PostX (Θ.hold a xs) env s s' P P') : PostX (Θ.hold a ys) env s s' P P' := ⟨p.gens, p.drawn, p.os, p.le, p.tab, p.new, p.keep, p.own⟩
theorem Stood.cast {s : Shared} (B : Stood (Θ.hold a xs) env s) : Stood (Θ.hold a ys) env s := ⟨B.L, B.c, B.T⟩
theorem walk_stays' {s₀ s s' : Shared} {Pa P P' : Fz} {fp : List Addr} (hfp : ∀ b ∈ fp, (∃ o, Pa b o) ∨ s₀.heap.get? b = none) (hle : Pa.le P) (G : Has P s.heap) (B : Stood Θ env s₀) (p : PostX Θ env s s' P P') (G' : Has P' s'.heap) :
    ∀ b ∈ fp, ∀ o, s.heap.get? b = some o → s'.heap.get? b = some o := by
  intro b hb o e
  rcases hfp b hb with ⟨o', x⟩ | hnone
  · have h1 := G b o' (hle b o' x)
    rw [h1] at e; cases e
    exact G' b _ (p.le b _ (hle b _ x))
  · exact p.keep b o e (fun ht => B.T b ht hnone) (by rintro rfl; exact B.L hnone) (fun x hx => B.c x b hx hnone)
theorem wp_storeX {A : Around} {s : Shared} {P : Fz} {x : Str} {v : Value} {d : D} {Q : Unit → Shared → Prop} {E : Value → Shared → Prop} (S : StX Θ env σ fz P s.heap) (hk : env.kindOf x = some .local ∨ (env.kindOf x = some .cell ∧ (∃ c, env.cells.lookup x = some c) ∧ x ∉ fz)) (r : Rep P v d)
    (h : ∀ s', PostX Θ env s s' P P → StX Θ env ((x, d) :: σ) fz P s'.heap → Q () s') : wpAny Θ.M A (storeName env x v) Q E s := by
  rcases hk with hk | ⟨hk, ⟨c, hc⟩, hf⟩
  · exact wp_storeL S hk r h
  · exact wp_storeC S hk hc hf r fun s' p S' _ => h s' p S'
/-- acc.append(elt), the list one's own -/
theorem hold_append {A : Around} {s : Shared} {P : Fz} {acc : Str} {pn pap : Pos} {cpos epos : Pos} {elt : Expr} {o : D} {Q : Flow → Shared → Prop} {E : Value → Shared → Prop} (hac : σ.lookup acc = some (.ref a)) (hna : ¬ Θ.T a) (R : Room n A) (l : P₀.le P) (S : StX (Θ.hold a xs) env σ fz P s.heap)
    (hel : EvS (Θ.hold a xs) n P₀ env σ elt o) (hlen : xs.length ≤ 16777216) (hys : ys = xs ++ [o]) (h : ∀ s' P', PostX (Θ.hold a ys) env s s' P P' → StX (Θ.hold a ys) env σ fz P' s'.heap → Q .next s')
    (hdb : (acc == ("__debug__" : Str)) = false) (hbase : attributeBase (.Name acc pn) "append" env (eval (.Name acc pn) env) = eval (.Name acc pn) env)
    (hfew : ((backTo cpos (starEach [elt] env)).all (fun x => !x.1) && (backToKw cpos (keywordEach [] env)).all (fun x => x.1.isSome) && decide (([elt] : List Expr).length + ([] : List Keyword).length + (if ([] : List Keyword).isEmpty then 0 else 1) < 30)) = true)
    (hline : (pap.endLine == cpos.line) = true) (htrees : backTo cpos (starEach [elt] env) = [(false, eval elt env)])
    (hint : interactive env = false) (hsx : swapsWith (.Call (.Attribute (.Name acc pn) "append" pap) [elt] [] cpos) none epos.line env = pure false) :
    wpAny Θ.M A (execs [.Expr (.Call (.Attribute (.Name acc pn) "append" pap) [elt] [] cpos) epos] env) Q E s := by
  refine wpAny_execs_cons (wpAny_Expr_any (wpAny_Call_append hbase hfew hline htrees ?_) hint hsx)
  refine EvS.name (Θ := Θ.hold a xs) (n := n) (P₀ := P) hac hdb A s P _ _ R (.refl _) S.toStE fun v s₇ P₇ p₇ rv => ?_
  cases rv
  obtain ⟨vs, k, e, _⟩ := p₇.good.tab.2
  refine ⟨a, vs.toArray, rfl, ⟨_, k, e, rfl, rfl, rfl⟩, ?_⟩
  refine hel A s₇ P₇ _ _ R (l.trans p₇.le) (S.post p₇).toStE fun y s₈ P₈ p₈ ry => ?_
  have S₈ := (S.post p₇).post p₈
  obtain ⟨ws, k', e', rs⟩ := p₈.good.tab.2
  refine wpAny_list_append_plain (items := ws.toArray) ⟨k', e'⟩ (fun h'' hp hs => ?_) (by rw [List.size_toArray, rs.length, sizeLine_eq]; omega)
  obtain ⟨k'', e''⟩ := hp
  rw [List.push_toArray] at e''
  have S₉ := S₈.grow (ys := ys) hna hs e'' (by rw [hys]; exact rs.append (.cons ry .nil))
  have p₉ : PostX (Θ.hold a xs) env s₈ { s₈ with heap := h'' } P₈ P₈ := ⟨rfl, rfl, rfl, .refl _, fun t ht => (Θ.hold a ys).tabIn S₉.good.tab ht, fun b o x => .inl x, fun b o q ht _ _ => (hs.2 b fun z => ht (.inr z)).trans q, fun b _ q => by
    by_cases hb : b = a
    · subst hb; rw [show ({ s₈ with heap := h'' } : Shared).heap.get? b = _ from e''] at q; cases q
    · exact (hs.2 b hb).symm.trans q⟩
  exact wpAny_execs_nil (h _ P₈ (((p₇.trans p₈).toX (env := env)).trans p₉).cast S₉)
theorem collect_loop {A : Around} {s₂ s₃ s₄ : Shared} {P₁ P₃ : Fz} {acc x : Str} {px : Pos} {body : List Stmt} {ds outs : List D} {It : Addr} {fp wr : List Addr} {St : Nat → Heap → Prop} {R' : Result → Shared → Prop} (hlen : outs.length = ds.length) (hxs : σ.lookup x = none) (hne : x ≠ acc) (hk : env.kindOf x = some .local) (hna : ¬ Θ.T a)
    (R : Room n A) (S₃ : StX (Θ.hold a []) env ((acc, .ref a) :: σ) fz P₃ s₃.heap) (p₃ : PostX (Θ.hold a []) env s₂ s₃ P₁ P₃) (W : Walk (Θ.hold a []) A It fp wr ds P₃ St s₃ s₄) (back : ∀ b o, s₂.heap.get? b = some o → ¬ (Θ.hold a []).T b → s₃.heap.get? b ≠ none)
    (hb : ∀ i b o s P (Q : Flow → Shared → Prop) E, P₃.le P → ds[i]? = some b → outs[i]? = some o → StX (Θ.hold a (outs.take i)) env ((x, b) :: (acc, .ref a) :: σ) fz P s.heap → (∀ s' P', PostX (Θ.hold a (outs.take (i + 1))) env s s' P P' → StX (Θ.hold a (outs.take (i + 1))) env ((x, b) :: (acc, .ref a) :: σ) fz P' s'.heap → Q .next s') → wpAny Θ.M A (execs body env) Q E s)
    (hR : ∀ s' P', PostX (Θ.hold a outs) env s₂ s' P₁ P' → StX (Θ.hold a outs) env ((acc, .ref a) :: σ) fz P' s'.heap → R' (.ok .next) s') :
    codeAny Θ.M A (.forLoop (.Name x px) (.ref It) body [] env) R' s₄ := by
  have hfp := W.fpIn
  have hwr := W.wrNew
  have hth := W.there
  have B := S₃.stood
  have S₄ := S₃.post W.post
  have p₄ := p₃.trans (W.post.toX (env := env))
  have hst := W.start
  replace W := W.walks A R.handled
  refine codeAny_forLoop (fun j s' => ∃ i P', j = ds.length + 1 - i ∧ i ≤ ds.length ∧ PostX (Θ.hold a []) env s₂ s' P₁ P' ∧ P₃.le P' ∧ St i s'.heap ∧ StX (Θ.hold a (outs.take i)) env ((acc, .ref a) :: σ) fz P' s'.heap ∧ (∀ b ∈ wr, ∀ o, ¬ P' b o)) ?_ (ds.length + 1)
    ⟨0, P₃, rfl, Nat.zero_le _, p₄, .refl _, hst, S₄, fun b hb => S₃.good.notIn (hwr b hb)⟩
  refine fun j s' ⟨i, P', ej, hik, pp, hle, hst', S', hnw⟩ => ?_
  by_cases hlt : i < ds.length
  · refine W.item i s' _ _ hlt hst' fun v h' tk ⟨b, hbi, rb⟩ hst₁ hkp => ?_
    have SP := iter_step (tk := tk) (B.cast (ys := outs.take i)) hwr back (pp.cast (ys := outs.take i)) S' hnw hkp
    refine wpAny_assign_Name (wp_storeL (Θ := Θ.hold a (outs.take i)) (s := { s' with heap := h', toks := tk }) SP.1 hk (rb.mono hle) fun s₆ p₆ S₆ => ?_)
    refine hb i b outs[i] s₆ P' _ _ hle hbi (List.getElem?_eq_getElem _) S₆ fun s₉ P₈ pz S₉ => ?_
    have pb := p₆.cast.trans pz
    refine ⟨ds.length + 1 - (i + 1), by omega, i + 1, P₈, rfl, hlt, (SP.2.cast.trans pb).cast, hle.trans pb.le, W.frame _ _ _ hst₁ (walk_stays' (s := { s' with heap := h', toks := tk }) hfp hle SP.1.good.has (B.cast (ys := outs.take (i + 1))) pb S₉.good.has), S₉.sub fun y d hy => ?_, fun b hb o x => ?_⟩
    · rw [List.lookup_cons] at hy ⊢
      have h1 : (y == x) = false := by
        refine beq_eq_false_iff_ne.mpr ?_
        rintro rfl
        rw [beq_eq_false_iff_ne.mpr hne] at hy
        exact nomatch hxs.symm.trans hy
      rw [h1, List.lookup_cons]
      exact hy
    · rcases pb.new b o x with y | y | ⟨z, y⟩
      · exact hnw b hb o y
      · obtain ⟨o', e⟩ := hth _ _ hst₁ b (W.sub b hb)
        rw [show ({ s' with heap := h', toks := tk } : Shared).heap.get? b = some o' from e] at y; cases y
      · exact B.c z b y (hwr b hb)
  · have hil : i = ds.length := by omega
    have ht : outs.take i = outs := by rw [hil, ← hlen]; exact List.take_length
    rw [ht] at S'
    refine W.done s' _ _ (hil ▸ hst') fun h' tk hkp => ?_
    have SP := iter_step (tk := tk) (B.cast (ys := outs)) hwr back (pp.cast (ys := outs)) S' hnw hkp
    exact wpAny_execs_nil (hR _ P' SP.2 SP.1)
set_option maxHeartbeats 2000000 in
theorem hold_new {A : Around} {s : Shared} {P : Fz} {acc : Str} {Q : Unit → Shared → Prop} {E : Value → Shared → Prop} (S : StX Θ env σ fz P s.heap) (hka : env.kindOf acc = some .local ∨ (env.kindOf acc = some .cell ∧ (∃ c, env.cells.lookup acc = some c) ∧ acc ∉ fz))
    (h : ∀ a s₂, ¬ Θ.T a → s.heap.get? a = none → PostX Θ env s s₂ P P → StX (Θ.hold a []) env ((acc, .ref a) :: σ) fz P s₂.heap → Q () s₂) :
    wpAny Θ.M A (storeName env acc (.ref s.heap.objs.size)) Q E { s with heap := s.heap.push (seqObj "list" ([] : List Value).toArray 0), toks := s.toks } := by
  have q := Post.pushLoose (o := seqObj "list" ([] : List Value).toArray 0) (t := s.toks) S.good
  have ha0 : s.heap.get? s.heap.objs.size = none := none_of_size (Nat.le_refl _)
  have hna := S.good.notT ha0
  refine wp_storeX (S.post q) hka (.ref _) fun s₂ px S₂ => ?_
  have hLa : env.locals ≠ s.heap.objs.size := fun q => S.stood.L (q ▸ ha0)
  exact h _ s₂ hna ha0 (q.toX.trans px) (S₂.toHold (px.keep _ _ (Heap.get?_push_size _ rfl) hna hLa.symm fun y hy => S.stood.c y _ hy ha0) .nil (S.good.notIn ha0) hLa)
theorem hold_ret {A : Around} {s s₂ s' : Shared} {P P₁ P' : Fz} {acc : Str} {po rpos : Pos} {Q : Flow → Shared → Prop} {E : Value → Shared → Prop} (p₀ : PostX Θ env s s₂ P P₁) (has : s.heap.get? a = none) (hna : ¬ Θ.T a) (pp : PostX (Θ.hold a xs) env s₂ s' P₁ P') (S : StX (Θ.hold a xs) env σ fz P' s'.heap)
    (hac : σ.lookup acc = some (.ref a)) (hdb : (acc == ("__debug__" : Str)) = false) (R : Room n A) (h : ∀ s' P', PostX Θ env s s' P P' → (Out.ret (.list xs)).Meets Θ env Q s' P') : wpAny Θ.M A (execs [.Return (some (.Name acc po)) rpos] env) Q E s' := by
  refine wpAny_execs_cons (wpAny_Return_some ?_)
  refine EvS.name (Θ := Θ.hold a xs) (n := n) (P₀ := P') hac hdb A s' P' _ _ R (.refl _) S.toStE fun v s₇ P₇ p₇ rv => ?_
  cases rv
  obtain ⟨ws, k', e', rs⟩ := p₇.good.tab.2
  have pz := pp.trans p₇.toX
  refine h s₇ (P₇.add a (seqObj "list" ws.toArray k')) ⟨pz.gens.trans p₀.gens, pz.drawn.trans p₀.drawn, pz.os.trans p₀.os, (p₀.le.trans pz.le).trans (Fz.add_le _ _ _), fun t ht => pz.tab t (.inl ht), fun b o x => ?_, fun b o e ht hb hc => ?_, fun b hb e => p₀.own b hb (pz.own b hb e)⟩ _ (p₇.good.unhold.freeze e' hna) (.list (Fz.add_at _ _ _) (rs.mono (Fz.add_le _ _ _)))
  · rcases x with x | ⟨rfl, _⟩
    · rcases pz.new b o x with y | y | y
      · exact p₀.new b o y
      · exact .inr (.inl (p₀.back y))
      · exact .inr (.inr y)
    · exact .inr (.inl has)
  · refine pz.keep b o (p₀.keep b o e ht hb hc) (fun h => h.elim ht ?_) hb hc
    rintro rfl
    rw [has] at e; cases e
/-- acc = []; for x in iter: acc.append(elt); return acc -/
theorem ExsS.collect {acc x : Str} {pa px pn pap po ple : Pos} {cpos epos apos fpos rpos : Pos} {iter elt : Expr} {d : D} {ds outs : List D}
    (hka : env.kindOf acc = some .local ∨ (env.kindOf acc = some .cell ∧ (∃ c, env.cells.lookup acc = some c) ∧ acc ∉ fz)) (hlen : outs.length = ds.length) (h1000 : ds.length ≤ 1000) (hxs : σ.lookup x = none) (hne : x ≠ acc)
    (hi : ∀ a, ¬ Θ.T a → EvS (Θ.hold a []) n P₀ env ((acc, .ref a) :: σ) iter d) (hit : ∀ a, IterOk (Θ.hold a []) n d ds)
    (hel : ∀ a i b o, ¬ Θ.T a → ds[i]? = some b → outs[i]? = some o → EvS (Θ.hold a (outs.take i)) n P₀ env ((x, b) :: (acc, .ref a) :: σ) elt o)
    (hk : env.kindOf x = some .local := by rfl) (hfs : ∀ x, foldedSetIterable iter env x = pure x := by intro _; rfl)
    (hsw : swapsWith (.List [] ple) (some (.Name acc pa)) apos.line env = pure false := by rfl)
    (hdb : (acc == ("__debug__" : Str)) = false := by decide)
    (hbase : attributeBase (.Name acc pn) "append" env (eval (.Name acc pn) env) = eval (.Name acc pn) env := by rfl)
    (hfew : ((backTo cpos (starEach [elt] env)).all (fun x => !x.1) && (backToKw cpos (keywordEach [] env)).all (fun x => x.1.isSome) && decide (([elt] : List Expr).length + ([] : List Keyword).length + (if ([] : List Keyword).isEmpty then 0 else 1) < 30)) = true := by rfl)
    (hline : (pap.endLine == cpos.line) = true := by rfl) (htrees : backTo cpos (starEach [elt] env) = [(false, eval elt env)] := by rfl)
    (hint : interactive env = false := by rfl) (hsx : swapsWith (.Call (.Attribute (.Name acc pn) "append" pap) [elt] [] cpos) none epos.line env = pure false := by rfl) :
    ExsS Θ n P₀ env σ fz [.Assign [.Name acc pa] (.List [] ple) apos, .For (.Name x px) iter [.Expr (.Call (.Attribute (.Name acc pn) "append" pap) [elt] [] cpos) epos] [] fpos, .Return (some (.Name acc po)) rpos] (.ret (.list outs)) := by
  intro A s P Q E R l S h
  refine wpAny_execs_cons (wpAny_Assign_Name (wpAny_List (EvSs.nil (Θ := Θ) (n := n) (P₀ := P₀) (env := env) (σ := σ) A s P ple _ _ R l S.toStE fun vs s₁ P₁ p rs => ⟨by rw [rs.length, sizeLine_eq]; decide, ?_⟩)) hsw)
  cases rs
  refine hold_new (S.post p) hka fun a s₂ hna ha px S₂ => ?_
  have p₀ : PostX Θ env s s₂ P P₁ := p.toX.trans px
  refine wpAny_execs_cons (wpAny_For (hi a hna A s₂ P₁ _ _ R (l.trans p₀.le) S₂.toStE fun v s₃ P₃ p₃ r => hit a A s₃ P₃ v _ _ R p₃.good r fun It fp wr St s₄ W => ?_) hfs)
  have hac : ((acc, D.ref a) :: σ).lookup acc = some (.ref a) := by rw [List.lookup_cons]; simp
  refine collect_loop hlen hxs hne hk hna R (S₂.post p₃) p₃.toX W (fun b o e ht => by rw [p₃.keep b o e ht]; exact fun h => nomatch h) (fun i b o s P Q E hle hb ho S k => ?_) fun s' P' pp S' => hold_ret p₀ (p.back ha) hna pp S' hac hdb R h
  have hac : ((x, b) :: (acc, D.ref a) :: σ).lookup acc = some (.ref a) := by rw [List.lookup_cons, beq_eq_false_iff_ne.mpr hne.symm]; exact hac
  exact hold_append hac hna R ((l.trans p₀.le).trans (p₃.le.trans hle)) S (hel a i b o hna hb ho) (Nat.le_trans (List.length_take_le' _ _) (by omega)) (by rw [List.take_add_one, ho]; rfl) k hdb hbase hfew hline htrees hint hsx
end
end Mine
namespace Mine
open PySem PySem.W PySem.W.X PyProof.Rows PySem.Calls PySem.Spec

/-! sorted of a list by key, either way round -/
noncomputable def ixR (rev : Bool) (N i : Nat) : Nat := if rev then N - 1 - i else i
noncomputable def sortIdx (rev : Bool) (b : Nat → Nat → Bool) (N : Nat) : List Nat :=
  if rev then ((if N < 2 then List.range N else (runT (fun i j => b (ixR rev N i) (ixR rev N j)) (kas_sort N)).toList).map (ixR rev N)).reverse
  else ((if N < 2 then List.range N else (runT (fun i j => b (ixR rev N i) (ixR rev N j)) (kas_sort N)).toList).map (ixR rev N))
section
variable {Θ : Th} {n : Nat} {P₀ : Fz}
set_option maxHeartbeats 2000000 in
theorem wp_kskTreeG {A : Around} {s s0 : Shared} {P0 P : Fz} {F : PySem.Fin → Shared → Prop} {E : Value → Shared → Prop} {N n0 : Nat} {f dA : Addr} {T : Value} {vs : List Value} {kd xd : Nat → D} {rev : Bool} {b : Nat → Nat → Bool}
    (R : Room n A) (p : Post Θ s0 s P0 P) (LD : Loose Θ P s.heap dA (seqObj "list" vs.toArray n0)) (hDn : s0.heap.get? dA = none) (hvr : Reps P vs ((List.range N).map xd)) (h64 : N < 64)
    (hf : ∀ i, i < N → CallOk Θ n P (.ref f) [xd i] (kd i))
    (hT : ∀ i, i < N → ∀ (P' : Fz) (s' : Shared) (u : Value), P.le P' → Good Θ P' s'.heap → Rep P' u (kd i) → Looks Θ.M s'.heap (typeOf u) T) (hT1 : (T != Value.type "tuple") = true) (hT2 : (T == T) = true)
    (hlt : ∀ i j, i < N → j < N → LtKey Θ n P (kd i) (kd j) (b i j))
    (hQ : ∀ s' P' out c, Post Θ s0 s' P0 P' → Loose Θ P' s'.heap dA (seqObj "list" (List.toArray out) c) → Reps P' out ((sortIdx rev b N).map xd) → F (.done (.ret .none)) s') :
    wpAny Θ.M A (ksk_tree dA (.ref f) rev) F E s := by
  have hlen : vs.length = N := by rw [hvr.length]; simp
  unfold ksk_tree
  refine wpAny_bind (listItems_at LD.at_ rfl ?_)
  refine wpAny_bind (listUpdate_at LD.at_ rfl ?_ (by rw [List.size_toArray, sizeLine_eq]; omega) (Nat.zero_le _))
  obtain ⟨e1, ho1⟩ : ∃ e1, (s.heap.update dA (Obj.mapSeq fun _ => (#[] : Array Value))).get? dA = some (seqObj "list" #[] e1) := ⟨_, get?_update_seq LD.at_ fun _ => #[]⟩
  refine wpAny_bind (seqEpoch_at ho1 rfl ?_)
  refine wpAny_bind (wpAny_newTuple ?_ (by show vs.length ≤ _; rw [sizeLine_eq]; omega))
  refine wpAny_bind (wpAny_newList ?_ (Nat.zero_le _))
  refine wpAny_holding ?_
  dsimp only
  have p1 := Post.upd (tk := s.toks) p LD hDn (Heap.SameBut.update s.heap dA (Obj.mapSeq fun _ => (#[] : Array Value)))
  have L1 := LD.upd ho1
  have q1 := Post.pushLoose (s := { s with heap := s.heap.update dA (Obj.mapSeq fun _ => (#[] : Array Value)) }) (o := seqObj "tuple" vs.toArray 0) (t := s.toks) p1.good
  have p2 := p1.trans q1
  have L2 := L1.post q1
  have q2 := Post.pushLoose (s := { s with heap := (s.heap.update dA (Obj.mapSeq fun _ => (#[] : Array Value))).push (seqObj "tuple" vs.toArray 0) }) (o := seqObj "list" #[] 0) (t := s.toks) p2.good
  have p3 := p2.trans q2
  have L3 := L2.post q2
  dsimp only at p3 L3
  show wpAny _ _ _ _ _ { s with heap := ((s.heap.update dA (Obj.mapSeq fun _ => (#[] : Array Value))).push (seqObj "tuple" vs.toArray 0)).push (seqObj "list" #[] 0) }
  have hSn : s0.heap.get? ((s.heap.update dA (Obj.mapSeq fun _ => (#[] : Array Value))).push (seqObj "tuple" vs.toArray 0)).objs.size = none := p2.back (none_of_size (Nat.le_refl _))
  have hDS : dA ≠ ((s.heap.update dA (Obj.mapSeq fun _ => (#[] : Array Value))).push (seqObj "tuple" vs.toArray 0)).objs.size := Nat.ne_of_lt (Heap.lt_size L2.at_)
  have LS : Loose Θ P (((s.heap.update dA (Obj.mapSeq fun _ => (#[] : Array Value))).push (seqObj "tuple" vs.toArray 0)).push (seqObj "list" #[] 0)) ((s.heap.update dA (Obj.mapSeq fun _ => (#[] : Array Value))).push (seqObj "tuple" vs.toArray 0)).objs.size (seqObj "list" #[] 0) := .new p2.good (none_of_size (Nat.le_refl _)) (Heap.get?_push_size _ rfl)
  clear q1 q2 L1 L2 ho1
  generalize ((s.heap.update dA (Obj.mapSeq fun _ => (#[] : Array Value))).push (seqObj "tuple" vs.toArray 0)).push (seqObj "list" #[] 0) = h3 at *
  generalize ((s.heap.update dA (Obj.mapSeq fun _ => (#[] : Array Value))).push (seqObj "tuple" vs.toArray 0)).objs.size = kS at *
  clear p1 p2
  unfold ksk_rest
  refine wpAny_bind (wpAny_rule ?_)
  first
    | rw [List.forIn_toArray]
    | (rw [← Array.forIn_toList]; simp only [List.toList_toArray])
    | rw [← Array.forIn_toList]
  refine wpAny_bind (ksk_fold (fun i s' => ∃ P' kA e, Post Θ s0 s' P0 P' ∧ P.le P' ∧ Loose Θ P' s'.heap dA (seqObj "list" #[] e1) ∧ Loose Θ P' s'.heap kS (seqObj "list" kA e) ∧ Reps P' kA.toList ((List.range i).map kd)) vs 0 _
    ⟨P, #[], 0, p3, .refl P, L3, LS, .nil⟩ ?step ?done)
  case step =>
    rintro j x s' hx ⟨P', kA, e, pp, hle, LD', LS', rs⟩
    simp only [Nat.zero_add] at rs ⊢
    have hj : j < N := by have := (List.getElem?_eq_some_iff.mp hx).1; omega
    have hsz : kA.size = j := by have := rs.length; simpa using this
    have rx : Rep P' x (xd j) := by
      obtain ⟨y, hy, ry⟩ := hvr.get (i := j) (d := xd j) (by simp [hj])
      rw [hx] at hy; cases hy
      exact ry.mono hle
    refine wpAny_bind (wpAny_attempt (hf j hj A s' P' [x] _ _ R hle pp.good (.cons rx .nil) fun v s'' P'' q r => ?_))
    dsimp only
    have LD2 := LD'.post q
    have LS2 := LS'.post q
    have s1 := Heap.SameBut.update s''.heap kS (Obj.mapSeq (·.push v))
    obtain ⟨c2, hc2⟩ : ∃ c2, (s''.heap.update kS (Obj.mapSeq (·.push v))).get? kS = some (seqObj "list" (kA.push v) c2) := ⟨_, get?_update_seq LS2.at_ (·.push v)⟩
    refine wpAny_bind (listUpdate_at LS2.at_ rfl ?_ (by rw [sizeLine_eq]; omega) (Nat.le_trans (Nat.le_of_eq (Array.size_push ..)) (by rw [sizeLine_eq]; omega)))
    have pu := Post.upd (tk := s''.toks) (pp.trans q) LS2 hSn s1
    refine wpAny_pure ⟨rfl, P'', kA.push v, c2, pu, hle.trans q.le, LD2.other s1 hDS, LS2.upd hc2, ?_⟩
    have ea : (kA.push v).toList = kA.toList ++ [v] := by simp
    rw [ea, List.range_succ, List.map_append]
    exact (rs.mono q.le).snoc r
  case done =>
    rintro s' ⟨P', kA, e, pp, hle, LD', LS', rs⟩
    rw [Nat.zero_add, hlen] at rs
    have hks : kA.size = N := by have := rs.length; simpa using this
    refine wpAny_bind (listItems_at LS'.at_ rfl ?_)
    have fin : ∀ (st' : SortSt) (s4 : Shared) (P4 : Fz) (idx : List Nat), (arrOf st').map (·.2) = List.toArray (idx.map fun i => vs.getD i Value.none) → (∀ x ∈ idx, x < N) → idx.length = N → failedOf st' = none → Post Θ s0 s4 P0 P4 → P.le P4 →
        Loose Θ P4 s4.heap dA (seqObj "list" #[] e1) → Loose Θ P4 s4.heap kS (seqObj "list" kA e) → (if rev then idx.reverse else idx) = sortIdx rev b N → wpAny Θ.M A (ksk_tail dA rev e1 (.ref kS) st') F E s4 := by
      intro st' s4 P4 idx hout hbd hil hfl p4 hle4 LD4 LS4 hix
      have hrep := ((hvr.mono hle4).pick (sortIdx rev b N) (fun x hx => hbd x (by rw [← hix] at hx; split at hx; exact List.mem_reverse.mp hx; exact hx)))
      have hl5 : ((sortIdx rev b N).map fun i => vs.getD i Value.none).length = N := by rw [List.length_map, ← hix]; split <;> simp [hil]
      have hout2 : (if rev = true then ((arrOf st').map (·.2)).reverse else (arrOf st').map (·.2)) = List.toArray ((sortIdx rev b N).map fun i => vs.getD i Value.none) := by
        rw [hout, ← hix]
        split <;> simp
      generalize (sortIdx rev b N).map (fun i => vs.getD i Value.none) = out at hrep hl5 hout2
      unfold ksk_tail
      dsimp only
      rw [hout2]
      have s5 := Heap.SameBut.update s4.heap kS (Obj.mapSeq fun _ => (#[] : Array Value))
      refine wpAny_bind (listUpdate_at LS4.at_ rfl ?_ (by rw [hks, sizeLine_eq]; omega) (Nat.zero_le _))
      refine wpAny_bind (wpAny_letGo ?_)
      have LD5 := LD4.other s5 hDS
      have p5 := Post.upd (tk := s4.toks) p4 LS4 hSn s5
      refine wpAny_bind (seqEpoch_at LD5.at_ rfl ?_)
      have s6 := Heap.SameBut.update (s4.heap.update kS (Obj.mapSeq fun _ => (#[] : Array Value))) dA (Obj.mapSeq fun _ => out.toArray)
      refine wpAny_bind (listUpdate_at LD5.at_ rfl ?_ (Nat.zero_le _) (by rw [List.size_toArray, hl5, sizeLine_eq]; omega))
      obtain ⟨c6, h6⟩ : ∃ c6, ((s4.heap.update kS (Obj.mapSeq fun _ => (#[] : Array Value))).update dA (Obj.mapSeq fun _ => out.toArray)).get? dA = some (seqObj "list" out.toArray c6) := ⟨_, get?_update_seq LD5.at_ fun _ => out.toArray⟩
      rw [hfl]
      simp only [bne_self_eq_false, Bool.false_eq_true, if_false]
      exact wpAny_pure (hQ _ P4 out c6 (Post.upd (tk := s4.toks) p5 LD5 hDn s6) (LD5.upd h6) hrep)
    have hzs : (kA.zip vs.toArray).size = N := by rw [Array.size_zip, hks, List.size_toArray, hlen, Nat.min_self]
    have hits : (if rev = true then (kA.zip vs.toArray).reverse else kA.zip vs.toArray).size = N := by split <;> simp [hzs]
    have hitem : ∀ i, i < N → ixR rev N i < N ∧ kas_item (if rev = true then (kA.zip vs.toArray).reverse else kA.zip vs.toArray) i = (kA.toList.getD (ixR rev N i) .none, vs.getD (ixR rev N i) .none) := fun i hi => by
      cases rev with
      | false => exact ⟨hi, zip_item (by omega) (by omega)⟩
      | true =>
        have h1 : N - 1 - i < N := by omega
        refine ⟨h1, ?_⟩
        show _ = (kA.toList.getD (N - 1 - i) .none, vs.getD (N - 1 - i) .none)
        rw [← zip_item (i := N - 1 - i) (by omega) (by omega), if_pos rfl]
        unfold kas_item Array.getD
        rw [dif_pos (by rw [Array.size_reverse, hzs]; exact hi), dif_pos (by rw [hzs]; exact h1)]
        simp [hzs]
    unfold ksk_end
    dsimp only
    have kif : ∀ {X : Sem PySem.Fin}, wpAny Θ.M A X F E s' → wpAny Θ.M A (if rev = true then (do rule "list.sort.reverse"; X) else X) F E s' := fun {X} hX => by
      split
      · exact wpAny_bind (wpAny_rule hX)
      · exact hX
    refine kif ?_
    clear kif
    by_cases hn2 : vs.toArray.size < 2
    · rw [if_pos hn2, if_pos hn2]
      refine wpAny_bind (wpAny_pure ?_)
      refine wpAny_bind (wpAny_pure ?_)
      rw [List.size_toArray, hlen] at hn2
      refine fin _ s' P' ((List.range N).map (ixR rev N)) ?_ (fun x hx => ?_) (by simp) rfl pp hle LD' LS' ?_
      · apply Array.toList_inj.mp
        show ((if rev = true then (kA.zip vs.toArray).reverse else kA.zip vs.toArray).map (·.2)).toList = _
        generalize hit : (if rev = true then (kA.zip vs.toArray).reverse else kA.zip vs.toArray) = it at *
        have e := kas_range it
        rw [hits] at e
        rw [← e, Array.map_map, Array.toList_map, List.map_map]
        exact List.map_congr_left fun i hi => by
          have := (hitem i (List.mem_range.mp hi)).2
          show (kas_item it i).2 = _
          rw [this]; rfl
      · obtain ⟨i, hi, rfl⟩ := List.mem_map.mp hx
        exact (hitem i (List.mem_range.mp hi)).1
      · unfold sortIdx
        rw [if_pos hn2]
    rw [if_neg hn2, if_neg hn2]
    rw [List.size_toArray, hlen] at hn2
    have ek : kA = kA.toList.toArray := by simp
    have hlook : ∀ v ∈ kA.toList, Looks Θ.M s'.heap (typeOf v) T := fun v hv => by
      obtain ⟨i, hi, e⟩ := List.getElem_of_mem hv
      have hi' : i < N := by rw [Array.length_toList] at hi; omega
      have := rs.getD (f := kd) hi'
      rw [List.getD_eq_getElem?_getD, List.getElem?_eq_getElem hi, e] at this
      exact hT i hi' P' s' v hle pp.good this
    have kk : ∀ {Q' : SortKind → Shared → Prop}, Q' oneType' s' → wpAny Θ.M A (keyKind' kA) Q' E s' := fun {Q'} hq => by
      have := kas_kind (A := A) (E := E) (vs := kA.toList) (by rw [Array.length_toList]; omega) hlook hT1 hT2 hq
      rwa [← ek] at this
    refine wpAny_bind (kk ?_)
    generalize hit : (if rev = true then (kA.zip vs.toArray).reverse else kA.zip vs.toArray) = it at *
    have est : SortSt.mk' oneType' it #[] 7 none = kas_st oneType' it (List.toArray (List.range N)) := by
      have e := kas_range it
      rw [hits] at e
      show _ = SortSt.mk' oneType' ((List.toArray (List.range N)).map (kas_item it)) #[] 7 none
      rw [e]
    have hcmp : ∀ i j s C, i < N → j < N → (∃ P', Post Θ s0 s P0 P' ∧ P.le P' ∧ Loose Θ P' s.heap dA (seqObj "list" #[] e1) ∧ Loose Θ P' s.heap kS (seqObj "list" kA e) ∧ Reps P' kA.toList ((List.range N).map kd)) →
        (∀ s', (∃ P', Post Θ s0 s' P0 P' ∧ P.le P' ∧ Loose Θ P' s'.heap dA (seqObj "list" #[] e1) ∧ Loose Θ P' s'.heap kS (seqObj "list" kA e) ∧ Reps P' kA.toList ((List.range N).map kd)) → C (b (ixR rev N i) (ixR rev N j)) s') →
        kas_cmp Θ.prog Θ.w A oneType' it i j C s := by
      rintro i j s C hi hj ⟨P2, pp2, hle2, a1, a2, rs2⟩ hC
      unfold kas_cmp
      rw [(hitem i hi).2, (hitem j hj).2]
      exact hlt _ _ (hitem i hi).1 (hitem j hj).1 A s P2 _ _ _ _ R hle2 pp2.good (rs2.getD (hitem i hi).1) (rs2.getD (hitem j hj).1) fun s' P3 q => hC s' ⟨P3, pp2.trans q, hle2.trans q.le, a1.post q, a2.post q, rs2.mono q.le⟩
    have run := kas_runs (prog := Θ.prog) (w := Θ.w) (A := A) (E := E) (κ := oneType') (it := it) (n := N) (s := s')
      (G := fun q s' => q = runT (fun i j => b (ixR rev N i) (ixR rev N j)) (kas_sort N) ∧ ∃ P', Post Θ s0 s' P0 P' ∧ P.le P' ∧ Loose Θ P' s'.heap dA (seqObj "list" #[] e1) ∧ Loose Θ P' s'.heap kS (seqObj "list" kA e) ∧ Reps P' kA.toList ((List.range N).map kd))
      (Q := fun _ st' s' => arrOf st' = (runT (fun i j => b (ixR rev N i) (ixR rev N j)) (kas_sort N)).map (kas_item it) ∧ (runT (fun i j => b (ixR rev N i) (ixR rev N j)) (kas_sort N)).size = N ∧ failedOf st' = none ∧ ∃ P', Post Θ s0 s' P0 P' ∧ P.le P' ∧ Loose Θ P' s'.heap dA (seqObj "list" #[] e1) ∧ Loose Θ P' s'.heap kS (seqObj "list" kA e) ∧ Reps P' kA.toList ((List.range N).map kd))
      (by omega) h64 (fun q st' s' a1 a2 a3 a4 => by obtain ⟨rfl, a5⟩ := a4; exact ⟨a2, a1, a3, a5⟩)
      (wp_runT (R := fun q => Bd N q) hcmp (kas_sort N) s' (all_sort (by omega)) ⟨P', pp, hle, LD', LS', rs⟩ fun s'' hI => ⟨rfl, hI⟩)
    rw [← est] at run
    refine wpAny_bind (wpAny_mono run ?_ fun _ _ e => e)
    have hbd : Bd N (runT (fun i j => b (ixR rev N i) (ixR rev N j)) (kas_sort N)) := AllT.run _ _ (all_sort (by omega))
    rintro ⟨⟨⟩, st'⟩ s4 ⟨har, hps, hfl, P4, p4, hle4, LD4, LS4, rs4⟩
    dsimp only at har hps hfl p4 LD4 LS4 ⊢
    refine fin st' s4 P4 ((runT (fun i j => b (ixR rev N i) (ixR rev N j)) (kas_sort N)).toList.map (ixR rev N)) ?_ (fun x hx => ?_) (by rw [List.length_map, Array.length_toList, hps]) hfl p4 hle4 LD4 LS4 ?_
    · apply Array.toList_inj.mp
      rw [har, Array.map_map, Array.toList_map, List.map_map]
      exact List.map_congr_left fun i hi => by
        have := (hitem i (hbd i hi)).2
        show (kas_item it i).2 = _
        rw [this]; rfl
    · obtain ⟨i, hi, rfl⟩ := List.mem_map.mp hx
      exact (hitem i (hbd i hi)).1
    · unfold sortIdx
      rw [if_neg hn2]
end
end Mine
namespace Mine
open PySem PySem.W PySem.W.X PyProof.Rows PySem.Calls PySem.Spec
section
variable {Θ : Th} {n : Nat} {P₀ : Fz} {env : Env} {σ : Store} {tabs : TabL}
theorem wp_sortedL {A : Around} {s : Shared} {P : Fz} {Q E : Value → Shared → Prop} {N : Nat} {f : Addr} {v T : Value} {kd xd : Nat → D} {b : Nat → Nat → Bool} {rev : Bool} {kw : List (Str × Value)}
    (ha1 : ∀ x, argsOk "sorted" ⟨[.ref x], kw⟩) (ha2 : ∀ x, argsOk "list.sort" ⟨[.ref x], kw⟩) (ht : ∀ x, Builtin.«list.sort» ⟨[.ref x], kw⟩ = ksk_tree x (.ref f) rev)
    (R : Room (n + 2) A) (G : Good Θ P s.heap) (rv : Rep P v (.list ((List.range N).map xd))) (h64 : N < 64)
    (hf : ∀ i, i < N → CallOk Θ n P (.ref f) [xd i] (kd i))
    (hT : ∀ i, i < N → ∀ (P' : Fz) (s' : Shared) (u : Value), P.le P' → Good Θ P' s'.heap → Rep P' u (kd i) → Looks Θ.M s'.heap (typeOf u) T) (hT1 : (T != Value.type "tuple") = true) (hT2 : (T == T) = true)
    (hlt : ∀ i j, i < N → j < N → LtKey Θ n P (kd i) (kd j) (b i j))
    (hQ : ∀ r s' P', Post Θ s s' P P' → Rep P' r (.list ((sortIdx rev b N).map xd)) → Q r s') :
    wpAny Θ.M A (call (.builtin "sorted") [v] kw) Q E s := by
  cases rv with | @list l m vs _ hp hvr =>
  have hlen : vs.length = N := by rw [hvr.length]; simp
  have hl : s.heap.IsList l vs.toArray := ⟨_, G.has _ _ hp, rfl, _, rfl⟩
  refine call_function_entry_kw kind_sorted plain_sorted entry_sorted (ha1 _) ?_
  unfold Builtin.«sorted»
  refine wpAny_bind (m := checkCount "sorted" 1 1 _) (wpAny_pure ?_)
  refine wpAny_bind (collect_list hl ?_ (by rw [sizeLine_eq]; omega))
  have keep : ∀ b o, s.heap.get? b = some o → ((s.heap.push (seqObj "list" #[] 0)).update s.heap.objs.size (Obj.mapSeq (· ++ vs.toArray))).get? b = some o := fun b o q => by
    have hlt : b < s.heap.objs.size := Heap.lt_size q
    rw [Heap.get?_update_ne _ _ _ _ (Nat.ne_of_lt hlt), Heap.get?_push_ne _ _ _ (Nat.ne_of_lt hlt)]
    exact q
  generalize (s.heap.push (seqObj "list" #[] 0)).update s.heap.objs.size (Obj.mapSeq (· ++ vs.toArray)) = h1 at *
  have p1 : Post Θ s { s with heap := h1 } P P := Post.keeps (t := s.toks) G keep
  refine wpAny_bind (wpAny_newList ?_ (by rw [hlen, sizeLine_eq]; omega))
  dsimp only
  have hDn : s.heap.get? h1.objs.size = none := p1.back (none_of_size (Nat.le_refl _))
  have hoD : (h1.push (seqObj "list" vs.toArray 0)).get? h1.objs.size = some (seqObj "list" vs.toArray 0) := Heap.get?_push_size _ rfl
  have p2 : Post Θ s { s with heap := h1.push (seqObj "list" vs.toArray 0) } P P := p1.trans (Post.pushLoose (s := { s with heap := h1 }) (t := s.toks) p1.good)
  have LD : Loose Θ P (h1.push (seqObj "list" vs.toArray 0)) h1.objs.size (seqObj "list" vs.toArray 0) := .new p1.good (none_of_size (Nat.le_refl _)) hoD
  refine wpAny_bind (wpAny_holding (wpAny_call_entry_kw slot_list_sort ⟨_, LD.at_, rfl⟩ entry_list_sort ?body (ha2 _)))
  case body =>
    show wpAny Θ.M A.in1.in1 (Builtin.«list.sort» ⟨[.ref h1.objs.size], kw⟩) _ _ _
    rw [ht]
    refine wp_kskTreeG (n := n) (s0 := s) (P0 := P) R.in1.in1 p2 LD hDn hvr h64 hf hT hT1 hT2 hlt fun s' P' out c pp L rs => ⟨_, rfl, ?_⟩
    refine wpAny_pure ⟨_, rfl, hQ _ _ _ (pp.freeze hDn L.at_) (.list (Fz.add_at _ _ _) (rs.mono (Fz.add_le _ _ _)))⟩
/-- sorted(e, key=ke) of the first numbers -/
theorem EvS.sortedP {f : Str} {px pos kp : Pos} {e ke : Expr} {N : Nat} {kd : Nat → D} {T : Value} {b : Nat → Nat → Bool} (hf : FnS Θ env σ (.Name f px) (.builtin "sorted")) (he : EvS Θ (n + 2) P₀ env σ e (.list ((List.range N).map intD))) (hk : EvKey Θ n P₀ env σ ke N kd) (h64 : N < 64)
    (hT : ∀ i, i < N → ∀ (P' : Fz) (s' : Shared) (u : Value), P₀.le P' → Good Θ P' s'.heap → Rep P' u (kd i) → Looks Θ.M s'.heap (typeOf u) T) (hT1 : (T != Value.type "tuple") = true) (hT2 : (T == T) = true)
    (hlt : ∀ i j, i < N → j < N → LtKey Θ n P₀ (kd i) (kd j) (b i j))
    (hc : eval (.Call (.Name f px) [e] [⟨some (Str.ofString "key"), ke, kp⟩] pos) env = (do callWith pos (← eval (.Name f px) env) [] (backTo pos (starEach [e] env)) (backToKw pos (keywordEach [⟨some (Str.ofString "key"), ke, kp⟩] env))) := by rfl)
    (h3 : backTo pos (starEach [e] env) = (false, eval e env) :: backTo pos (starEach [] env) := by rfl) (h4 : (backTo pos (starEach [e] env)).any (·.1) = false := by rfl) (h5 : starEach [e] env = (false, eval e env) :: starEach [] env := by rfl) :
    EvS Θ (n + 2) P₀ env σ (.Call (.Name f px) [e] [⟨some (Str.ofString "key"), ke, kp⟩] pos) (.list ((sortIdx false b N).map intD)) :=
  fun A s P Q E R l S h => Call_kw (hf A s P _ _ S (callWith_kw ((EvSs.cons he EvSs.nil h5) A s P pos _ _ R l S fun vs s₁ P₁ p₁ rs => by
    cases rs with | @cons v _ _ _ r rs =>
    cases rs
    refine kwAll_cons (hk A s₁ P₁ _ _ R (l.trans p₁.le) (S.post p₁) fun fa s₂ P₂ p₂ hfa => kwAll_nil ?_)
    exact wp_sortedL (n := n) (fun _ => ksk_s1 _ _) (fun _ => ksk_l1 _ _) (fun _ => ksk_t1 _ _) R p₂.good (r.mono p₂.le) h64 hfa (fun i hi P' s' u hl => hT i hi P' s' u (l.trans (p₁.le.trans (p₂.le.trans hl)))) hT1 hT2 (fun i j hi hj => (hlt i j hi hj).mono (l.trans (p₁.le.trans p₂.le)))
      fun r s' P' p₃ rr => h r s' P' ((p₁.trans p₂).trans p₃) rr) h3 h4)) hc
/-- sorted(e, key=k, reverse=True) -/
theorem EvS.sortedR {f k : Str} {px pos kp kx rp cp : Pos} {c0 : Nat} {e : Expr} {N : Nat} {kd xd : Nat → D} {fa : Addr} {T : Value} {b : Nat → Nat → Bool} (hf : FnS Θ env σ (.Name f px) (.builtin "sorted")) (he : EvS Θ (n + 2) P₀ env σ e (.list ((List.range N).map xd))) (hk : EvS Θ (n + 2) P₀ env σ (.Name k kx) (.ref fa)) (h64 : N < 64)
    (hfa : ∀ i, i < N → CallOk Θ n P₀ (.ref fa) [xd i] (kd i))
    (hT : ∀ i, i < N → ∀ (P' : Fz) (s' : Shared) (u : Value), P₀.le P' → Good Θ P' s'.heap → Rep P' u (kd i) → Looks Θ.M s'.heap (typeOf u) T) (hT1 : (T != Value.type "tuple") = true) (hT2 : (T == T) = true)
    (hlt : ∀ i j, i < N → j < N → LtKey Θ n P₀ (kd i) (kd j) (b i j))
    (hc : eval (.Call (.Name f px) [e] [⟨some (Str.ofString "key"), .Name k kx, kp⟩, ⟨some (Str.ofString "reverse"), .Constant (.bool true) c0 cp, rp⟩] pos) env = (do callWith pos (← eval (.Name f px) env) [] (backTo pos (starEach [e] env)) (backToKw pos (keywordEach [⟨some (Str.ofString "key"), .Name k kx, kp⟩, ⟨some (Str.ofString "reverse"), .Constant (.bool true) c0 cp, rp⟩] env))) := by rfl)
    (h3 : backTo pos (starEach [e] env) = (false, eval e env) :: backTo pos (starEach [] env) := by rfl) (h4 : (backTo pos (starEach [e] env)).any (·.1) = false := by rfl) (h5 : starEach [e] env = (false, eval e env) :: starEach [] env := by rfl) :
    EvS Θ (n + 2) P₀ env σ (.Call (.Name f px) [e] [⟨some (Str.ofString "key"), .Name k kx, kp⟩, ⟨some (Str.ofString "reverse"), .Constant (.bool true) c0 cp, rp⟩] pos) (.list ((sortIdx true b N).map xd)) :=
  fun A s P Q E R l S h => Call_kw (hf A s P _ _ S (callWith_kw ((EvSs.cons he EvSs.nil h5) A s P pos _ _ R l S fun vs s₁ P₁ p₁ rs => by
    cases rs with | @cons v _ _ _ r rs =>
    cases rs
    refine kwAll_cons (hk A s₁ P₁ _ _ R (l.trans p₁.le) (S.post p₁) fun va s₂ P₂ p₂ ra => kwAll_cons (EvS.bool A s₂ P₂ _ _ R (l.trans (p₁.le.trans p₂.le)) ((S.post p₁).post p₂) fun vb s₃ P₃ p₃ rb => kwAll_nil ?_))
    cases ra; cases rb
    have hl := l.trans (p₁.le.trans (p₂.le.trans p₃.le))
    exact wp_sortedL (n := n) (fun _ => ksk_s2 _ _ _) (fun _ => ksk_l2 _ _ _) (fun _ => ksk_t2 _ _ _) R p₃.good (r.mono (p₂.le.trans p₃.le)) h64 (fun i hi => (hfa i hi).mono (Nat.le_refl _) hl) (fun i hi P' s' u hl' => hT i hi P' s' u (hl.trans hl')) hT1 hT2 (fun i j hi hj => (hlt i j hi hj).mono hl)
      fun r s' P' p₄ rr => h r s' P' (((p₁.trans p₂).trans p₃).trans p₄) rr) h3 h4)) hc
end
end Mine
namespace Mine
open PySem PySem.W

/-! a number's bits, the highest first -/
noncomputable def bits4 (d : Nat) : List Nat := [3, 2, 1, 0].filter fun b => d / 2 ^ b % 2 == 1
noncomputable def memF (l : List Nat) (d : Nat) : List Nat := l.map (· + 4) ++ bits4 d
noncomputable def bits (n : Nat) : List Nat := if h : n = 0 then [] else memF (bits (n / 16)) (n % 16)
decreasing_by exact Nat.div_lt_self (Nat.pos_of_ne_zero h) (by decide)
theorem bits_zero : bits 0 = [] := by rw [bits]; rfl
theorem bits_eq (n : Nat) : bits n = memF (bits (n / 16)) (n % 16) := by
  by_cases h : n = 0
  · subst h
    show bits 0 = memF (bits 0) 0
    rw [bits_zero]; rfl
  · rw [bits, dif_neg h]
theorem fold_low (n : Nat) : ∀ i, (low n i).foldl (fun l (c : UInt8) => memF l (c.toNat - 65)) (bits (n / 16 ^ i)) = bits n
  | 0 => by simp [low]
  | i + 1 => by
    have e : low n (i + 1) = dig (n / 16 ^ i % 16) :: low n i := rfl
    have d : (dig (n / 16 ^ i % 16)).toNat - 65 = n / 16 ^ i % 16 := by
      unfold dig
      have : n / 16 ^ i % 16 < 16 := Nat.mod_lt _ (by decide)
      generalize n / 16 ^ i % 16 = m at *
      rw [UInt8.toNat_ofNat']
      omega
    rw [e, List.foldl_cons, d]
    have := fold_low n i
    rw [bits_eq (n / 16 ^ i)] at this
    rw [show n / 16 ^ (i + 1) = n / 16 ^ i / 16 by rw [Nat.pow_succ, Nat.div_div_eq_div_mul]]
    exact this
theorem fold_ap (n : Nat) : (ap n).foldl (fun l (c : UInt8) => memF l (c.toNat - 65)) [] = bits n := by
  have := fold_low n (cnt n)
  rw [cnt_zero, bits_zero] at this
  exact this
theorem bits4_mem (d b : Nat) : b ∈ bits4 d ↔ b < 4 ∧ d.testBit b = true := by
  unfold bits4
  rw [List.mem_filter, Nat.testBit_eq_decide_div_mod_eq, beq_iff_eq, decide_eq_true_eq]
  have : b ∈ [3, 2, 1, 0] ↔ b < 4 := by simp; omega
  rw [this]
theorem bits_mem (n : Nat) : ∀ b, b ∈ bits n ↔ n.testBit b = true := by
  induction n using Nat.strongRecOn with
  | ind n ih =>
    intro b
    by_cases h : n = 0
    · subst h; rw [bits_zero]; simp
    rw [bits_eq, memF, List.mem_append, List.mem_map, bits4_mem]
    have ih := ih (n / 16) (Nat.div_lt_self (Nat.pos_of_ne_zero h) (by decide))
    by_cases hb : b < 4
    · constructor
      · rintro (⟨c, _, rfl⟩ | ⟨_, h2⟩)
        · omega
        · rw [show (16 : Nat) = 2 ^ 4 from rfl, Nat.testBit_mod_two_pow] at h2
          simpa [hb] using h2
      · intro h2
        refine .inr ⟨hb, ?_⟩
        rw [show (16 : Nat) = 2 ^ 4 from rfl, Nat.testBit_mod_two_pow]
        simp [hb, h2]
    · have e : n.testBit b = (n / 16).testBit (b - 4) := by
        rw [show (16 : Nat) = 2 ^ 4 from rfl, Nat.testBit_div_two_pow]
        congr 1; omega
      rw [e, ← ih]
      constructor
      · rintro (⟨c, hc, rfl⟩ | ⟨h1, _⟩)
        · simpa using hc
        · exact absurd h1 hb
      · intro hc
        exact .inl ⟨b - 4, hc, by omega⟩
theorem bits_desc (n : Nat) : (bits n).Pairwise (· > ·) := by
  induction n using Nat.strongRecOn with
  | ind n ih =>
    by_cases h : n = 0
    · subst h; rw [bits_zero]; exact .nil
    rw [bits_eq, memF]
    refine List.pairwise_append.mpr ⟨?_, ?_, ?_⟩
    · exact List.pairwise_map.mpr ((ih (n / 16) (Nat.div_lt_self (Nat.pos_of_ne_zero h) (by decide))).imp fun h => by omega)
    · exact List.Pairwise.filter _ (by decide)
    · intro a ha b hb
      obtain ⟨c, _, rfl⟩ := List.mem_map.mp ha
      have := ((bits4_mem _ _).mp hb).1
      omega
theorem desc_ext : ∀ {l l' : List Nat}, l.Pairwise (· > ·) → l'.Pairwise (· > ·) → (∀ x, x ∈ l ↔ x ∈ l') → l = l'
  | [], [], _, _, _ => rfl
  | [], y :: l', _, _, h => absurd ((h y).mpr (.head _)) (by simp)
  | x :: l, [], _, _, h => absurd ((h x).mp (.head _)) (by simp)
  | x :: l, y :: l', h1, h2, h => by
    have a1 := List.pairwise_cons.mp h1
    have a2 := List.pairwise_cons.mp h2
    have e : x = y := by
      rcases List.mem_cons.mp ((h x).mp (.head _)) with e | e
      · exact e
      · rcases List.mem_cons.mp ((h y).mpr (.head _)) with f | f
        · exact f.symm
        · have := a2.1 x e; have := a1.1 y f; omega
    subst e
    refine congrArg _ (desc_ext a1.2 a2.2 fun z => ⟨fun hz => ?_, fun hz => ?_⟩)
    · rcases List.mem_cons.mp ((h z).mp (.tail _ hz)) with e | e
      · have := a1.1 z hz; omega
      · exact e
    · rcases List.mem_cons.mp ((h z).mpr (.tail _ hz)) with e | e
      · have := a2.1 z hz; omega
      · exact e
theorem bits_lt {n b k : Nat} (h : b ∈ bits n) (hn : n < 2 ^ k) : b < k := by
  have := (bits_mem n b).mp h
  by_cases hb : b < k
  · exact hb
  · rw [Nat.testBit_lt_two_pow (Nat.lt_of_lt_of_le hn (Nat.pow_le_pow_right (by decide) (Nat.le_of_not_lt hb)))] at this
    cases this
theorem bits_lt_self {n b : Nat} (h : b ∈ bits n) : b < n := bits_lt h Nat.lt_two_pow_self
/-- the set of a number -/
noncomputable def ack (n : Nat) : HF := .mk ((bits n).attach.map fun b => ack b.1)
decreasing_by exact bits_lt_self b.2
noncomputable def acks (n : Nat) : List HF := (bits n).map ack
theorem ack_eq (n : Nat) : ack n = .mk (acks n) := by
  rw [ack]
  exact congrArg HF.mk (List.attach_map_val (l := bits n) (f := ack))
theorem num_ack (n : Nat) : (ack n).num = n := by
  induction n using Nat.strongRecOn with
  | ind n ih =>
    rw [ack_eq]
    show nums (acks n) = n
    refine Nat.eq_of_testBit_eq fun i => Bool.eq_iff_iff.mpr ?_
    rw [nums_bit, ← bits_mem]
    constructor
    · rintro ⟨x, hx, rfl⟩
      obtain ⟨b, hb, rfl⟩ := List.mem_map.mp hx
      rw [ih b (bits_lt_self hb)]
      exact hb
    · intro hi
      exact ⟨ack i, List.mem_map.mpr ⟨i, hi, rfl⟩, ih i (bits_lt_self hi)⟩
theorem ack_inj {m n : Nat} (h : ack m = ack n) : m = n := by rw [← num_ack m, h, num_ack]
theorem rank_ack {n k t : Nat} (hn : n < 2 ^ k) (h : ∀ m, m < k → (ack m).rank ≤ t) : (ack n).rank ≤ t + 1 := by
  rw [ack_eq]
  refine rank_le fun x hx => ?_
  obtain ⟨b, hb, rfl⟩ := List.mem_map.mp hx
  exact Nat.succ_le_succ (h b (bits_lt hb hn))
theorem rank_0 : ∀ m, m < 1 → (ack m).rank ≤ 0 := fun m h => by
  have : m = 0 := by omega
  subst this
  rw [ack_eq, acks, bits_zero]; exact Nat.le_refl _
theorem rank_1 : ∀ m, m < 2 → (ack m).rank ≤ 1 := fun m h => rank_ack (k := 1) h rank_0
theorem rank_2 : ∀ m, m < 4 → (ack m).rank ≤ 2 := fun m h => rank_ack (k := 2) h rank_1
theorem rank_3 : ∀ m, m < 16 → (ack m).rank ≤ 3 := fun m h => rank_ack (k := 4) h rank_2
theorem rank_4 : ∀ m, m < 65536 → (ack m).rank ≤ 4 := fun m h => rank_ack (k := 16) h rank_3
theorem rank_5 : ∀ m, m < 131072 → (ack m).rank ≤ 5 := fun m h => rank_ack (k := 17) h fun m h => rank_4 m (by omega)
/-! order -/
noncomputable def valD : List Nat → Nat
  | [] => 0
  | x :: xs => 2 ^ x + valD xs
theorem valD_append (l l' : List Nat) : valD (l ++ l') = valD l + valD l' := by
  induction l with
  | nil => simp [valD]
  | cons x l ih => show 2 ^ x + valD (l ++ l') = 2 ^ x + valD l + valD l'; rw [ih]; omega
theorem valD_up (l : List Nat) : valD (l.map (· + 4)) = 16 * valD l := by
  induction l with
  | nil => rfl
  | cons x l ih => show 2 ^ (x + 4) + valD (l.map (· + 4)) = 16 * (2 ^ x + valD l); rw [ih, Nat.pow_add]; omega
theorem valD_4 : ∀ d, d < 16 → valD (bits4 d) = d := by decide
theorem valD_bits (n : Nat) : valD (bits n) = n := by
  induction n using Nat.strongRecOn with
  | ind n ih =>
    by_cases h : n = 0
    · subst h; rw [bits_zero]; rfl
    rw [bits_eq, memF, valD_append, valD_up, ih _ (Nat.div_lt_self (Nat.pos_of_ne_zero h) (by decide)), valD_4 _ (Nat.mod_lt _ (by decide))]
    omega
theorem valD_lt : ∀ {x : Nat} {l : List Nat}, (x :: l).Pairwise (· > ·) → valD (x :: l) < 2 ^ (x + 1)
  | x, [], _ => by show 2 ^ x + 0 < _; rw [Nat.pow_succ]; have := Nat.two_pow_pos x; omega
  | x, y :: l, h => by
    have a := List.pairwise_cons.mp h
    have h1 := valD_lt a.2
    have h2 : y + 1 ≤ x := a.1 y (.head _)
    have h3 : 2 ^ (y + 1) ≤ 2 ^ x := Nat.pow_le_pow_right (by decide) h2
    show 2 ^ x + valD (y :: l) < _
    rw [Nat.pow_succ]; omega
noncomputable def Sgn (z : Int) (m n : Nat) : Prop := (z < 0 ↔ m < n) ∧ (z = 0 ↔ m = n)
theorem lex_sgn : ∀ {xs ys : List Nat}, xs.Pairwise (· > ·) → ys.Pairwise (· > ·) → (∀ x ∈ xs, ∀ y, Sgn (ord (ack x) (ack y)) x y) → Sgn (ordZ (xs.map ack) (ys.map ack)) (valD xs) (valD ys)
  | [], [], _, _, _ => by
    show Sgn (-(([] : List HF).length : Int)) 0 0
    simp [Sgn]
  | [], y :: ys, _, _, _ => by
    show Sgn (-(((y :: ys).map ack).length : Int)) 0 (2 ^ y + valD ys)
    have := Nat.two_pow_pos y
    rw [List.length_map, List.length_cons]
    unfold Sgn
    omega
  | x :: xs, [], _, _, _ => by
    show Sgn (((xs.map ack).length : Int) + 1) (2 ^ x + valD xs) 0
    have := Nat.two_pow_pos x
    unfold Sgn
    omega
  | x :: xs, y :: ys, h1, h2, h => by
    have a1 := List.pairwise_cons.mp h1
    have a2 := List.pairwise_cons.mp h2
    have b1 := valD_lt h1
    have b2 := valD_lt h2
    have s := h x (.head _) y
    show Sgn (if ord (ack x) (ack y) = 0 then ordZ (xs.map ack) (ys.map ack) else ord (ack x) (ack y)) (2 ^ x + valD xs) (2 ^ y + valD ys)
    have e1 : valD (x :: xs) = 2 ^ x + valD xs := rfl
    have e2 : valD (y :: ys) = 2 ^ y + valD ys := rfl
    rw [e1] at b1
    rw [e2] at b2
    split
    · rename_i h0
      have e := s.2.mp h0
      subst e
      have ih := lex_sgn a1.2 a2.2 fun z hz => h z (.tail _ hz)
      unfold Sgn at ih ⊢
      omega
    · rename_i h0
      have hne : x ≠ y := fun e => h0 (s.2.mpr e)
      rcases Nat.lt_or_gt_of_ne hne with hl | hl
      · have h3 : 2 ^ (x + 1) ≤ 2 ^ y := Nat.pow_le_pow_right (by decide) hl
        have := s.1.mpr hl
        unfold Sgn
        omega
      · have h3 : 2 ^ (y + 1) ≤ 2 ^ x := Nat.pow_le_pow_right (by decide) hl
        have : ¬ ord (ack x) (ack y) < 0 := fun e => by have := s.1.mp e; omega
        unfold Sgn
        omega
theorem ord_sgn (m : Nat) : ∀ n, Sgn (ord (ack m) (ack n)) m n := by
  induction m using Nat.strongRecOn with
  | ind m ih =>
    intro n
    have := lex_sgn (bits_desc m) (bits_desc n) fun x hx y => ih x (bits_lt_self hx) y
    rw [valD_bits, valD_bits] at this
    rw [ack_eq m, ack_eq n]
    exact this
/-! the set of the next number -/
theorem bits_next {n k : Nat} (h1 : ∀ i, i < k → n.testBit i = true) (h2 : n.testBit k = false) : bits (n + 1) = (bits n).filter (fun b => decide (k < b)) ++ [k] := by
  have hm : n % 2 ^ (k + 1) = 2 ^ k - 1 := by
    refine Nat.eq_of_testBit_eq fun i => ?_
    rw [Nat.testBit_mod_two_pow, Nat.testBit_two_pow_sub_one]
    by_cases hi : i < k
    · simp [hi, h1 i hi]; omega
    · by_cases hk : i = k
      · subst hk; simp [h2]
      · simp [hi]; intro h; omega
  have hp := Nat.two_pow_pos k
  have hq : n + 1 = 2 ^ (k + 1) * (n / 2 ^ (k + 1)) + 2 ^ k := by
    have := Nat.div_add_mod n (2 ^ (k + 1))
    omega
  refine desc_ext (bits_desc _) ?_ fun b => ?_
  · refine List.pairwise_append.mpr ⟨(bits_desc n).filter _, List.pairwise_singleton _ _, fun a ha b hb => ?_⟩
    have := (List.mem_filter.mp ha).2
    rw [List.mem_singleton.mp hb]
    simpa using this
  · rw [bits_mem, List.mem_append, List.mem_filter, bits_mem, List.mem_singleton, decide_eq_true_eq, hq, Nat.testBit_two_pow_mul_add _ (Nat.pow_lt_pow_right (by decide) (Nat.lt_succ_self k))]
    by_cases hb : b < k + 1
    · rw [if_pos hb, Nat.testBit_two_pow]
      simp; omega
    · rw [if_neg hb, Nat.testBit_div_two_pow, show b - (k + 1) + (k + 1) = b by omega]
      constructor
      · intro h; exact .inl ⟨h, by omega⟩
      · rintro (⟨h, _⟩ | h)
        · exact h
        · omega
/-! a row in falling order, each number once -/
theorem dedup_bits {ms : List Nat} {t : List HF} (hd : ms.Pairwise (· ≥ ·)) (hl : ms.length ≤ 3) (hm : ∀ i, i ∈ ms ↔ ∃ x ∈ t, x.num = i) :
    ((List.range ms.length).filter fun k => k == 0 || ms.getD k 0 != ms.getD (k - 1) 0).map (fun k => ms.getD k 0) = bits (nums t) := by
  refine desc_ext ?_ (bits_desc _) fun b => ?_
  · match ms, hd, hl with
    | [], _, _ => exact .nil
    | [a], _, _ => exact List.pairwise_singleton _ _
    | [a, b], hd, _ =>
      have h1 : a ≥ b := by simpa using hd
      by_cases e : b = a
      · subst e; simp [List.range_succ]
      · simp [List.range_succ, e]; omega
    | [a, b, c], hd, _ =>
      have h1 : (a ≥ b ∧ a ≥ c) ∧ b ≥ c := by simpa using hd
      by_cases e : b = a
      · subst e
        by_cases f : c = b
        · subst f; simp [List.range_succ]
        · simp [List.range_succ, f]; omega
      · by_cases f : c = b
        · subst f; simp [List.range_succ, e]; omega
        · simp [List.range_succ, e, f]; omega
  · rw [bits_mem, nums_bit, ← hm]
    match ms, hd, hl with
    | [], _, _ => simp
    | [a], _, _ => simp [List.range_succ]
    | [a, c], _, _ =>
      by_cases e : c = a
      · subst e; simp [List.range_succ]
      · simp [List.range_succ, e]
    | [a, c, d], _, _ =>
      by_cases e : c = a
      · subst e
        by_cases f : d = c
        · subst f; simp [List.range_succ]
        · simp [List.range_succ, f]
      · by_cases f : d = c
        · subst f; simp [List.range_succ, e]
        · simp [List.range_succ, e, f]
end Mine
namespace Mine
open PySem PySem.W PySem.W.X PyProof.Rows PySem.Calls PySem.Spec

/-! what the sort of at most three gives -/
theorem sortIdx_congr {rev : Bool} {N : Nat} {b b' : Nat → Nat → Bool} (h : ∀ i j, i < N → j < N → b i j = b' i j) : sortIdx rev b N = sortIdx rev b' N := by
  unfold sortIdx
  by_cases hN : N < 2
  · rw [if_pos hN, if_pos hN]
  · rw [if_neg hN, if_neg hN]
    have hix : ∀ i, i < N → ixR rev N i < N := fun i hi => by unfold ixR; split <;> omega
    have e : runT (fun i j => b (ixR rev N i) (ixR rev N j)) (kas_sort N) = runT (fun i j => b' (ixR rev N i) (ixR rev N j)) (kas_sort N) :=
      runT_congr (N := N) (R := fun q => Bd N q) (fun i j hi hj => h _ _ (hix i hi) (hix j hj)) _ (all_sort (by omega))
    rw [e]
noncomputable def at3 (a b c : Nat) (i : Nat) : Nat := if i = 0 then a else if i = 1 then b else c
noncomputable abbrev Srt (N : Nat) (f : Nat → Nat) (o : List Nat) : Prop := o.Pairwise (fun i j => f i ≥ f j) ∧ (∀ i, i < N → i ∈ o) ∧ (∀ i ∈ o, i < N) ∧ o.length = N
noncomputable def srtB (N a b c : Nat) : Bool := decide (Srt N (at3 a b c) (sortIdx true (fun i j => decide (at3 a b c i < at3 a b c j)) N))
theorem srtB3 : ∀ a, a < 3 → ∀ b, b < 3 → ∀ c, c < 3 → srtB 3 a b c = true := by decide +kernel
theorem srtB2 : ∀ a, a < 3 → ∀ b, b < 3 → srtB 2 a b b = true := by decide +kernel
theorem srt3 (a : Nat) (ha : a < 3) (b : Nat) (hb : b < 3) (c : Nat) (hc : c < 3) : Srt 3 (at3 a b c) (sortIdx true (fun i j => decide (at3 a b c i < at3 a b c j)) 3) := of_decide_eq_true (srtB3 a ha b hb c hc)
theorem srt2 (a : Nat) (ha : a < 3) (b : Nat) (hb : b < 3) : Srt 2 (at3 a b b) (sortIdx true (fun i j => decide (at3 a b b i < at3 a b b j)) 2) := of_decide_eq_true (srtB2 a ha b hb)
noncomputable def rk (a b c m : Nat) : Nat := (if a < m then 1 else 0) + (if b < m then 1 else 0) + (if c < m then 1 else 0)
theorem rk_le {a b c m m' : Nat} (h : m ≤ m') : rk a b c m ≤ rk a b c m' := by
  have k : ∀ x, (if x < m then 1 else 0) ≤ (if x < m' then 1 else 0) := fun x => by
    by_cases h1 : x < m
    · rw [if_pos h1, if_pos (Nat.lt_of_lt_of_le h1 h)]; exact Nat.le_refl _
    · rw [if_neg h1]; exact Nat.zero_le _
  unfold rk
  exact Nat.add_le_add (Nat.add_le_add (k a) (k b)) (k c)
theorem rk_lt {a b c m m' : Nat} (hm : m = a ∨ m = b ∨ m = c) (h : m < m') : rk a b c m < rk a b c m' := by
  have k : ∀ x, (if x < m then 1 else 0) ≤ (if x < m' then 1 else 0) := fun x => by
    by_cases h1 : x < m
    · rw [if_pos h1, if_pos (Nat.lt_trans h1 h)]; exact Nat.le_refl _
    · rw [if_neg h1]; exact Nat.zero_le _
  have k0 : (if m < m then 1 else 0) < (if m < m' then 1 else 0) := by rw [if_neg (Nat.lt_irrefl _), if_pos h]; exact Nat.one_pos
  unfold rk
  have ka := k a
  have kb := k b
  have kc := k c
  rcases hm with e | e | e <;> rw [← e] at * <;> omega
theorem rk_iff {a b c m m' : Nat} (hm : m = a ∨ m = b ∨ m = c) (hm' : m' = a ∨ m' = b ∨ m' = c) : rk a b c m < rk a b c m' ↔ m < m' := by
  refine ⟨fun h => ?_, rk_lt hm⟩
  rcases Nat.lt_or_ge m m' with h1 | h1
  · exact h1
  · exact absurd h (Nat.not_lt.mpr (rk_le h1))
theorem rk_bound {a b c m : Nat} (hm : m = a ∨ m = b ∨ m = c) : rk a b c m < 3 := by
  have k : ∀ x, (if x < m then 1 else 0) ≤ 1 := fun x => by split <;> omega
  have k0 : (if m < m then 1 else 0) = 0 := if_neg (Nat.lt_irrefl _)
  unfold rk
  have ka := k a
  have kb := k b
  have kc := k c
  rcases hm with e | e | e <;> rw [← e] at * <;> omega
theorem sort_le3 {N : Nat} (hN : N ≤ 3) (ms : Nat → Nat) : Srt N ms (sortIdx true (fun i j => decide (ms i < ms j)) N) := by
  have key : ∀ (N : Nat) (a b c : Nat), (∀ i, i < N → ms i = at3 a b c i ∧ (ms i = a ∨ ms i = b ∨ ms i = c)) →
      Srt N (at3 (rk a b c a) (rk a b c b) (rk a b c c)) (sortIdx true (fun i j => decide (at3 (rk a b c a) (rk a b c b) (rk a b c c) i < at3 (rk a b c a) (rk a b c b) (rk a b c c) j)) N) →
      Srt N ms (sortIdx true (fun i j => decide (ms i < ms j)) N) := by
    intro N a b c h hs
    have e : ∀ i, i < N → at3 (rk a b c a) (rk a b c b) (rk a b c c) i = rk a b c (ms i) := fun i hi => by
      rw [(h i hi).1]
      unfold at3
      split
      · rfl
      · split <;> rfl
    rw [sortIdx_congr (b' := fun i j => decide (ms i < ms j)) (fun i j hi hj => by
      rw [e i hi, e j hj]
      exact decide_eq_decide.mpr (rk_iff (h i hi).2 (h j hj).2))] at hs
    obtain ⟨h1, h2, h3, h4⟩ := hs
    refine ⟨?_, h2, h3, h4⟩
    refine List.Pairwise.imp_of_mem (fun {i j} hi hj hij => ?_) h1
    rw [e i (h3 i hi), e j (h3 j hj)] at hij
    rcases Nat.lt_or_ge (ms i) (ms j) with q | q
    · have := rk_lt (a := a) (b := b) (c := c) (h i (h3 i hi)).2 q
      omega
    · exact q
  match N, hN with
  | 0, _ => exact ⟨.nil, fun i hi => by omega, fun i hi => (by cases hi), rfl⟩
  | 1, _ =>
    refine ⟨List.pairwise_singleton _ _, fun i hi => ?_, fun i hi => ?_, rfl⟩
    · have e : i = 0 := by omega
      subst e
      exact .head _
    · have := List.mem_singleton.mp (show i ∈ [0] from hi)
      omega
  | 2, _ =>
    refine key 2 (ms 0) (ms 1) (ms 1) (fun i hi => ?_) (srt2 _ (rk_bound (.inl rfl)) _ (rk_bound (.inr (.inl rfl))))
    have : i = 0 ∨ i = 1 := by omega
    rcases this with rfl | rfl
    · exact ⟨rfl, .inl rfl⟩
    · exact ⟨rfl, .inr (.inl rfl)⟩
  | 3, _ =>
    refine key 3 (ms 0) (ms 1) (ms 2) (fun i hi => ?_) (srt3 _ (rk_bound (.inl rfl)) _ (rk_bound (.inr (.inl rfl))) _ (rk_bound (.inr (.inr rfl))))
    have : i = 0 ∨ i = 1 ∨ i = 2 := by omega
    rcases this with rfl | rfl | rfl
    · exact ⟨rfl, .inl rfl⟩
    · exact ⟨rfl, .inr (.inl rfl)⟩
    · exact ⟨rfl, .inr (.inr rfl)⟩
end Mine
namespace Mine
open PySem PySem.W PyProof.Rows PySem.Calls PySem.Spec

/-! law 02's functions -/
structure FnTab (Θ : Th) (tabs : TabL) (k : Nat) (a : Addr) (q : Str) : Prop where
  g : Θ.mg (nameOf (stm pw k)) = some (.ref a)
  d : ∃ pm c t doc, DefAt Θ.K0 a (fdOf pw k pm (.ref c) doc) (bodyOf (stm pw k)) ∧ (c, t, q) ∈ tabs
theorem FnTab.at {Θ : Th} {tabs : TabL} {k : Nat} {a : Addr} {q : Str} (F : FnTab Θ tabs k a q) : FnAt Θ pw k a := ⟨F.g, let ⟨pm, c, _, doc, h, _⟩ := F.d; ⟨pm, .ref c, doc, h⟩⟩
theorem FnAt.fn {Θ : Th} {P₀ : Fz} {k : Nat} {a : Addr} (F : FnAt Θ pw k a) (hl : Θ.K0.le P₀) : FunAt P₀ a := let ⟨_, _, _, h⟩ := F.d; (h.mono hl).fun
noncomputable def numQ : Str := Str.ofString "_law_number.<locals>.<lambda>"
noncomputable def memQ : Str := Str.ofString "_law_members.<locals>.<lambda>"
structure Ctx (Θ : Th) (tabs : TabL) where
  B : Blts Θ
  zip : Blt Θ (Str.ofString "zip") (.type "zip")
  list : Blt Θ (Str.ofString "list") (.type "list")
  TS : Tabs Θ tabs
  ra : Addr
  rm : Addr
  Rd : RedAt Θ ra rm
  i2 : Addr
  i2d : FnAt Θ pw 5 i2
  drawn : Addr
  drawnd : FnAt Θ pw 7 drawn
  number : Addr
  numberd : FnTab Θ tabs 8 number numQ
  bits_ : Addr
  bitsd : FnAt Θ pw 9 bits_
  memb : Addr
  membd : FnTab Θ tabs 10 memb memQ
  firsts : Addr
  firstsd : FnAt Θ pw 11 firsts
  order : Addr
  orderd : FnAt Θ pw 12 order
  plain : Addr
  plaind : FnAt Θ pw 13 plain
  next : Addr
  nextd : FnAt Θ pw 14 next
noncomputable def onInt (f : Int → D) : D → D
  | .int x => f x
  | d => d
noncomputable def onIntB (f : Int → Bool) : D → Bool
  | .int x => f x
  | _ => false
theorem filter_true {α : Type} (l : List α) : l.filter (fun _ => true) = l := List.filter_eq_self.mpr fun _ _ => rfl
theorem RedAt.fn {Θ : Th} {P₀ : Fz} {ra rm : Addr} (F : RedAt Θ ra rm) (hl : Θ.K0.le P₀) : FunAt P₀ ra := let ⟨_, _, _, _, _, hd, _⟩ := F.d; (hd.mono hl).fun
section
variable {Θ : Th} {n : Nat} {P₀ : Fz} {tabs : TabL}
/-- _law_bits -/
theorem bits_ok (X : Ctx Θ tabs) (hl : Θ.K0.le P₀) {d : Nat} (hd : d < 16) : CallOk Θ (n + 1) P₀ (.ref X.bits_) [.int ((65 + d : Nat) : Int)] (.list ((bits4 d).map intD)) := by
  obtain ⟨pm, cd, doc, hdf⟩ := X.bitsd.d
  refine CallOk.def (names := [Str.ofString "letter"]) (hdf.mono hl) (of1 fun _ => rfl) rfl (mem1 (.inr rfl)) fun L => ?_
  refine ExsS.ret (ExS.ret (EvS.to (EvS.comp (cl := [(Str.ofString "letter", L + 1)]) (σc := [(Str.ofString "letter", .int ((65 + d : Nat) : Int))]) (onIntB fun x => ((((65 + d : Nat) : Int) - 65).fdiv (2 ^ x.toNat)).fmod 2 == 1) (onInt fun x => .int x)
    (EvS.list (EvSs.cons EvS.int (EvSs.cons EvS.int (EvSs.cons EvS.int (EvSs.cons EvS.int EvSs.nil)))) (show (4 : Nat) ≤ 16777216 by decide)) IterOk.list (show (4 : Nat) ≤ 16777216 by decide) (fun C => ⟨⟨rfl, .inl rfl, rfl, (by show some NameKind.cell ≠ some NameKind.local; decide)⟩, trivial⟩) (fun C a ha => ?_) (fun C a ha _ => ?_) (by kernel_rfl)) ?_))
  · obtain ⟨b, hb, rfl⟩ : ∃ b ∈ [(3 : Int), 2, 1, 0], a = .int b := by
      simp only [List.mem_cons, List.not_mem_nil, or_false] at ha
      rcases ha with rfl | rfl | rfl | rfl <;> exact ⟨_, by simp, rfl⟩
    have hb2 : 0 ≤ b ∧ b ≤ 3 := by simp at hb; omega
    refine EvIfs.one (EvT.cmp (EvS.bin (EvS.bin (EvS.bin (EvS.name rfl) EvS.int OpOk.sub_int) (EvS.bin EvS.int (EvS.name rfl) (OpOk.pow_int (by decide) hb2.1 ?_)) (OpOk.div_int ?_)) EvS.int (OpOk.mod_int (by decide))) EvS.int OpOk.eq_int)
    · simp at hb
      rcases hb with rfl | rfl | rfl | rfl <;> decide
    · simp at hb
      rcases hb with rfl | rfl | rfl | rfl <;> decide
  · simp only [List.mem_cons, List.not_mem_nil, or_false] at ha
    rcases ha with rfl | rfl | rfl | rfl <;> exact EvS.name rfl
  · show D.list ((([3, 2, 1, 0] : List Nat).map intD).filter _ |>.map _) = _
    rw [List.filter_map, List.map_map]
    unfold bits4
    have e : ∀ b ∈ [3, 2, 1, 0], ((onIntB fun x => ((((65 + d : Nat) : Int) - 65).fdiv (2 ^ x.toNat)).fmod 2 == 1) ∘ intD) b = (d / 2 ^ b % 2 == 1) := fun b _ => by
      show (((((65 + d : Nat) : Int) - 65).fdiv (2 ^ ((b : Nat) : Int).toNat)).fmod 2 == 1) = _
      have e1 : (((65 + d : Nat) : Int) - 65) = (d : Int) := by omega
      have e2 : (2 : Int) ^ ((b : Nat) : Int).toNat = ((2 ^ b : Nat) : Int) := by rw [Int.toNat_natCast, Int.natCast_pow]; rfl
      rw [e1, e2, Int.fdiv_eq_ediv_of_nonneg _ (Int.natCast_nonneg _), ← Int.natCast_ediv, Int.fmod_eq_emod_of_nonneg _ (by decide)]
      refine Bool.eq_iff_iff.mpr ?_
      rw [beq_iff_eq, beq_iff_eq]
      omega
    rw [List.filter_congr e]
    rfl
/-- _law_members -/
theorem ap_dig (N : Nat) : ∀ c ∈ ap N, ∃ d, d < 16 ∧ c.toNat = 65 + d := by
  have : ∀ i, ∀ c ∈ low N i, ∃ d, d < 16 ∧ c.toNat = 65 + d := by
    intro i
    induction i with
    | zero => intro c hc; cases hc
    | succ i ih =>
      intro c hc
      rcases List.mem_cons.mp hc with rfl | hc
      · have hm : N / 16 ^ i % 16 < 16 := Nat.mod_lt _ (by decide)
        refine ⟨_, hm, ?_⟩
        unfold dig
        generalize N / 16 ^ i % 16 = m at *
        rw [UInt8.toNat_ofNat']
        omega
      · exact ih c hc
  exact this _
noncomputable def memL (b : List UInt8) : List Nat := b.foldl (fun l (c : UInt8) => memF l (c.toNat - 65)) []
theorem bits4_len (d : Nat) : (bits4 d).length ≤ 4 := List.length_filter_le _ _
theorem memL_len (b : List UInt8) : (memL b).length ≤ 4 * b.length := by
  have : ∀ (b : List UInt8) (l : List Nat), (b.foldl (fun l (c : UInt8) => memF l (c.toNat - 65)) l).length ≤ l.length + 4 * b.length := by
    intro b
    induction b with
    | nil => intro l; simp
    | cons c b ih =>
      intro l
      rw [List.foldl_cons]
      have := ih (memF l (c.toNat - 65))
      have h4 := bits4_len (c.toNat - 65)
      unfold memF at this
      rw [List.length_append, List.length_map] at this
      rw [List.length_cons]
      unfold memF
      omega
  have := this b []
  simpa [memL] using this
theorem members_ok (X : Ctx Θ tabs) (hl : Θ.K0.le P₀) {N : Nat} (hN : N < 16 ^ 30) : CallOk Θ (n + 4) P₀ (.ref X.memb) [.int (N : Int)] (.list ((bits N).map intD)) := by
  obtain ⟨pm, c, t, doc, hdf, hm⟩ := X.membd.d
  refine CallOk.def (names := [Str.ofString "number"]) (hdf.mono hl) (of1 fun _ => rfl) rfl (mem1 (.inl rfl)) fun L => ?_
  have hw := int2ap_ok (Θ := Θ) (P₀ := P₀) (n := n + 2) X.B X.i2d hl (i := (N : Int)) (by simpa using hN)
  rw [Int.natAbs_natCast] at hw
  refine ExsS.ret (ExS.ret (EvS.callLam X.TS (clos := []) hm rfl (by kernel_rfl) rfl rfl rfl (EvS.fn (FnS.global X.Rd.g)) (X.Rd.fn hl) (EvSs.cons (EvS.call (EvS.fn (FnS.global X.i2d.g)) (X.i2d.fn hl) (EvSs.cons (EvS.name rfl) EvSs.nil) hw) (EvSs.cons (EvS.list EvSs.nil (Nat.zero_le _)) EvSs.nil)) fun P₁ fa hl₁ La => ?_))
  obtain ⟨o, hmo, hmc⟩ := X.Rd.mobj
  obtain ⟨c', ctv, FF⟩ := La.funF (σf := []) (fun x d h => by simp at h) (fun x c h => by simp at h) .nil (by decide) rfl rfl rfl
  have hb : bytesD (ap N).toArray = (ap N).map fun c => D.int (c.toNat : Int) := by simp [bytesD]
  have key := reduce_ok (n := n + 1) X.Rd (hl.trans hl₁) (sd := .bytes (ap N).toArray) (ds := bytesD (ap N).toArray) IterOk.bytes (fun i => .list ((memL ((ap N).take i)).map intD)) FF.fun (OpOk.is_list (hl₁ _ _ (hl _ _ hmo)) hmc) fun i a ha => ?_
  · have e1 : (bytesD (ap N).toArray).length = (ap N).length := by rw [hb, List.length_map]
    rw [e1, List.take_length, List.take_zero] at key
    have e2 : memL (ap N) = bits N := fold_ap N
    rw [e2] at key
    exact key
  · rw [hb, List.getElem?_map] at ha
    obtain ⟨u, hu, rfl⟩ := Option.map_eq_some_iff.mp ha
    obtain ⟨d, hd, hud⟩ := ap_dig N u (List.mem_of_getElem? hu)
    have hi : i < (ap N).length := (List.getElem?_eq_some_iff.mp hu).1
    have hal : (ap N).length ≤ 30 := by unfold ap; rw [low_length]; exact cnt_le N 30 hN
    have hml := memL_len ((ap N).take i)
    rw [List.length_take] at hml
    have h4 := bits4_len d
    have e2 : memL ((ap N).take (i + 1)) = (memL ((ap N).take i)).map (· + 4) ++ bits4 d := by
      rw [List.take_add_one, hu]
      unfold memL
      rw [Option.toList_some, List.foldl_append, List.foldl_cons, List.foldl_nil, hud]
      show memF _ (65 + d - 65) = _
      rw [Nat.add_sub_cancel_left]; rfl
    rw [e2, List.map_append]
    refine CallOk.lamF (n := n + 1) FF rfl (names := [Str.ofString "so_far", Str.ofString "letter"]) (of2 fun _ _ => rfl) rfl (mem2 rfl rfl) (by decide) (by intro x _; rfl) fun L => ?_
    refine EvS.bin (EvS.to (EvS.comp (σc := []) (fun _ => true) (onInt fun x => .int (x + 4)) (EvS.name rfl) IterOk.list (by rw [List.length_map]; omega) (fun C => trivial) (fun C a ha => EvIfs.nil) (fun C a ha _ => ?_)) (d' := .list (((memL ((ap N).take i)).map (· + 4)).map intD)) ?_) (EvS.call (EvS.fn (FnS.global X.bitsd.g)) (X.bitsd.fn (hl.trans hl₁)) (EvSs.cons (EvS.name (d := .int (u.toNat : Int)) rfl) EvSs.nil) (by rw [hud]; exact bits_ok X (hl.trans hl₁) hd)) (OpOk.add_list ?_)
    · obtain ⟨m, _, rfl⟩ := List.mem_map.mp ha
      exact EvS.bin (EvS.name rfl) EvS.int OpOk.add_int
    · rw [filter_true, List.map_map, List.map_map]
      rfl
    · rw [List.length_map, List.length_map, List.length_map]; omega
/-! _law_number -/
theorem bitNot2 (x : Int) : Builtin.bitNot (Builtin.bitNot x) = x := by unfold Builtin.bitNot; omega
theorem bitOr_nat (a b : Nat) : Builtin.bitOr (a : Int) (b : Int) = ((a ||| b : Nat) : Int) := by
  have h : ∀ m : Nat, decide (0 ≤ Builtin.bitNot (m : Int)) = false := fun m => decide_eq_false (by unfold Builtin.bitNot; omega)
  unfold Builtin.bitOr Builtin.bitAnd
  rw [h, h]
  show Builtin.bitNot (Builtin.bitNot (((Builtin.bitNot (Builtin.bitNot (a : Int))).toNat ||| (Builtin.bitNot (Builtin.bitNot (b : Int))).toNat : Nat) : Int)) = _
  simp only [bitNot2]
  rfl
theorem shl_small {m : Nat} (h : m ≤ 100000) : ((Builtin.Int.intBits 1 : Nat) : Int) + (m : Int) ≤ 2 ^ 27 := by
  have e : Builtin.Int.intBits 1 = 1 := by decide
  rw [e]
  omega
mutual
noncomputable def fineN : HF → Prop
  | .mk l => fineNs l
noncomputable def fineNs : List HF → Prop
  | [] => True
  | x :: xs => (x.num ≤ 100000 ∧ fineN x) ∧ fineNs xs
end

theorem fineN_mem : ∀ {l : List HF}, fineNs l → ∀ x ∈ l, x.num ≤ 100000 ∧ fineN x
  | y :: l, h, x, hx => by
    rcases List.mem_cons.mp hx with rfl | hx
    · exact h.1
    · exact fineN_mem h.2 x hx
theorem fineN_of : ∀ {l : List HF}, (∀ x ∈ l, x.num ≤ 100000 ∧ fineN x) → fineNs l
  | [], _ => trivial
  | y :: l, h => ⟨h y (.head _), fineN_of fun x hx => h x (.tail _ hx)⟩
theorem number_ok (X : Ctx Θ tabs) (hl : Θ.K0.le P₀) : ∀ (r : Nat) (t : HF), t.rank ≤ r → fineN t → CallOk Θ (n + 4 * r + 4) P₀ (.ref X.number) [t.toD] (.int (t.num : Int)) := by
  intro r
  induction r generalizing P₀ with
  | zero =>
    rintro ⟨l⟩ hr hf
    have hr : ranks l ≤ 0 := hr
    have e : l = [] := by
      match l, hr with
      | [], _ => rfl
      | x :: xs, hr => have := rank_mem (l := x :: xs) (.head _); omega
    subst e
    obtain ⟨pm, c, t, doc, hdf, hm⟩ := X.numberd.d
    refine CallOk.def (n := n + 3) (names := [Str.ofString "nest"]) (hdf.mono hl) (of1 fun _ => rfl) rfl (mem1 (.inl rfl)) fun L => ?_
    refine ExsS.ret (ExS.ret (EvS.callLam X.TS (clos := []) hm rfl (by kernel_rfl) rfl rfl rfl (EvS.fn (FnS.global X.Rd.g)) (X.Rd.fn hl) (EvSs.cons (EvS.name (d := .list []) rfl) (EvSs.cons EvS.int EvSs.nil)) fun P₁ fa hl₁ La => ?_))
    obtain ⟨c', ctv, FF⟩ := La.funF (σf := []) (fun x d h => by simp at h) (fun x c h => by simp at h) .nil (by decide) rfl rfl rfl
    exact reduce_ok (n := n + 1) X.Rd (hl.trans hl₁) (sd := .list []) (ds := []) IterOk.list (fun i => .int 0) FF.fun OpOk.is_int fun i a ha => by cases ha
  | succ r ih =>
    rintro ⟨l⟩ hr hf
    have hr : ranks l ≤ r + 1 := hr
    have hf : fineNs l := hf
    obtain ⟨pm, c, t, doc, hdf, hm⟩ := X.numberd.d
    refine CallOk.def (n := n + 4 * (r + 1) + 3) (names := [Str.ofString "nest"]) (hdf.mono hl) (of1 fun _ => rfl) rfl (mem1 (.inl rfl)) fun L => ?_
    refine ExsS.ret (ExS.ret (EvS.callLam X.TS (clos := []) hm rfl (by kernel_rfl) rfl rfl rfl (EvS.fn (FnS.global X.Rd.g)) (X.Rd.fn hl) (EvSs.cons (EvS.name (d := .list (toDs l)) rfl) (EvSs.cons EvS.int EvSs.nil)) fun P₁ fa hl₁ La => ?_))
    obtain ⟨c', ctv, FF⟩ := La.funF (σf := []) (fun x d h => by simp at h) (fun x c h => by simp at h) .nil (by decide) rfl rfl rfl
    have key := reduce_ok (n := n + 4 * (r + 1) + 1) X.Rd (hl.trans hl₁) (sd := .list (toDs l)) (ds := toDs l) IterOk.list (fun i => .int (nums (l.take i) : Int)) FF.fun OpOk.is_int fun i a ha => ?_
    · rw [toDs_length, List.take_length, List.take_zero] at key
      exact key
    · rw [toDs_map, List.getElem?_map] at ha
      obtain ⟨u, hu, rfl⟩ := Option.map_eq_some_iff.mp ha
      have hul := List.mem_of_getElem? hu
      have hu1 := fineN_mem hf u hul
      have hu2 := rank_mem hul
      have hrec := (ih (P₀ := P₁) (hl.trans hl₁) u (by omega) hu1.2).mono (m := n + 4 * (r + 1) + 1) (by omega) (.refl _)
      have e : ((nums (l.take (i + 1)) : Nat) : Int) = Builtin.bitOr (nums (l.take i) : Int) (1 * 2 ^ ((u.num : Nat) : Int).toNat) := by
        rw [List.take_add_one, hu, Option.toList_some, nums_snoc, Int.one_mul, Int.toNat_natCast, show (2 : Int) ^ u.num = ((2 ^ u.num : Nat) : Int) by rw [Int.natCast_pow]; rfl, bitOr_nat]
      rw [e]
      refine CallOk.lamF (n := n + 4 * (r + 1) + 1) FF rfl (names := [Str.ofString "number", Str.ofString "member"]) (of2 fun _ _ => rfl) rfl (mem2 rfl rfl) (by decide) (by intro x _; rfl) fun L => ?_
      exact EvS.bin (EvS.name rfl) (EvS.bin EvS.int (EvS.call (EvS.fn (FnS.global X.numberd.g)) (X.numberd.at.fn (hl.trans hl₁)) (EvSs.cons (EvS.name rfl) EvSs.nil) hrec) (OpOk.shl_int (by omega) (shl_small hu1.1))) OpOk.or_int
end
end Mine
namespace Mine
open PySem PySem.W PyProof.Rows PySem.Calls PySem.Spec
section
variable {Θ : Th} {n : Nat} {P₀ : Fz} {tabs : TabL}
theorem rangeD_at {N i : Nat} {d : D} (h : (rangeD 0 1 N)[i]? = some d) : i < N ∧ d = .int (i : Int) := by
  unfold rangeD at h
  rw [List.getElem?_map] at h
  obtain ⟨q, hq, rfl⟩ := Option.map_eq_some_iff.mp h
  obtain ⟨hq1, hq2⟩ := List.getElem?_eq_some_iff.mp hq
  simp at hq1 hq2
  subst hq2
  exact ⟨hq1, congrArg D.int (by omega)⟩
theorem toD_ack (n : Nat) : (ack n).toD = .list ((bits n).map fun m => (ack m).toD) := by
  rw [ack_eq, toD_mk, acks, List.map_map]; rfl
theorem bits_len {n k : Nat} (h : n < 2 ^ k) : (bits n).length ≤ k := by
  have key : ∀ (l : List Nat) (k : Nat), l.Pairwise (· > ·) → (∀ x ∈ l, x < k) → l.length ≤ k := by
    intro l
    induction l with
    | nil => intro k _ _; exact Nat.zero_le _
    | cons x l ih =>
      intro k hp hk
      have a := List.pairwise_cons.mp hp
      have := ih x a.2 fun y hy => a.1 y hy
      have := hk x (.head _)
      rw [List.length_cons]; omega
  exact key _ _ (bits_desc n) fun x hx => bits_lt hx h
theorem comp_acks (l : List Nat) : ((l.map intD).filter (fun _ => true)).map (onInt fun x => (ack x.toNat).toD) = l.map fun m => (ack m).toD := by
  rw [filter_true, List.map_map]
  exact List.map_congr_left fun m _ => by show (ack ((m : Int)).toNat).toD = _; rw [Int.toNat_natCast]
/-- _law_first_sets -/
theorem firsts_ok (X : Ctx Θ tabs) (hl : Θ.K0.le P₀) : CallOk Θ (n + 5) P₀ (.ref X.firsts) [] (.list ((List.range 17).map fun k => (ack k).toD)) := by
  obtain ⟨pm, cd, doc, hdf⟩ := X.firstsd.d
  refine CallOk.def (names := []) (hdf.mono hl) (fun vs h => ?_) rfl (fun x hx => by cases hx) fun L => ?_
  · rw [List.eq_nil_of_length_eq_zero h]; rfl
  refine ExsS.collect (n := n + 4) (acc := Str.ofString "first") (x := Str.ofString "k") (d := .range 0 17 1) (ds := rangeD 0 1 17) (outs := (List.range 17).map fun k => (ack k).toD) (.inr ⟨rfl, ⟨L + 1, rfl⟩, by simp⟩) (by simp [rangeD]) (by simp [rangeD]) rfl (by decide)
    (fun a hna => EvS.callT (FnS.builtin (Θ := Θ.hold a []) X.B.range.g X.B.range.b) (EvSs.cons EvS.int EvSs.nil) CallOk.range1) (fun a => IterOk.range (range_small (N := 17) (by decide)) (range_size 17)) (fun a i b o hna hb ho => ?_)
  obtain ⟨hi, rfl⟩ := rangeD_at hb
  rw [List.getElem?_map, List.getElem?_range (by omega)] at ho
  cases ho
  have hmem := (members_ok (n := n) X hl (N := i) (Nat.lt_of_lt_of_le hi (by decide))).hold (xs := ((List.range 17).map fun k => (ack k).toD).take i) hna
  refine EvS.to (EvS.comp (Θ := Θ.hold a (((List.range 17).map fun k => (ack k).toD).take i)) (cl := [(Str.ofString "first", L + 1)]) (σc := [(Str.ofString "first", .ref a)]) (fun _ => true) (onInt fun x => (ack x.toNat).toD)
    (EvS.call (EvS.fn (FnS.global (Θ := Θ.hold a (((List.range 17).map fun k => (ack k).toD).take i)) X.membd.g)) (X.membd.at.fn hl) (EvSs.cons (EvS.name rfl) EvSs.nil) hmem) IterOk.list (by rw [List.length_map]; have := bits_len (n := i) (k := 17) (by omega); omega) (fun C => ⟨⟨rfl, .inl rfl, rfl, (by show some NameKind.cell ≠ some NameKind.local; decide)⟩, trivial⟩) (fun C a ha => EvIfs.nil) (fun C d hd _ => ?_) (by kernel_rfl)) ((congrArg D.list (comp_acks _)).trans (toD_ack i).symm)
  obtain ⟨m, hm, rfl⟩ := List.mem_map.mp hd
  have hmi := bits_lt_self hm
  refine EvS.item (EvS.name rfl) (EvS.name (d := .int (m : Int)) rfl) (OpOk.item_own (by simp; omega) ?_) tyOwn
  rw [List.getElem?_take, if_pos hmi, List.getElem?_map, List.getElem?_range (by omega)]
  show some _ = some (onInt _ (D.int (m : Int)))
  show some _ = some (ack ((m : Int)).toNat).toD
  rw [Int.toNat_natCast]
/-! _law_order -/
theorem zip_find : ∀ (xs ys : List HF), ∃ k, k ≤ min xs.length ys.length ∧ (∀ i a b, i < k → xs[i]? = some a → ys[i]? = some b → ord a b = 0) ∧ (k = min xs.length ys.length → ordZ xs ys = (xs.length : Int) - ys.length) ∧
    (∀ a b, xs[k]? = some a → ys[k]? = some b → ord a b ≠ 0 ∧ ordZ xs ys = ord a b)
  | [], ys => ⟨0, Nat.zero_le _, fun i a b h => absurd h (Nat.not_lt_zero _), fun _ => by show -(ys.length : Int) = _; simp, fun a b h => by cases h⟩
  | x :: xs, [] => ⟨0, Nat.zero_le _, fun i a b h => absurd h (Nat.not_lt_zero _), fun _ => by show (xs.length : Int) + 1 = _; simp, fun a b _ h => by cases h⟩
  | x :: xs, y :: ys => by
    by_cases h : ord x y = 0
    · obtain ⟨k, h1, h2, h3, h4⟩ := zip_find xs ys
      have e : ordZ (x :: xs) (y :: ys) = ordZ xs ys := by show (if _ then _ else _) = _; rw [if_pos h]
      refine ⟨k + 1, by rw [List.length_cons, List.length_cons]; omega, fun i a b hi ha hb => ?_, fun hk => ?_, fun a b ha hb => ?_⟩
      · cases i with
        | zero => cases ha; cases hb; exact h
        | succ i => exact h2 i a b (by omega) (by simpa using ha) (by simpa using hb)
      · rw [List.length_cons, List.length_cons] at hk
        rw [e, h3 (by omega), List.length_cons, List.length_cons]; omega
      · rw [e]; exact h4 a b (by simpa using ha) (by simpa using hb)
    · refine ⟨0, Nat.zero_le _, fun i a b h => absurd h (Nat.not_lt_zero _), fun hk => ?_, fun a b ha hb => ?_⟩
      · rw [List.length_cons, List.length_cons] at hk; omega
      · cases ha; cases hb
        refine ⟨h, ?_⟩
        show (if _ then _ else _) = _
        rw [if_neg h]
theorem toDs_at {xs : List HF} {i : Nat} {d : D} (h : (toDs xs)[i]? = some d) : ∃ a, xs[i]? = some a ∧ d = a.toD := by
  rw [toDs_map, List.getElem?_map] at h
  obtain ⟨a, ha, rfl⟩ := Option.map_eq_some_iff.mp h
  exact ⟨a, ha, rfl⟩
noncomputable def oS (xs ys : List HF) : Store := [(Str.ofString "one", .list (toDs xs)), (Str.ofString "other", .list (toDs ys))]
mutual
/-- lists of at most k, all the way down -/
noncomputable def Her (k : Nat) : HF → Prop
  | .mk l => l.length ≤ k ∧ Hers k l
noncomputable def Hers (k : Nat) : List HF → Prop
  | [] => True
  | x :: xs => Her k x ∧ Hers k xs
end

theorem Hers.at {k : Nat} : ∀ {l : List HF}, Hers k l → ∀ x ∈ l, Her k x
  | y :: l, h, x, hx => by
    rcases List.mem_cons.mp hx with rfl | hx
    · exact h.1
    · exact Hers.at h.2 x hx
theorem Hers.of {k : Nat} : ∀ {l : List HF}, (∀ x ∈ l, Her k x) → Hers k l
  | [], _ => trivial
  | y :: l, h => ⟨h y (.head _), Hers.of fun x hx => h x (.tail _ hx)⟩
theorem her_ack (n : Nat) (h : n < 131072) : Her 17 (ack n) := by
  induction n using Nat.strongRecOn with
  | ind n ih =>
    rw [ack_eq]
    refine ⟨?_, Hers.of fun x hx => ?_⟩
    · rw [acks, List.length_map]; exact bits_len (k := 17) h
    · obtain ⟨b, hb, rfl⟩ := List.mem_map.mp hx
      have := bits_lt_self hb
      exact ih b this (by omega)
theorem order_ok (X : Ctx Θ tabs) (hl : Θ.K0.le P₀) : ∀ (r : Nat) (a b : HF), a.rank ≤ r → Her 1000 a → Her 1000 b → CallOk Θ (n + r + 1) P₀ (.ref X.order) [a.toD, b.toD] (.int (ord a b)) := by
  intro r
  induction r with
  | zero =>
    rintro ⟨xs⟩ ⟨ys⟩ hr ⟨ha, _⟩ ⟨hb, _⟩
    have hr : ranks xs ≤ 0 := hr
    have e : xs = [] := by
      match xs, hr with
      | [], _ => rfl
      | x :: xs, hr => have := rank_mem (l := x :: xs) (.head _); omega
    subst e
    obtain ⟨pm, cd, doc, hdf⟩ := X.orderd.d
    refine CallOk.def (names := [Str.ofString "one", Str.ofString "other"]) (hdf.mono hl) (of2 fun _ _ => rfl) rfl (mem2 (.inl rfl) (.inl rfl)) fun L => ?_
    refine ExsS.cons (ExS.forZip (xs := toDs []) (ys := toDs ys) (fun _ => oS [] ys) 0 (Sub.of ⟨rfl, rfl, trivial⟩) (FnS.builtin X.zip.g X.zip.b) (EvSs.cons (EvS.name rfl) (EvSs.cons (EvS.name rfl) EvSs.nil)) (Nat.zero_le _) (fun i a b h => absurd h (Nat.not_lt_zero _)) (fun _ => rfl) (fun a b h => by cases h)) (ExsS.ret (ExS.ret (EvS.to (EvS.bin (EvS.callB (FnS.builtin X.B.len.g X.B.len.b) (EvSs.cons (EvS.name rfl) EvSs.nil) (CallOk.lenList (by rw [toDs_length]; omega))) (EvS.callB (FnS.builtin X.B.len.g X.B.len.b) (EvSs.cons (EvS.name rfl) EvSs.nil) (CallOk.lenList (by rw [toDs_length]; omega))) OpOk.sub_int) ?_)))
    rw [toDs_length, toDs_length]
    exact congrArg D.int (by show ((0 : Nat) : Int) - (ys.length : Int) = -(ys.length : Int); omega)
  | succ r ih =>
    rintro ⟨xs⟩ ⟨ys⟩ hr ⟨ha, hxs⟩ ⟨hb, hys⟩
    have hr : ranks xs ≤ r + 1 := hr
    obtain ⟨pm, cd, doc, hdf⟩ := X.orderd.d
    refine CallOk.def (names := [Str.ofString "one", Str.ofString "other"]) (hdf.mono hl) (of2 fun _ _ => rfl) rfl (mem2 (.inl rfl) (.inl rfl)) fun L => ?_
    obtain ⟨k, h1, h2, h3, h4⟩ := zip_find xs ys
    show ExsS Θ _ _ _ _ _ _ (.ret (.int (ordZ xs ys)))
    have hlen : min (toDs xs).length (toDs ys).length = min xs.length ys.length := by rw [toDs_length, toDs_length]
    have hrec : ∀ {i : Nat} {u v : HF}, xs[i]? = some u → ys[i]? = some v → CallOk Θ (n + (r + 1)) P₀ (.ref X.order) [u.toD, v.toD] (.int (ord u v)) := fun {i u v} hu hv => by
      have hm := List.mem_of_getElem? hu
      have := rank_mem hm
      exact ih u v (by omega) (hxs.at u hm) (hys.at v (List.mem_of_getElem? hv))
    by_cases hk : k = min xs.length ys.length
    · refine ExsS.cons (ExS.forZip (xs := toDs xs) (ys := toDs ys) (fun _ => oS xs ys) k (Sub.of ⟨rfl, rfl, trivial⟩) (FnS.builtin X.zip.g X.zip.b) (EvSs.cons (EvS.name rfl) (EvSs.cons (EvS.name rfl) EvSs.nil)) (by omega) (fun i a b hi ha hb => ?_) (fun _ => rfl) (fun a b ha hb => ?_)) (ExsS.ret (ExS.ret (EvS.to (EvS.bin (EvS.callB (FnS.builtin X.B.len.g X.B.len.b) (EvSs.cons (EvS.name rfl) EvSs.nil) (CallOk.lenList (by rw [toDs_length]; omega))) (EvS.callB (FnS.builtin X.B.len.g X.B.len.b) (EvSs.cons (EvS.name rfl) EvSs.nil) (CallOk.lenList (by rw [toDs_length]; omega))) OpOk.sub_int) ?_)))
      · obtain ⟨u, hu, rfl⟩ := toDs_at ha
        obtain ⟨v, hv, rfl⟩ := toDs_at hb
        have h0 := h2 i u v hi hu hv
        exact ExsS.sub (ExsS.cons (ExS.assign (EvS.call (EvS.fn (FnS.global X.orderd.g)) (X.orderd.fn hl) (EvSs.cons (EvS.name rfl) (EvSs.cons (EvS.name rfl) EvSs.nil)) (hrec hu hv))) (ExsS.cons (ExS.ite (b := false) (EvT.to (EvT.cmp (EvS.name rfl) EvS.int OpOk.ne_int) (by rw [h0]; rfl)) (fun h => nomatch h) fun _ => ExsS.nil) ExsS.nil)) (Sub.of ⟨rfl, rfl, trivial⟩)
      · obtain ⟨u, hu, rfl⟩ := toDs_at ha
        obtain ⟨v, hv, rfl⟩ := toDs_at hb
        have g1 := (List.getElem?_eq_some_iff.mp hu).1
        have g2 := (List.getElem?_eq_some_iff.mp hv).1
        omega
      · rw [toDs_length, toDs_length, h3 hk]
    · refine ExsS.ret (ExS.forZip (xs := toDs xs) (ys := toDs ys) (fun _ => oS xs ys) k (Sub.of ⟨rfl, rfl, trivial⟩) (FnS.builtin X.zip.g X.zip.b) (EvSs.cons (EvS.name rfl) (EvSs.cons (EvS.name rfl) EvSs.nil)) (by omega) (fun i a b hi ha hb => ?_) (fun h => absurd (h.trans hlen) hk) (fun a b ha hb => ?_))
      · obtain ⟨u, hu, rfl⟩ := toDs_at ha
        obtain ⟨v, hv, rfl⟩ := toDs_at hb
        have h0 := h2 i u v hi hu hv
        exact ExsS.sub (ExsS.cons (ExS.assign (EvS.call (EvS.fn (FnS.global X.orderd.g)) (X.orderd.fn hl) (EvSs.cons (EvS.name rfl) (EvSs.cons (EvS.name rfl) EvSs.nil)) (hrec hu hv))) (ExsS.cons (ExS.ite (b := false) (EvT.to (EvT.cmp (EvS.name rfl) EvS.int OpOk.ne_int) (by rw [h0]; rfl)) (fun h => nomatch h) fun _ => ExsS.nil) ExsS.nil)) (Sub.of ⟨rfl, rfl, trivial⟩)
      · obtain ⟨u, hu, rfl⟩ := toDs_at ha
        obtain ⟨v, hv, rfl⟩ := toDs_at hb
        obtain ⟨h5, h6⟩ := h4 u v hu hv
        refine ⟨_, by rw [h6], ExsS.cons (ExS.assign (EvS.call (EvS.fn (FnS.global X.orderd.g)) (X.orderd.fn hl) (EvSs.cons (EvS.name rfl) (EvSs.cons (EvS.name rfl) EvSs.nil)) (hrec hu hv))) (ExsS.ret (ExS.ite (b := true) (EvT.to (EvT.cmp (EvS.name rfl) EvS.int OpOk.ne_int) (by simpa using h5)) (fun _ => ExsS.ret (ExS.ret (EvS.name rfl))) (fun h => nomatch h)))⟩
end
end Mine
namespace Mine
open PySem PySem.W PyProof.Rows PySem.Calls PySem.Spec

mutual
noncomputable def ofD : D → HF
  | .list l => .mk (ofDs l)
  | .none => .mk []
  | .bool _ => .mk []
  | .int _ => .mk []
  | .bytes _ => .mk []
  | .tup _ => .mk []
  | .range _ _ _ => .mk []
  | .ref _ => .mk []
  | .key _ _ => .mk []
noncomputable def ofDs : List D → List HF
  | [] => []
  | d :: ds => ofD d :: ofDs ds
end

mutual
theorem ofD_toD : ∀ x : HF, ofD x.toD = x
  | .mk l => congrArg HF.mk (ofDs_toDs l)
theorem ofDs_toDs : ∀ l : List HF, ofDs (toDs l) = l
  | [] => rfl
  | x :: xs => by show ofD x.toD :: ofDs (toDs xs) = _; rw [ofD_toD x, ofDs_toDs xs]
end

theorem heq_ack (a b : Nat) : heq (ack a) (ack b) = (a == b) := by
  by_cases h : a = b
  · subst h; rw [heq_self]; simp
  · have : (a == b) = false := by simpa using h
    rw [this]
    cases e : heq (ack a) (ack b) with
    | false => rfl
    | true => exact absurd (ack_inj (heq_eq _ _ e)) h
theorem her_mono {k k' : Nat} (h : k ≤ k') : ∀ (r : Nat) (t : HF), t.rank ≤ r → Her k t → Her k' t := by
  intro r
  induction r with
  | zero =>
    rintro ⟨l⟩ hr ⟨h1, h2⟩
    refine ⟨Nat.le_trans h1 h, Hers.of fun x hx => ?_⟩
    have := rank_mem hx
    have hr : ranks l ≤ 0 := hr
    omega
  | succ r ih =>
    rintro ⟨l⟩ hr ⟨h1, h2⟩
    refine ⟨Nat.le_trans h1 h, Hers.of fun x hx => ?_⟩
    have := rank_mem hx
    have hr : ranks l ≤ r + 1 := hr
    exact ih x (by omega) (h2.at x hx)
/-- the class of the keys, and what it was made of -/
structure KC (Θ : Th) {tabs : TabL} (X : Ctx Θ tabs) (P₀ : Fz) (K : KD) (m : Addr) (pm : Value) : Prop where
  kp : KP P₀ K m pm
  hm : CellF P₀ m X.order
  hl : Θ.K0.le P₀
section
variable {Θ : Th} {n : Nat} {P₀ : Fz} {tabs : TabL} {K : KD} {m : Addr} {pmv : Value}
theorem KC.mono {X : Ctx Θ tabs} {P₁ : Fz} (C : KC Θ X P₀ K m pmv) (h : P₀.le P₁) : KC Θ X P₁ K m pmv := ⟨C.kp.mono h, C.hm.mono h, C.hl.trans h⟩
theorem KC.hc {X : Ctx Θ tabs} (C : KC Θ X P₀ K m pmv) {a b : Nat} (ha : a < 131072) (hb : b < 131072) : CallOk Θ (n + 6) P₀ (.ref X.order) [(ack a).toD, (ack b).toD] (.int (ord (ack a) (ack b))) :=
  (order_ok (n := n) X C.hl 5 (ack a) (ack b) (rank_5 a ha) (her_mono (by decide) 5 _ (rank_5 a ha) (her_ack a ha)) (her_mono (by decide) 5 _ (rank_5 b hb) (her_ack b hb))).mono (by omega) (.refl _)
theorem ord_lt (a b : Nat) : decide (ord (ack a) (ack b) < 0) = decide (a < b) := decide_eq_decide.mpr (ord_sgn a b).1
theorem ord_gt (a b : Nat) : decide (0 < ord (ack a) (ack b)) = decide (b < a) := by
  have h := ord_sgn a b
  unfold Sgn at h
  exact decide_eq_decide.mpr (by omega)
theorem getD_range {α β : Type} (l : List α) (e : α) (g : α → β) : l.map g = (List.range l.length).map fun i => g (l.getD i e) := by
  apply List.ext_getElem
  · simp
  · intro i h1 h2
    have hi : i < l.length := by simpa using h1
    simp [List.getD_eq_getElem?_getD, hi]
noncomputable def ackD (k : Nat) : D := (ack k).toD
theorem item_ack {l : List Nat} {i : Nat} (hi : i < l.length) (h : l.length ≤ 1000) : OpOk Θ n P₀ getItem (.list (l.map ackD)) (.int (i : Int)) (ackD (l.getD i 0)) := by
  refine OpOk.item_list (by rw [List.length_map]; omega) ?_
  have e : seqIndex? (i : Int) l.length = some i := by
    unfold seqIndex?
    have h1 : ¬ (i : Int) < 0 := by omega
    simp [h1]
    omega
  unfold itemD
  rw [List.length_map, e, Option.bind_some, List.getElem?_map, List.getElem?_eq_getElem hi, List.getD_eq_getElem?_getD, List.getElem?_eq_getElem hi]
  rfl
set_option maxHeartbeats 1000000 in
/-- _law_plain -/
theorem plain_ok (X : Ctx Θ tabs) (C : KC Θ X P₀ K m pmv) : ∀ (r : Nat) (t : HF), t.rank ≤ r → Her 3 t → fineN t → t.num < 131072 → CallOk Θ (n + r + 10) P₀ (.ref X.plain) [t.toD, .ref K.C] (ackD t.num) := by
  intro r
  induction r with
  | zero =>
    intro t hr h3 hf hn
    exact plain_step 0 t (fun x hx => by
      obtain ⟨l⟩ := t
      have := rank_mem (show x ∈ l from hx)
      have hr : ranks l ≤ 0 := hr
      omega) h3 hf hn
  | succ r ih =>
    intro t hr h3 hf hn
    obtain ⟨l⟩ := t
    exact plain_step (r + 1) (.mk l) (fun x hx => by
      have hx : x ∈ l := hx
      have := rank_mem hx
      have hr : ranks l ≤ r + 1 := hr
      have hx2 := fineN_mem (show fineNs l from hf) x hx
      exact (ih x (by omega) (h3.2.at x hx) hx2.2 (by omega)).mono (by omega) (.refl _)) h3 hf hn
where
  plain_step (r : Nat) (t : HF) (hrec : ∀ x ∈ t.els, CallOk Θ (n + r + 9) P₀ (.ref X.plain) [x.toD, .ref K.C] (ackD x.num)) (h3 : Her 3 t) (hf : fineN t) (hn : t.num < 131072) : CallOk Θ (n + r + 10) P₀ (.ref X.plain) [t.toD, .ref K.C] (ackD t.num) := by
    obtain ⟨l⟩ := t
    have hl3 : l.length ≤ 3 := h3.1
    have hrec : ∀ x ∈ l, CallOk Θ (n + r + 9) P₀ (.ref X.plain) [x.toD, .ref K.C] (ackD x.num) := hrec
    have hnum : ∀ x ∈ l, x.num < 131072 := fun x hx => by have := (fineN_mem (show fineNs l from hf) x hx).1; omega
    obtain ⟨pm, cd, doc, hdf⟩ := X.plaind.d
    have hK := C.hl
    refine CallOk.def (names := [Str.ofString "nest", Str.ofString "key"]) (hdf.mono hK) (of2 fun _ _ => rfl) rfl (mem2 (.inl rfl) (.inr rfl)) fun L => ?_
    have hsort := sort_le3 hl3 fun i => (l.getD i (.mk [])).num
    have hb : sortIdx true (fun i j => decide (ord (ack (l.getD i (.mk [])).num) (ack (l.getD j (.mk [])).num) < 0)) l.length = sortIdx true (fun i j => decide ((l.getD i (.mk [])).num < (l.getD j (.mk [])).num)) l.length := sortIdx_congr fun i j _ _ => ord_lt _ _
    have hin : ∀ i, i < l.length → (l.getD i (.mk [])).num < 131072 := fun i hi => hnum _ (getD_mem hi)
    refine ExsS.cons (σ' := (Str.ofString "row", .list (((sortIdx true (fun i j => decide ((l.getD i (.mk [])).num < (l.getD j (.mk [])).num)) l.length).map fun i => (l.getD i (.mk [])).num).map ackD)) :: bindD [Str.ofString "nest", Str.ofString "key"] [.list (toDs l), .ref K.C] []) (fz' := []) (ExS.assignC (EvS.to (EvS.sortedR (n := n + r + 7) (N := l.length) (xd := fun i => ackD (l.getD i (.mk [])).num) (kd := fun i => .key K.C (ackD (l.getD i (.mk [])).num)) (T := .ref K.C) (FnS.builtin X.B.sorted.g X.B.sorted.b) (EvS.to (EvS.comp (cl := [(Str.ofString "key", L + 1)]) (σc := [(Str.ofString "key", .ref K.C)]) (fun _ => true) (fun d => ackD (ofD d).num) (EvS.name (d := .list (toDs l)) rfl) IterOk.list (by rw [toDs_length]; omega) (fun C' => ⟨⟨rfl, .inl rfl, rfl, (by show some NameKind.cell ≠ some NameKind.local; decide)⟩, trivial⟩) (fun C' a ha => EvIfs.nil) (fun C' a ha _ => ?_) (by kernel_rfl)) ?_) (EvS.name rfl) (by omega) (fun i _ => key_make (n := n + r + 5) C.kp) (fun i _ P' s' u _ G r => type_key G r) rfl (beq_self_eq_true _) (fun i j hi hj => (LtKey.key (n := n + r + 6) C.kp C.hm (X.orderd.fn hK) (C.hc (n := n + r) (hin i hi) (hin j hj))))) ?_) rfl (by simp)) (ExsS.ret (ExS.ret ?_))
    · rw [toDs_map] at ha
      obtain ⟨x, hx, rfl⟩ := List.mem_map.mp ha
      rw [ofD_toD]
      exact EvS.call (EvS.fn (FnS.global X.plaind.g)) (X.plaind.fn hK) (EvSs.cons (EvS.name rfl) (EvSs.cons (EvS.name rfl) EvSs.nil)) (hrec x hx)
    · rw [filter_true, toDs_map, List.map_map]
      refine congrArg D.list ?_
      rw [← getD_range l (.mk []) fun x => ackD x.num]
      exact List.map_congr_left fun x _ => by show ackD (ofD x.toD).num = _; rw [ofD_toD]
    · rw [hb, List.map_map]; rfl
    obtain ⟨s1, s2, s3, s4⟩ := hsort
    generalize sortIdx true (fun i j => decide ((l.getD i (.mk [])).num < (l.getD j (.mk [])).num)) l.length = o at *
    have d1 : (o.map fun i => (l.getD i (.mk [])).num).Pairwise (· ≥ ·) := List.pairwise_map.mpr s1
    have d2 : (o.map fun i => (l.getD i (.mk [])).num).length ≤ 3 := by rw [List.length_map, s4]; exact hl3
    have d3 : ∀ i, i ∈ (o.map fun i => (l.getD i (.mk [])).num) ↔ ∃ x ∈ l, x.num = i := fun i => by
      rw [List.mem_map]
      constructor
      · rintro ⟨j, hj, rfl⟩
        exact ⟨_, getD_mem (s3 j hj), rfl⟩
      · rintro ⟨x, hx, rfl⟩
        obtain ⟨j, hj, rfl⟩ := List.getElem_of_mem hx
        exact ⟨j, s2 j hj, by rw [List.getD_eq_getElem?_getD, List.getElem?_eq_getElem hj]; rfl⟩
    have hms : ∀ i ∈ (o.map fun i => (l.getD i (.mk [])).num), i < 131072 := fun i hi => by obtain ⟨x, hx, rfl⟩ := (d3 i).mp hi; exact hnum x hx
    have hdd := dedup_bits d1 d2 d3
    generalize (o.map fun i => (l.getD i (.mk [])).num) = ms at *
    have hget : ∀ i, i < ms.length → ms.getD i 0 < 131072 := fun i hi => hms _ (by rw [List.getD_eq_getElem?_getD, List.getElem?_eq_getElem hi]; exact List.getElem_mem hi)
    have hlenD : CallOk Θ (n + r + 9) P₀ (.builtin "len") [.list (ms.map ackD)] (.int (ms.length : Int)) := by
      have := CallOk.lenList (Θ := Θ) (n := n + r + 9) (P₀ := P₀) (xs := ms.map ackD) (by rw [List.length_map]; omega)
      rwa [List.length_map] at this
    refine EvS.to (EvS.comp (cl := [(Str.ofString "row", L + 2)]) (σc := [(Str.ofString "row", .list (ms.map ackD))]) (onIntB fun k => (k == 0) || ((!heq (ack (ms.getD k.toNat 0)) (ack (ms.getD (k.toNat - 1) 0))) || false)) (onInt fun k => ackD (ms.getD k.toNat 0))
      (EvS.callT (FnS.builtin X.B.range.g X.B.range.b) (EvSs.cons (EvS.callB (FnS.builtin X.B.len.g X.B.len.b) (EvSs.cons (EvS.name rfl) EvSs.nil) hlenD) EvSs.nil) CallOk.range1) (IterOk.range (range_small (by omega)) (range_size _)) (by simp [rangeD]; omega) (fun C' => ⟨⟨rfl, .inl rfl, rfl, (by show some NameKind.cell ≠ some NameKind.local; decide)⟩, trivial⟩) (fun C' a ha => ?_) (fun C' a ha _ => ?_) (by kernel_rfl)) ?_
    · obtain ⟨j, hj⟩ := List.getElem?_of_mem ha
      obtain ⟨hj1, rfl⟩ := rangeD_at hj
      refine EvIfs.one (EvT.boolop (EvTs.or_cons (EvT.cmp (EvS.name rfl) EvS.int OpOk.eq_int) fun h0 => EvTs.or_cons ?_ fun _ => EvTs.or_nil))
      have h0 : j ≠ 0 := by simpa using h0
      have e1 : ((j : Int) - 1) = ((j - 1 : Nat) : Int) := by omega
      refine EvT.cmp (EvS.item (EvS.name rfl) (EvS.name (d := .int (j : Int)) rfl) (item_ack hj1 (by omega)) tyList) (EvS.item (EvS.name rfl) (EvS.to (EvS.bin (EvS.name rfl) EvS.int OpOk.sub_int) (congrArg D.int e1)) (item_ack (by omega) (by omega)) tyList) ?_
      have hj2 := hget j hj1
      exact OpOk.ne_hf (a := ack (ms.getD j 0)) (b := ack (ms.getD (j - 1) 0)) (Nat.le_trans (rank_5 _ hj2) (by decide))
    · obtain ⟨j, hj⟩ := List.getElem?_of_mem ha
      obtain ⟨hj1, rfl⟩ := rangeD_at hj
      exact EvS.item (EvS.name rfl) (EvS.name (d := .int (j : Int)) rfl) (item_ack hj1 (by omega)) tyList
    · show _ = (ack (nums l)).toD
      rw [toD_ack, ← hdd, List.map_map]
      have er : rangeD 0 1 ms.length = (List.range ms.length).map intD := by
        unfold rangeD
        exact List.map_congr_left fun i _ => congrArg D.int (by omega)
      rw [er, List.filter_map, List.map_map]
      refine congrArg D.list ?_
      rw [List.filter_congr (q := fun k => k == 0 || ms.getD k 0 != ms.getD (k - 1) 0) (fun k _ => ?_)]
      · rfl
      · show (((k : Int) == 0) || ((!heq (ack (ms.getD ((k : Int)).toNat 0)) (ack (ms.getD (((k : Int)).toNat - 1) 0))) || false)) = _
        rw [heq_ack, Int.toNat_natCast, Bool.or_false]
        congr 1
        refine Bool.eq_iff_iff.mpr ?_
        rw [beq_iff_eq, beq_iff_eq]; omega
end
end Mine
namespace Mine
open PySem PySem.W PyProof.Rows PySem.Calls PySem.Spec
theorem of3 {fd : FuncData} {x y z : Str} (h : ∀ u v w, bindArgs fd ⟨[u, v, w], []⟩ = pure [(x, u), (y, v), (z, w)]) (vs : List Value) (e : vs.length = [x, y, z].length) : bindArgs fd ⟨vs, []⟩ = pure ([x, y, z].zip vs) := by
  match vs, e with
  | [u, v, w], _ => exact h u v w
theorem mem3 {α : Type} {p : α → Prop} {a b c : α} (h : p a) (h' : p b) (h'' : p c) (x : α) (hx : x ∈ [a, b, c]) : p x := (List.mem_cons.mp hx).elim (fun e => e ▸ h) fun k => mem2 h' h'' x k
theorem least_gap {n : Nat} (h : n < 65536) : ∃ k, k ≤ 16 ∧ (∀ i, i < k → n.testBit i = true) ∧ n.testBit k = false := by
  have key : ∀ m, (∀ i, i < m → n.testBit i = true) ∨ ∃ k, k < m ∧ (∀ i, i < k → n.testBit i = true) ∧ n.testBit k = false := by
    intro m
    induction m with
    | zero => exact .inl fun i hi => absurd hi (Nat.not_lt_zero _)
    | succ m ih =>
      rcases ih with ih | ⟨k, h1, h2⟩
      · cases e : n.testBit m with
        | false => exact .inr ⟨m, Nat.lt_succ_self _, ih, e⟩
        | true =>
          refine .inl fun i hi => ?_
          by_cases he : i = m
          · subst he; exact e
          · exact ih i (by omega)
      · exact .inr ⟨k, by omega, h2⟩
  rcases key 17 with h1 | ⟨k, h1, h2⟩
  · have := h1 16 (by decide)
    rw [Nat.testBit_lt_two_pow (show n < 2 ^ 16 from h)] at this
    cases this
  · exact ⟨k, by omega, h2⟩
noncomputable def firstD : D := .list ((List.range 17).map ackD)
noncomputable def memD (n : Nat) : D := (HF.mk (acks n)).toD
theorem memD_eq (n : Nat) : memD n = .list ((bits n).map ackD) := by
  unfold memD
  rw [toD_mk, acks, List.map_map]; rfl
theorem any_heq (n k : Nat) : ((acks n).any fun y => heq y (ack k)) = n.testBit k := by
  refine Bool.eq_iff_iff.mpr ?_
  rw [List.any_eq_true, ← bits_mem]
  constructor
  · rintro ⟨y, hy, e⟩
    obtain ⟨b, hb, rfl⟩ := List.mem_map.mp hy
    rw [heq_ack, beq_iff_eq] at e
    exact e ▸ hb
  · intro hk
    exact ⟨ack k, List.mem_map.mpr ⟨k, hk, rfl⟩, heq_self _⟩
section
variable {Θ : Th} {n : Nat} {P₀ : Fz} {tabs : TabL} {K : KD} {m : Addr} {pmv : Value}
theorem item_first {j : Nat} (hj : j < 17) : OpOk Θ n P₀ getItem firstD (.int (j : Int)) (ackD j) := by
  have := item_ack (Θ := Θ) (n := n) (P₀ := P₀) (l := List.range 17) (i := j) (by simpa using hj) (by simp)
  rw [List.getD_eq_getElem?_getD, List.getElem?_range hj] at this
  exact this
noncomputable def xS (N : Nat) (C : Addr) (j : Nat) : Store := [(Str.ofString "members", memD N), (Str.ofString "first", firstD), (Str.ofString "key", .ref C), (Str.ofString "k", .int (j : Int))]
/-- _law_next -/
theorem next_ok (X : Ctx Θ tabs) (C : KC Θ X P₀ K m pmv) {N : Nat} (hN : N < 65536) : CallOk Θ (n + 10) P₀ (.ref X.next) [memD N, firstD, .ref K.C] (memD (N + 1)) := by
  obtain ⟨g, hg, h1, h2⟩ := least_gap hN
  obtain ⟨pm, cd, doc, hdf⟩ := X.nextd.d
  have hK := C.hl
  have hin : ∀ b ∈ bits N, b < 131072 := fun b hb => Nat.lt_trans (bits_lt hb (show N < 2 ^ 16 from hN)) (by decide)
  have hrk : ∀ y ∈ acks N, y.rank ≤ 500 := fun y hy => by
    obtain ⟨b, hb, rfl⟩ := List.mem_map.mp hy
    exact Nat.le_trans (rank_5 b (hin b hb)) (by decide)
  have hlen : (bits N).length ≤ 16 := bits_len (show N < 2 ^ 16 from hN)
  refine CallOk.def (n := n + 9) (names := [Str.ofString "members", Str.ofString "first", Str.ofString "key"]) (hdf.mono hK) (of3 fun _ _ _ => rfl) rfl (mem3 (.inl rfl) (.inr rfl) (.inr rfl)) fun L => ?_
  have htest : ∀ (j : Nat), j < 17 → ∀ (p1 p2 p3 p4 p5 : Pos), EvT Θ (n + 9) P₀ (callEnvC (fdOf pw 14 pm cd doc) L X.next) (xS N K.C j) (.Compare (.Subscript (.Name (Str.ofString "first") p1) (.Name (Str.ofString "k") p2) p3) [.In] [.Name (Str.ofString "members") p4] p5) (N.testBit j) := fun j hj p1 p2 p3 p4 p5 => by
    have := OpOk.in_hf (Θ := Θ) (n := n + 9) (P₀ := P₀) (x := ack j) hrk
    rw [any_heq] at this
    exact EvT.cmp (EvS.item (EvS.name rfl) (EvS.name rfl) (item_first hj) tyList) (EvS.name rfl) this
  refine ExsS.cons (ExS.assignC EvS.int rfl (by simp)) (ExsS.cons (σ' := xS N K.C g) (fz' := []) ?_ (ExsS.ret (ExS.ret ?_)))
  · refine ExS.pre (σ := xS N K.C 0) (ExS.while (xS N K.C) g rfl (fun j hj => ⟨EvT.to (htest j (by omega) _ _ _ _ _) (h1 j hj), ?_⟩) (EvT.to (htest g (by omega) _ _ _ _ _) h2)) (Sub.of ⟨rfl, rfl, rfl, rfl, trivial⟩)
    exact ExsS.sub (ExsS.cons (ExS.assignC (EvS.bin (EvS.name rfl) EvS.int OpOk.add_int) rfl (by simp)) ExsS.nil) (Sub.of ⟨rfl, rfl, rfl, rfl, trivial⟩)
  · refine EvS.to (EvS.bin (EvS.comp (cl := [(Str.ofString "key", L + 2), (Str.ofString "k", L + 3), (Str.ofString "first", L + 1)]) (σc := [(Str.ofString "first", firstD), (Str.ofString "k", .int (g : Int)), (Str.ofString "key", .ref K.C)]) (fun d => decide (0 < ord (ofD d) (ack g))) (fun d => d)
      (EvS.name (d := .list (toDs (acks N))) rfl) IterOk.list (by rw [toDs_length, acks, List.length_map]; omega) (fun C' => ⟨⟨rfl, .inl rfl, rfl, (by show some NameKind.cell ≠ some NameKind.local; decide)⟩, ⟨rfl, .inl rfl, rfl, (by show some NameKind.cell ≠ some NameKind.local; decide)⟩, ⟨rfl, .inl rfl, rfl, (by show some NameKind.cell ≠ some NameKind.local; decide)⟩, trivial⟩) (fun C' a ha => EvIfs.one ?_) (fun C' a ha _ => EvS.name rfl) (by kernel_rfl))
      (EvS.list (EvSs.cons (EvS.item (EvS.name rfl) (EvS.name rfl) (item_first (j := g) (by omega)) tyList) EvSs.nil) (show (1 : Nat) ≤ 16777216 by decide)) (OpOk.add_list ?_)) ?_
    · rw [toDs_map] at ha
      obtain ⟨y, hy, rfl⟩ := List.mem_map.mp ha
      obtain ⟨b, hb, rfl⟩ := List.mem_map.mp hy
      rw [ofD_toD]
      exact EvT.cmp (EvS.callKey (n := n + 7) C.kp (EvS.name rfl) (EvSs.cons (EvS.name rfl) EvSs.nil)) (EvS.callKey (n := n + 7) C.kp (EvS.name rfl) (EvSs.cons (EvS.item (EvS.name rfl) (EvS.name rfl) (item_first (j := g) (by omega)) tyList) EvSs.nil)) (OpOk.key_gt (n := n + 8) C.kp C.hm (X.orderd.fn hK) (C.hc (n := n + 2) (hin b hb) (by omega)))
    · rw [List.length_map]
      have := List.length_filter_le (fun d => decide (0 < ord (ofD d) (ack g))) (toDs (acks N))
      have h4 : (acks N).length ≤ 16 := by unfold acks; rw [List.length_map]; exact hlen
      rw [toDs_length] at this
      show _ + 1 ≤ 16777216
      omega
    · rw [memD_eq, bits_next h1 h2, List.map_append, toDs_map, acks, List.map_map, List.filter_map, List.map_id']
      refine congrArg D.list ?_
      rw [List.filter_congr (q := fun b => decide (g < b)) (fun b _ => ?_)]
      · rfl
      · show decide (0 < ord (ofD (ack b).toD) (ack g)) = _
        rw [ofD_toD, ord_gt]
end
end Mine
namespace Mine
open PySem PySem.W PyProof.Rows PySem.Calls PySem.Spec
/-! _law_drawn -/
noncomputable def e0 : HF := .mk []
noncomputable def e2 : HF := .mk [.mk [e0]]
noncomputable def innerL : List HF := [e0, .mk [e0, e0], e2, .mk [.mk [e0], e0, .mk [e0]]]
noncomputable def inn (f : Nat) : HF := innerL.getD f e0
noncomputable def figZ (x : Int) (k : Nat) : Int := (x.fdiv (4 ^ k)).fmod 4
noncomputable def fig (x : Int) (k : Nat) : Nat := (figZ x k).toNat
theorem fig_lt (x : Int) (k : Nat) : fig x k < 4 ∧ figZ x k = (fig x k : Int) := by
  unfold fig figZ
  rw [Int.fmod_eq_emod_of_nonneg _ (by decide)]
  omega
noncomputable def middle (x : Int) (k : Nat) : HF := .mk ((List.range (fig x k)).map fun j => inn (fig x (k + 1 + j)))
noncomputable def ks (x : Int) : List Nat := [1, 5, 9].take (fig x 0)
noncomputable def drawnF (x : Int) : HF := .mk ((ks x).map (middle x))
theorem ks_in {x : Int} {k : Nat} (h : k ∈ ks x) : k ≤ 9 := by
  have := List.mem_of_mem_take h
  simp at this
  omega
theorem clip_nat (n k : Nat) (h : k ≤ n) : clipAt n (k : Int) = k := by
  have := clipAt_cast n k
  rw [if_neg (by omega)] at this
  omega
theorem takeK (l : List D) (k : Nat) : (l.drop ((none : Option Int).elim 0 (clipAt l.length))).take ((some (k : Int)).elim l.length (clipAt l.length) - (none : Option Int).elim 0 (clipAt l.length)) = l.take k := by
  show (l.drop 0).take (clipAt l.length k - 0) = _
  have e : clipAt l.length k = min k l.length := by
    have := clipAt_cast l.length k
    rw [if_neg (by omega)] at this
    omega
  rw [e, List.drop_zero, Nat.sub_zero]
  by_cases h : k ≤ l.length
  · rw [Nat.min_eq_left h]
  · rw [Nat.min_eq_right (by omega), List.take_length, List.take_of_length_le (by omega)]
theorem range_cut {α : Type} (N a m : Nat) (g : Nat → α) (h : a + m ≤ N) : (((List.range N).map g).drop a).take m = (List.range m).map fun j => g (a + j) := by
  apply List.ext_getElem
  · simp; omega
  · intro i h1 h2
    simp
noncomputable def innerD : D := .list [.list [], .list [.list [], .list []], .list [.list [.list []]], .list [.list [.list []], .list [], .list [.list []]]]
theorem innerD_eq : innerD = .list (toDs innerL) := by
  rw [toDs_map]
  unfold innerL innerD e2 e0
  simp only [List.map_cons, List.map_nil, toD_mk]
section
variable {Θ : Th} {n : Nat} {P₀ : Fz} {tabs : TabL}
theorem ExS.to {env : Env} {σ : Store} {fz : List Str} {st : Stmt} {out out' : Out} (h : ExS Θ n P₀ env σ fz st out) (e : out = out') : ExS Θ n P₀ env σ fz st out' := e ▸ h
noncomputable def figsD (x : Int) : D := .list ((List.range 13).map fun k => intD (fig x k))
theorem item_fig {x : Int} {j : Nat} (hj : j < 13) : OpOk Θ n P₀ getItem (figsD x) (.int (j : Int)) (.int (fig x j : Int)) := by
  refine OpOk.item_list (by simp) ?_
  have e : seqIndex? (j : Int) 13 = some j := by
    unfold seqIndex?
    have h1 : ¬ (j : Int) < 0 := by omega
    simp [h1]
    omega
  unfold itemD
  rw [List.length_map, List.length_range, e, Option.bind_some, List.getElem?_map, List.getElem?_range hj]
  rfl
theorem item_inner {j : Nat} (hj : j < 4) : OpOk Θ n P₀ getItem (.list (toDs innerL)) (.int (j : Int)) (inn j).toD := by
  refine OpOk.item_list (by rw [toDs_length]; decide) ?_
  have e : seqIndex? (j : Int) 4 = some j := by
    unfold seqIndex?
    have h1 : ¬ (j : Int) < 0 := by omega
    simp [h1]
    omega
  unfold itemD
  rw [toDs_length, show innerL.length = 4 from rfl, e, Option.bind_some, toDs_get (show j < innerL.length from hj)]
  rfl
section
variable {env : Env} {σ : Store}
theorem se_list (l : List Expr) (p : Pos) (es : List Expr) (env : Env) : starEach (.List l p :: es) env = (false, eval (.List l p) env) :: starEach es env := by rfl
/-- the judgements in a box: the elaborator does not look into it -/
structure EvB (Θ : Th) (n : Nat) (P₀ : Fz) (env : Env) (σ : Store) (e : Expr) (d : D) : Prop where
  ev : EvS Θ n P₀ env σ e d
structure EvBs (Θ : Th) (n : Nat) (P₀ : Fz) (env : Env) (σ : Store) (es : List Expr) (ds : List D) : Prop where
  ev : EvSs Θ n P₀ env σ es ds
theorem cons_list {l : List Expr} {p : Pos} {es : List Expr} {d : D} {ds : List D} (h1 : EvB Θ n P₀ env σ (.List l p) d) (h2 : EvBs Θ n P₀ env σ es ds) : EvBs Θ n P₀ env σ (.List l p :: es) (d :: ds) := ⟨EvSs.cons h1.ev h2.ev (se_list _ _ _ _)⟩
theorem nil_list : EvBs Θ n P₀ env σ [] [] := ⟨EvSs.nil⟩
theorem mk_list {es : List Expr} {p : Pos} {ds : List D} (h : EvBs Θ n P₀ env σ es ds) (hl : ds.length ≤ 4) : EvB Θ n P₀ env σ (.List es p) (.list ds) := ⟨EvS.list h.ev (Nat.le_trans hl (by decide))⟩
theorem len1 {a : D} : [a].length ≤ 4 := by simp
theorem len2 {a b : D} : [a, b].length ≤ 4 := by simp
theorem len3 {a b c : D} : [a, b, c].length ≤ 4 := by simp
theorem len4 {a b c d : D} : [a, b, c, d].length ≤ 4 := by simp
theorem ev_inner {p0 p1 p2 p3 p4 p5 p6 p7 p8 p9 p10 p11 p12 p13 : Pos} : EvB Θ n P₀ env σ (.List [.List [] p0, .List [.List [] p1, .List [] p2] p3, .List [.List [.List [] p4] p5] p6, .List [.List [.List [] p7] p8, .List [] p9, .List [.List [] p10] p11] p12] p13) (.list (toDs innerL)) := by
  have l0 : ∀ p, EvB Θ n P₀ env σ (.List [] p) (.list []) := fun p => mk_list nil_list (Nat.zero_le _)
  have l1 : ∀ p q, EvB Θ n P₀ env σ (.List [.List [] q] p) (.list [.list []]) := fun p q => mk_list (cons_list (l0 q) nil_list) len1
  rw [← innerD_eq]
  exact mk_list (cons_list (l0 _) (cons_list (mk_list (cons_list (l0 _) (cons_list (l0 _) nil_list)) len2) (cons_list (mk_list (cons_list (l1 _ _) nil_list) len1) (cons_list (mk_list (cons_list (l1 _ _) (cons_list (l0 _) (cons_list (l1 _ _) nil_list))) len3) nil_list)))) len4
structure ExsB (Θ : Th) (n : Nat) (P₀ : Fz) (env : Env) (σ : Store) (fz : List Str) (st : List Stmt) (out : Out) : Prop where
  ev : ExsS Θ n P₀ env σ fz st out
theorem assignC_B {fz : List Str} {x : Str} {px pos : Pos} {value : Expr} {d : D} {c : Addr} {rest : List Stmt} {out : Out} (hv : EvB Θ n P₀ env σ value d) (hx : env.cells.lookup x = some c) (hf : x ∉ fz) (hk : env.kindOf x = some .cell) (hs : swapsWith value (some (.Name x px)) pos.line env = pure false)
    (h2 : ExsB Θ n P₀ env ((x, d) :: σ) fz rest out) : ExsB Θ n P₀ env σ fz (.Assign [.Name x px] value pos :: rest) out := ⟨ExsS.cons (ExS.assignC hv.ev hx hf hk hs) h2.ev⟩
theorem CallOk.defB {a : Addr} {fd : FuncData} {body : List Stmt} {names : List Str} {ds : List D} {d : D} (hd : DefAt P₀ a fd body)
    (hb : ∀ vs : List Value, vs.length = names.length → bindArgs fd ⟨vs, []⟩ = pure (names.zip vs)) (hl : ds.length = names.length)
    (hk : ∀ x ∈ names, fd.scope.names.lookup x = some .local ∨ fd.scope.names.lookup x = some .cell)
    (hbody : ∀ L, ExsB Θ n P₀ (callEnvC fd L a) (bindD names ds []) [] body (.ret d)) : CallOk Θ (n + 1) P₀ (.ref a) ds d := CallOk.def hd hb hl hk fun L => (hbody L).ev
end
/-- a written list, cut -/
theorem EvS.cutListT {env : Env} {σ : Store} {value : Expr} {lo hi : Option Expr} {p pos : Pos} {xs : List D} {i j : Option Int} (hv : EvS Θ n P₀ env σ value (.list xs)) (hlo : PartS Θ n P₀ env σ lo i) (hhi : PartS Θ n P₀ env σ hi j) (hz : xs.length ≤ 16777216) :
    EvS Θ n P₀ env σ (.Subscript value (.Slice lo hi .none p) pos) (.list ((xs.drop (i.elim 0 (clipAt xs.length))).take (j.elim xs.length (clipAt xs.length) - i.elim 0 (clipAt xs.length)))) :=
  fun A s P Q E R l S h => Subscript_ (hv A s P _ _ R l S fun v s₁ P₁ p₁ r₁ => wpAny_Slice (part_ok hlo R (l.trans p₁.le) (S.post p₁) fun vl s₂ P₂ p₂ hl => part_ok hhi R ((l.trans p₁.le).trans p₂.le) ((S.post p₁).post p₂) fun vu s₃ P₃ p₃ hu => wpAny_evalPart_none (by
    cases r₁ with
    | @list a k vs _ hp rs =>
      have p := (p₁.trans p₂).trans p₃
      have hsz : vs.toArray.size = xs.length := by rw [List.size_toArray, rs.length]
      have hl3 : s₃.heap.IsList a vs.toArray := ⟨_, p.good.has _ _ ((p₂.trans p₃).le _ _ hp), rfl, _, rfl⟩
      have q := Post.pushLoose (t := s₃.toks) (o := { cls := .type "slice", data := .fields #[vl, vu, .none] }) p.good
      have q2 := Post.push (s := { s₃ with heap := s₃.heap.push { cls := .type "slice", data := .fields #[vl, vu, .none] } }) (o := { cls := .type "list", data := .seq (slicePick vs.toArray i j .none) }) (t := s₃.toks) q.good rfl
      have hT := (hl3.push { cls := .type "slice", data := .fields #[vl, vu, .none] }).typeIs (s := { s₃ with heap := s₃.heap.push { cls := .type "slice", data := .fields #[vl, vu, .none] } })
      refine kba_turn (value' := .Name (Str.ofString "_") ⟨0, 0, 0, 0⟩) (fun _ => rfl) ?_
      have got := fun (hq : Q (.ref (s₃.heap.push { cls := .type "slice", data := .fields #[vl, vu, .none] }).objs.size) _) => wpAny_getItem_list_slice (prog := Θ.prog) (w := Θ.w) (A := A) (E := E) (Q := Q) (s := { s₃ with heap := s₃.heap.push { cls := .type "slice", data := .fields #[vl, vu, .none] } }) (hl3.push _) (Heap.IsSliceOf.new ..) hl hu .none (by simp) hq (by rw [hsz, sizeLine_eq]; exact hz)
      unfold subscriptTail
      refine wpAny_bind ?_
      rw [getitemInPython_of_ne hT.not_modules]
      refine wpAny_bind (wpAny_specialOf hT list_getitem_lookup ?_)
      have fin := fun hq => wpAny_operating (vs := [.ref s₃.heap.objs.size, .ref a]) (wpAny_mono (got hq) (fun r s' hr => (wpAny_pure hr : wpAny Θ.M A (pure r) Q E s')) fun _ _ x => x)
      refine wpAny_pure (wpAny_bind (fin ?_))
      have e : slicePick vs.toArray i j .none = ((vs.drop (i.elim 0 (clipAt xs.length))).take (j.elim xs.length (clipAt xs.length) - i.elim 0 (clipAt xs.length))).toArray := by
        have := slicePick_plain vs.toArray i j
        rw [hsz] at this
        exact this
      refine h _ _ _ ((p.trans q).trans q2) ?_
      refine .list (n := 0) (vs := (vs.drop (i.elim 0 (clipAt xs.length))).take (j.elim xs.length (clipAt xs.length) - i.elim 0 (clipAt xs.length))) ?_ (((rs.drop _).take _).mono ((p₂.trans p₃).trans (q.trans q2)).le)
      right
      rw [e]
      exact ⟨rfl, rfl⟩)))
set_option maxHeartbeats 1000000 in
theorem drawn_ok (X : Ctx Θ tabs) (hl : Θ.K0.le P₀) {x : Int} : CallOk Θ (n + 1) P₀ (.ref X.drawn) [.int x] (drawnF x).toD := by
  obtain ⟨pm, cd, doc, hdf⟩ := X.drawnd.d
  refine CallOk.defB (names := [Str.ofString "x"]) (hdf.mono hl) (of1 fun _ => rfl) rfl (mem1 (.inr rfl)) fun L => ?_
  have eD : (drawnF x).toD = .list ((ks x).map fun k => (middle x k).toD) := by
    unfold drawnF
    rw [toD_mk, List.map_map]; rfl
  rw [eD]
  refine assignC_B (d := .list (toDs innerL)) ev_inner rfl (by simp) rfl (by kernel_rfl) ⟨?_⟩
  refine ExsS.cons (ExS.to (exS_assignComp (cl := [(Str.ofString "x", L + 1)]) (σc := [(Str.ofString "x", .int x)]) (fun _ => true) (onInt fun k => .int ((x.fdiv (4 ^ k.toNat)).fmod 4)) (EvS.callT (FnS.builtin X.B.range.g X.B.range.b) (EvSs.cons EvS.int EvSs.nil) CallOk.range1) (IterOk.range (range_small (N := 13) (by decide)) (range_size 13)) (by simp [rangeD]) (fun C' => ⟨⟨rfl, .inl rfl, rfl, (by show some NameKind.cell ≠ some NameKind.local; decide)⟩, trivial⟩) (fun C' a ha => EvIfs.nil) (fun C' a ha _ => ?_) (by kernel_rfl)) (out' := .next ((Str.ofString "figures", figsD x) :: (Str.ofString "inner", .list (toDs innerL)) :: bindD [Str.ofString "x"] [.int x] []) []) ?_) ?_
  · obtain ⟨j, hj⟩ := List.getElem?_of_mem ha
    obtain ⟨hj1, rfl⟩ := rangeD_at hj
    have hp : (4 : Int) ^ ((j : Int)).toNat ≠ 0 := Int.pow_ne_zero (by decide)
    refine EvS.bin (EvS.bin (EvS.name rfl) (EvS.bin EvS.int (EvS.name rfl) (OpOk.pow_int (by decide) (by omega) ?_)) (OpOk.div_int hp)) EvS.int (OpOk.mod_int (by decide))
    have : ∀ j : Nat, j < 13 → (!Builtin.Int.intTooBig (((Builtin.Int.intBits 4 : Nat) : Int) * (j : Int))) = true := by decide +kernel
    simpa using this j hj1
  · rw [filter_true]
    unfold figsD rangeD
    rw [List.map_map]
    refine congrArg (fun d => Out.next ((Str.ofString "figures", D.list d) :: _) []) (List.map_congr_left fun k _ => ?_)
    show D.int ((x.fdiv (4 ^ (0 + (k : Int) * 1).toNat)).fmod 4) = intD (fig x k)
    rw [show (0 + (k : Int) * 1).toNat = k by omega]
    exact congrArg D.int (fig_lt x k).2
  have h0 := fig_lt x 0
  refine ExsS.collect (acc := Str.ofString "nest") (x := Str.ofString "k") (d := .list ((ks x).map intD)) (ds := (ks x).map intD) (outs := (ks x).map fun k => (middle x k).toD) (.inl rfl) (by simp) (by simp [ks]; omega) rfl (by decide)
    (fun a hna => EvS.to (EvS.cutListT (Θ := Θ.hold a []) (i := none) (hi := some _) (j := some (fig x 0 : Int)) (EvS.list (ds := [D.int 1, D.int 5, D.int 9]) (EvSs.cons EvS.int (EvSs.cons EvS.int (EvSs.cons EvS.int EvSs.nil))) (show (3 : Nat) ≤ 16777216 by decide)) trivial (EvS.item (EvS.name rfl) EvS.int (item_fig (j := 0) (by decide)) tyList) (show (3 : Nat) ≤ 16777216 by decide)) ?_) (fun a => IterOk.list) (fun a i b o hna hb ho => ?_)
  · rw [takeK]
    unfold ks
    rw [List.map_take]; rfl
  · rw [List.getElem?_map] at hb ho
    obtain ⟨k, hk, rfl⟩ := Option.map_eq_some_iff.mp hb
    rw [hk] at ho
    cases ho
    have hk9 := ks_in (List.mem_of_getElem? hk)
    have hf := fig_lt x k
    have e1 : (k : Int) + 1 = ((k + 1 : Nat) : Int) := by omega
    have e3 : ((k + 1 : Nat) : Int) + (fig x k : Int) = ((k + 1 + fig x k : Nat) : Int) := by omega
    refine EvS.to (EvS.comp (cl := [(Str.ofString "inner", L + 2)]) (σc := [(Str.ofString "inner", .list (toDs innerL))]) (fun _ => true) (onInt fun f => (inn f.toNat).toD)
      (EvS.to (d' := .list ((List.range (fig x k)).map fun j => intD (fig x (k + 1 + j)))) (EvS.cutList (EvS.name (d := figsD x) rfl) (i := some ((k + 1 : Nat) : Int)) (j := some ((k + 1 + fig x k : Nat) : Int)) (EvS.to (EvS.bin (EvS.name rfl) EvS.int OpOk.add_int) (congrArg D.int e1)) (EvS.to (EvS.bin (EvS.to (EvS.bin (EvS.name rfl) EvS.int OpOk.add_int) (congrArg D.int e1)) (EvS.item (EvS.name rfl) (EvS.name (d := .int (k : Int)) rfl) (item_fig (j := k) (by omega)) tyList) OpOk.add_int) (congrArg D.int e3)) (by simp)) ?_)
      IterOk.list (by simp; omega) (fun C' => ⟨⟨rfl, .inl rfl, rfl, (by show some NameKind.cell ≠ some NameKind.local; decide)⟩, trivial⟩) (fun C' a ha => EvIfs.nil) (fun C' a ha _ => ?_) (by kernel_rfl)) ?_
    · refine congrArg D.list ?_
      rw [← range_cut 13 (k + 1) (fig x k) (fun j => intD (fig x j)) (by omega)]
      show List.take (clipAt ((List.range 13).map fun k => intD (fig x k)).length ((k + 1 + fig x k : Nat) : Int) - clipAt ((List.range 13).map fun k => intD (fig x k)).length ((k + 1 : Nat) : Int)) (List.drop (clipAt ((List.range 13).map fun k => intD (fig x k)).length ((k + 1 : Nat) : Int)) _) = _
      rw [List.length_map, List.length_range, clip_nat _ _ (by omega), clip_nat _ _ (by omega)]
      congr 1
      omega
    · obtain ⟨j, hj, rfl⟩ := List.mem_map.mp ha
      have hf2 := fig_lt x (k + 1 + j)
      exact EvS.item (EvS.name rfl) (EvS.name (d := .int (fig x (k + 1 + j) : Int)) rfl) (item_inner hf2.1) tyList
    · rw [filter_true, List.map_map]
      show _ = (HF.mk ((List.range (fig x k)).map fun j => inn (fig x (k + 1 + j)))).toD
      rw [toD_mk, List.map_map]
      rfl
end
end Mine
namespace Mine
open PySem PySem.W PyProof.Rows PySem.Calls PySem.Spec
/-! what the drawn nests are like -/
theorem inn_ok : ∀ f, f < 4 → (inn f).num = f ∧ (inn f).rank ≤ 2 := by decide +kernel
theorem inn_her (f : Nat) (h : f < 4) : Her 3 (inn f) ∧ fineN (inn f) := by
  have h4 : f = 0 ∨ f = 1 ∨ f = 2 ∨ f = 3 := by omega
  have n0 : e0.num ≤ 100000 := by decide +kernel
  have n1 : (HF.mk [e0]).num ≤ 100000 := by decide +kernel
  have he0 : Her 3 e0 ∧ fineN e0 := ⟨⟨by decide, trivial⟩, trivial⟩
  have he1 : Her 3 (HF.mk [e0]) ∧ fineN (HF.mk [e0]) := ⟨⟨by decide, he0.1, trivial⟩, ⟨n0, he0.2⟩, trivial⟩
  rcases h4 with rfl | rfl | rfl | rfl
  · exact he0
  · exact ⟨⟨by decide, he0.1, he0.1, trivial⟩, ⟨n0, he0.2⟩, ⟨n0, he0.2⟩, trivial⟩
  · exact ⟨⟨by decide, he1.1, trivial⟩, ⟨n1, he1.2⟩, trivial⟩
  · exact ⟨⟨by decide, he1.1, he0.1, he1.1, trivial⟩, ⟨n1, he1.2⟩, ⟨n0, he0.2⟩, ⟨n1, he1.2⟩, trivial⟩
theorem middle_ok (x : Int) (k : Nat) : Her 3 (middle x k) ∧ fineN (middle x k) ∧ (middle x k).num < 16 ∧ (middle x k).rank ≤ 3 := by
  have hm : ∀ y ∈ (List.range (fig x k)).map fun j => inn (fig x (k + 1 + j)), ∃ f, f < 4 ∧ y = inn f := fun y hy => by
    obtain ⟨j, _, rfl⟩ := List.mem_map.mp hy
    exact ⟨_, (fig_lt x _).1, rfl⟩
  have hf := (fig_lt x k).1
  refine ⟨⟨by simp; omega, Hers.of fun y hy => ?_⟩, fineN_of fun y hy => ?_, ?_, rank_le fun y hy => ?_⟩
  · obtain ⟨f, h, rfl⟩ := hm y hy; exact (inn_her f h).1
  · obtain ⟨f, h, rfl⟩ := hm y hy; exact ⟨by rw [(inn_ok f h).1]; omega, (inn_her f h).2⟩
  · exact nums_lt (k := 4) fun y hy => by obtain ⟨f, h, rfl⟩ := hm y hy; rw [(inn_ok f h).1]; exact h
  · obtain ⟨f, h, rfl⟩ := hm y hy; have := (inn_ok f h).2; omega
theorem drawn_is (x : Int) : Her 3 (drawnF x) ∧ fineN (drawnF x) ∧ (drawnF x).num < 65536 ∧ (drawnF x).rank ≤ 4 := by
  have hm : ∀ y ∈ (ks x).map (middle x), ∃ k, y = middle x k := fun y hy => by
    obtain ⟨k, _, rfl⟩ := List.mem_map.mp hy
    exact ⟨k, rfl⟩
  refine ⟨⟨by simp [ks]; omega, Hers.of fun y hy => ?_⟩, fineN_of fun y hy => ?_, ?_, rank_le fun y hy => ?_⟩
  · obtain ⟨k, rfl⟩ := hm y hy; exact (middle_ok x k).1
  · obtain ⟨k, rfl⟩ := hm y hy; have := middle_ok x k; exact ⟨by omega, this.2.1⟩
  · exact nums_lt (k := 16) fun y hy => by obtain ⟨k, rfl⟩ := hm y hy; exact (middle_ok x k).2.2.1
  · obtain ⟨k, rfl⟩ := hm y hy; have := (middle_ok x k).2.2.2; omega
theorem fine_acks {n : Nat} (h : n < 131072) : fineN (HF.mk (acks n)) := by
  have key : ∀ m, m < 131072 → ∀ n, n ≤ m → fineN (ack n) := by
    intro m
    induction m with
    | zero =>
      intro _ n hn
      have : n = 0 := by omega
      subst this
      rw [ack_eq, acks, bits_zero]; trivial
    | succ m ih =>
      intro hm n hn
      rw [ack_eq]
      refine fineN_of fun y hy => ?_
      obtain ⟨b, hb, rfl⟩ := List.mem_map.mp hy
      have h1 := bits_lt_self hb
      have h2 := bits_lt hb (show n < 2 ^ 17 by omega)
      exact ⟨by rw [num_ack]; omega, ih (by omega) b (by omega)⟩
  have := key n h n (Nat.le_refl _)
  rwa [ack_eq] at this
theorem rank_acks {n : Nat} (h : n < 131072) : (HF.mk (acks n)).rank ≤ 5 := by rw [← ack_eq]; exact rank_5 n h
theorem num_acks (n : Nat) : (HF.mk (acks n)).num = n := by rw [← ack_eq]; exact num_ack n
noncomputable abbrev intsD (xs : List Int) : D := .list (xs.map .int)
noncomputable abbrev lSt (i : Nat) : Stmt := (bodyOf (stm pw 15)).getD i (.Pass ⟨0, 0, 0, 0⟩)
noncomputable abbrev lEnv (pm doc : Value) (c L a : Addr) : Env := callEnvC (fdOf pw 15 pm (.ref c) doc) L a
noncomputable def rowL (xs : List Int) : List Int := xs.take 3 ++ [7904259, 9418, 0, 2571435]
noncomputable def numL (xs : List Int) : List Nat := (rowL xs).map fun x => (drawnF x).num
theorem rowL_len (xs : List Int) : 4 ≤ (rowL xs).length ∧ (rowL xs).length ≤ 7 := by
  unfold rowL
  simp
  omega
theorem numL_len (xs : List Int) : (numL xs).length = (rowL xs).length := by simp [numL]
theorem numL_lt {xs : List Int} {m : Nat} (h : m ∈ numL xs) : m < 65536 := by
  obtain ⟨x, _, rfl⟩ := List.mem_map.mp h
  exact (drawn_is x).2.2.1
noncomputable def nestD (xs : List Int) : D := .list ((rowL xs).map fun x => (drawnF x).toD)
noncomputable def B0 (xs : List Int) : Store := [(Str.ofString "script", intsD xs)]
noncomputable def B1 (xs : List Int) (C : Addr) : Store := (Str.ofString "key", .ref C) :: B0 xs
noncomputable def B2 (xs : List Int) (C : Addr) : Store := (Str.ofString "first", firstD) :: B1 xs C
noncomputable def B3 (xs : List Int) (C : Addr) : Store := (Str.ofString "nests", nestD xs) :: B2 xs C
noncomputable def B4 (xs : List Int) (C : Addr) : Store := (Str.ofString "numbers", .list ((numL xs).map intD)) :: B3 xs C
noncomputable def B5 (xs : List Int) (C : Addr) : Store := (Str.ofString "plain", .list ((numL xs).map ackD)) :: B4 xs C
noncomputable def B6 (xs : List Int) (C : Addr) : Store := (Str.ofString "places", .list ((List.range (numL xs).length).map intD)) :: B5 xs C
noncomputable def nn (xs : List Int) : Nat := (Int.fmod (33 + (xs.take 60).sum) 65536).toNat
theorem nn_ok (xs : List Int) : nn xs < 65536 ∧ Int.fmod (33 + (xs.take 60).sum) 65536 = (nn xs : Int) := by
  unfold nn
  rw [Int.fmod_eq_emod_of_nonneg _ (by decide)]
  omega
noncomputable def B8 (xs : List Int) (C : Addr) : Store := (Str.ofString "n", .int (nn xs : Int)) :: B6 xs C
noncomputable def B9 (xs : List Int) (C : Addr) : Store := (Str.ofString "members", memD (nn xs)) :: B8 xs C
noncomputable def B10 (xs : List Int) (C : Addr) : Store := (Str.ofString "behind", memD (nn xs + 1)) :: B9 xs C
section
variable {Θ : Th} {n : Nat} {P₀ : Fz} {tabs : TabL} {K : KD} {m : Addr} {pmv pm doc : Value} {c L a t : Addr} {xs : List Int} {fz : List Str}
theorem EvS.call0 {env : Env} {σ : Store} {f : Str} {px pos : Pos} {a : Addr} {d : D} (hf : EvS Θ n P₀ env σ (.Name f px) (.ref a)) (hfn : FunAt P₀ a) (hc : CallOk Θ n P₀ (.ref a) [] d) : EvS Θ n P₀ env σ (.Call (.Name f px) [] [] pos) d :=
  fun A s P Q E R l S h => Call_ (hf A s P _ _ R l S fun v s₁ P₁ p r => by
    cases r
    obtain ⟨o, fd, ho, hd⟩ := hfn
    refine callWith_function (o := o) (fd := fd) (evalArgs_empty ⟨⟨p.good.has _ _ (p.le _ _ (l _ _ ho)), hd⟩, ?_⟩)
    exact hc A s₁ P₁ [] Q E R (l.trans p.le) p.good .nil fun v s₃ P₃ p₃ r₃ => h v s₃ P₃ (p.trans p₃) r₃)
theorem ints_arr {P : Fz} : ∀ {vs : List Value} {l : List Int}, Reps P vs (l.map D.int) → ∃ ps : List (Int × Tok), vs = ps.map (fun p => Value.int p.1 p.2) ∧ ps.map (·.1) = l
  | vs, [], h => by cases h; exact ⟨[], rfl, rfl⟩
  | vs, x :: l, h => by
    cases h with | @cons v _ vs _ r rs =>
    cases r with | int _ t =>
    obtain ⟨ps, e1, e2⟩ := ints_arr rs
    exact ⟨(x, t) :: ps, by rw [e1]; rfl, by rw [List.map_cons, e2]⟩
theorem CallOk.sum {l : List Int} : CallOk Θ n P₀ (.builtin "sum") [.list (l.map D.int)] (.int l.sum) := fun A s P vs Q E R hle G rs h => by
  cases rs with | @cons v _ _ _ r rs =>
  cases rs
  cases r with | @list a k vs _ hp rs =>
  obtain ⟨ps, e1, e2⟩ := ints_arr rs
  have hit : vs.toArray = intItems ps.toArray := by rw [e1]; simp [intItems]
  refine sum_intListG (xs := ps.toArray) R.handled ⟨_, G.has _ _ hp, rfl, _, by rw [hit]⟩ fun h' tk t' hk => ?_
  rw [preSum_eq, show (ps.toArray.toList.map (·.1)) = l from e2]
  have e3 : l.take ps.toArray.size = l := by rw [← e2]; exact List.take_of_length_le (by simp)
  rw [e3]
  exact h _ _ P (Post.keeps G hk) (.int _ _)
/-- first = _law_first_sets() -/
theorem st1 (X : Ctx Θ tabs) (hl : Θ.K0.le P₀) {C : Addr} : ExS Θ (n + 40) P₀ (lEnv pm doc c L a) (B1 xs C) [] (lSt 1) (.next (B2 xs C) []) :=
  ExS.assignC (EvS.call0 (EvS.fn (FnS.global X.firstsd.g)) (X.firstsd.fn hl) ((firsts_ok (n := n + 35) X hl).mono (by omega) (.refl _))) rfl (by simp)
theorem st2 (X : Ctx Θ tabs) (hl : Θ.K0.le P₀) {C : Addr} (hx : xs.length ≤ 1000) : ExS Θ (n + 40) P₀ (lEnv pm doc c L a) (B2 xs C) [] (lSt 2) (.next (B3 xs C) []) := by
  have h4 : ∀ (σ : Store) (p : Pos), PartS Θ (n + 40) P₀ (lEnv pm doc c L a) σ (some (.Constant (.int 3) 0 p)) (some ((3 : Nat) : Int)) := fun σ p => EvS.int
  refine ExS.to (exS_assignComp (σc := []) (fun _ => true) (onInt fun x => (drawnF x).toD) (d := intsD (rowL xs))
    (EvS.to (EvS.bin (EvS.cutList (EvS.name (d := intsD xs) rfl) (i := none) (j := some ((3 : Nat) : Int)) trivial (h4 _ _) (by simp; omega)) (EvS.list (EvSs.cons EvS.int (EvSs.cons EvS.int (EvSs.cons EvS.int (EvSs.cons EvS.int EvSs.nil)))) (show (4 : Nat) ≤ 16777216 by decide)) (OpOk.add_list ?_)) ?_) IterOk.list (by have := rowL_len xs; simp; omega) (fun C => trivial) (fun C d hd => EvIfs.nil) (fun C d hd _ => ?_)) ?_
  · rw [takeK]
    simp
    omega
  · rw [takeK]
    unfold rowL intsD
    rw [List.map_append, List.map_take]
    rfl
  · obtain ⟨x, _, rfl⟩ := List.mem_map.mp hd
    exact EvS.call (EvS.fn (FnS.global X.drawnd.g)) (X.drawnd.fn hl) (EvSs.cons (EvS.name rfl) EvSs.nil) (drawn_ok X hl)
  · rw [filter_true, List.map_map]
    rfl
theorem st3 (X : Ctx Θ tabs) (hl : Θ.K0.le P₀) {C : Addr} : ExS Θ (n + 40) P₀ (lEnv pm doc c L a) (B3 xs C) [] (lSt 3) (.next (B4 xs C) []) := by
  refine ExS.to (ExS.assignC (EvS.comp (σc := []) (fun _ => true) (fun d => .int ((ofD d).num : Int)) (EvS.name (d := nestD xs) rfl) IterOk.list (by have := rowL_len xs; simp; omega) (fun C => trivial) (fun C d hd => EvIfs.nil) (fun C d hd _ => ?_)) rfl (by simp)) ?_
  · obtain ⟨x, _, rfl⟩ := List.mem_map.mp hd
    have hd := drawn_is x
    rw [ofD_toD]
    exact EvS.call (EvS.fn (FnS.global X.numberd.g)) (X.numberd.at.fn hl) (EvSs.cons (EvS.name rfl) EvSs.nil) ((number_ok (n := n) X hl 4 _ hd.2.2.2 hd.2.1).mono (by omega) (.refl _))
  · rw [filter_true, List.map_map]
    unfold B4 numL
    rw [List.map_map]
    refine congrArg (fun l => Out.next ((Str.ofString "numbers", D.list l) :: B3 xs C) []) (List.map_congr_left fun x _ => ?_)
    show D.int ((ofD (drawnF x).toD).num : Int) = _
    rw [ofD_toD]; rfl
theorem st4 (X : Ctx Θ tabs) (C : KC Θ X P₀ K m pmv) : ExS Θ (n + 40) P₀ (lEnv pm doc c L a) (B4 xs K.C) [] (lSt 4) (.next (B5 xs K.C) []) := by
  refine ExS.to (ExS.assignC (EvS.comp (cl := [(Str.ofString "key", L + 2)]) (σc := [(Str.ofString "key", .ref K.C)]) (fun _ => true) (fun d => ackD (ofD d).num) (EvS.name (d := nestD xs) rfl) IterOk.list (by have := rowL_len xs; simp; omega) (fun C' => ⟨⟨rfl, .inl rfl, rfl, (by show some NameKind.cell ≠ some NameKind.local; decide)⟩, trivial⟩) (fun C' d hd => EvIfs.nil) (fun C' d hd _ => ?_) (by kernel_rfl)) rfl (by simp)) ?_
  · obtain ⟨x, _, rfl⟩ := List.mem_map.mp hd
    have hd := drawn_is x
    rw [ofD_toD]
    exact EvS.call (EvS.fn (FnS.global X.plaind.g)) (X.plaind.fn C.hl) (EvSs.cons (EvS.name rfl) (EvSs.cons (EvS.name rfl) EvSs.nil)) ((plain_ok (n := n) X C 4 _ hd.2.2.2 hd.1 hd.2.1 (by omega)).mono (by omega) (.refl _))
  · rw [filter_true, List.map_map]
    unfold B5 numL
    rw [List.map_map]
    refine congrArg (fun l => Out.next ((Str.ofString "plain", D.list l) :: B4 xs K.C) []) (List.map_congr_left fun x _ => ?_)
    show ackD (ofD (drawnF x).toD).num = _
    rw [ofD_toD]; rfl
theorem lists_hf (l : List Nat) : D.list (l.map ackD) = (HF.mk (l.map ack)).toD := by rw [toD_mk, List.map_map]; rfl
theorem ackL_rank {l : List Nat} (h : ∀ m ∈ l, m < 65536) : (HF.mk (l.map ack)).rank ≤ 500 := by
  refine rank_le fun y hy => ?_
  obtain ⟨b, hb, rfl⟩ := List.mem_map.mp hy
  have := rank_4 b (h b hb)
  omega
theorem st5 (X : Ctx Θ tabs) (hl : Θ.K0.le P₀) {C : Addr} : ExS Θ (n + 40) P₀ (lEnv pm doc c L a) (B5 xs C) fz (lSt 5) (.next (B5 xs C) fz) := by
  have h0 := numL_len xs
  have h1 := rowL_len xs
  have hne := OpOk.ne_hf (Θ := Θ) (n := n + 40) (P₀ := P₀) (a := HF.mk ((numL xs).map ack)) (b := HF.mk ((numL xs).map ack)) (ackL_rank fun m hm => numL_lt hm)
  rw [← lists_hf, heq_self] at hne
  refine ExS.ite (b := false) (EvT.cmp (EvS.to (EvS.comp (cl := [(Str.ofString "first", L + 1)]) (σc := [(Str.ofString "first", firstD)]) (fun _ => true) (onInt fun z => ackD z.toNat) (EvS.name (d := .list ((numL xs).map intD)) rfl) IterOk.list (by simp; omega) (fun C' => ⟨⟨rfl, .inl rfl, rfl, (by show some NameKind.cell ≠ some NameKind.local; decide)⟩, trivial⟩) (fun C' d hd => EvIfs.nil) (fun C' d hd _ => ?_) (by kernel_rfl)) ?_) (EvS.name rfl) hne) (fun h => nomatch h) fun _ => ExsS.nil
  · obtain ⟨k, hk, rfl⟩ := List.mem_map.mp hd
    have hk := numL_lt hk
    show EvS Θ _ _ _ _ _ (ackD ((k : Int)).toNat)
    rw [Int.toNat_natCast]
    refine EvS.to (EvS.comp (cl := [(Str.ofString "first", L + 1)]) (σc := [(Str.ofString "first", firstD)]) (fun _ => true) (onInt fun x => (ack x.toNat).toD)
      (EvS.call (EvS.fn (FnS.global X.membd.g)) (X.membd.at.fn hl) (EvSs.cons (EvS.name (d := .int (k : Int)) rfl) EvSs.nil) ((members_ok (n := n) X hl (N := k) (Nat.lt_trans hk (by decide))).mono (by omega) (.refl _))) IterOk.list (by rw [List.length_map]; have := bits_len (n := k) (k := 16) hk; omega) (fun C'' => ⟨⟨rfl, .inl rfl, rfl, (by show some NameKind.cell ≠ some NameKind.local; decide)⟩, trivial⟩) (fun C'' a ha => EvIfs.nil) (fun C'' d hd _ => ?_) (by kernel_rfl)) ((congrArg D.list (comp_acks _)).trans (toD_ack k).symm)
    obtain ⟨b, hb, rfl⟩ := List.mem_map.mp hd
    have hbk := bits_lt hb (show k < 2 ^ 16 from hk)
    show EvS Θ _ _ _ _ _ (ack ((b : Int)).toNat).toD
    rw [Int.toNat_natCast]
    exact EvS.item (EvS.name rfl) (EvS.name (d := .int (b : Int)) rfl) (item_first (by omega)) tyList
  · rw [filter_true, List.map_map]
    refine congrArg D.list (List.map_congr_left fun k _ => ?_)
    show ackD ((k : Int)).toNat = _
    rw [Int.toNat_natCast]
end
end Mine
namespace Mine
open PySem PySem.W PyProof.Rows PySem.Calls PySem.Spec
noncomputable def asgV : Stmt → Expr
  | .Assign _ v _ => v
  | _ => .Name (Str.ofString "") ⟨0, 0, 0, 0⟩
noncomputable def ifL : Stmt → Expr
  | .If (.Compare l _ _ _) _ _ _ => l
  | _ => .Name (Str.ofString "") ⟨0, 0, 0, 0⟩
noncomputable def ifR : Stmt → Expr
  | .If (.Compare _ _ [r] _) _ _ _ => r
  | _ => .Name (Str.ofString "") ⟨0, 0, 0, 0⟩
noncomputable def kwE : Expr → Expr
  | .Call _ _ (⟨_, e, _⟩ :: _) _ => e
  | e => e
noncomputable def lamS : Expr → Scope
  | .Lambda _ _ s _ => s
  | _ => default
section
variable {Θ : Th} {n : Nat} {P₀ : Fz} {tabs : TabL} {K : KD} {m : Addr} {pmv pm doc : Value} {c L a t : Addr} {xs : List Int} {fz : List Str}
theorem one_free {P : Fz} {x : Str} {cN : Addr} {d : D} {sc : Scope} (hc : ∃ o v, P cN o ∧ o.data = .cell (some v) ∧ Rep P v d) (hs : sc.names.lookup x = some .free) (hn : (x == ("__classdict__" : Str)) = false) :
    (∀ y e, ([(x, d)] : Store).lookup y = some e → ∃ c v o, ([(x, cN)] : List (Str × Addr)).lookup y = some c ∧ P c o ∧ o.data = .cell (some v) ∧ Rep P v e ∧ sc.names.lookup y = some .free ∧ (y == ("__classdict__" : Str)) = false) ∧
    (∀ y c, ([(x, cN)] : List (Str × Addr)).lookup y = some c → ∃ o v, P c o ∧ o.data = .cell (some v)) := by
  obtain ⟨o, v, h1, h2, h3⟩ := hc
  constructor
  · intro y e h
    rw [List.lookup_cons] at h
    split at h
    · rename_i q
      cases beq_iff_eq.mp q
      cases h
      exact ⟨cN, v, o, by simp [List.lookup_cons], h1, h2, h3, hs, hn⟩
    · cases h
  · intro y c h
    rw [List.lookup_cons] at h
    split at h
    · cases h; exact ⟨o, v, h1, h2⟩
    · cases h
theorem two_free {P : Fz} {x x' : Str} {cN cN' : Addr} {d d' : D} {sc : Scope} (hne : x' ≠ x) (hc : ∃ o v, P cN o ∧ o.data = .cell (some v) ∧ Rep P v d) (hc' : ∃ o v, P cN' o ∧ o.data = .cell (some v) ∧ Rep P v d') (hs : sc.names.lookup x = some .free) (hs' : sc.names.lookup x' = some .free) (hn : (x == ("__classdict__" : Str)) = false) (hn' : (x' == ("__classdict__" : Str)) = false) :
    (∀ y e, ([(x, d), (x', d')] : Store).lookup y = some e → ∃ c v o, ([(x, cN), (x', cN')] : List (Str × Addr)).lookup y = some c ∧ P c o ∧ o.data = .cell (some v) ∧ Rep P v e ∧ sc.names.lookup y = some .free ∧ (y == ("__classdict__" : Str)) = false) ∧
    (∀ y c, ([(x, cN), (x', cN')] : List (Str × Addr)).lookup y = some c → ∃ o v, P c o ∧ o.data = .cell (some v)) := by
  have h1 := one_free (sc := sc) hc hs hn
  have h2 := one_free (sc := sc) hc' hs' hn'
  constructor
  · intro y e h
    by_cases hy : y = x
    · subst hy
      rw [List.lookup_cons, beq_self_eq_true] at h
      cases h
      obtain ⟨o, v, a1, a2, a3⟩ := hc
      exact ⟨cN, v, o, by simp [List.lookup_cons], a1, a2, a3, hs, hn⟩
    · have hb : (y == x) = false := beq_eq_false_iff_ne.mpr hy
      rw [List.lookup_cons, hb] at h
      rw [List.lookup_cons, hb]
      exact h2.1 y e h
  · intro y c h
    by_cases hy : y = x
    · subst hy
      rw [List.lookup_cons, beq_self_eq_true] at h
      cases h
      obtain ⟨o, v, a1, a2, a3⟩ := hc
      exact ⟨o, v, a1, a2⟩
    · have hb : (y == x) = false := beq_eq_false_iff_ne.mpr hy
      rw [List.lookup_cons, hb] at h
      exact h2.2 y c h
noncomputable def lawQ : Str := Str.ofString "law.<locals>.<lambda>"
theorem st6 (X : Ctx Θ tabs) {C : Addr} : ExS Θ (n + 40) P₀ (lEnv pm doc c L a) (B5 xs C) fz (lSt 6) (.next (B6 xs C) fz) := by
  have h0 := numL_len xs
  have h1 := rowL_len xs
  have hlen : CallOk Θ (n + 40) P₀ (.builtin "len") [nestD xs] (.int ((numL xs).length : Int)) := by
    have := CallOk.lenList (Θ := Θ) (n := n + 40) (P₀ := P₀) (xs := (rowL xs).map fun x => (drawnF x).toD) (by rw [List.length_map]; omega)
    rw [List.length_map, ← h0] at this
    exact this
  exact ExS.assign (EvS.callT (FnS.builtin X.list.g X.list.b) (EvSs.cons (EvS.callT (FnS.builtin X.B.range.g X.B.range.b) (EvSs.cons (EvS.callB (FnS.builtin X.B.len.g X.B.len.b) (EvSs.cons (EvS.name rfl) EvSs.nil) hlen) EvSs.nil) CallOk.range1) EvSs.nil) (CallOk.listRange (by omega)))
theorem ints_flat (l : List Nat) : ∀ d ∈ l.map intD, Flat d := fun d hd => by
  obtain ⟨k, _, rfl⟩ := List.mem_map.mp hd
  exact trivial
set_option maxHeartbeats 1000000 in
theorem st7 (X : Ctx Θ tabs) (C : KC Θ X P₀ K m pmv) (hmem : (c, t, lawQ) ∈ tabs) (hk : ∃ o v, P₀ (L + 2) o ∧ o.data = .cell (some v) ∧ Rep P₀ v (.ref K.C)) (hnum : ∃ o v, P₀ (L + 3) o ∧ o.data = .cell (some v) ∧ Rep P₀ v (.list ((numL xs).map intD))) (hpl : ∃ o v, P₀ (L + 4) o ∧ o.data = .cell (some v) ∧ Rep P₀ v (.list ((numL xs).map ackD))) :
    ExS Θ (n + 40) P₀ (lEnv pm doc c L a) (B6 xs K.C) fz (lSt 7) (.next (B6 xs K.C) fz) := by
  have h0 := numL_len xs
  have h1 := rowL_len xs
  have hin : ∀ i, i < (numL xs).length → (numL xs).getD i 0 < 65536 := fun i hi => numL_lt (by rw [List.getD_eq_getElem?_getD, List.getElem?_eq_getElem hi]; exact List.getElem_mem hi)
  refine ExS.ite (b := false) (EvT.cmp (EvS.sortedP (n := n + 38) (N := (numL xs).length) (T := .ref K.C) (kd := fun i => .key K.C (ackD ((numL xs).getD i 0))) (b := fun i j => decide (ord (ack ((numL xs).getD i 0)) (ack ((numL xs).getD j 0)) < 0)) (FnS.builtin X.B.sorted.g X.B.sorted.b) (EvS.name rfl) (EvKey.lam X.TS (clos := [(Str.ofString "plain", L + 4), (Str.ofString "key", L + 2)]) hmem rfl (by kernel_rfl) rfl (by kernel_rfl) rfl fun P₁ fb hl₁ La i hi => ?_) (by omega) (fun i _ P' s' u _ G r => type_key G r) rfl (beq_self_eq_true _) (fun i j hi hj => (LtKey.key (n := n + 37) C.kp C.hm (X.orderd.fn C.hl) (C.hc (n := n + 31) (Nat.lt_trans (hin i hi) (by decide)) (Nat.lt_trans (hin j hj) (by decide))))))
    (EvS.to (EvS.sortedP (n := n + 38) (N := (numL xs).length) (T := .type "int") (kd := fun i => intD ((numL xs).getD i 0)) (b := fun i j => decide ((((numL xs).getD i 0 : Nat) : Int) < (((numL xs).getD j 0 : Nat) : Int))) (FnS.builtin X.B.sorted.g X.B.sorted.b) (EvS.name rfl) (EvKey.lam X.TS (clos := [(Str.ofString "numbers", L + 3)]) hmem rfl (by kernel_rfl) rfl (by kernel_rfl) rfl fun P₁ fb hl₁ La i hi => ?_) (by omega) (fun i _ P' s' u _ G r => type_int r) rfl (by decide) (fun i j hi hj => LtKey.int)) (congrArg (fun o => D.list (o.map intD)) (sortIdx_congr (b' := fun i j => decide (ord (ack ((numL xs).getD i 0)) (ack ((numL xs).getD j 0)) < 0)) fun i j hi hj => ?_))) (OpOk.ne_same (ints_flat _))) (fun h => nomatch h) fun _ => ExsS.nil
  · have hk' : ∃ o v, P₁ (L + 2) o ∧ o.data = .cell (some v) ∧ Rep P₁ v (.ref K.C) := let ⟨o, v, r1, r2, r3⟩ := hk; ⟨o, v, hl₁ _ _ r1, r2, r3.mono hl₁⟩
    have hp' : ∃ o v, P₁ (L + 4) o ∧ o.data = .cell (some v) ∧ Rep P₁ v (.list ((numL xs).map ackD)) := let ⟨o, v, r1, r2, r3⟩ := hpl; ⟨o, v, hl₁ _ _ r1, r2, r3.mono hl₁⟩
    obtain ⟨f1, f2⟩ := two_free (sc := lamS (kwE (ifL (lSt 7)))) (x := Str.ofString "plain") (x' := Str.ofString "key") (by decide) hp' hk' rfl rfl (by decide) (by decide)
    obtain ⟨c', ctv, FF⟩ := La.funF (σf := [(Str.ofString "plain", .list ((numL xs).map ackD)), (Str.ofString "key", .ref K.C)]) f1 f2 (.cons (by intro z hz; simp at hz; subst hz; simp) (.cons (by intro _ h; cases h) .nil)) (by decide) rfl rfl rfl
    refine CallOk.lamF (n := n + 37) FF rfl (names := [Str.ofString "k"]) (of1 fun _ => rfl) rfl (mem1 rfl) (by decide) (mem1 rfl) fun L' => ?_
    exact EvS.callKey (n := n + 35) (C.kp.mono hl₁) (EvS.name rfl) (EvSs.cons (EvS.item (EvS.name rfl) (EvS.name (d := intD i) rfl) (item_ack hi (by omega)) tyList) EvSs.nil)
  · have hn' : ∃ o v, P₁ (L + 3) o ∧ o.data = .cell (some v) ∧ Rep P₁ v (.list ((numL xs).map intD)) := let ⟨o, v, r1, r2, r3⟩ := hnum; ⟨o, v, hl₁ _ _ r1, r2, r3.mono hl₁⟩
    obtain ⟨f1, f2⟩ := one_free (sc := lamS (kwE (ifR (lSt 7)))) (x := Str.ofString "numbers") hn' rfl (by decide)
    obtain ⟨c', ctv, FF⟩ := La.funF (σf := [(Str.ofString "numbers", .list ((numL xs).map intD))]) f1 f2 (.cons (by intro _ h; cases h) .nil) (by decide) rfl rfl rfl
    refine CallOk.lamF (n := n + 37) FF rfl (names := [Str.ofString "k"]) (of1 fun _ => rfl) rfl (mem1 rfl) (by decide) (mem1 rfl) fun L' => ?_
    refine EvS.item (EvS.name rfl) (EvS.name (d := intD i) rfl) (OpOk.item_list (by rw [List.length_map]; omega) ?_) tyList
    have e : seqIndex? ((i : Nat) : Int) (numL xs).length = some i := by
      unfold seqIndex?
      have h1 : ¬ (i : Int) < 0 := by omega
      simp [h1]
      omega
    unfold itemD
    rw [List.length_map, e, Option.bind_some, List.getElem?_map, List.getElem?_eq_getElem hi, List.getD_eq_getElem?_getD, List.getElem?_eq_getElem hi]
    rfl
  · rw [ord_lt]
    exact decide_eq_decide.mpr (by omega)
theorem st8 (X : Ctx Θ tabs) {C : Addr} (hx : xs.length ≤ 1000) : ExS Θ (n + 40) P₀ (lEnv pm doc c L a) (B6 xs C) fz (lSt 8) (.next (B8 xs C) fz) := by
  have h60 : ∀ (σ : Store) (p : Pos), PartS Θ (n + 40) P₀ (lEnv pm doc c L a) σ (some (.Constant (.int 60) 0 p)) (some ((60 : Nat) : Int)) := fun σ p => EvS.int
  refine ExS.to (ExS.assign (EvS.bin (EvS.bin EvS.int (EvS.callB (FnS.builtin X.B.sum.g X.B.sum.b) (EvSs.cons (EvS.to (EvS.cutList (EvS.name (d := intsD xs) rfl) (i := none) (j := some ((60 : Nat) : Int)) trivial (h60 _ _) (by simp; omega)) (d' := .list ((xs.take 60).map D.int)) ?_) EvSs.nil) CallOk.sum) OpOk.add_int) EvS.int (OpOk.mod_int (by decide)))) ?_
  · rw [takeK, List.map_take]
  · rw [(nn_ok xs).2]; rfl
theorem comp_first {k : Nat} : (((bits k).map intD).filter (fun _ => true)).map (onInt fun x => (ack x.toNat).toD) = toDs (acks k) := by
  rw [comp_acks, toDs_map, acks, List.map_map]; rfl
theorem st9 (X : Ctx Θ tabs) (hl : Θ.K0.le P₀) {C : Addr} : ExS Θ (n + 40) P₀ (lEnv pm doc c L a) (B8 xs C) fz (lSt 9) (.next (B9 xs C) fz) := by
  have hk := (nn_ok xs).1
  refine ExS.to (exS_assignComp (cl := [(Str.ofString "first", L + 1)]) (σc := [(Str.ofString "first", firstD)]) (fun _ => true) (onInt fun x => (ack x.toNat).toD)
    (EvS.call (EvS.fn (FnS.global X.membd.g)) (X.membd.at.fn hl) (EvSs.cons (EvS.name (d := .int (nn xs : Int)) rfl) EvSs.nil) ((members_ok (n := n) X hl (N := nn xs) (Nat.lt_trans hk (by decide))).mono (by omega) (.refl _))) IterOk.list (by rw [List.length_map]; have := bits_len (n := nn xs) (k := 16) hk; omega) (fun C'' => ⟨⟨rfl, .inl rfl, rfl, (by show some NameKind.cell ≠ some NameKind.local; decide)⟩, trivial⟩) (fun C'' a ha => EvIfs.nil) (fun C'' d hd _ => ?_) (by kernel_rfl)) ?_
  · obtain ⟨b, hb, rfl⟩ := List.mem_map.mp hd
    have hbk := bits_lt hb (show nn xs < 2 ^ 16 from hk)
    show EvS Θ _ _ _ _ _ (ack ((b : Int)).toNat).toD
    rw [Int.toNat_natCast]
    exact EvS.item (EvS.name rfl) (EvS.name (d := .int (b : Int)) rfl) (item_first (by omega)) tyList
  · rw [comp_first]; rfl
theorem st10 (X : Ctx Θ tabs) (hl : Θ.K0.le P₀) {C : Addr} : ExS Θ (n + 40) P₀ (lEnv pm doc c L a) (B9 xs C) fz (lSt 10) (.next (B10 xs C) fz) := by
  have hk := (nn_ok xs).1
  have e1 : ((nn xs : Nat) : Int) + 1 = ((nn xs + 1 : Nat) : Int) := by omega
  refine ExS.to (exS_assignComp (cl := [(Str.ofString "first", L + 1)]) (σc := [(Str.ofString "first", firstD)]) (fun _ => true) (onInt fun x => (ack x.toNat).toD)
    (EvS.call (EvS.fn (FnS.global X.membd.g)) (X.membd.at.fn hl) (EvSs.cons (EvS.to (EvS.bin (EvS.name (d := .int (nn xs : Int)) rfl) EvS.int OpOk.add_int) (congrArg D.int e1)) EvSs.nil) ((members_ok (n := n) X hl (N := nn xs + 1) (Nat.lt_of_lt_of_le (Nat.succ_lt_succ hk) (by decide))).mono (by omega) (.refl _))) IterOk.list (by rw [List.length_map]; have := bits_len (n := nn xs + 1) (k := 17) (by omega); omega) (fun C'' => ⟨⟨rfl, .inl rfl, rfl, (by show some NameKind.cell ≠ some NameKind.local; decide)⟩, trivial⟩) (fun C'' a ha => EvIfs.nil) (fun C'' d hd _ => ?_) (by kernel_rfl)) ?_
  · obtain ⟨b, hb, rfl⟩ := List.mem_map.mp hd
    have hbk := bits_lt hb (show nn xs + 1 < 2 ^ 17 by omega)
    show EvS Θ _ _ _ _ _ (ack ((b : Int)).toNat).toD
    rw [Int.toNat_natCast]
    exact EvS.item (EvS.name rfl) (EvS.name (d := .int (b : Int)) rfl) (item_first (by omega)) tyList
  · rw [comp_first]; rfl
theorem st11 (X : Ctx Θ tabs) (C : KC Θ X P₀ K m pmv) : ExS Θ (n + 40) P₀ (lEnv pm doc c L a) (B10 xs K.C) fz (lSt 11) (.ret (.bool true)) := by
  have hk := (nn_ok xs).1
  have hnum := number_ok (n := n) X C.hl 5 (HF.mk (acks (nn xs))) (rank_acks (by omega)) (fine_acks (by omega))
  rw [num_acks] at hnum
  have heq := OpOk.eq_hf (Θ := Θ) (n := n + 40) (P₀ := P₀) (a := HF.mk (acks (nn xs + 1))) (b := HF.mk (acks (nn xs + 1))) (Nat.le_trans (rank_acks (by omega)) (by decide))
  rw [heq_self] at heq
  refine ExS.ret (EvS.and2 (a := true) (EvS.to (EvS.cmp (EvS.call (EvS.fn (FnS.global X.numberd.g)) (X.numberd.at.fn C.hl) (EvSs.cons (EvS.name rfl) EvSs.nil) (hnum.mono (by omega) (.refl _))) (EvS.name (d := .int (nn xs : Int)) rfl) OpOk.eq_int) ?_) (fun _ => EvS.cmp (EvS.name rfl) (EvS.call (EvS.fn (FnS.global X.nextd.g)) (X.nextd.fn C.hl) (EvSs.cons (EvS.name rfl) (EvSs.cons (EvS.name rfl) (EvSs.cons (EvS.name rfl) EvSs.nil))) ((next_ok (n := n) X C hk).mono (by omega) (.refl _))) heq) (fun h => nomatch h))
  rw [beq_self_eq_true]
end
end Mine
namespace Mine
open PySem PySem.W PyProof.Rows PySem.Calls PySem.Spec

mutual
theorem Rep.minus {P P' : Fz} (hm : ∀ b o, P b o → o.cls ≠ .none → P' b o) {v : Value} {d : D} : Rep P v d → Rep P' v d
  | .none => .none
  | .bool b => .bool b
  | .int i t => .int i t
  | .bytes b t => .bytes b t
  | .list h1 h2 => .list (hm _ _ h1 (by intro h; cases h)) (Reps.minus hm h2)
  | .tup h1 h2 => .tup (hm _ _ h1 (by intro h; cases h)) (Reps.minus hm h2)
  | .range h1 => .range (hm _ _ h1 (by intro h; cases h))
  | .ref a => .ref a
  | .key h1 h2 h3 => .key (hm _ _ h1 (by intro h; cases h)) (hm _ _ h2 (by intro h; cases h)) (Rep.minus hm h3)
theorem Reps.minus {P P' : Fz} (hm : ∀ b o, P b o → o.cls ≠ .none → P' b o) {vs : List Value} {ds : List D} : Reps P vs ds → Reps P' vs ds
  | .nil => .nil
  | .cons h1 h2 => .cons (Rep.minus hm h1) (Reps.minus hm h2)
end

section
variable {Θ : Th} {n : Nat} {P₀ : Fz} {env : Env} {σ : Store} {fz : List Str}
theorem StX.freezeVar {s : Shared} {P : Fz} {x : Str} {c : Addr} {d : D} (S : StX Θ env σ fz P s.heap) (hk : env.kindOf x = some .cell) (hx : env.cells.lookup x = some c) (hσ : σ.lookup x = some d) :
    ∃ o v, StX Θ env σ (x :: fz) (P.add c o) s.heap ∧ PostX Θ env s s P (P.add c o) ∧ o.data = .cell (some v) ∧ Rep P v d ∧ s.heap.get? c = some o := by
  obtain ⟨m, hn, hl⟩ := S.ns
  obtain ⟨v, r, Lk⟩ := hl x d hσ
  have : ∃ c', env.cells.lookup x = some c' ∧ s.heap.IsCell c' (some v) := by
    cases Lk with
    | loc h1 h2 => rw [hk] at h1; cases h1
    | cell c' h1 h2 h3 => exact ⟨c', h2, h3⟩
    | free c' h1 h2 h3 h4 => exact ⟨c', h2, h3⟩
  obtain ⟨c', h2, o, ho, hd⟩ := this
  rw [hx] at h2; cases h2
  obtain ⟨a, b⟩ := S.freezeC hx ho ⟨_, hd⟩
  exact ⟨o, v, a, b, hd, r, ho⟩
/-- a frame, after a step that changes Pc alone and freezes what is new -/
theorem StX.swap {s : Shared} {P P' : Fz} {h' : Heap} {Pc : Addr} {ps : Array Value} (S : StX Θ env σ fz P s.heap) (hPc : s.heap.get? Pc = some (tabObj ps)) (hle : ∀ b o, P b o → b ≠ Pc → P' b o) (hnew : ∀ b o, P' b o → P b o ∨ s.heap.get? b = none)
    (hk : ∀ b o, s.heap.get? b = some o → b ≠ Pc → h'.get? b = some o) (G : Good Θ P' h') : StX Θ env σ fz P' h' := by
  obtain ⟨m, hn, hl⟩ := S.ns
  have hm : ∀ b o, P b o → o.cls ≠ .none → P' b o := fun b o x hc => hle b o x (by
    rintro rfl
    have := S.good.has _ _ x
    rw [hPc] at this; cases this
    exact hc rfl)
  have hcell : ∀ c v, s.heap.IsCell c v → h'.IsCell c v := fun c v ⟨o, e, d⟩ => ⟨o, hk _ _ e (by
    rintro rfl
    rw [hPc] at e; cases e
    cases d), d⟩
  have hL : env.locals ≠ Pc := by
    rintro e
    obtain ⟨o, es, ep, eo, d, _⟩ := hn
    rw [e, hPc] at eo; cases eo; cases d
  refine ⟨⟨G, S.fn, ⟨m, ?_, fun x d hx => ?_⟩, S.ntab⟩, fun o x => ?_, S.apart, fun x c hx => ⟨?_, fun hf o x' => ?_⟩⟩
  · obtain ⟨o, es, ep, eo, r⟩ := hn
    exact ⟨o, es, ep, hk _ _ eo hL, r⟩
  · obtain ⟨v, r, Lk⟩ := hl x d hx
    exact ⟨v, r.minus hm, Lk.keeps hcell⟩
  · rcases hnew _ _ x with y | y
    · exact S.own o y
    · obtain ⟨o', es, ep, eo, _⟩ := hn
      rw [eo] at y; cases y
  · obtain ⟨v, hv⟩ := (S.cells x c hx).1
    exact ⟨v, hcell _ _ hv⟩
  · rcases hnew _ _ x' with y | y
    · exact (S.cells x c hx).2 hf o y
    · obtain ⟨v, o', e, _⟩ := (S.cells x c hx).1
      rw [e] at y; cases y
theorem StX.addP {P : Fz} {h : Heap} {a : Addr} {o : Obj} (S : StX Θ env σ fz P h) (ho : h.get? a = some o) (hnt : ¬ Θ.T a) (ha : a ≠ env.locals) (hc : ∀ x, env.cells.lookup x ≠ some a) : StX Θ env σ fz (P.add a o) h := by
  obtain ⟨m, hn, hl⟩ := S.ns
  refine ⟨⟨S.good.freeze ho hnt, S.fn, ⟨m, hn, fun y d hy => let ⟨v, r, L⟩ := hl y d hy; ⟨v, r.mono (Fz.add_le _ _ _), L⟩⟩, S.ntab⟩, fun o' x => ?_, S.apart, fun y c₁ hy => ⟨(S.cells y c₁ hy).1, fun hf o' x' => ?_⟩⟩
  · rcases x with x | ⟨e, _⟩
    · exact S.own o' x
    · exact ha e.symm
  · rcases x' with x' | ⟨e, _⟩
    · exact (S.cells y c₁ hy).2 hf o' x'
    · exact hc y (e ▸ hy)
structure CmpAt (Θ : Th) (ca cc Pc : Addr) (ps : Array Value) (mc : Str → Option Value) : Prop where
  g : Θ.mg (Str.ofString "cmp_to_key") = some (.ref ca)
  d : ∃ pm doc, DefAt Θ.K0 ca (fdOf pw 1 pm (.ref cc) doc) (bodyOf (stm pw 1))
  ctx : ∀ h, Has Θ.K0 h → h.get? Pc = some (tabObj ps) → BCtx Θ.mg mc cc Pc ps h
  tr : TriplesOk ps.toList
  hnf : codeAmong kPos ps.toList = none
  obj : Blt Θ (Str.ofString "object") (.type "object")
  bc : Θ.mb (Str.ofString "__build_class__") = some (.builtin "__build_class__")
  nT : ¬ Θ.T Pc
  nK : ∀ o, ¬ Θ.K0 Pc o
structure Stays (Θ : Th) (env : Env) (Pc : Addr) (s s' : Shared) : Prop where
  gens : s'.gens = s.gens
  drawn : s'.drawn = s.drawn
  os : s'.os = s.os
  keep : ∀ b o, s.heap.get? b = some o → ¬ Θ.T b → b ≠ Pc → b ≠ env.locals → (∀ x, env.cells.lookup x ≠ some b) → s'.heap.get? b = some o
theorem PostX.stays {s s' : Shared} {P P' : Fz} {Pc : Addr} (p : PostX Θ env s s' P P') : Stays Θ env Pc s s' := ⟨p.gens, p.drawn, p.os, fun b o e ht _ hl hc => p.keep b o e ht hl hc⟩
theorem Stays.trans {s s' s'' : Shared} {Pc : Addr} (h : Stays Θ env Pc s s') (h' : Stays Θ env Pc s' s'') : Stays Θ env Pc s s'' :=
  ⟨h'.gens.trans h.gens, h'.drawn.trans h.drawn, h'.os.trans h.os, fun b o e ht hp hl hc => h'.keep b o (h.keep b o e ht hp hl hc) ht hp hl hc⟩
end
section
variable {Θ : Th} {pm doc : Value} {c L a t : Addr} {tabs : TabL} {xs : List Int} {ca cc Pc : Addr} {ps : Array Value} {mc : Str → Option Value}
set_option maxHeartbeats 2000000 in
theorem law_body (X : Ctx Θ tabs) (CA : CmpAt Θ ca cc Pc ps mc) (hmem : (c, t, lawQ) ∈ tabs) (hx : xs.length ≤ 1000) {A : Around} {s : Shared} {P : Fz} {Q : Flow → Shared → Prop} {E : Value → Shared → Prop} (R : Room 40 A) (hdp : A.depth + 110 ≤ 500) (hu : A.units + 1300 ≤ 9000)
    (hK : Θ.K0.le P) (hPc : P Pc (tabObj ps)) (S : StX Θ (lEnv pm doc c L a) (B0 xs) [] P s.heap)
    (hQ : ∀ s' P' ps', Stays Θ (lEnv pm doc c L a) Pc s s' → Good Θ P' s'.heap → s'.heap.get? Pc = some (tabObj ps') → Q (.ret (.bool true)) s') :
    wpAny Θ.M A (execs (bodyOf (stm pw 15)) (lEnv pm doc c L a)) Q E s := by
  obtain ⟨pm1, doc1, hd⟩ := CA.d
  obtain ⟨oca, hoca, hdat⟩ := hd.obj
  refine wpAny_execs_cons (wpAny_Assign_Name (Call_ ((FnS.global CA.g : FnS Θ (lEnv pm doc c L a) (B0 xs) (.Name (Str.ofString "cmp_to_key") ⟨83, 10, 83, 20⟩) (.ref ca)) A s P _ _ S.toStE (callWith_def (fd := fdOf pw 1 pm1 (.ref cc) doc1) (o := oca) hdat (args_cons ((FnS.global X.orderd.g : FnS Θ (lEnv pm doc c L a) (B0 xs) (.Name (Str.ofString "_law_order") ⟨83, 21, 83, 31⟩) (.ref X.order)) A s P _ _ S.toStE (args_nil ⟨?_, ?_⟩)))))))
  · exact S.good.has _ _ (hK _ _ hoca)
  have hPc5 : s.heap.get? Pc = some (tabObj ps) := S.good.has _ _ hPc
  refine wp_cmpToKey X.TS (hd.mono hK) (CA.ctx _ S.good.k0 hPc5) CA.tr CA.hnf CA.obj CA.bc S.good CA.nT CA.nK R.handled hdp hu fun K m h' tk P' hle hnew hk hP' G' KP' cell => ?_
  obtain ⟨ps', hP'⟩ := hP'
  have S₈ : StX Θ (lEnv pm doc c L a) (B0 xs) [] P' h' := S.swap hPc5 hle hnew hk G'
  have nPL : Pc ≠ (lEnv pm doc c L a).locals := by
    rintro e
    obtain ⟨m, ⟨o, es, ep, eo, d, _⟩, _⟩ := S.ns
    rw [← e, hPc5] at eo; cases eo; cases d
  have nPC : ∀ x, (lEnv pm doc c L a).cells.lookup x ≠ some Pc := fun x hx => by
    obtain ⟨v, o, e, d⟩ := (S.cells x Pc hx).1
    rw [hPc5] at e; cases e; cases d
  have S₉ := S₈.addP hP' CA.nT nPL nPC
  have hK9 : Θ.K0.le (P'.add Pc (tabObj ps')) := S₉.good.top
  have KX : KC Θ X (P'.add Pc (tabObj ps')) K m ((Θ.mg (Str.ofString "__name__")).getD .none) := ⟨KP'.mono (Fz.add_le _ _ _), cell.mono (Fz.add_le _ _ _), hK9⟩
  have t9 : Stays Θ (lEnv pm doc c L a) Pc s { s with heap := h', toks := tk } := ⟨rfl, rfl, rfl, fun b o e _ hp _ _ => hk b o e hp⟩
  generalize P'.add Pc (tabObj ps') = P₉ at *
  refine wp_storeC (s := { s with heap := h', toks := tk }) (c := L + 2) S₉ rfl rfl (by simp) (.ref K.C) fun s₁₀ p₁₀ S₁₀ _ => ?_
  refine wpAny_execs_cons (st1 (n := 0) X hK9 A s₁₀ P₉ _ _ R (.refl _) S₁₀ fun s₁₁ P₁₁ p₁₁ S₁₁ => ?_)
  refine wpAny_execs_cons (st2 (n := 0) X hK9 hx A s₁₁ P₁₁ _ _ R p₁₁.le S₁₁ fun s₁₂ P₁₂ p₁₂ S₁₂ => ?_)
  have l12 := p₁₁.le.trans p₁₂.le
  refine wpAny_execs_cons (st3 (n := 0) X hK9 A s₁₂ P₁₂ _ _ R l12 S₁₂ fun s₁₃ P₁₃ p₁₃ S₁₃ => ?_)
  have l13 := l12.trans p₁₃.le
  refine wpAny_execs_cons (st4 (n := 0) X KX A s₁₃ P₁₃ _ _ R l13 S₁₃ fun s₁₄ P₁₄ p₁₄ S₁₄ => ?_)
  have l14 := l13.trans p₁₄.le
  refine wpAny_execs_cons (st5 (n := 0) X hK9 A s₁₄ P₁₄ _ _ R l14 S₁₄ fun s₁₅ P₁₅ p₁₅ S₁₅ => ?_)
  have l15 := l14.trans p₁₅.le
  refine wpAny_execs_cons (st6 (n := 0) X A s₁₅ P₁₅ _ _ R (.refl _) S₁₅ fun s₁₆ P₁₆ p₁₆ S₁₆ => ?_)
  have l16 := l15.trans p₁₆.le
  obtain ⟨o1, v1, S₁₇, p₁₇, hd1, r1, g1⟩ := S₁₆.freezeVar (x := Str.ofString "key") (c := L + 2) (d := .ref K.C) rfl rfl rfl
  obtain ⟨o2, v2, S₁₈, p₁₈, hd2, r2, g2⟩ := S₁₇.freezeVar (x := Str.ofString "numbers") (c := L + 3) (d := .list ((numL xs).map intD)) rfl rfl rfl
  obtain ⟨o3, v3, S₁₉, p₁₉, hd3, r3, g3⟩ := S₁₈.freezeVar (x := Str.ofString "plain") (c := L + 4) (d := .list ((numL xs).map ackD)) rfl rfl rfl
  have q1 : (((P₁₆.add (L + 2) o1).add (L + 3) o2).add (L + 4) o3) (L + 2) o1 := .inl (.inl (Fz.add_at _ _ _))
  have q2 : (((P₁₆.add (L + 2) o1).add (L + 3) o2).add (L + 4) o3) (L + 3) o2 := .inl (Fz.add_at _ _ _)
  have q3 : (((P₁₆.add (L + 2) o1).add (L + 3) o2).add (L + 4) o3) (L + 4) o3 := Fz.add_at _ _ _
  have w1 := r1.mono (p₁₇.le.trans (p₁₈.le.trans p₁₉.le))
  have w2 := r2.mono (p₁₈.le.trans p₁₉.le)
  have w3 := r3.mono p₁₉.le
  have l19 := l16.trans (p₁₇.le.trans (p₁₈.le.trans p₁₉.le))
  have t19 := ((p₁₇.stays (Pc := Pc)).trans p₁₈.stays).trans p₁₉.stays
  generalize ((P₁₆.add (L + 2) o1).add (L + 3) o2).add (L + 4) o3 = P₁₉ at *
  have KX2 := KX.mono l19
  refine wpAny_execs_cons (st7 (n := 0) X KX2 hmem ⟨o1, v1, q1, hd1, w1⟩ ⟨o2, v2, q2, hd2, w2⟩ ⟨o3, v3, q3, hd3, w3⟩ A s₁₆ P₁₉ _ _ R (.refl _) S₁₉ fun s₂₀ P₂₀ p₂₀ S₂₀ => ?_)
  refine wpAny_execs_cons (st8 (n := 0) X hx A s₂₀ P₂₀ _ _ R (.refl _) S₂₀ fun s₂₁ P₂₁ p₂₁ S₂₁ => ?_)
  have l21 := p₂₀.le.trans p₂₁.le
  refine wpAny_execs_cons (st9 (n := 0) X KX2.hl A s₂₁ P₂₁ _ _ R l21 S₂₁ fun s₂₂ P₂₂ p₂₂ S₂₂ => ?_)
  have l22 := l21.trans p₂₂.le
  refine wpAny_execs_cons (st10 (n := 0) X KX2.hl A s₂₂ P₂₂ _ _ R l22 S₂₂ fun s₂₃ P₂₃ p₂₃ S₂₃ => ?_)
  have l23 := l22.trans p₂₃.le
  refine wpAny_execs_cons (st11 (n := 0) X KX2 A s₂₃ P₂₃ _ _ R l23 S₂₃ fun s₂₄ P₂₄ p₂₄ v G r => ?_)
  cases r
  have hP10 : s₁₀.heap.get? Pc = some (tabObj ps') := p₁₀.keep _ _ hP' CA.nT nPL nPC
  have hP11 := p₁₁.keep _ _ hP10 CA.nT nPL nPC
  have hP12 := p₁₂.keep _ _ hP11 CA.nT nPL nPC
  have hP13 := p₁₃.keep _ _ hP12 CA.nT nPL nPC
  have hP14 := p₁₄.keep _ _ hP13 CA.nT nPL nPC
  have hP15 := p₁₅.keep _ _ hP14 CA.nT nPL nPC
  have hP16 := p₁₆.keep _ _ hP15 CA.nT nPL nPC
  have hP20 := p₂₀.keep _ _ hP16 CA.nT nPL nPC
  have hP21 := p₂₁.keep _ _ hP20 CA.nT nPL nPC
  have hP22 := p₂₂.keep _ _ hP21 CA.nT nPL nPC
  have hP23 := p₂₃.keep _ _ hP22 CA.nT nPL nPC
  have hP24 := p₂₄.keep _ _ hP23 CA.nT nPL nPC
  exact hQ s₂₄ P₂₄ ps' ((((((((((((t9.trans p₁₀.stays).trans p₁₁.stays).trans p₁₂.stays).trans p₁₃.stays).trans p₁₄.stays).trans p₁₅.stays).trans p₁₆.stays).trans p₂₀.stays).trans p₂₁.stays).trans p₂₂.stays).trans p₂₃.stays).trans p₂₄.stays) G hP24
end
section
variable {Θ : Th} {c a t : Addr} {tabs : TabL} {xs : List Int} {ca cc Pc : Addr} {ps : Array Value} {mc : Str → Option Value} {pm doc : Value}
theorem law_call (X : Ctx Θ tabs) (CA : CmpAt Θ ca cc Pc ps mc) (hmem : (c, t, lawQ) ∈ tabs) (hd : DefAt Θ.K0 a (fdOf pw 15 pm (.ref c) doc) (bodyOf (stm pw 15))) (hx : xs.length ≤ 1000) {A : Around} {s : Shared} {P : Fz} {v : Value} {Q E : Value → Shared → Prop}
    (R : Room0 41 A) (hdp : A.depth + 120 ≤ 500) (hu : A.units + 1400 ≤ 9000) (G : Good Θ P s.heap) (hPc : P Pc (tabObj ps)) (r : Rep P v (intsD xs))
    (hQ : ∀ s' P' ps', s'.gens = s.gens → s'.drawn = s.drawn → s'.os = s.os → (∀ b o, s.heap.get? b = some o → ¬ Θ.T b → b ≠ Pc → s'.heap.get? b = some o) → Good Θ P' s'.heap → s'.heap.get? Pc = some (tabObj ps') → Q (.bool true) s') :
    wpAny Θ.M A (call (.ref a) [v]) Q E s := by
  have hd := hd.mono G.top
  refine wpAny_call ?_
  obtain ⟨o, ho, hdat⟩ := hd.obj
  have hcd : s.heap.CodeRec (.ref c) (fdOf pw 15 pm (.ref c) doc).qualname := by
    obtain ⟨c, oc, vs', t, h1, h2, h3, h4⟩ := hd.code
    exact ⟨c, oc, vs', t, h1, G.has _ _ h2, h3, h4⟩
  refine codeAny_call_cells (binds := [(Str.ofString "script", v)]) R.limit (G.has _ _ ho) hdat (Θ.nolim G.k0) hcd hd.body rfl hd.clo (fun x hx => ?_) (fun s₁ x => ?_) hd.co hd.gen hd.kind
  · simp at hx; subst hx
    exact .inl rfl
  have S := entered (Θ := Θ) (a := a) (names := [Str.ofString "script"]) (vs := [v]) (ds := [intsD xs]) rfl hd.kind (by intro y hy; simp at hy; subst hy; exact .inl rfl) G (.cons r .nil) x
  obtain ⟨h1, tk1, rfl⟩ := x.toInCall.same
  refine law_body (L := s.heap.objs.size) X CA hmem hx (R.deeper ⟨hd.gen, hd.co, hd.b, hd.g⟩) (by show A.depth + 1 + 110 ≤ 500; omega) (by show A.units + 3 + 1300 ≤ 9000; omega) G.top hPc S fun s' P' ps' St G' hP' => ?_
  refine hQ s' P' ps' St.gens St.drawn St.os (fun b o e ht hp => St.keep b o (x.toInCall.keep b o e) ht hp ?_ ?_) G' hP'
  · rintro rfl
    exact Nat.lt_irrefl _ (Heap.lt_size e)
  · intro y hy
    have h1 := x.above y b (mem_of_lookup hy)
    exact Nat.lt_irrefl _ (Nat.lt_trans h1 (Heap.lt_size e))
end
end Mine
namespace Mine
open PySem PySem.W PyProof.Rows PySem.Calls PySem.Spec

theorem ns_at {h : Heap} {a : Addr} {m : Str → Option Value} {o : Obj} {es : Array DictEntry} {n : Nat} (hn : h.Ns a m) (ho : h.get? a = some o) (hd : o.data = .dict es n) (x : Str) : m x = nsFind es x := by
  obtain ⟨o', es', ep, e, d, _, f⟩ := hn
  rw [ho] at e; cases e
  rw [hd] at d; cases d
  exact (f x).symm
/-- what the start heap tells, but for empty code tables -/
noncomputable def KH (h : Heap) : Fz := fun b o => h.get? b = some o ∧ o ≠ tabObj #[]
theorem KH.keep {h h' : Heap} (H : Has (KH h) h') {b : Addr} {o : Obj} (e : h.get? b = some o) (hne : o ≠ tabObj #[]) : h'.get? b = some o := H b o ⟨e, hne⟩
theorem ne_dict {o : Obj} {es : Array DictEntry} {n : Nat} (hd : o.data = .dict es n) : o ≠ tabObj #[] := by rintro rfl; cases hd
theorem KH.ns {h h' : Heap} (H : Has (KH h) h') {a : Addr} {m : Str → Option Value} (x : h.Ns a m) : h'.Ns a m := let ⟨o, es, ep, e, d, r⟩ := x; ⟨o, es, ep, KH.keep H e (ne_dict d), d, r⟩
theorem KH.nolim {h h' : Heap} (H : Has (KH h) h') (x : h.NoLimit) : h'.NoLimit := let ⟨mc, a, b⟩ := x; ⟨mc, KH.ns H a, b⟩
theorem KH.seer {h h' : Heap} (H : Has (KH h) h') (x : h.NoSeer) : h'.NoSeer where
  statics := let ⟨mc, a, b⟩ := x.statics; ⟨mc, KH.ns H a, b⟩
  mods := let ⟨mc, a, b⟩ := x.mods; ⟨mc, KH.ns H a, b⟩
  imp := let ⟨mc, a, b⟩ := x.imp; ⟨mc, KH.ns H a, b⟩
  main := let ⟨mg, bm, ob, a, b, c, d, e⟩ := x.main; ⟨mg, bm, ob, KH.ns H a, b, KH.keep H c (by rintro rfl; cases d), d, e⟩
noncomputable def tabs1 : TabL := [(48, 44, numQ), (60, 56, memQ), (87, 85, lawQ)]
noncomputable def Th1 (p : Program) (w : World) (h : Heap) (mg mb : Str → Option Value) (hp : p.given.tree = none) (hg : h.Ns mainGlobals mg) (hb : h.Ns builtinsNs mb) (nl : h.NoLimit) (sr : h.NoSeer) : Th where
  prog := p
  w := w
  T := fun t => ∃ c q, (c, t, q) ∈ tabs1
  Tab := TabAll tabs1
  K0 := KH h
  tabMono := fun x hl hk => x.mono hl fun c t q o hm e => hk t o ⟨c, q, hm⟩ e
  tabIn := fun x ⟨c, q, hm⟩ => let ⟨ps, e, _⟩ := x c _ q hm; ⟨_, e⟩
  tabF := fun {P h t o} x ⟨c, q, hm⟩ e v hd => by
    obtain ⟨ps, e', _⟩ := x c _ q hm
    rw [e] at e'; cases e'
    cases hd
  mg := mg
  mb := mb
  tree := hp
  nolim := fun H => KH.nolim H nl
  seer := fun H => KH.seer H sr
  gns := fun H => KH.ns H hg
  bns := fun H => KH.ns H hb
structure DefIn (h : Heap) (k a c : Nat) : Prop where
  fn : ∃ o pm doc, h.get? a = some o ∧ o.cls = .type "function" ∧ o.data = .func (fdOf pw k pm (.ref c) doc)
  cd : ∃ oc vs t, h.get? c = some oc ∧ oc.cls = .type "code" ∧ oc.data = .fields vs ∧ vs[1]? = some (.str (nameOf (stm pw k)) t)
theorem DefIn.at {h : Heap} {k a c : Nat} (D : DefIn h k a c) (hco : (scopeOf (stm pw k)).isCoroutine = false := by rfl) (hgen : (scopeOf (stm pw k)).isGenerator = false := by rfl) (hk : (scopeOf (stm pw k)).kind = .function := by rfl) :
    ∃ pm doc, DefAt (KH h) a (fdOf pw k pm (.ref c) doc) (bodyOf (stm pw k)) := by
  obtain ⟨o, pm, doc, h1, h2, h3⟩ := D.fn
  obtain ⟨oc, vs, t, g1, g2, g3, g4⟩ := D.cd
  exact ⟨pm, doc, ⟨o, ⟨h1, by rintro rfl; cases h2⟩, h3⟩, rfl, rfl, rfl, rfl, ⟨c, oc, vs, t, rfl, ⟨g1, by rintro rfl; cases g2⟩, g3, g4⟩, hco, hgen, hk⟩
structure HS (h : Heap) (mg : Str → Option Value) : Prop where
  d1 : DefIn h 1 21 20
  d5 : DefIn h 5 37 36
  d7 : DefIn h 7 42 41
  d8 : DefIn h 8 49 48
  d9 : DefIn h 9 54 53
  d10 : DefIn h 10 61 60
  d11 : DefIn h 11 66 65
  d12 : DefIn h 12 73 72
  d13 : DefIn h 13 78 77
  d14 : DefIn h 14 83 82
  d15 : DefIn h 15 88 87
  d3 : ∃ o pm doc, h.get? 30 = some o ∧ o.cls = .type "function" ∧ o.data = .func (fdOfD pw 3 pm (.ref 29) doc (.ref 23))
  c3 : ∃ oc vs t, h.get? 29 = some oc ∧ oc.cls = .type "code" ∧ oc.data = .fields vs ∧ vs[1]? = some (.str (nameOf (stm pw 3)) t)
  dT : ∃ n, h.get? 23 = some (seqObj "tuple" #[.ref 22] n)
  mo : ∃ o, h.get? 22 = some o ∧ o.cls = .type "object"
  t16 : h.get? 16 = some (tabObj #[])
  t44 : h.get? 44 = some (tabObj #[])
  t56 : h.get? 56 = some (tabObj #[])
  t85 : h.get? 85 = some (tabObj #[])
  k16 : CodeHd h 20 16
  k44 : CodeHd h 48 44
  k56 : CodeHd h 60 56
  k85 : CodeHd h 87 85
  sm : ∃ m, h.Ns sysModules m
  st : ∃ mc, h.Ns cStatics mc ∧ mc (Str.ofString "thirdparty.any") = none
  bm : ∃ bm o, mg (Str.ofString "__builtins__") = some (.ref bm) ∧ bm ≠ builtinsNs ∧ bm ≠ mainGlobals ∧ h.get? bm = some o ∧ o.cls = .type "module" ∧ o.dict = some builtinsNs ∧ o.data = .plain
structure MS (mg mb : Str → Option Value) : Prop where
  nm : ∃ nv, mg (Str.ofString "__name__") = some nv
  cmp : mg (Str.ofString "cmp_to_key") = some (.ref 21)
  miss : mg (Str.ofString "_initial_missing") = some (.ref 22)
  red : mg (Str.ofString "reduce") = some (.ref 30)
  i2 : mg (Str.ofString "Int2AP") = some (.ref 37)
  drawn : mg (Str.ofString "_law_drawn") = some (.ref 42)
  number : mg (Str.ofString "_law_number") = some (.ref 49)
  bits_ : mg (Str.ofString "_law_bits") = some (.ref 54)
  memb : mg (Str.ofString "_law_members") = some (.ref 61)
  firsts : mg (Str.ofString "_law_first_sets") = some (.ref 66)
  order : mg (Str.ofString "_law_order") = some (.ref 73)
  plain : mg (Str.ofString "_law_plain") = some (.ref 78)
  next : mg (Str.ofString "_law_next") = some (.ref 83)
  n1 : mg (Str.ofString "abs") = none
  n2 : mg (Str.ofString "int") = none
  n3 : mg (Str.ofString "divmod") = none
  n4 : mg (Str.ofString "len") = none
  n5 : mg (Str.ofString "max") = none
  n6 : mg (Str.ofString "range") = none
  n7 : mg (Str.ofString "sorted") = none
  n8 : mg (Str.ofString "sum") = none
  n9 : mg (Str.ofString "iter") = none
  n10 : mg (Str.ofString "object") = none
  n11 : mg (Str.ofString "zip") = none
  n12 : mg (Str.ofString "list") = none
  b1 : mb (Str.ofString "abs") = some (.builtin "abs")
  b2 : mb (Str.ofString "int") = some (.type "int")
  b3 : mb (Str.ofString "divmod") = some (.builtin "divmod")
  b4 : mb (Str.ofString "len") = some (.builtin "len")
  b5 : mb (Str.ofString "max") = some (.builtin "max")
  b6 : mb (Str.ofString "range") = some (.type "range")
  b7 : mb (Str.ofString "sorted") = some (.builtin "sorted")
  b8 : mb (Str.ofString "sum") = some (.builtin "sum")
  b9 : mb (Str.ofString "iter") = some (.builtin "iter")
  b10 : mb (Str.ofString "object") = some (.type "object")
  b11 : mb (Str.ofString "zip") = some (.type "zip")
  b12 : mb (Str.ofString "list") = some (.type "list")
  bc : mb (Str.ofString "__build_class__") = some (.builtin "__build_class__")
theorem ne_cls {o : Obj} (h : o.cls ≠ .none) : o ≠ tabObj #[] := by rintro rfl; exact h rfl
theorem KH.code {h h' : Heap} (H : Has (KH h) h') {c t : Addr} (x : CodeHd h c t) : CodeHd h' c t :=
  let ⟨o, vs, file, tf, flags, tg, inF, text, tt, e, c, r⟩ := x; ⟨o, vs, file, tf, flags, tg, inF, text, tt, KH.keep H e (ne_cls (by rw [c]; exact fun h => by cases h)), c, r⟩
section
variable {p : Program} {w : World} {h : Heap} {mg mb : Str → Option Value} {hp : p.given.tree = none} {hg : h.Ns mainGlobals mg} {hb : h.Ns builtinsNs mb} {nl : h.NoLimit} {sr : h.NoSeer}
theorem mk_fn {k a c : Nat} (D : DefIn h k a c) (hn : mg (nameOf (stm pw k)) = some (.ref a)) (hco : (scopeOf (stm pw k)).isCoroutine = false := by rfl) (hgen : (scopeOf (stm pw k)).isGenerator = false := by rfl) (hk : (scopeOf (stm pw k)).kind = .function := by rfl) :
    FnAt (Th1 p w h mg mb hp hg hb nl sr) pw k a := ⟨hn, let ⟨pm, doc, d⟩ := D.at hco hgen hk; ⟨pm, .ref c, doc, d⟩⟩
theorem mk_blts (M : MS mg mb) : Blts (Th1 p w h mg mb hp hg hb nl sr) := ⟨⟨M.n1, M.b1⟩, ⟨M.n2, M.b2⟩, ⟨M.n3, M.b3⟩, ⟨M.n4, M.b4⟩, ⟨M.n5, M.b5⟩, ⟨M.n6, M.b6⟩, ⟨M.n7, M.b7⟩, ⟨M.n8, M.b8⟩⟩
theorem tabs_in {c t : Addr} {q : Str} (hm : (c, t, q) ∈ tabs1) : (c = 48 ∧ t = 44 ∧ q = numQ) ∨ (c = 60 ∧ t = 56 ∧ q = memQ) ∨ (c = 87 ∧ t = 85 ∧ q = lawQ) := by
  unfold tabs1 at hm
  simp only [List.mem_cons, List.not_mem_nil, or_false, Prod.mk.injEq] at hm
  exact hm
theorem mk_bm (M : MS mg mb) (S : HS h mg) : ∃ bm o, mg (Str.ofString "__builtins__") = some (.ref bm) ∧ bm ≠ builtinsNs ∧ bm ≠ mainGlobals ∧ KH h bm o ∧ o.cls = .type "module" ∧ o.dict = some builtinsNs ∧ o.data = .plain := by
  obtain ⟨bm, o, h0, n1, n2, h1, h2, h3, h4⟩ := S.bm
  exact ⟨bm, o, h0, n1, n2, ⟨h1, ne_cls (by rw [h2]; exact fun h => by cases h)⟩, h2, h3, h4⟩
theorem mk_tabs (M : MS mg mb) (S : HS h mg) : Tabs (Th1 p w h mg mb hp hg hb nl sr) tabs1 where
  T := fun t => Iff.rfl
  tab := fun P h => Iff.rfl
  hd := fun c t q hm h' H => by
    rcases tabs_in hm with ⟨rfl, rfl, rfl⟩ | ⟨rfl, rfl, rfl⟩ | ⟨rfl, rfl, rfl⟩
    · exact KH.code H S.k44
    · exact KH.code H S.k56
    · exact KH.code H S.k85
  uniq := fun c t q c' q' h1 h2 => by
    rcases tabs_in h1 with ⟨rfl, rfl, rfl⟩ | ⟨rfl, rfl, rfl⟩ | ⟨rfl, rfl, rfl⟩ <;> rcases tabs_in h2 with ⟨rfl, e, rfl⟩ | ⟨rfl, e, rfl⟩ | ⟨rfl, e, rfl⟩ <;> first | rfl | (exact absurd e (by decide))
  bm := mk_bm M S
theorem mk_red (M : MS mg mb) (S : HS h mg) : RedAt (Th1 p w h mg mb hp hg hb nl sr) 30 22 := by
  obtain ⟨o, pm, doc, h1, h2, h3⟩ := S.d3
  obtain ⟨oc, vs, t, g1, g2, g3, g4⟩ := S.c3
  obtain ⟨n, e⟩ := S.dT
  obtain ⟨om, m1, m2⟩ := S.mo
  refine ⟨M.red, ⟨pm, .ref 29, doc, 23, n, ⟨⟨o, ⟨h1, ne_cls (by rw [h2]; exact fun h => by cases h)⟩, h3⟩, rfl, rfl, rfl, rfl, ⟨29, oc, vs, t, rfl, ⟨g1, ne_cls (by rw [g2]; exact fun h => by cases h)⟩, g3, g4⟩, rfl, rfl, rfl⟩, ⟨e, ne_cls (fun h => by cases h)⟩⟩, M.miss, ⟨om, ⟨m1, ne_cls (by rw [m2]; exact fun h => by cases h)⟩, m2⟩, ⟨M.n9, M.b9⟩⟩
noncomputable def mk_ctx (M : MS mg mb) (S : HS h mg) : Ctx (Th1 p w h mg mb hp hg hb nl sr) tabs1 :=
  { B := mk_blts M, zip := ⟨M.n11, M.b11⟩, list := ⟨M.n12, M.b12⟩, TS := mk_tabs M S, ra := 30, rm := 22, Rd := mk_red M S, i2 := 37, i2d := mk_fn S.d5 M.i2, drawn := 42, drawnd := mk_fn S.d7 M.drawn,
    number := 49, numberd := ⟨M.number, let ⟨pm, doc, d⟩ := S.d8.at; ⟨pm, 48, 44, doc, d, .head _⟩⟩, bits_ := 54, bitsd := mk_fn S.d9 M.bits_,
    memb := 61, membd := ⟨M.memb, let ⟨pm, doc, d⟩ := S.d10.at; ⟨pm, 60, 56, doc, d, .tail _ (.head _)⟩⟩, firsts := 66, firstsd := mk_fn S.d11 M.firsts, order := 73, orderd := mk_fn S.d12 M.order, plain := 78, plaind := mk_fn S.d13 M.plain, next := 83, nextd := mk_fn S.d14 M.next }
theorem mk_cmp (M : MS mg mb) (S : HS h mg) : ∃ mc, CmpAt (Th1 p w h mg mb hp hg hb nl sr) 21 20 16 #[] mc := by
  obtain ⟨mc, hs, ht⟩ := S.st
  obtain ⟨msm, os, es, ep, s1, s2, _⟩ := S.sm
  refine ⟨mc, M.cmp, let ⟨pm, doc, d⟩ := S.d1.at; ⟨pm, doc, d⟩, fun h' H hP => ?_, trivial, rfl, ⟨M.n10, M.b10⟩, M.bc, ?_, fun o x => x.2 (by have := x.1; rw [S.t16] at this; cases this; rfl)⟩
  · obtain ⟨bm, o, b1, b2, b3, b4, b5⟩ := mk_bm M S
    exact ⟨KH.ns H hg, M.nm, ⟨bm, o, b1, b2, b3, H _ _ b4, b5⟩, KH.nolim H nl, KH.ns H hs, ht, KH.code H S.k16, hP, ⟨os, KH.keep H s1 (ne_dict s2)⟩⟩
  · rintro ⟨c, q, hm⟩
    rcases tabs_in hm with ⟨_, e, _⟩ | ⟨_, e, _⟩ | ⟨_, e, _⟩ <;> exact absurd e (by decide)
end
end Mine
namespace Mine
open PySem PySem.W PyProof.Rows PySem.Calls PySem.Spec

theorem wellAll_ints {Pm : Params} {h : Heap} {P : Fz} : ∀ {xs : List Int} {vs : List Value}, WellAll Pm h vs (ofPys (xs.map PyData.int)) → Reps P vs (xs.map D.int)
  | [], vs, w => by
    have w : WellAll Pm h vs [] := w
    cases w; exact .nil
  | x :: xs, vs, w => by
    have w : WellAll Pm h vs (.int x :: ofPys (xs.map PyData.int)) := w
    cases w with | cons w1 w2 =>
    cases w1 with | int _ t => exact .cons (.int _ _) (wellAll_ints w2)
theorem well_ints {Pm : Params} {h : Heap} {xs : List Int} {l : Addr} (w : Well Pm h (.ref l) (ofPy (.list (xs.map PyData.int)))) : ∃ vs : List Value, h.get? l = some (seqObj "list" vs.toArray 0) ∧ ∀ P : Fz, Reps P vs (xs.map D.int) := by
  have w : Well Pm h (.ref l) (.list (ofPys (xs.map PyData.int))) := w
  cases w with | list h1 h2 => exact ⟨_, h1, fun P => wellAll_ints h2⟩
theorem law_final {p : Program} {w : World} {s : Shared} {mg mb : Str → Option Value} {l : Addr} {xs : List Int} (hp : p.given.tree = none) (hg : s.heap.Ns mainGlobals mg) (hb : s.heap.Ns builtinsNs mb) (nl : s.heap.NoLimit) (sr : s.heap.NoSeer) (M : MS mg mb) (S : HS s.heap mg)
    (wl : Well w.params s.heap (.ref l) (ofPy (.list (xs.map PyData.int)))) (hlen : xs.length ≤ 1000) {Q E : Value → Shared → Prop} (hQ : ∀ s', OldK s.heap s'.heap → s'.os = s.os → s'.gens = s.gens → Q (.bool true) s') :
    wpAny (model p w) callerA (call (.ref 88) [.ref l]) Q E s := by
  obtain ⟨vs, h1, rs⟩ := well_ints wl
  obtain ⟨mc, CA⟩ := mk_cmp (p := p) (w := w) (hp := hp) (hg := hg) (hb := hb) (nl := nl) (sr := sr) M S
  obtain ⟨pm, doc, hd⟩ := S.d15.at
  have X := mk_ctx (p := p) (w := w) (hp := hp) (hg := hg) (hb := hb) (nl := nl) (sr := sr) M S
  have ne3 : ∀ {t : Nat}, (∃ c q, (c, t, q) ∈ tabs1) → s.heap.get? t = some (tabObj #[]) := by
    rintro t ⟨c, q, hm⟩
    rcases tabs_in hm with ⟨_, rfl, _⟩ | ⟨_, rfl, _⟩ | ⟨_, rfl, _⟩
    · exact S.t44
    · exact S.t56
    · exact S.t85
  have G : Good (Th1 p w s.heap mg mb hp hg hb nl sr) ((KH s.heap).add 16 (tabObj #[])) s.heap := by
    refine ⟨fun b o x => x.elim (fun y => y.1) fun y => by rw [y.1, y.2]; exact S.t16, fun c t q hm => ⟨#[], ne3 ⟨c, q, hm⟩, trivial, fun pos cv h => by cases h⟩, Fz.add_le _ _ _, fun t o ht x => ?_⟩
    rcases x with x | ⟨e, _⟩
    · have := ne3 ht
      rw [x.1] at this; cases this
      exact x.2 rfl
    · obtain ⟨c, q, hm⟩ := ht
      rcases tabs_in hm with ⟨_, e', _⟩ | ⟨_, e', _⟩ | ⟨_, e', _⟩ <;> (rw [e] at e'; exact absurd e' (by decide))
  have r : Rep ((KH s.heap).add 16 (tabObj #[])) (.ref l) (intsD xs) := .list (.inl ⟨h1, ne_cls (fun h => by cases h)⟩) (rs _)
  refine law_call (Θ := Th1 p w s.heap mg mb hp hg hb nl sr) (t := 85) X CA (by show (87, 85, lawQ) ∈ tabs1; exact .tail _ (.tail _ (.head _))) hd hlen ⟨by decide, by decide, rfl, ⟨_, rfl⟩⟩ (by decide) (by decide) G (Fz.add_at _ _ _) r fun s' P' ps' e1 e2 e3 hk G' hP => ?_
  refine hQ s' ⟨fun b o e => ?_, fun b o e => ?_⟩ e3 e1
  · by_cases hT : ∃ c q, (c, b, q) ∈ tabs1
    · have e4 := ne3 hT
      rw [e] at e4; cases e4
      obtain ⟨c, q, hm⟩ := hT
      obtain ⟨ps, e5, _⟩ := G'.tab c b q hm
      have hc : CodeHd s.heap c b := by (rcases tabs_in hm with ⟨rfl, rfl, _⟩ | ⟨rfl, rfl, _⟩ | ⟨rfl, rfl, _⟩ <;> first | exact S.k44 | exact S.k56 | exact S.k85)
      exact .inr (.inl ⟨(hc.tab e).isCodeTable, rfl, #[], ps, rfl, by rw [Array.empty_append]; exact e5⟩)
    · by_cases h16 : b = 16
      · subst h16
        rw [S.t16] at e; cases e
        exact .inr (.inl ⟨(S.k16.tab S.t16).isCodeTable, rfl, #[], ps', rfl, by rw [Array.empty_append]; exact hP⟩)
      · exact .inl (hk b o e hT h16)
  · by_cases hT : ∃ c q, (c, b, q) ∈ tabs1
    · obtain ⟨c, q, hm⟩ := hT
      obtain ⟨ps, e5, _⟩ := G'.tab c b q hm
      exact ⟨_, e5⟩
    · by_cases h16 : b = 16
      · subst h16; exact ⟨_, hP⟩
      · exact ⟨_, hk b o e hT h16⟩
end Mine
open PySem PySem.W PySem.W.X PyProof.Rows
set_option maxHeartbeats 8000000 in
theorem PySem.Challenge.cw_nq0015_02_holds : PySem.Challenge.rw_nq0015_02.Holds := by
  w_on; o_law; k_head; (case hw => w_witness2)
  k_fill
  intro w s₀ s₁ mg mb G Y fa o pm cd doc dV kV ho hd hcd hD hmg hg args vals as hpre hlay hrd hwl hlo
  have KX := km_in_of Y
  have KT := km_tabs_of Y
  refine Ground.open G ?_
  intro T B D TE TW
  wrow_args hpre hlay hrd hwl hlo
  x_fa T KX hmg
  all_lens
  have h3 := KX mainGlobals _ rfl
  have NS := T.seer rfl
  have BM : ∃ bm o, mg (Str.ofString "__builtins__") = some (.ref bm) ∧ bm ≠ builtinsNs ∧ bm ≠ mainGlobals ∧ s₁.heap.get? bm = some o ∧ o.cls = .type "module" ∧ o.dict = some builtinsNs ∧ o.data = .plain := by
    obtain ⟨bm, ob, e1, e2, e3, e4, e5, e6⟩ := T.bmain
    refine ⟨bm, ob, e1, e2, ?_, e3, e4, e5, e6⟩
    rintro rfl
    rw [h3] at e3; cases e3; simp at e4
  have S : Mine.HS s₁.heap mg := {
    d1 := ⟨⟨_, _, _, KX 21 _ rfl, rfl, rfl⟩, ⟨_, _, _, KX 20 _ rfl, rfl, rfl, rfl⟩⟩
    d5 := ⟨⟨_, _, _, KX 37 _ rfl, rfl, rfl⟩, ⟨_, _, _, KX 36 _ rfl, rfl, rfl, rfl⟩⟩
    d7 := ⟨⟨_, _, _, KX 42 _ rfl, rfl, rfl⟩, ⟨_, _, _, KX 41 _ rfl, rfl, rfl, rfl⟩⟩
    d8 := ⟨⟨_, _, _, KX 49 _ rfl, rfl, rfl⟩, ⟨_, _, _, KX 48 _ rfl, rfl, rfl, rfl⟩⟩
    d9 := ⟨⟨_, _, _, KX 54 _ rfl, rfl, rfl⟩, ⟨_, _, _, KX 53 _ rfl, rfl, rfl, rfl⟩⟩
    d10 := ⟨⟨_, _, _, KX 61 _ rfl, rfl, rfl⟩, ⟨_, _, _, KX 60 _ rfl, rfl, rfl, rfl⟩⟩
    d11 := ⟨⟨_, _, _, KX 66 _ rfl, rfl, rfl⟩, ⟨_, _, _, KX 65 _ rfl, rfl, rfl, rfl⟩⟩
    d12 := ⟨⟨_, _, _, KX 73 _ rfl, rfl, rfl⟩, ⟨_, _, _, KX 72 _ rfl, rfl, rfl, rfl⟩⟩
    d13 := ⟨⟨_, _, _, KX 78 _ rfl, rfl, rfl⟩, ⟨_, _, _, KX 77 _ rfl, rfl, rfl, rfl⟩⟩
    d14 := ⟨⟨_, _, _, KX 83 _ rfl, rfl, rfl⟩, ⟨_, _, _, KX 82 _ rfl, rfl, rfl, rfl⟩⟩
    d15 := ⟨⟨_, _, _, KX 88 _ rfl, rfl, rfl⟩, ⟨_, _, _, KX 87 _ rfl, rfl, rfl, rfl⟩⟩
    d3 := ⟨_, _, _, KX 30 _ rfl, rfl, rfl⟩
    c3 := ⟨_, _, _, KX 29 _ rfl, rfl, rfl, rfl⟩
    dT := ⟨_, KX 23 _ rfl⟩
    mo := ⟨_, KX 22 _ rfl, rfl⟩
    t16 := KT 16 (by decide)
    t44 := KT 44 (by decide)
    t56 := KT 56 (by decide)
    t85 := KT 85 (by decide)
    k16 := ⟨_, _, _, _, _, _, _, _, _, KX 20 _ rfl, rfl, rfl, rfl, rfl, rfl, rfl, rfl, rfl, by decide⟩
    k44 := ⟨_, _, _, _, _, _, _, _, _, KX 48 _ rfl, rfl, rfl, rfl, rfl, rfl, rfl, rfl, rfl, by decide⟩
    k56 := ⟨_, _, _, _, _, _, _, _, _, KX 60 _ rfl, rfl, rfl, rfl, rfl, rfl, rfl, rfl, rfl, by decide⟩
    k85 := ⟨_, _, _, _, _, _, _, _, _, KX 87 _ rfl, rfl, rfl, rfl, rfl, rfl, rfl, rfl, rfl, by decide⟩
    sm := let ⟨mm, a, _⟩ := NS.mods; ⟨mm, a⟩
    st := ⟨fun _ => none, ⟨_, #[], _, KX cStatics _ rfl, rfl, (by intro e he; simp at he), fun _ => rfl⟩, rfl⟩
    bm := BM }
  have M : Mine.MS mg mb := by
    constructor
    case nm => exact ⟨.str (Str.ofString "law_nq0015_02") 223, (Mine.ns_at T.g h3 rfl _).trans (by kernel_rfl)⟩
    all_goals first | exact (Mine.ns_at T.g h3 rfl _).trans (by kernel_rfl!) | exact (T.builtins _ (by decide)).trans (by kernel_rfl!)
  refine Mine.law_final rfl T.g T.b T.nolimit NS M S (by assumption) (by omega) fun s' hK hos hg' => ⟨.inl ⟨_, _, [], rfl, fun _ => rfl, ReadsW.bool true, ?_, fun _ => ⟨List.nodup_nil, fun _ hm => nomatch hm⟩⟩, hK, hos, .of_eq (hg'.trans hg)⟩

  wrow_post
