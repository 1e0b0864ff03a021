import PyProof.Rows.All
import Wide.All
import OpenK.AllK
import Wide.FinOn
import PySem.Challenge.RW_kl0165_01
open PySem PySem.W PyProof.Rows
set_option Elab.async false
set_option maxRecDepth 100000
set_option linter.unusedVariables false
set_option maxHeartbeats 4000000
namespace Mine

/-- data without a heap -/
inductive D where
  | none
  | bool (b : Bool)
  | int (i : Int)
  | str (x : Str)
  | bytes (b : Array UInt8)
  | typ (T : String)
  | rng (a b : Int)
  | set (ns : List Int)
  | dct (kvs : List (Int × Str))
  | fn (st : Stmt)
  | tup (ds : List D)
  | lst (ds : List D)
  | own (a : Addr) (ds : List D)
/-- not a list that the frame may change -/
noncomputable def D.plain : D → Bool
  | .own _ _ => false
  | _ => true

/-- what is known of the heap -/
abbrev Know := Addr → Option Obj
noncomputable def KIn (K : Know) (h : Heap) : Prop := ∀ a o, K a = some o → h.get? a = some o
noncomputable def KSub (K K' : Know) : Prop := ∀ a o, K a = some o → K' a = some o

/-- an object that is a dict from ints to texts -/
inductive StrVals : List (Int × Value) → List (Int × Str) → Prop
  | nil : StrVals [] []
  | cons {i : Int} {x : Str} {t : Tok} {l : List (Int × Value)} {m : List (Int × Str)} : StrVals l m → StrVals ((i, .str x t) :: l) ((i, x) :: m)
noncomputable def IsDct (o : Obj) (kvs : List (Int × Str)) : Prop := ∃ l : List (Int × Value), (∀ (P : Program) (w : World), o.IsDictOf (intKind P w) l) ∧ StrVals l kvs
/-- a plain function of the top, by its statement -/
noncomputable def FnIs (K : Know) (fd : FuncData) (st : Stmt) : Prop :=
  ∃ name body ret ts bind pos c o vs t, st = .FunctionDef name fd.params body [] ret [] fd.scope ts bind pos ∧ fd.body = .stmts body ∧ fd.globals = mainGlobals ∧ fd.closure = [] ∧ fd.builtins = builtinsNs ∧
    fd.defaults = .none ∧ fd.kwdefaults = .none ∧ fd.code = .ref c ∧ K c = some o ∧ o.data = .fields vs ∧ vs[1]? = some (.str fd.qualname t)
theorem FnIs.mono {K K' : Know} {fd : FuncData} {st : Stmt} (h : KSub K K') (f : FnIs K fd st) : FnIs K' fd st := by
  obtain ⟨a1, a2, a3, a4, a5, a6, c, o, vs, t, b1, b2, b3, b4, b5, b6, b7, b8, b9, b10⟩ := f
  exact ⟨a1, a2, a3, a4, a5, a6, c, o, vs, t, b1, b2, b3, b4, b5, b6, b7, b8, h _ _ b9, b10⟩
mutual
inductive Rep (K : Know) : Value → D → Prop
  | none : Rep K Value.none D.none
  | bool (b : Bool) : Rep K (Value.bool b) (D.bool b)
  | int (i : Int) (t : Tok) : Rep K (Value.int i t) (D.int i)
  | str (x : Str) (t : Tok) : Rep K (Value.str x t) (D.str x)
  | bytes (b : Array UInt8) (t : Tok) : Rep K (Value.bytes b t) (D.bytes b)
  | typ (T : String) : Rep K (Value.type T) (D.typ T)
  | rng {r : Addr} {a b : Int} {t u v : Tok} : K r = some { cls := .type "range", data := .fields #[.int a t, .int b u, .int 1 v] } → Rep K (Value.ref r) (D.rng a b)
  | set {a : Addr} {o : Obj} {ns : List Int} {S : Int → Bool} {n : Nat} : K a = some o → o.IntSetOf S n → n < scanBound → (∀ k, S k = true ↔ k ∈ ns) → Rep K (Value.ref a) (D.set ns)
  | dct {a : Addr} {o : Obj} {kvs : List (Int × Str)} : K a = some o → IsDct o kvs → (a == sysModules) = false → Rep K (Value.ref a) (D.dct kvs)
  | fn {a : Addr} {o : Obj} {fd : FuncData} {st : Stmt} : K a = some o → o.data = .func fd → FnIs K fd st → Rep K (Value.ref a) (D.fn st)
  | tup {a : Addr} {vs : List Value} {n : Nat} {ds : List D} : K a = some (seqObj "tuple" vs.toArray n) → RepAll K vs ds → Rep K (Value.ref a) (D.tup ds)
  | lst {a : Addr} {vs : List Value} {n : Nat} {ds : List D} : K a = some (seqObj "list" vs.toArray n) → RepAll K vs ds → Rep K (Value.ref a) (D.lst ds)
inductive RepAll (K : Know) : List Value → List D → Prop
  | nil : RepAll K [] []
  | cons {v : Value} {vs : List Value} {d : D} {ds : List D} : Rep K v d → RepAll K vs ds → RepAll K (v :: vs) (d :: ds)
end
/-- what stands behind a value, by its data -/
noncomputable def RepI (K : Know) (v : Value) : D → Prop
  | .none => v = Value.none
  | .bool b => v = Value.bool b
  | .int i => ∃ t, v = Value.int i t
  | .str x => ∃ t, v = Value.str x t
  | .bytes b => ∃ t, v = Value.bytes b t
  | .typ T => v = Value.type T
  | .rng a b => ∃ r t u w, v = Value.ref r ∧ K r = some { cls := .type "range", data := .fields #[.int a t, .int b u, .int 1 w] }
  | .set ns => ∃ a o S n, v = Value.ref a ∧ K a = some o ∧ o.IntSetOf S n ∧ n < scanBound ∧ ∀ k, S k = true ↔ k ∈ ns
  | .dct kvs => ∃ a o, v = Value.ref a ∧ K a = some o ∧ IsDct o kvs ∧ (a == sysModules) = false
  | .fn st => ∃ a o fd, v = Value.ref a ∧ K a = some o ∧ o.data = .func fd ∧ FnIs K fd st
  | .tup ds => ∃ a vs n, v = Value.ref a ∧ K a = some (seqObj "tuple" vs.toArray n) ∧ RepAll K vs ds
  | .lst ds => ∃ a vs n, v = Value.ref a ∧ K a = some (seqObj "list" vs.toArray n) ∧ RepAll K vs ds
  | .own _ _ => False
theorem Rep.inv {K : Know} {v : Value} {d : D} (r : Rep K v d) : RepI K v d := by
  cases r with
  | none => exact rfl
  | bool b => exact rfl
  | int i t => exact ⟨t, rfl⟩
  | str x t => exact ⟨t, rfl⟩
  | bytes b t => exact ⟨t, rfl⟩
  | typ T => exact rfl
  | rng e => exact ⟨_, _, _, _, rfl, e⟩
  | set e a b c => exact ⟨_, _, _, _, rfl, e, a, b, c⟩
  | dct e a b => exact ⟨_, _, rfl, e, a, b⟩
  | fn e a b => exact ⟨_, _, _, rfl, e, a, b⟩
  | tup e a => exact ⟨_, _, _, rfl, e, a⟩
  | lst e a => exact ⟨_, _, _, rfl, e, a⟩
noncomputable def RepAllI (K : Know) (vs : List Value) : List D → Prop
  | [] => vs = []
  | d :: ds => ∃ u us, vs = u :: us ∧ Rep K u d ∧ RepAll K us ds
theorem RepAll.inv {K : Know} {vs : List Value} {ds : List D} (r : RepAll K vs ds) : RepAllI K vs ds := by
  cases r with
  | nil => exact rfl
  | cons a b => exact ⟨_, _, rfl, a, b⟩
/-- one value for one -/
theorem RepAll.inv1 {K : Know} {vs : List Value} {d : D} (r : RepAll K vs [d]) : ∃ u, vs = [u] ∧ Rep K u d := by
  obtain ⟨u, us, rfl, a, b⟩ := r.inv
  exact ⟨u, by rw [show us = [] from b.inv], a⟩
/-- a list of one, of two, of three -/
theorem len1 {α : Type} {l : List α} (h : l.length = 1) : ∃ a, l = [a] := List.length_eq_one_iff.mp h
theorem len2 {α : Type} {l : List α} (h : l.length = 2) : ∃ a b, l = [a, b] := by
  obtain ⟨a, l', rfl⟩ := List.exists_cons_of_length_eq_add_one h
  obtain ⟨b, rfl⟩ := len1 (Nat.succ.inj h)
  exact ⟨a, b, rfl⟩
theorem len3 {α : Type} {l : List α} (h : l.length = 3) : ∃ a b c, l = [a, b, c] := by
  obtain ⟨a, l', rfl⟩ := List.exists_cons_of_length_eq_add_one h
  obtain ⟨b, c, rfl⟩ := len2 (Nat.succ.inj h)
  exact ⟨a, b, c, rfl⟩
theorem Rep.mono {K K' : Know} (h : KSub K K') {v : Value} {d : D} (r : Rep K v d) : Rep K' v d :=
  Rep.rec (motive_1 := fun v d _ => Rep K' v d) (motive_2 := fun vs ds _ => RepAll K' vs ds) .none .bool .int .str .bytes .typ (fun e => .rng (h _ _ e)) (fun e a b c => .set (h _ _ e) a b c)
    (fun e a b => .dct (h _ _ e) a b) (fun e a b => .fn (h _ _ e) a (b.mono h)) (fun e _ m => .tup (h _ _ e) m) (fun e _ m => .lst (h _ _ e) m) .nil (fun _ _ m n => .cons m n) r
theorem RepAll.mono {K K' : Know} (h : KSub K K') {vs : List Value} {ds : List D} (r : RepAll K vs ds) : RepAll K' vs ds := by
  induction ds generalizing vs with
  | nil => rw [show vs = [] from r.inv]; exact .nil
  | cons d ds ih => obtain ⟨_, _, rfl, a, b⟩ := r.inv; exact .cons (a.mono h) (ih b)
section
variable {K : Know} {v : Value} {d : D} {vs ws : List Value} {ds es : List D}
theorem RepAll.length (h : RepAll K vs ds) : vs.length = ds.length := by
  induction ds generalizing vs with
  | nil => rw [show vs = [] from h.inv]; rfl
  | cons d ds ih => obtain ⟨_, _, rfl, _, r⟩ := h.inv; rw [List.length_cons, List.length_cons, ih r]
theorem RepAll.append (h : RepAll K vs ds) (k : RepAll K ws es) : RepAll K (vs ++ ws) (ds ++ es) := by
  induction ds generalizing vs with
  | nil => rw [show vs = [] from h.inv]; exact k
  | cons d ds ih => obtain ⟨_, _, rfl, h, r⟩ := h.inv; exact .cons h (ih r)
theorem RepAll.one (h : Rep K v d) : RepAll K [v] [d] := .cons h .nil
theorem RepAll.get (h : RepAll K vs ds) {k : Nat} (hk : k < ds.length) : ∃ v, vs[k]? = some v ∧ Rep K v (ds[k]'hk) := by
  induction ds generalizing vs k with
  | nil => exact absurd hk (Nat.not_lt_zero _)
  | cons d ds ih =>
    obtain ⟨v, _, rfl, h, r⟩ := h.inv
    cases k with
    | zero => exact ⟨v, rfl, h⟩
    | succ k => exact ih r (Nat.lt_of_succ_lt_succ hk)
theorem RepAll.get? (h : RepAll K vs ds) {k : Nat} {d : D} (hk : ds[k]? = some d) : ∃ v, vs[k]? = some v ∧ Rep K v d := by
  obtain ⟨hl, e⟩ := List.getElem?_eq_some_iff.mp hk
  obtain ⟨v, hv, r⟩ := h.get hl
  exact ⟨v, hv, e ▸ r⟩
theorem RepAll.take (h : RepAll K vs ds) (k : Nat) : RepAll K (vs.take k) (ds.take k) := by
  induction ds generalizing vs k with
  | nil => rw [show vs = [] from h.inv, List.take_nil, List.take_nil]; exact .nil
  | cons d ds ih =>
    obtain ⟨v, _, rfl, h, r⟩ := h.inv
    cases k with
    | zero => exact .nil
    | succ k => exact .cons h (ih r k)
theorem RepAll.drop (h : RepAll K vs ds) (k : Nat) : RepAll K (vs.drop k) (ds.drop k) := by
  induction ds generalizing vs k with
  | nil => rw [show vs = [] from h.inv, List.drop_nil, List.drop_nil]; exact .nil
  | cons d ds ih =>
    obtain ⟨v, _, rfl, h, r⟩ := h.inv
    cases k with
    | zero => exact .cons h r
    | succ k => exact ih r k
theorem RepAll.snoc (h : RepAll K vs ds) (r : Rep K v d) : RepAll K (vs ++ [v]) (ds ++ [d]) := h.append (.one r)
theorem RepAll.reverse (h : RepAll K vs ds) : RepAll K vs.reverse ds.reverse := by
  induction ds generalizing vs with
  | nil => rw [show vs = [] from h.inv]; exact .nil
  | cons d ds ih => obtain ⟨_, _, rfl, h, r⟩ := h.inv; rw [List.reverse_cons, List.reverse_cons]; exact (ih r).snoc h
end

/-- an expression's step: all that stood stands; what is known grows by new objects alone -/
structure Step (K : Know) (s : Shared) (K' : Know) (s' : Shared) : Prop where
  mono : KSub K K'
  kin : KIn K' s'.heap
  new : ∀ a o, s.heap.get? a = some o → K' a = K a
  keep : ∀ a o, s.heap.get? a = some o → s'.heap.get? a = some o
  same : ∃ h t, s' = { s with heap := h, toks := t }

theorem Step.refl {K : Know} {s : Shared} (h : KIn K s.heap) : Step K s K s :=
  ⟨fun _ _ e => e, h, fun _ _ _ => rfl, fun _ _ e => e, s.heap, s.toks, rfl⟩
theorem Step.toks {K : Know} {s : Shared} (h : KIn K s.heap) (t : Nat) : Step K s K { s with toks := t } :=
  ⟨fun _ _ e => e, h, fun _ _ _ => rfl, fun _ _ e => e, s.heap, t, rfl⟩
theorem Step.trans {K₁ K₂ K₃ : Know} {s₁ s₂ s₃ : Shared} (a : Step K₁ s₁ K₂ s₂) (b : Step K₂ s₂ K₃ s₃) : Step K₁ s₁ K₃ s₃ :=
  ⟨fun x o e => b.mono _ _ (a.mono _ _ e), b.kin, fun x o e => (b.new _ _ (a.keep _ _ e)).trans (a.new _ _ e), fun x o e => b.keep _ _ (a.keep _ _ e), by
    obtain ⟨h, t, rfl⟩ := a.same
    obtain ⟨h', t', rfl⟩ := b.same
    exact ⟨h', t', rfl⟩⟩
/-- the heap grows, nothing new is known -/
theorem Step.grow {K : Know} {s : Shared} (hK : KIn K s.heap) {h : Heap} {t : Nat} (k : ∀ a o, s.heap.get? a = some o → h.get? a = some o) : Step K s K { s with heap := h, toks := t } :=
  ⟨fun _ _ e => e, fun a o e => k _ _ (hK _ _ e), fun _ _ _ => rfl, k, h, t, rfl⟩
noncomputable def Know.put (K : Know) (a : Addr) (o : Obj) : Know := fun b => if b = a then some o else K b
theorem Know.put_same (K : Know) (a : Addr) (o : Obj) : K.put a o a = some o := if_pos rfl
theorem Know.put_ne (K : Know) {a b : Addr} (o : Obj) (h : b ≠ a) : K.put a o b = K b := if_neg h
/-- the heap grows and one new object is known -/
theorem Step.one {K : Know} {s : Shared} (hK : KIn K s.heap) {h : Heap} {t : Nat} {a : Addr} {o : Obj} (k : ∀ b o, s.heap.get? b = some o → h.get? b = some o) (ha : s.heap.get? a = none) (ho : h.get? a = some o) :
    Step K s (K.put a o) { s with heap := h, toks := t } := by
  have hne : ∀ b o, s.heap.get? b = some o → b ≠ a := fun b o e q => by subst q; rw [ha] at e; cases e
  refine ⟨fun b o' e => ?_, fun b o' e => ?_, fun b o' e => Know.put_ne _ _ (hne _ _ e), k, h, t, rfl⟩
  · rw [Know.put_ne _ _ (hne _ _ (hK _ _ e))]; exact e
  · by_cases q : b = a
    · subst q; rw [Know.put_same] at e; cases e; exact ho
    · rw [Know.put_ne _ _ q] at e; exact k _ _ (hK _ _ e)
theorem none_of_size {h : Heap} {a : Addr} (e : h.objs.size ≤ a) : h.get? a = none := by
  cases q : h.get? a with
  | none => rfl
  | some o => exact absurd (Heap.lt_size q) (Nat.not_lt.mpr e)

/-- the frame's side: the environment and the objects that the frame may turn -/
structure Cx where
  env : Env
  turns : List Addr

noncomputable def Bound (env : Env) (h : Heap) (x : Str) (v : Value) : Prop :=
  (env.kindOf x = some .local ∧ ∃ m, h.Ns env.locals m ∧ m x = some v) ∨
  ((env.kindOf x = some .cell ∨ env.kindOf x = some .free) ∧ ∃ c o, env.cells.lookup x = some c ∧ h.get? c = some o ∧ o.data = .cell (some v))
theorem Bound.keep {env : Env} {h h' : Heap} {x : Str} {v : Value} (b : Bound env h x v) (k : ∀ a o, h.get? a = some o → h'.get? a = some o) : Bound env h' x v := by
  rcases b with ⟨b1, m, b2, b3⟩ | ⟨b1, c, o, b2, b3, b4⟩
  · exact .inl ⟨b1, m, b2.keeps k, b3⟩
  · exact .inr ⟨b1, c, o, b2, k _ _ b3, b4⟩

structure Inv (h₀ : Heap) (c : Cx) (σ : Str → Option D) (K : Know) (s : Shared) : Prop where
  base : ∀ a o, h₀.get? a = some o → K a = some o
  kin : KIn K s.heap
  off : ∀ a ∈ c.turns, K a = none
  has : ∀ a ∈ c.turns, ∃ o, s.heap.get? a = some o
  ns : ∃ m, s.heap.Ns c.env.locals m
  loc : c.env.locals ∈ c.turns
  cell : ∀ x a, c.env.cells.lookup x = some a → ∃ v, s.heap.IsCell a v
  inj : ∀ x y a, c.env.cells.lookup x = some a → c.env.cells.lookup y = some a → x = y
  vars : ∀ x d, σ x = some d → d.plain = true → ∃ v, Bound c.env s.heap x v ∧ Rep K v d
  own : ∀ x a ds, σ x = some (.own a ds) → a ∈ c.turns ∧ Bound c.env s.heap x (.ref a) ∧ ∃ vs : List Value, s.heap.PlainList a vs.toArray ∧ RepAll K vs ds
  own1 : ∀ x y a ds es, σ x = some (.own a ds) → σ y = some (.own a es) → x = y

theorem Inv.step {h₀ : Heap} {c : Cx} {σ : Str → Option D} {K K' : Know} {s s' : Shared} (i : Inv h₀ c σ K s) (st : Step K s K' s') : Inv h₀ c σ K' s' where
  base := fun a o e => st.mono _ _ (i.base _ _ e)
  kin := st.kin
  off := fun a ha => by obtain ⟨o, e⟩ := i.has a ha; rw [st.new _ _ e]; exact i.off a ha
  has := fun a ha => by obtain ⟨o, e⟩ := i.has a ha; exact ⟨o, st.keep _ _ e⟩
  ns := by obtain ⟨m, n⟩ := i.ns; exact ⟨m, n.keeps st.keep⟩
  loc := i.loc
  cell := fun x a e => by obtain ⟨v, q⟩ := i.cell x a e; exact ⟨v, q.keeps st.keep⟩
  inj := i.inj
  vars := fun x d e hp => by obtain ⟨v, b, r⟩ := i.vars x d e hp; exact ⟨v, b.keep st.keep, r.mono st.mono⟩
  own := fun x a ds e => by obtain ⟨h1, h2, vs, h3, h4⟩ := i.own x a ds e; exact ⟨h1, h2.keep st.keep, vs, h3.at fun o q => st.keep _ _ q, h4.mono st.mono⟩
  own1 := i.own1
theorem Inv.here {h₀ : Heap} {c : Cx} {σ : Str → Option D} {K : Know} {s : Shared} (i : Inv h₀ c σ K s) : ∀ a o, h₀.get? a = some o → s.heap.get? a = some o := fun a o e => i.kin _ _ (i.base _ _ e)
theorem Inv.sub {h₀ : Heap} {c : Cx} {σ σ' : Str → Option D} {K : Know} {s : Shared} (i : Inv h₀ c σ K s) (h : ∀ x d, σ' x = some d → σ x = some d) : Inv h₀ c σ' K s :=
  ⟨i.base, i.kin, i.off, i.has, i.ns, i.loc, i.cell, i.inj, fun x d e => i.vars x d (h x d e), fun x a ds e => i.own x a ds (h x _ e), fun x y a ds es e e' => i.own1 x y a ds es (h x _ e) (h y _ e')⟩

section
variable (P : Program) (w : World) (h₀ : Heap) (A : Around)
/-- the expression's value is d -/
structure Ev (c : Cx) (σ : Str → Option D) (e : Expr) (d : D) : Prop where
  run : ∀ K s (Q : Value → Shared → Prop) (E : Value → Shared → Prop), Inv h₀ c σ K s → (∀ v K' s', Step K s K' s' → Rep K' v d → Q v s') → wpAny (model P w) A (eval e c.env) Q E s
/-- the expression as a test -/
structure EvT (c : Cx) (σ : Str → Option D) (e : Expr) (b : Bool) : Prop where
  run : ∀ K s (Q : Bool → Shared → Prop) (E : Value → Shared → Prop), Inv h₀ c σ K s → (∀ K' s', Step K s K' s' → Q b s') → wpAny (model P w) A (isTrue e c.env (eval e c.env)) Q E s
/-- the expressions' values in a row, as «spliced» reckons them -/
structure EvL (c : Cx) (σ : Str → Option D) (es : List Expr) (ds : List D) : Prop where
  run : ∀ (pos : Pos) K s (Q : List Value → Shared → Prop) (E : Value → Shared → Prop), Inv h₀ c σ K s → (∀ vs K' s', Step K s K' s' → RepAll K' vs ds → Q vs s') → wpAny (model P w) A (spliced (backTo pos (starEach es c.env))) Q E s
/-- what a call of f gives at these arguments, with n frames of room -/
noncomputable def CallIs (n : Nat) (f : Value) (ds : List D) (d : D) : Prop :=
  ∀ (A : Around) K s vs (Q : Value → Shared → Prop) (E : Value → Shared → Prop), A.handled = none → A.depth + n ≤ 600 → A.units + 10 * n ≤ 5000 → (∀ a o, h₀.get? a = some o → K a = some o) → KIn K s.heap → RepAll K vs ds →
    (∀ v K' s', Step K s K' s' → Rep K' v d → Q v s') → wpAny (model P w) A (call f vs []) Q E s
/-- the room that is left -/
structure Room (n : Nat) : Prop where
  handled : A.handled = none
  depth : A.depth + n ≤ 600
  units : A.units + 10 * n ≤ 5000
end

section
variable {P : Program} {w : World} {h₀ : Heap} {A : Around} {c : Cx} {σ : Str → Option D} {l r e t b o : Expr} {pos : Pos}

/-! constants -/
theorem ev_int (i : Int) {k : Nat} : Ev P w h₀ A c σ (.Constant (.int i) k pos) (.int i) := .mk fun K s Q E I hq => wpAny_Constant_int (hq _ _ _ (Step.toks I.kin _) (.int _ _))
theorem ev_str (x : Str) {k : Nat} : Ev P w h₀ A c σ (.Constant (.str x) k pos) (.str x) := .mk fun K s Q E I hq => Calls.Constant_str (hq _ _ _ (Step.toks I.kin _) (.str _ _))
theorem ev_bytes (x : List UInt8) {k : Nat} : Ev P w h₀ A c σ (.Constant (.bytes x) k pos) (.bytes x.toArray) := .mk fun K s Q E I hq _ _ _ => hq _ _ _ (Step.toks I.kin _) (.bytes _ _)
theorem ev_bool (x : Bool) {k : Nat} : Ev P w h₀ A c σ (.Constant (.bool x) k pos) (.bool x) := .mk fun K s Q E I hq _ _ _ => hq _ _ _ (Step.refl I.kin) (.bool _)
theorem ev_none {k : Nat} : Ev P w h₀ A c σ (.Constant .none k pos) .none := .mk fun K s Q E I hq _ _ _ => hq _ _ _ (Step.refl I.kin) .none

/-! names -/
theorem ev_name {x : Str} {d : D} (hx : σ x = some d) (hk : c.env.scope.kind = .function := by rfl) (hd : (x == ("__debug__" : Str)) = false := by decide) (hc : (x == ("__classdict__" : Str)) = false := by decide) (hp : d.plain = true := by rfl) :
    Ev P w h₀ A c σ (.Name x pos) d := .mk fun K s Q E I hq => by
  obtain ⟨v, b, rr⟩ := I.vars x d hx hp
  rcases b with ⟨b1, m, b2, b3⟩ | ⟨b1, a, o, b2, b3, b4⟩
  · exact wpAny_Name (wpAny_loadName_local hk b1 b2 b3 (hq _ _ _ (Step.refl I.kin) rr)) hd
  · rcases b1 with b1 | b1
    · exact wpAny_Name (wpAny_loadName_cell hk b1 b2 ⟨o, b3, b4⟩ (hq _ _ _ (Step.refl I.kin) rr)) hd
    · exact wpAny_Name (wpAny_loadName_free hk b1 b2 ⟨o, b3, b4⟩ (hq _ _ _ (Step.refl I.kin) rr) hc) hd

/-! ints -/
section
variable {a a' : Int}
theorem ev_add (h1 : Ev P w h₀ A c σ l (.int a)) (h2 : Ev P w h₀ A c σ r (.int a')) : Ev P w h₀ A c σ (.BinOp l .Add r pos) (.int (a + a')) := .mk fun K s Q E I hq =>
  wpAny_BinOp (h1.run K s _ E I fun v K1 s1 st1 r1 => h2.run K1 s1 _ E (I.step st1) fun u K2 s2 st2 r2 => by
    (first | obtain ⟨_, rfl⟩ := r1.inv | obtain rfl := r1.inv | cases r1); (first | obtain ⟨_, rfl⟩ := r2.inv | obtain rfl := r2.inv | cases r2); exact add_int (hq _ _ _ ((st1.trans st2).trans (Step.toks st2.kin _)) (.int _ _)))
theorem ev_sub (h1 : Ev P w h₀ A c σ l (.int a)) (h2 : Ev P w h₀ A c σ r (.int a')) : Ev P w h₀ A c σ (.BinOp l .Sub r pos) (.int (a - a')) := .mk fun K s Q E I hq =>
  wpAny_BinOp (h1.run K s _ E I fun v K1 s1 st1 r1 => h2.run K1 s1 _ E (I.step st1) fun u K2 s2 st2 r2 => by
    (first | obtain ⟨_, rfl⟩ := r1.inv | obtain rfl := r1.inv | cases r1); (first | obtain ⟨_, rfl⟩ := r2.inv | obtain rfl := r2.inv | cases r2); exact sub_int (hq _ _ _ ((st1.trans st2).trans (Step.toks st2.kin _)) (.int _ _)))
theorem ev_mul (hm : IntMulOk a a') (h1 : Ev P w h₀ A c σ l (.int a)) (h2 : Ev P w h₀ A c σ r (.int a')) : Ev P w h₀ A c σ (.BinOp l .Mult r pos) (.int (a * a')) := .mk fun K s Q E I hq =>
  wpAny_BinOp (h1.run K s _ E I fun v K1 s1 st1 r1 => h2.run K1 s1 _ E (I.step st1) fun u K2 s2 st2 r2 => by
    (first | obtain ⟨_, rfl⟩ := r1.inv | obtain rfl := r1.inv | cases r1); (first | obtain ⟨_, rfl⟩ := r2.inv | obtain rfl := r2.inv | cases r2); exact mul_int (hq _ _ _ ((st1.trans st2).trans (Step.toks st2.kin _)) (.int _ _)) hm)
theorem ev_mod (h0 : a' ≠ 0) (h1 : Ev P w h₀ A c σ l (.int a)) (h2 : Ev P w h₀ A c σ r (.int a')) : Ev P w h₀ A c σ (.BinOp l .Mod r pos) (.int (a.fmod a')) := .mk fun K s Q E I hq =>
  wpAny_BinOp (h1.run K s _ E I fun v K1 s1 st1 r1 => h2.run K1 s1 _ E (I.step st1) fun u K2 s2 st2 r2 => by
    (first | obtain ⟨_, rfl⟩ := r1.inv | obtain rfl := r1.inv | cases r1); (first | obtain ⟨_, rfl⟩ := r2.inv | obtain rfl := r2.inv | cases r2); exact mod_int' h0 (hq _ _ _ ((st1.trans st2).trans (Step.toks st2.kin _)) (.int _ _)))
theorem ev_floordiv (h0 : a' ≠ 0) (hp : Builtin.divisionGoesByPylong a a' = false) (h1 : Ev P w h₀ A c σ l (.int a)) (h2 : Ev P w h₀ A c σ r (.int a')) : Ev P w h₀ A c σ (.BinOp l .FloorDiv r pos) (.int (a.fdiv a')) := .mk fun K s Q E I hq =>
  wpAny_BinOp (h1.run K s _ E I fun v K1 s1 st1 r1 => h2.run K1 s1 _ E (I.step st1) fun u K2 s2 st2 r2 => by
    (first | obtain ⟨_, rfl⟩ := r1.inv | obtain rfl := r1.inv | cases r1); (first | obtain ⟨_, rfl⟩ := r2.inv | obtain rfl := r2.inv | cases r2); exact floordiv_int h0 (hq _ _ _ ((st1.trans st2).trans (Step.toks st2.kin _)) (.int _ _)) (.inl hp))
theorem ev_bitand (h1 : Ev P w h₀ A c σ l (.int a)) (h2 : Ev P w h₀ A c σ r (.int a')) : Ev P w h₀ A c σ (.BinOp l .BitAnd r pos) (.int (Builtin.bitAnd a a')) := .mk fun K s Q E I hq =>
  wpAny_BinOp (h1.run K s _ E I fun v K1 s1 st1 r1 => h2.run K1 s1 _ E (I.step st1) fun u K2 s2 st2 r2 => by
    (first | obtain ⟨_, rfl⟩ := r1.inv | obtain rfl := r1.inv | cases r1); (first | obtain ⟨_, rfl⟩ := r2.inv | obtain rfl := r2.inv | cases r2); exact and_int (hq _ _ _ ((st1.trans st2).trans (Step.toks st2.kin _)) (.int _ _)))
theorem ev_neg (h1 : Ev P w h₀ A c σ l (.int a)) : Ev P w h₀ A c σ (.UnaryOp .USub l pos) (.int (-a)) := .mk fun K s Q E I hq =>
  wpAny_UnaryOp (h1.run K s _ E I fun v K1 s1 st1 r1 => by (first | obtain ⟨_, rfl⟩ := r1.inv | obtain rfl := r1.inv | cases r1); exact neg_int (hq _ _ _ (st1.trans (Step.toks st1.kin _)) (.int _ _)))
end

/-! comparisons: one rule, by what the operator does on two values -/
noncomputable def CmpIs (P : Program) (w : World) (A : Around) (op : CmpOp) (d d' : D) (x : Bool) : Prop :=
  ∀ K s v u (Q : Value → Shared → Prop) (E : Value → Shared → Prop), KIn K s.heap → Rep K v d → Rep K u d' → (∀ K' s', Step K s K' s' → Q (.bool x) s') → wpAny (model P w) A (compareOp op v u) Q E s
theorem ev_cmp {op : CmpOp} {d d' : D} {x : Bool} (h1 : Ev P w h₀ A c σ l d) (h2 : Ev P w h₀ A c σ r d') (hc : CmpIs P w A op d d' x) (hm : behindInMarks op r = false := by with_unfolding_all rfl) :
    Ev P w h₀ A c σ (.Compare l [op] [r] pos) (.bool x) := .mk fun K s Q E I hq =>
  wpAny_Compare1 (h1.run K s _ E I fun v K1 s1 st1 r1 => h2.run K1 s1 _ E (I.step st1) fun u K2 s2 st2 r2 =>
    hc K2 s2 v u _ E st2.kin (r1.mono st2.mono) r2 fun K3 s3 st3 => hq _ _ _ ((st1.trans st2).trans st3) (.bool _)) hm
theorem evt_cmp {op : CmpOp} {d d' : D} {x : Bool} (h1 : Ev P w h₀ A c σ l d) (h2 : Ev P w h₀ A c σ r d') (hc : CmpIs P w A op d d' x) (hm : behindInMarks op r = false := by with_unfolding_all rfl) :
    EvT P w h₀ A c σ (.Compare l [op] [r] pos) x := .mk fun K s Q E I hq =>
  wpAny_isTrue_Compare1 (h1.run K s _ E I fun v K1 s1 st1 r1 => h2.run K1 s1 _ E (I.step st1) fun u K2 s2 st2 r2 =>
    hc K2 s2 v u _ E st2.kin (r1.mono st2.mono) r2 fun K3 s3 st3 => wpAny_truthy_bool (hq _ _ ((st1.trans st2).trans st3))) hm
section
variable {i j : Int} {x y : Str} {bs cs : Array UInt8}
theorem cmp_lt : CmpIs P w A .Lt (.int i) (.int j) (decide (i < j)) := fun K s v u Q E k r1 r2 hq => by (first | obtain ⟨_, rfl⟩ := r1.inv | obtain rfl := r1.inv | cases r1); (first | obtain ⟨_, rfl⟩ := r2.inv | obtain rfl := r2.inv | cases r2); exact lt_int (hq _ _ (Step.refl k))
theorem cmp_le : CmpIs P w A .LtE (.int i) (.int j) (decide (i ≤ j)) := fun K s v u Q E k r1 r2 hq => by (first | obtain ⟨_, rfl⟩ := r1.inv | obtain rfl := r1.inv | cases r1); (first | obtain ⟨_, rfl⟩ := r2.inv | obtain rfl := r2.inv | cases r2); exact le_int (hq _ _ (Step.refl k))
theorem cmp_gt : CmpIs P w A .Gt (.int i) (.int j) (decide (j < i)) := fun K s v u Q E k r1 r2 hq => by (first | obtain ⟨_, rfl⟩ := r1.inv | obtain rfl := r1.inv | cases r1); (first | obtain ⟨_, rfl⟩ := r2.inv | obtain rfl := r2.inv | cases r2); exact gt_int (hq _ _ (Step.refl k))
theorem cmp_eq : CmpIs P w A .Eq (.int i) (.int j) (i == j) := fun K s v u Q E k r1 r2 hq => by (first | obtain ⟨_, rfl⟩ := r1.inv | obtain rfl := r1.inv | cases r1); (first | obtain ⟨_, rfl⟩ := r2.inv | obtain rfl := r2.inv | cases r2); exact eq_int (hq _ _ (Step.refl k))
theorem cmp_ne : CmpIs P w A .NotEq (.int i) (.int j) (i != j) := fun K s v u Q E k r1 r2 hq => by (first | obtain ⟨_, rfl⟩ := r1.inv | obtain rfl := r1.inv | cases r1); (first | obtain ⟨_, rfl⟩ := r2.inv | obtain rfl := r2.inv | cases r2); exact ne_int (hq _ _ (Step.refl k))
theorem cmp_eqs : CmpIs P w A .Eq (.str x) (.str y) (x == y) := fun K s v u Q E k r1 r2 hq => by (first | obtain ⟨_, rfl⟩ := r1.inv | obtain rfl := r1.inv | cases r1); (first | obtain ⟨_, rfl⟩ := r2.inv | obtain rfl := r2.inv | cases r2); exact eq_str (hq _ _ (Step.refl k))
theorem cmp_lts : CmpIs P w A .Lt (.str x) (.str y) (decide (x.cps.toList < y.cps.toList)) := fun K s v u Q E k r1 r2 hq => by (first | obtain ⟨_, rfl⟩ := r1.inv | obtain rfl := r1.inv | cases r1); (first | obtain ⟨_, rfl⟩ := r2.inv | obtain rfl := r2.inv | cases r2); exact lt_str (hq _ _ (Step.refl k))
theorem cmp_gts : CmpIs P w A .Gt (.str x) (.str y) (decide (y.cps.toList < x.cps.toList)) := fun K s v u Q E k r1 r2 hq => by (first | obtain ⟨_, rfl⟩ := r1.inv | obtain rfl := r1.inv | cases r1); (first | obtain ⟨_, rfl⟩ := r2.inv | obtain rfl := r2.inv | cases r2); exact PySem.P.gt_str (hq _ _ (Step.refl k))
theorem cmp_neb : CmpIs P w A .NotEq (.bytes bs) (.bytes cs) (bs.toList != cs.toList) := fun K s v u Q E k r1 r2 hq => by (first | obtain ⟨_, rfl⟩ := r1.inv | obtain rfl := r1.inv | cases r1); (first | obtain ⟨_, rfl⟩ := r2.inv | obtain rfl := r2.inv | cases r2); exact PySem.W.ne_bytes (hq _ _ (Step.refl k))
end

/-! tests of other make -/
theorem evt_bool {x : Bool} (h : Ev P w h₀ A c σ e (.bool x)) (hp : ∀ whole, isTrue e c.env whole = (do let v ← whole; standAt e.pos; holding [v] (truthy v)) := by intro _; rfl) : EvT P w h₀ A c σ e x := .mk fun K s Q E I hq =>
  isTrue_plain (h.run K s _ E I fun v K1 s1 st1 r1 => by (first | obtain ⟨_, rfl⟩ := r1.inv | obtain rfl := r1.inv | cases r1); exact wpAny_truthy_bool (hq _ _ st1)) (hp _)

/-! conditional expressions -/
theorem ev_if {d : D} {x : Bool} (ht : EvT P w h₀ A c σ t x) (h1 : x = true → Ev P w h₀ A c σ b d) (h2 : x = false → Ev P w h₀ A c σ o d) : Ev P w h₀ A c σ (.IfExp t b o pos) d := .mk fun K s Q E I hq =>
  wpAny_IfExp (ht.run K s _ E I fun K1 s1 st1 => by
    cases x with
    | true => exact (h1 rfl).run K1 s1 _ E (I.step st1) fun v K2 s2 st2 r2 => hq _ _ _ (st1.trans st2) r2
    | false => exact (h2 rfl).run K1 s1 _ E (I.step st1) fun v K2 s2 st2 r2 => hq _ _ _ (st1.trans st2) r2)
/-! rows of expressions -/
theorem evl_nil : EvL P w h₀ A c σ [] [] := .mk fun pos K s Q E I hq => Calls.spliced_nil (hq _ _ _ (Step.refl I.kin) .nil)
theorem evl_cons {d : D} {es : List Expr} {ds : List D} (h : Ev P w h₀ A c σ e d) (hr : EvL P w h₀ A c σ es ds) (hs : ∀ env, starEach (e :: es) env = (false, eval e env) :: starEach es env := by intro _; rfl) : EvL P w h₀ A c σ (e :: es) (d :: ds) :=
  .mk fun pos K s Q E I hq => by
    rw [hs]
    exact Calls.spliced_cons (h.run K s _ E I fun v K1 s1 st1 r1 => hr.run pos K1 s1 _ E (I.step st1) fun vs K2 s2 st2 r2 => hq _ _ _ (st1.trans st2) (.cons (r1.mono st2.mono) r2))
theorem ev_tuple {es : List Expr} {ds : List D} {k : Nat} (h : EvL P w h₀ A c σ es ds) (hsz : ds.length ≤ sizeLine := by first | decide | (simp only [List.length_cons, List.length_nil]; decide)) : Ev P w h₀ A c σ (.Tuple es k pos) (.tup ds) := .mk fun K s Q E I hq =>
  wpAny_Tuple (h.run pos K s _ E I fun vs K1 s1 st1 r1 => ⟨by rw [r1.length]; exact hsz, by
    have ho : (s1.heap.push { cls := .type "tuple", data := .seq vs.toArray }).get? s1.heap.objs.size = some { cls := .type "tuple", data := .seq vs.toArray } := Heap.get?_push_size _ rfl
    have st2 := Step.one (t := s1.toks) st1.kin (fun b o e => Heap.get?_push_of_some _ e) (none_of_size (Nat.le_refl _)) ho
    exact hq _ _ _ (st1.trans st2) (.tup (Know.put_same _ _ _) (r1.mono st2.mono))⟩)
theorem ev_list {es : List Expr} {ds : List D} (h : EvL P w h₀ A c σ es ds) (hsz : ds.length ≤ sizeLine := by first | decide | (simp only [List.length_cons, List.length_nil]; decide)) : Ev P w h₀ A c σ (.List es pos) (.lst ds) := .mk fun K s Q E I hq =>
  wpAny_List (h.run pos K s _ E I fun vs K1 s1 st1 r1 => ⟨by rw [r1.length]; exact hsz, by
    have ho : (s1.heap.push { cls := .type "list", data := .seq vs.toArray }).get? s1.heap.objs.size = some { cls := .type "list", data := .seq vs.toArray } := Heap.get?_push_size _ rfl
    have st2 := Step.one (t := s1.toks) st1.kin (fun b o e => Heap.get?_push_of_some _ e) (none_of_size (Nat.le_refl _)) ho
    exact hq _ _ _ (st1.trans st2) (.lst (Know.put_same _ _ _) (r1.mono st2.mono))⟩)
end


/-- the global and the built-in names -/
structure Names (h₀ : Heap) (mg mb : Str → Option Value) : Prop where
  g : h₀.Ns mainGlobals mg
  b : h₀.Ns builtinsNs mb
/-- a value that a plain call by name may call -/
inductive Callee (h₀ : Heap) : Value → Prop
  | builtin (id : String) : Callee h₀ (.builtin id)
  | type (T : String) : Callee h₀ (.type T)
  | fn {a : Addr} {o : Obj} {fd : FuncData} : h₀.get? a = some o → o.data = .func fd → Callee h₀ (.ref a)

section
variable {P : Program} {w : World} {h₀ : Heap} {A : Around} {c : Cx} {σ : Str → Option D} {pos p : Pos} {mg mb : Str → Option Value}

theorem gname {x : Str} {f : Value} {K : Know} {s : Shared} {Q : Value → Shared → Prop} {E : Value → Shared → Prop} (N : Names h₀ mg mb) (I : Inv h₀ c σ K s) (hf : (mg x).or (mb x) = some f) (hQ : Q f s)
    (hk : c.env.scope.kind = .function := by rfl) (hx : c.env.kindOf x = some .globalImplicit := by rfl) (hg : c.env.globals = mainGlobals := by rfl) (hb : c.env.builtins = builtinsNs := by rfl) (hd : (x == ("__debug__" : Str)) = false := by decide) :
    wpAny (model P w) A (eval (.Name x p) c.env) Q E s := by
  have g' : s.heap.Ns c.env.globals mg := by rw [hg]; exact N.g.keeps I.here
  have b' : s.heap.Ns c.env.builtins mb := by rw [hb]; exact N.b.keeps I.here
  refine Calls.Name_function_global hk hx ?_ hd
  cases e : mg x with
  | some v => rw [e] at hf; cases hf; exact Calls.loadGlobal_global g' e hQ
  | none => rw [e] at hf; exact Calls.loadGlobal_builtin g' e b' hf hQ

theorem evalArgs_of {f : Value} {es : List Expr} {env : Env} {s : Shared} {Q : Args → Shared → Prop} {E : Value → Shared → Prop} (hs : starEach es env = es.map fun e => (false, eval e env))
    (h : wpAny (model P w) A (spliced (backTo pos (starEach es env))) (fun vs s' => Q ⟨vs, []⟩ s') E s) : wpAny (model P w) A (evalArgs f true (backTo pos (starEach es env)) []) Q E s := by
  rw [hs] at h ⊢
  cases es with
  | nil =>
    unfold evalArgs
    show wpAny _ A (spliced [] >>= _) Q E s
    refine wpAny_bind (wpAny_mono h (fun vs s' h' => ?_) fun _ _ x => x)
    refine wpAny_bind (wpAny_pure (wpAny_holding ?_))
    exact wpAny_bind (wpAny_pure (wpAny_bind (wpAny_pure (wpAny_pure h'))))
  | cons e es => exact Calls.evalArgs_plain h
theorem backTo_plain {es : List Expr} {env : Env} (hs : starEach es env = es.map fun e => (false, eval e env)) : (backTo pos (starEach es env)).any (·.1) = false := by
  rw [hs]; simp [backTo, List.any_eq_false]

theorem ev_call {x : Str} {f : Value} {es : List Expr} {ds : List D} {d : D} {n : Nat} (N : Names h₀ mg mb) (R : Room A n) (hf : (mg x).or (mb x) = some f) (hc : Callee h₀ f) (ha : EvL P w h₀ A c σ es ds) (hcall : CallIs P w h₀ n f ds d)
    (hs : starEach es c.env = es.map fun e => (false, eval e c.env) := by rfl)
    (hk : c.env.scope.kind = .function := by rfl) (hx : c.env.kindOf x = some .globalImplicit := by rfl) (hg : c.env.globals = mainGlobals := by rfl) (hb : c.env.builtins = builtinsNs := by rfl) (hd : (x == ("__debug__" : Str)) = false := by decide) :
    Ev P w h₀ A c σ (.Call (.Name x p) es [] pos) d := .mk fun K s Q E I hq => by
  refine wpAny_Call_Name_kw (gname N I hf ?_ hk hx hg hb hd)
  show wpAny _ _ (callWith pos f [] (backTo pos (starEach es c.env)) []) _ _ _
  have args : wpAny (model P w) A (evalArgs f true (backTo pos (starEach es c.env)) []) (fun x s₁ => (∀ a o, h₀.get? a = some o → s₁.heap.get? a = some o) ∧ wpAny (model P w) A (call f ([] ++ x.pos) x.kw) Q E s₁) E s :=
    evalArgs_of hs (ha.run pos K s _ E I fun vs K1 s1 st1 r1 => ⟨(I.step st1).here, hcall A K1 s1 vs Q E R.handled R.depth R.units (I.step st1).base st1.kin r1 fun v K2 s2 st2 r2 => hq _ _ _ (st1.trans st2) r2⟩)
  cases hc with
  | builtin id => exact Calls.callWith_builtin (backTo_plain hs) (wpAny_mono args (fun _ _ h => h.2) fun _ _ h => h)
  | type T => exact PyProof.Rows.callWith_type (backTo_plain hs) (wpAny_mono args (fun _ _ h => h.2) fun _ _ h => h)
  | fn ho hd => exact Calls.callWith_function (wpAny_mono args (fun _ _ h => ⟨⟨h.1 _ _ ho, hd⟩, h.2⟩) fun _ _ h => h)
end


noncomputable def put (σ : Str → Option D) (x : Str) (d : D) : Str → Option D := fun y => if y = x then some d else σ y
inductive Out where
  | next (σ : Str → Option D)
  | brk (σ : Str → Option D)
  | cont (σ : Str → Option D)
  | ret (d : D)

/-- a statement's step: all stands but what the frame may turn -/
structure SStep (c : Cx) (K : Know) (s : Shared) (K' : Know) (s' : Shared) : Prop where
  mono : KSub K K'
  new : ∀ a o, s.heap.get? a = some o → K' a = K a
  keep : ∀ a o, a ∉ c.turns → s.heap.get? a = some o → s'.heap.get? a = some o
  alive : ∀ a o, s.heap.get? a = some o → ∃ o', s'.heap.get? a = some o'
  same : ∃ h t, s' = { s with heap := h, toks := t }
theorem SStep.refl {c : Cx} {K : Know} {s : Shared} : SStep c K s K s := ⟨fun _ _ e => e, fun _ _ _ => rfl, fun _ _ _ e => e, fun _ o e => ⟨o, e⟩, s.heap, s.toks, rfl⟩
theorem SStep.of {c : Cx} {K K' : Know} {s s' : Shared} (st : Step K s K' s') : SStep c K s K' s' := ⟨st.mono, st.new, fun a o _ e => st.keep a o e, fun a o e => ⟨o, st.keep a o e⟩, st.same⟩
theorem SStep.trans {c : Cx} {K₁ K₂ K₃ : Know} {s₁ s₂ s₃ : Shared} (a : SStep c K₁ s₁ K₂ s₂) (b : SStep c K₂ s₂ K₃ s₃) : SStep c K₁ s₁ K₃ s₃ :=
  ⟨fun x o e => b.mono _ _ (a.mono _ _ e), fun x o e => by
      obtain ⟨o', e'⟩ := a.alive x o e
      exact (b.new _ _ e').trans (a.new _ _ e),
    fun x o hx e => b.keep _ _ hx (a.keep _ _ hx e), fun x o e => by
      obtain ⟨o', e'⟩ := a.alive x o e
      exact b.alive x o' e', by
    obtain ⟨h, t, rfl⟩ := a.same
    obtain ⟨h', t', rfl⟩ := b.same
    exact ⟨h', t', rfl⟩⟩

noncomputable def OutIs (h₀ : Heap) (c : Cx) (K : Know) (s : Shared) (fl : Flow) : Out → Prop
  | .next σ => fl = .next ∧ Inv h₀ c σ K s
  | .brk σ => fl = .brk ∧ Inv h₀ c σ K s
  | .cont σ => fl = .cont ∧ Inv h₀ c σ K s
  | .ret d => KIn K s.heap ∧ ∃ v, fl = .ret v ∧ Rep K v d

section
variable (P : Program) (w : World) (h₀ : Heap) (A : Around)
structure X1 (c : Cx) (σ : Str → Option D) (st : Stmt) (Φ : Out → Prop) : Prop where
  run : ∀ K s (Q : Flow → Shared → Prop) (E : Value → Shared → Prop), Inv h₀ c σ K s → (∀ fl K' s' o, SStep c K s K' s' → Φ o → OutIs h₀ c K' s' fl o → Q fl s') → wpAny (model P w) A (exec st c.env) Q E s
structure Xs (c : Cx) (σ : Str → Option D) (ss : List Stmt) (Φ : Out → Prop) : Prop where
  run : ∀ K s (Q : Flow → Shared → Prop) (E : Value → Shared → Prop), Inv h₀ c σ K s → (∀ fl K' s' o, SStep c K s K' s' → Φ o → OutIs h₀ c K' s' fl o → Q fl s') → wpAny (model P w) A (execs ss c.env) Q E s
end
section
variable {P : Program} {w : World} {h₀ : Heap} {A : Around} {c : Cx} {σ : Str → Option D} {Φ : Out → Prop} {pos : Pos} {st : Stmt} {ss : List Stmt}

theorem Xs.mono {Φ' : Out → Prop} (h : Xs P w h₀ A c σ ss Φ) (k : ∀ o, Φ o → Φ' o) : Xs P w h₀ A c σ ss Φ' := .mk fun K s Q E I hq => h.run K s Q E I fun fl K' s' o st ho oi => hq fl K' s' o st (k o ho) oi
theorem xs_nil (h : Φ (.next σ)) : Xs P w h₀ A c σ [] Φ := .mk fun K s Q E I hq => wpAny_execs_nil (hq _ K s _ SStep.refl h ⟨rfl, I⟩)
theorem xs_cons (h : X1 P w h₀ A c σ st (fun o => match o with | .next σ' => Xs P w h₀ A c σ' ss Φ | o => Φ o)) : Xs P w h₀ A c σ (st :: ss) Φ := .mk fun K s Q E I hq => by
  refine wpAny_execs_cons (h.run K s _ E I fun fl K1 s1 o st1 ho oi => ?_)
  cases o with
  | next σ' =>
    obtain ⟨rfl, I1⟩ := oi
    exact ho.run K1 s1 Q E I1 fun fl K2 s2 o2 st2 ho2 oi2 => hq _ _ _ _ (st1.trans st2) ho2 oi2
  | brk σ' => obtain ⟨rfl, I1⟩ := oi; exact hq _ _ _ (.brk σ') st1 ho ⟨rfl, I1⟩
  | cont σ' => obtain ⟨rfl, I1⟩ := oi; exact hq _ _ _ (.cont σ') st1 ho ⟨rfl, I1⟩
  | ret d => obtain ⟨k, v, rfl, r⟩ := oi; exact hq _ _ _ (.ret d) st1 ho ⟨k, v, rfl, r⟩

/-- a name that the frame may store -/
noncomputable def Stores (c : Cx) (x : Str) : Prop := (c.env.kindOf x = some .local ∧ (c.env.scope.kind == .class || (c.env.scope.kind == .module && c.env.locals != c.env.globals)) = false) ∨
  (c.env.scope.kind = .function ∧ c.env.kindOf x = some .cell ∧ ∃ a, c.env.cells.lookup x = some a ∧ a ∈ c.turns)
/-- a name is stored -/
theorem storeV {x : Str} {v : Value} {d : D} {K : Know} {s : Shared} {Q : Unit → Shared → Prop} {E : Value → Shared → Prop} (I : Inv h₀ c σ K s) (r : d.plain = true → Rep K v d)
    (ro : ∀ a ds, d = .own a ds → v = .ref a ∧ a ∈ c.turns ∧ (∃ vs : List Value, s.heap.PlainList a vs.toArray ∧ RepAll K vs ds) ∧ ∀ y es, σ y ≠ some (.own a es))
    (hx : Stores c x)
    (hQ : ∀ s', SStep c K s K s' → Inv h₀ c (put σ x d) K s' → Q () s') : wpAny (model P w) A (storeName c.env x v) Q E s := by
  have own1 : ∀ y z a ds es, put σ x d y = some (.own a ds) → put σ x d z = some (.own a es) → y = z := fun y z a ds es e e' => by
    unfold put at e e'
    by_cases q : y = x
    · rw [if_pos q] at e
      by_cases q' : z = x
      · rw [q, q']
      · rw [if_neg q'] at e'
        exact absurd e' ((ro a ds (Option.some.inj e)).2.2.2 z es)
    · rw [if_neg q] at e
      by_cases q' : z = x
      · rw [if_pos q'] at e'
        exact absurd e ((ro a es (Option.some.inj e')).2.2.2 y ds)
      · rw [if_neg q'] at e'
        exact I.own1 y z a ds es e e'
  obtain ⟨m, hn⟩ := I.ns
  have offL : ∀ a o, K a = some o → a ∉ c.turns := fun a o e q => by rw [I.off a q] at e; cases e
  rcases hx with ⟨hx, hk⟩ | ⟨hk, hx, a, ha, hat⟩
  · refine wpAny_storeName_local hx hn (fun h' hn' hs => ?_) hk
    have st : SStep c K s K { s with heap := h', toks := s.toks + 1 } :=
      ⟨fun _ _ e => e, fun _ _ _ => rfl, fun a o ha e => (hs.2 a (fun q => ha (q ▸ I.loc))).trans e, fun a o e => by
        by_cases q : a = c.env.locals
        · obtain ⟨o', _, _, ho', _⟩ := hn'; exact ⟨o', q ▸ ho'⟩
        · exact ⟨o, (hs.2 a q).trans e⟩, _, _, rfl⟩
    have notL : ∀ a vs, s.heap.PlainList a vs → a ≠ c.env.locals := fun a vs hpl q => by
      obtain ⟨oL, es, ep, hoL, hdL, _⟩ := hn
      obtain ⟨k, hpl⟩ := hpl
      rw [q, hoL] at hpl; cases hpl; cases hdL
    have bnd : ∀ y u, y ≠ x → Bound c.env s.heap y u → Bound c.env h' y u := fun y u q b => by
      rcases b with ⟨b1, m', b2, b3⟩ | ⟨b1, a, o, b2, b3, b4⟩
      · exact .inl ⟨b1, _, hn', by simp only [if_neg q]; exact (hn.agree b2 y).trans b3⟩
      · obtain ⟨oL, es, ep, hoL, hdL, _⟩ := hn
        have : a ≠ c.env.locals := by rintro rfl; rw [hoL] at b3; cases b3; rw [hdL] at b4; cases b4
        exact .inr ⟨b1, a, o, b2, (hs.2 a this).trans b3, b4⟩
    refine hQ _ st ⟨I.base, fun a o e => ?_, I.off, fun a ha => ?_, ⟨_, hn'⟩, I.loc, fun y a e => ?_, I.inj, fun y d' e hp => ?_, fun y a ds e => ?_, own1⟩
    · exact st.keep _ _ (offL _ _ e) (I.kin _ _ e)
    · obtain ⟨o, e⟩ := I.has a ha; exact st.alive a o e
    · obtain ⟨u, o, ho, hd⟩ := I.cell y a e
      obtain ⟨oL, es, ep, hoL, hdL, _⟩ := hn
      have : a ≠ c.env.locals := by rintro rfl; rw [hoL] at ho; cases ho; rw [hdL] at hd; cases hd
      exact ⟨u, o, (hs.2 a this).trans ho, hd⟩
    · unfold put at e
      by_cases q : y = x
      · subst q
        rw [if_pos rfl] at e; cases e
        exact ⟨v, .inl ⟨hx, _, hn', by simp⟩, r hp⟩
      · rw [if_neg q] at e
        obtain ⟨u, b, ru⟩ := I.vars y d' e hp
        exact ⟨u, bnd y u q b, ru⟩
    · unfold put at e
      by_cases q : y = x
      · subst q
        rw [if_pos rfl] at e
        obtain ⟨rfl, h1, ⟨vs, h3, h4⟩, _⟩ := ro a ds (Option.some.inj e)
        exact ⟨h1, .inl ⟨hx, _, hn', by simp⟩, vs, h3.at fun o e => (hs.2 a (notL a _ h3)).trans e, h4⟩
      · rw [if_neg q] at e
        obtain ⟨h1, h2, vs, h3, h4⟩ := I.own y a ds e
        exact ⟨h1, bnd y _ q h2, vs, h3.at fun o e => (hs.2 a (notL a _ h3)).trans e, h4⟩
  · obtain ⟨v₀, hv₀⟩ := I.cell x a ha
    refine wpAny_storeName_cell hk hx ha hv₀ fun h' hv' hs => ?_
    have st : SStep c K s K { s with heap := h' } :=
      ⟨fun _ _ e => e, fun _ _ _ => rfl, fun b o hb e => (hs.2 b (fun q => hb (q ▸ hat))).trans e, fun b o e => by
        by_cases q : b = a
        · obtain ⟨o', ho', _⟩ := hv'; exact ⟨o', q ▸ ho'⟩
        · exact ⟨o, (hs.2 b q).trans e⟩, _, _, rfl⟩
    have hLa : c.env.locals ≠ a := by
      rintro e
      obtain ⟨oL, es, ep, hoL, hdL, _⟩ := hn
      obtain ⟨o, ho, hd⟩ := hv₀
      rw [← e, hoL] at ho; cases ho; rw [hdL] at hd; cases hd
    have hn' : h'.Ns c.env.locals m := hn.sameBut hs hLa
    have notC : ∀ b vs, s.heap.PlainList b vs → b ≠ a := fun b vs hpl q => by
      obtain ⟨o, ho, hd⟩ := hv₀
      obtain ⟨k, hpl⟩ := hpl
      rw [q, ho] at hpl; cases hpl; cases hd
    have bnd : ∀ y u, y ≠ x → Bound c.env s.heap y u → Bound c.env h' y u := fun y u q b => by
      rcases b with ⟨b1, m', b2, b3⟩ | ⟨b1, a', o, b2, b3, b4⟩
      · exact .inl ⟨b1, m, hn', (hn.agree b2 y).trans b3⟩
      · have : a' ≠ a := fun e => q (I.inj y x a (e ▸ b2) ha)
        exact .inr ⟨b1, a', o, b2, (hs.2 a' this).trans b3, b4⟩
    refine hQ _ st ⟨I.base, fun b o e => ?_, I.off, fun b hb => ?_, ⟨_, hn'⟩, I.loc, fun y b e => ?_, I.inj, fun y d' e hp => ?_, fun y b ds e => ?_, own1⟩
    · exact st.keep _ _ (offL _ _ e) (I.kin _ _ e)
    · obtain ⟨o, e⟩ := I.has b hb; exact st.alive b o e
    · by_cases q : b = a
      · exact ⟨_, q ▸ hv'⟩
      · obtain ⟨u, o, ho, hd⟩ := I.cell y b e
        exact ⟨u, o, (hs.2 b q).trans ho, hd⟩
    · unfold put at e
      by_cases q : y = x
      · subst q
        rw [if_pos rfl] at e; cases e
        obtain ⟨o, ho, hd⟩ := hv'
        exact ⟨v, .inr ⟨.inl hx, a, o, ha, ho, hd⟩, r hp⟩
      · rw [if_neg q] at e
        obtain ⟨u, b, ru⟩ := I.vars y d' e hp
        exact ⟨u, bnd y u q b, ru⟩
    · unfold put at e
      by_cases q : y = x
      · subst q
        rw [if_pos rfl] at e
        obtain ⟨rfl, h1, ⟨vs, h3, h4⟩, _⟩ := ro b ds (Option.some.inj e)
        obtain ⟨o, ho, hd⟩ := hv'
        exact ⟨h1, .inr ⟨.inl hx, a, o, ha, ho, hd⟩, vs, h3.at fun o e => (hs.2 b (notC b _ h3)).trans e, h4⟩
      · rw [if_neg q] at e
        obtain ⟨h1, h2, vs, h3, h4⟩ := I.own y b ds e
        exact ⟨h1, bnd y _ q h2, vs, h3.at fun o e => (hs.2 b (notC b _ h3)).trans e, h4⟩

theorem store {x : Str} {v : Value} {d : D} {K : Know} {s : Shared} {Q : Unit → Shared → Prop} {E : Value → Shared → Prop} (I : Inv h₀ c σ K s) (r : Rep K v d)
    (hx : Stores c x)
    (hQ : ∀ s', SStep c K s K s' → Inv h₀ c (put σ x d) K s' → Q () s') : wpAny (model P w) A (storeName c.env x v) Q E s :=
  storeV I (fun _ => r) (fun a ds e => by subst e; cases r) hx hQ

theorem x_assign {x : Str} {p : Pos} {e : Expr} {d : D} (h : Ev P w h₀ A c σ e d) (hΦ : Φ (.next (put σ x d)))
    (hx : Stores c x := by first | exact .inl ⟨rfl, rfl⟩ | exact .inr ⟨rfl, rfl, _, rfl, by simp⟩)
    (hs : swapsWith e (some (.Name x p)) pos.line c.env = pure false := by rfl) : X1 P w h₀ A c σ (.Assign [.Name x p] e pos) Φ := .mk fun K s Q E I hq =>
  wpAny_Assign_Name (h.run K s _ E I fun v K1 s1 st1 r1 => store (I.step st1) r1 hx fun s2 st2 I2 => hq _ _ _ _ ((SStep.of st1).trans st2) hΦ ⟨rfl, I2⟩) hs
theorem x_ret {e : Expr} {d : D} (h : Ev P w h₀ A c σ e d) (hΦ : Φ (.ret d)) : X1 P w h₀ A c σ (.Return (some e) pos) Φ := .mk fun K s Q E I hq =>
  wpAny_Return_some (h.run K s _ E I fun v K1 s1 st1 r1 => hq _ _ _ (.ret d) (SStep.of st1) hΦ ⟨st1.kin, v, rfl, r1⟩)
theorem x_if {t : Expr} {b : Bool} {body orelse : List Stmt} (ht : EvT P w h₀ A c σ t b) (h1 : b = true → Xs P w h₀ A c σ body Φ) (h2 : b = false → Xs P w h₀ A c σ orelse Φ) : X1 P w h₀ A c σ (.If t body orelse pos) Φ := .mk fun K s Q E I hq =>
  wpAny_If (ht.run K s _ E I fun K1 s1 st1 => by
    cases b with
    | true => exact (h1 rfl).run K1 s1 Q E (I.step st1) fun fl K2 s2 o st2 ho oi => hq _ _ _ _ ((SStep.of st1).trans st2) ho oi
    | false => exact (h2 rfl).run K1 s1 Q E (I.step st1) fun fl K2 s2 o st2 ho oi => hq _ _ _ _ ((SStep.of st1).trans st2) ho oi)

/-- a while, by what holds of the store and a measure -/
theorem x_while {t : Expr} {body : List Stmt} (J : Nat → (Str → Option D) → Prop) (n₀ : Nat) (h0 : J n₀ σ)
    (turn : ∀ n σ', J n σ' → ∃ b, EvT P w h₀ A c σ' t b ∧ (b = true → Xs P w h₀ A c σ' body (fun o => match o with | .next σ'' | .cont σ'' => ∃ m, m < n ∧ J m σ'' | .brk σ'' => Φ (.next σ'') | .ret d => Φ (.ret d))) ∧ (b = false → Φ (.next σ'))) :
    X1 P w h₀ A c σ (.While t body [] pos) Φ := .mk fun K s Q E I hq => by
  refine wpAny_While (codeAny_whileLoop (fun n s' => ∃ σ' K', J n σ' ∧ SStep c K s K' s' ∧ Inv h₀ c σ' K' s') (fun n s' hI => ?_) n₀ ⟨σ, K, h0, SStep.refl, I⟩)
  obtain ⟨σ', K', hJ, st, I'⟩ := hI
  obtain ⟨b, ht, h1, h2⟩ := turn n σ' hJ
  refine ht.run K' s' _ _ I' fun K1 s1 st1 => ?_
  cases b with
  | false => exact wpAny_execs_nil (hq _ _ _ _ (st.trans (SStep.of st1)) (h2 rfl) ⟨rfl, I'.step st1⟩)
  | true =>
    refine (h1 rfl).run K1 s1 _ _ (I'.step st1) fun fl K2 s2 o st2 ho oi => ?_
    have st' := (st.trans (SStep.of st1)).trans st2
    cases o with
    | next σ'' => obtain ⟨rfl, I2⟩ := oi; obtain ⟨m, hm, hJ'⟩ := ho; exact ⟨m, hm, σ'', K2, hJ', st', I2⟩
    | cont σ'' => obtain ⟨rfl, I2⟩ := oi; obtain ⟨m, hm, hJ'⟩ := ho; exact ⟨m, hm, σ'', K2, hJ', st', I2⟩
    | brk σ'' => obtain ⟨rfl, I2⟩ := oi; exact hq _ _ _ (.next σ'') st' ho ⟨rfl, I2⟩
    | ret d => obtain ⟨k, v, rfl, r⟩ := oi; exact hq _ _ _ (.ret d) st' ho ⟨k, v, rfl, r⟩

theorem zip_key {K : Know} {x : Str} {d' : D} : ∀ {names : List Str} {vs : List Value} {ds : List D}, RepAll K vs ds → names.length = ds.length → (names.zip ds).lookup x = some d' → ∃ v, (names.zip vs).lookup x = some v ∧ Rep K v d' ∧ x ∈ names
  | [], _, _, _, _, hx => by simp at hx
  | y :: names, _, [], _, _, hx => by simp at hx
  | y :: names, _, d :: ds, .cons r rr, hl, hx => by
    simp only [List.zip_cons_cons, List.lookup_cons] at hx ⊢
    cases e : x == y with
    | true => rw [e] at hx; cases hx; exact ⟨_, rfl, r, by rw [beq_iff_eq.mp e]; exact List.mem_cons_self⟩
    | false =>
      rw [e] at hx
      obtain ⟨v, h1, h2, h3⟩ := zip_key rr (by simpa using hl) hx
      exact ⟨v, h1, h2, List.mem_cons_of_mem _ h3⟩

end


/-- a value told strongly (b), or a tuple whose items alone are known -/
noncomputable def WRep (b : Bool) (K : Know) (h : Heap) (v : Value) (d : D) : Prop :=
  Rep K v d ∨ (b = false ∧ ∃ T vals ds, v = .ref T ∧ d = .tup ds ∧ h.IsTuple T vals ∧ RepAll K vals.toList ds)
theorem WRep.mono {b : Bool} {K K' : Know} {h : Heap} {v : Value} {d : D} (r : WRep b K h v d) (k : KSub K K') : WRep b K' h v d := by
  rcases r with r | ⟨e, T, vals, ds, e1, e2, e3, e4⟩
  · exact .inl (r.mono k)
  · exact .inr ⟨e, T, vals, ds, e1, e2, e3, e4.mono k⟩

section
variable (P : Program) (w : World) (h₀ : Heap) (A : Around)
/-- an iterator over data, at a target -/
structure Itr (b : Bool) (tgt : Expr) (K : Know) (I : Addr) (fp wr : List Addr) (ds : List D) (St : Nat → Heap → Prop) (Mid : Nat → Value → Heap → Prop) : Prop where
  sub : ∀ a ∈ wr, a ∈ fp
  frame : ∀ i h h', St i h → (∀ a ∈ fp, ∀ o, h.get? a = some o → h'.get? a = some o) → St i h'
  alive : ∀ i h, St i h → ∀ a ∈ fp, ∃ o, h.get? a = some o
  item : ∀ i d (s : Shared) (Q : Option Value → Shared → Prop) (E : Value → Shared → Prop), ds[i]? = some d → St i s.heap → KIn K s.heap →
    (∀ v h' tk, WRep b K h' v d → Mid i v h' → (∀ a o, a ∉ wr → s.heap.get? a = some o → h'.get? a = some o) → Q (some v) { s with heap := h', toks := tk }) → wpAny (model P w) A (pyNext (.ref I)) Q E s
  go : ∀ i d v (s : Shared) (Q : Unit → Shared → Prop) (E : Value → Shared → Prop), WRep b K s.heap v d → Mid i v s.heap → KIn K s.heap →
    (∀ h', WRep b K h' v d → St (i + 1) h' → (∀ a o, a ∉ wr → s.heap.get? a = some o → h'.get? a = some o) → Q () { s with heap := h' }) → wpAny (model P w) A (letOwnedTupleGo tgt (.ref I) v) Q E s
  done : ∀ (s : Shared) (Q : Option Value → Shared → Prop) (E : Value → Shared → Prop), St ds.length s.heap →
    (∀ h' tk, (∀ a o, a ∉ wr → s.heap.get? a = some o → h'.get? a = some o) → Q none { s with heap := h', toks := tk }) → wpAny (model P w) A (pyNext (.ref I)) Q E s
  self : ∀ i (s : Shared) (Q : Value → Shared → Prop) (E : Value → Shared → Prop), St i s.heap → Q (.ref I) s → wpAny (model P w) A (pyIter (.ref I)) Q E s
structure IterAt (b : Bool) (tgt : Expr) (s₀ : Shared) (K : Know) (s : Shared) (it : Value) (ds : List D) : Prop where
  ex : ∃ I fp wr St Mid, it = .ref I ∧ Itr P w A b tgt K I fp wr ds St Mid ∧ St 0 s.heap ∧ (∀ a ∈ fp, a ∈ wr ∨ ∃ o, K a = some o) ∧ (∀ a ∈ wr, K a = none ∧ s₀.heap.get? a = none)
/-- the source of a loop: its items -/
structure EvI (c : Cx) (σ : Str → Option D) (b : Bool) (tgt : Expr) (e : Expr) (ds : List D) : Prop where
  run : ∀ K s (Q : Value → Shared → Prop) (E : Value → Shared → Prop), Inv h₀ c σ K s → (∀ it K' s', Step K s K' s' → IterAt P w A b tgt s K' s' it ds → Q it s') →
    wpAny (model P w) A (eval e c.env) (fun x s₁ => wpAny (model P w) A (pyIter x) Q E s₁) E s
/-- a target takes a value -/
structure Asg (c : Cx) (b : Bool) (σ : Str → Option D) (tgt : Expr) (d : D) (σ' : Str → Option D) : Prop where
  run : ∀ K s v (Q : Unit → Shared → Prop) (E : Value → Shared → Prop), Inv h₀ c σ K s → WRep b K s.heap v d → (∀ s', SStep c K s K s' → Inv h₀ c σ' K s' → Q () s') → wpAny (model P w) A (assign tgt c.env v) Q E s
end
section
variable {P : Program} {w : World} {h₀ : Heap} {A : Around} {c : Cx} {σ : Str → Option D} {Φ : Out → Prop} {pos p : Pos}

theorem asg_name {x : Str} {d : D}
    (hx : Stores c x := by first | exact .inl ⟨rfl, rfl⟩ | exact .inr ⟨rfl, rfl, _, rfl, by simp⟩) :
    Asg P w h₀ A c true σ (.Name x p) d (put σ x d) := .mk fun K s v Q E I hr hQ => by
  rcases hr with r | ⟨e, _⟩
  · exact wpAny_assign_Name (store I r hx hQ)
  · cases e

noncomputable def putAll (σ : Str → Option D) : List Str → List D → Str → Option D
  | x :: xs, d :: ds => putAll (put σ x d) xs ds
  | _, _ => σ
theorem storeAll {K : Know} {Q : Unit → Shared → Prop} {E : Value → Shared → Prop} (xs : List (Str × Pos)) : ∀ (vs : List Value) (ds : List D) (σ : Str → Option D) (s : Shared), xs.length = ds.length →
    (∀ x ∈ xs, Stores c x.1) → Inv h₀ c σ K s → RepAll K vs ds →
    (∀ s', SStep c K s K s' → Inv h₀ c (putAll σ (xs.map (·.1)) ds) K s' → Q () s') → wpAny (model P w) A (assignInOrder (xs.map fun x => assign (.Name x.1 x.2) c.env) vs) Q E s := by
  induction xs with
  | nil =>
    intro vs ds σ s hl hx I hr hQ
    cases ds with
    | nil => cases hr; exact wpAny_pure (hQ s SStep.refl I)
    | cons => simp at hl
  | cons x xs ih =>
    intro vs ds σ s hl hx I hr hQ
    cases ds with
    | nil => simp at hl
    | cons d ds =>
      cases hr with
      | cons r rr =>
        refine wpAny_bind (wpAny_holding (wpAny_assign_Name (store I r (hx x List.mem_cons_self) fun s1 st1 I1 => ?_)))
        exact ih _ ds _ s1 (by simpa using hl) (fun y hy => hx y (List.mem_cons_of_mem _ hy)) I1 rr fun s2 st2 I2 => hQ s2 (st1.trans st2) I2

theorem asg_tuple {b : Bool} {xs : List (Str × Pos)} {ds : List D} {k : Nat} (hh : A.handled = none) (hl : xs.length = ds.length)
    (hx : ∀ x ∈ xs, Stores c x.1) (he : assignEach (xs.map fun x => .Name x.1 x.2) c.env = xs.map fun x => (false, assign (.Name x.1 x.2) c.env)) :
    Asg P w h₀ A c b σ (.Tuple (xs.map fun x => .Name x.1 x.2) k p) (.tup ds) (putAll σ (xs.map (·.1)) ds) := .mk fun K s v Q E I hr hQ => by
  have hT : ∃ T vals, v = .ref T ∧ s.heap.IsTuple T vals ∧ RepAll K vals.toList ds := by
    rcases hr with r | ⟨_, T, vals, ds', e1, e2, e3, e4⟩
    · cases r with
      | tup e r => exact ⟨_, _, rfl, ⟨_, I.kin _ _ e, rfl, _, rfl⟩, r⟩
    · cases e2; exact ⟨T, vals, e1, e3, e4⟩
  obtain ⟨T, vals, rfl, hT, hr⟩ := hT
  have hlen : vals.toList.length = ds.length := hr.length
  refine wpAny_assign_Tuple hh hT (by rw [he, List.length_map, hl, ← hlen]; rfl) (by rw [he]; rw [List.findIdx?_eq_none_iff]; simp) fun h' hk' => ?_
  have st : Step K s K { s with heap := h', toks := s.toks } := Step.grow I.kin fun b o e => hk' b o (Nat.ne_of_lt (Heap.lt_size e)) e
  rw [he, List.map_map]
  exact storeAll xs _ ds σ _ hl hx (I.step st) hr fun s2 st2 I2 => hQ s2 ((SStep.of st).trans st2) I2

/-- the loop's own objects turn; nothing else -/
theorem butWr {K K' : Know} {s s' : Shared} {σ' : Str → Option D} {wr : List Addr} {h' : Heap} {tk : Nat} (st : SStep c K s K' s') (tn : ∀ a ∈ c.turns, a ∉ wr) (cn : ∀ x a, c.env.cells.lookup x = some a → a ∉ wr) (I : Inv h₀ c σ' K' s') (hw : ∀ a ∈ wr, K' a = none ∧ s.heap.get? a = none)
    (hk : ∀ a o, a ∉ wr → s'.heap.get? a = some o → h'.get? a = some o) : SStep c K s K' { s' with heap := h', toks := tk } ∧ Inv h₀ c σ' K' { s' with heap := h', toks := tk } := by
  have old : ∀ a o, s.heap.get? a = some o → a ∉ wr := fun a o e q => by rw [(hw a q).2] at e; cases e
  have bnd : ∀ x v, Bound c.env s'.heap x v → Bound c.env h' x v := fun x v b => by
    rcases b with ⟨b1, m, b2, b3⟩ | ⟨b1, a, o, b2, b3, b4⟩
    · exact .inl ⟨b1, m, b2.at' fun o e => hk _ _ (tn _ I.loc) e, b3⟩
    · exact .inr ⟨b1, a, o, b2, hk _ _ (cn x a b2) b3, b4⟩
  refine ⟨⟨st.mono, st.new, fun a o ha e => hk _ _ (old a o e) (st.keep a o ha e), fun a o e => ?_, ?_⟩, I.base, fun a o e => hk _ _ (fun q => by rw [(hw a q).1] at e; cases e) (I.kin _ _ e), I.off, fun a ha => ?_, ?_, I.loc, fun x a e => ?_, I.inj, fun x d e hp => ?_, fun x a ds e => ?_, I.own1⟩
  · obtain ⟨o', e'⟩ := st.alive a o e; exact ⟨o', hk _ _ (old a o e) e'⟩
  · obtain ⟨h, t, rfl⟩ := st.same; exact ⟨h', tk, rfl⟩
  · obtain ⟨o, e⟩ := I.has a ha; exact ⟨o, hk _ _ (tn a ha) e⟩
  · obtain ⟨m, hm⟩ := I.ns; exact ⟨m, hm.at' fun o e => hk _ _ (tn _ I.loc) e⟩
  · obtain ⟨v, o, ho, hd⟩ := I.cell x a e; exact ⟨v, o, hk _ _ (cn x a e) ho, hd⟩
  · obtain ⟨v, b, r⟩ := I.vars x d e hp
    exact ⟨v, bnd x v b, r⟩
  · obtain ⟨h1, h2, vs, h3, h4⟩ := I.own x a ds e
    exact ⟨h1, bnd x _ h2, vs, h3.at fun o e => hk _ _ (tn _ h1) e, h4⟩

theorem keepFp {K K1 Ka Kb : Know} {s sa sb : Shared} {fp wr : List Addr} (has : ∀ a ∈ c.turns, ∃ o, s.heap.get? a = some o) (hfk : ∀ a ∈ fp, a ∈ wr ∨ ∃ o, K1 a = some o) (hwr : ∀ a ∈ wr, K1 a = none ∧ s.heap.get? a = none)
    (off : ∀ a ∈ c.turns, Ka a = none) (hs : KSub K1 Ka) (st : SStep c Ka sa Kb sb) : ∀ a ∈ fp, ∀ o, sa.heap.get? a = some o → sb.heap.get? a = some o := fun a ha o e => by
  refine st.keep a o (fun q => ?_) e
  rcases hfk a ha with h | ⟨o', h⟩
  · obtain ⟨o'', e''⟩ := has a q; rw [(hwr a h).2] at e''; cases e''
  · have := hs _ _ h; rw [off a q] at this; cases this

theorem x_for {b : Bool} {tgt iter : Expr} {body : List Stmt} {ds : List D} (J : Nat → (Str → Option D) → Prop) (hi : EvI P w h₀ A c σ b tgt iter ds) (h0 : J 0 σ)
    (turn : ∀ i d σ', ds[i]? = some d → J i σ' → ∃ σ'', Asg P w h₀ A c b σ' tgt d σ'' ∧
      Xs P w h₀ A c σ'' body (fun o => match o with | .next σ₃ | .cont σ₃ => J (i + 1) σ₃ | .brk σ₃ => Φ (.next σ₃) | .ret d => Φ (.ret d)))
    (done : ∀ σ', J ds.length σ' → Φ (.next σ')) (hf : ∀ x, foldedSetIterable iter c.env x = pure x := by intro _; rfl) : X1 P w h₀ A c σ (.For tgt iter body [] pos) Φ := .mk fun K s Q E I hq => by
  refine wpAny_For (hi.run K s _ E I fun it K1 s1 st1 hit => ?_) hf
  obtain ⟨I', fp, wr, St, Mid, rfl, W, hst, hfk, hwr⟩ := hit.ex
  have tn : ∀ a ∈ c.turns, a ∉ wr := fun a ha q => by obtain ⟨o, e⟩ := I.has a ha; rw [(hwr a q).2] at e; cases e
  have cn : ∀ x a, c.env.cells.lookup x = some a → a ∉ wr := fun x a ha q => by obtain ⟨v, o, e, _⟩ := I.cell x a ha; rw [(hwr a q).2] at e; cases e
  have hwfp : ∀ a ∈ wr, K1 a = none := fun a ha => (hwr a ha).1
  refine codeAny_forLoop_any (fun k s' => ∃ i σ' K', i ≤ ds.length ∧ k = ds.length - i ∧ J i σ' ∧ SStep c K s K' s' ∧ KSub K1 K' ∧ Inv h₀ c σ' K' s' ∧ St i s'.heap ∧ (∀ a ∈ wr, K' a = none)) ?_ ds.length
    ⟨0, σ, K1, Nat.zero_le _, rfl, h0, SStep.of st1, fun _ _ e => e, I.step st1, hst, hwfp⟩
  rintro k s' ⟨i, σ', K', hi', rfl, hJ, st, hsub, I1, hst', hwr'⟩
  have hw' : ∀ a ∈ wr, K' a = none ∧ s.heap.get? a = none := fun a ha => ⟨hwr' a ha, (hwr a ha).2⟩
  have kin1 : KIn K1 s'.heap := fun a o e => I1.kin _ _ (hsub _ _ e)
  by_cases hlt : i < ds.length
  · have hd : ds[i]? = some ds[i] := List.getElem?_eq_getElem hlt
    refine W.item i _ s' _ _ hd hst' kin1 fun v h2 tk2 hv hmid hk2 => ?_
    obtain ⟨st2, I2⟩ := butWr (tk := tk2) st tn cn I1 hw' hk2
    have kin2 : KIn K1 h2 := fun a o e => I2.kin _ _ (hsub _ _ e)
    refine W.go i _ v _ _ _ hv hmid kin2 fun h3 hv3 hst3 hk3 => ?_
    obtain ⟨st3, I3⟩ := butWr (tk := tk2) st2 tn cn I2 hw' hk3
    obtain ⟨σ'', hasg, hbody⟩ := turn i _ σ' hd hJ
    refine hasg.run K' _ v _ _ I3 (hv3.mono hsub) fun s4 st4 I4 => ?_
    have hst4 : St (i + 1) s4.heap := W.frame _ _ _ hst3 (keepFp (K := K) I.has hfk hwr I3.off hsub st4)
    refine hbody.run K' s4 _ _ I4 fun fl K5 s5 o st5 ho oi => ?_
    have hst5 : St (i + 1) s5.heap := W.frame _ _ _ hst4 (keepFp (K := K) I.has hfk hwr I4.off hsub st5)
    have st' := (st3.trans st4).trans st5
    have turnOn : ∀ σ₃, J (i + 1) σ₃ → Inv h₀ c σ₃ K5 s5 → ∃ m, m < ds.length - i ∧ ∃ i σ' K', i ≤ ds.length ∧ m = ds.length - i ∧ J i σ' ∧ SStep c K s K' s5 ∧ KSub K1 K' ∧ Inv h₀ c σ' K' s5 ∧ St i s5.heap ∧ (∀ a ∈ wr, K' a = none) := fun σ₃ hJ3 I5 =>
      ⟨ds.length - (i + 1), by omega, i + 1, σ₃, K5, hlt, rfl, hJ3, st', fun a o e => st5.mono _ _ (hsub _ _ e), I5, hst5, fun a ha => by
        obtain ⟨o', e'⟩ := W.alive _ _ hst4 a (W.sub a ha)
        exact (st5.new a o' e').trans (hwr' a ha)⟩
    cases o with
    | next σ₃ => obtain ⟨rfl, I5⟩ := oi; exact turnOn σ₃ ho I5
    | cont σ₃ => obtain ⟨rfl, I5⟩ := oi; exact turnOn σ₃ ho I5
    | brk σ₃ => obtain ⟨rfl, I5⟩ := oi; exact hq _ _ _ (.next σ₃) st' ho ⟨rfl, I5⟩
    | ret d => obtain ⟨k, v, rfl, r⟩ := oi; exact hq _ _ _ (.ret d) st' ho ⟨k, v, rfl, r⟩
  · have hin : i = ds.length := by omega
    subst hin
    refine W.done _ _ _ hst' fun h2 tk2 hk2 => ?_
    obtain ⟨st2, I2⟩ := butWr (tk := tk2) st tn cn I1 hw' hk2
    exact wpAny_execs_nil (hq _ _ _ (.next σ') st2 (done σ' hJ) ⟨rfl, I2⟩)
end


/-- the scope and the environment of a comprehension's block -/
noncomputable def ownScope (scope : Scope) (env : Env) : Scope :=
  { scope with names := scope.names.map fun (n, k) => if (k == .free && env.scope.kind == .function && env.kindOf n == some .cell) then (n, .cell) else (n, k) }
noncomputable def compEnvOf (scope : Scope) (env : Env) (cl : List (Str × Addr)) (C : Addr) : Env :=
  { scope := ownScope scope env, locals := C, globals := env.globals, cells := cl, qual := env.qual, func := none, code := env.code, frame := env.frame, builtins := env.builtins }

section
variable {M : Model} {A : Around} {E : Value → Shared → Prop} {s : Shared} {env : Env}
theorem comp_none {e : Expr} {scope : Scope} {pos : Pos} {newAcc first : Sem Value} {g : Comprehension} {gs : List Comprehension} {Q : Value → Shared → Prop} {cl : List (Str × Addr)}
    (hcl : clausesOf e = g :: gs) (hs : ∀ x, foldedSetIterable g.iter env x = pure x) (hclo : closureFor scope env = pure cl) (hkind : scope.kind = .function) (hnames : ∀ x ∈ scope.names, x.2 = .local → (ownScope scope env).names.lookup x.1 = some .local)
    (h : wpAny M A first (fun x s₁ => wpAny M A (pyIter x) (fun it s₂ => wpAny M A newAcc (fun acc s₃ =>
      wpAny M A (newFunctionEnv scope env.globals cl [] env.qual none .none (some env)) (fun cenv s₄ =>
        codeAny M A (.compStart e 0 it acc { cenv with scope := ownScope scope env }) (fun r s' => match r with
          | .ok _ => ∃ m, s'.heap.Ns cenv.locals m ∧ ∀ h', Heap.SameBut cenv.locals s'.heap h' → Q acc { s' with heap := h' }
          | .error _ => False) s₄) E s₃) E s₂) E s₁) E s) : wpAny M A (comprehension e scope env pos newAcc false first) Q E s := by
  unfold comprehension
  rw [hclo, hcl]
  refine wpAny_bind (wpAny_mono h (fun x s₁ h₁ => ?_) fun _ _ h' => h')
  refine wpAny_bind (wpAny_standAt (wpAny_bind (wpAny_of_eq (hs x) (wpAny_bind (wpAny_holding (wpAny_mono h₁ (fun it s₂ h₂ => ?_) fun _ _ h' => h'))))))
  refine wpAny_standIf (wpAny_bind (wpAny_mono h₂ (fun acc s₃ h₃ => ?_) fun _ _ h' => h'))
  refine wpAny_bind (wpAny_pure (wpAny_bind (wpAny_mono h₃ (fun cenv s₄ h₄ => ?_) fun _ _ h' => h')))
  dsimp only
  have hv : ∀ x ∈ (scope.names.filter fun x => (x.2 == .local || x.2 == .cell) && x.1 != (".0" : Str)).reverse, x.2 = .local →
      Env.kindOf { cenv with scope := ownScope scope env } x.1 = some .local := fun x hx hl => hnames x (List.mem_filter.mp (List.mem_reverse.mp hx)).1 hl
  refine wpAny_holding (wpAny_bind (wpAny_attempt (wpAny_holding (wpAny_run (codeAny_mono h₄ fun r s' hr => ?_)))))
  cases r with
  | ok f =>
    obtain ⟨m, hn, hr⟩ := hr
    exact wpAny_bind (wpAny_holding (wpAny_comp_letGo (cenv := { cenv with scope := ownScope scope env }) hkind _ s' m hv hn fun h' m' _ hs' => wpAny_pure (hr h' hs')))
  | error x => exact hr.elim
theorem comp_some {e : Expr} {scope : Scope} {pos : Pos} {newAcc first : Sem Value} {g : Comprehension} {gs : List Comprehension} {u : Value → Sem Unit} {Q : Value → Shared → Prop} {cl : List (Str × Addr)}
    (hcl : clausesOf e = g :: gs) (hs : ∀ x, foldedSetIterable g.iter env x = pure x) (hclo : closureFor scope env = pure cl) (hkind : scope.kind = .function) (hnames : ∀ x ∈ scope.names, x.2 = .local → (ownScope scope env).names.lookup x.1 = some .local)
    (h : wpAny M A first (fun x s₁ => wpAny M A (pyIter x) (fun it s₂ => wpAny M A newAcc (fun acc s₃ =>
      wpAny M A (newFunctionEnv scope env.globals cl [] env.qual none .none (some env)) (fun cenv s₄ =>
        codeAny M A (.compStart e 0 it acc { cenv with scope := ownScope scope env }) (fun r s' => match r with
          | .ok _ => wpAny M A (u acc) (fun _ s'' => ∃ m, s''.heap.Ns cenv.locals m ∧ ∀ h', Heap.SameBut cenv.locals s''.heap h' → Q .none { s'' with heap := h' }) E s'
          | .error _ => False) s₄) E s₃) E s₂) E s₁) E s) : wpAny M A (comprehension e scope env pos newAcc false first (some u)) Q E s := by
  unfold comprehension
  rw [hclo, hcl]
  refine wpAny_bind (wpAny_mono h (fun x s₁ h₁ => ?_) fun _ _ h' => h')
  refine wpAny_bind (wpAny_standAt (wpAny_bind (wpAny_of_eq (hs x) (wpAny_bind (wpAny_holding (wpAny_mono h₁ (fun it s₂ h₂ => ?_) fun _ _ h' => h'))))))
  refine wpAny_standIf (wpAny_bind (wpAny_mono h₂ (fun acc s₃ h₃ => ?_) fun _ _ h' => h'))
  refine wpAny_bind (wpAny_pure (wpAny_bind (wpAny_mono h₃ (fun cenv s₄ h₄ => ?_) fun _ _ h' => h')))
  dsimp only
  have hv : ∀ x ∈ (scope.names.filter fun x => (x.2 == .local || x.2 == .cell) && x.1 != (".0" : Str)).reverse, x.2 = .local →
      Env.kindOf { cenv with scope := ownScope scope env } x.1 = some .local := fun x hx hl => hnames x (List.mem_filter.mp (List.mem_reverse.mp hx)).1 hl
  have hv' : ∀ x ∈ (scope.names.filter fun x => (x.2 == .local || x.2 == .cell) && x.1 != (".0" : Str)).reverse.drop 1 ++ (scope.names.filter fun x => (x.2 == .local || x.2 == .cell) && x.1 != (".0" : Str)).reverse.take 1,
      x.2 = .local → Env.kindOf { cenv with scope := ownScope scope env } x.1 = some .local := fun x hx hl =>
    (List.mem_append.mp hx).elim (fun h1 => hv x (List.mem_of_mem_drop h1) hl) fun h1 => hv x (List.mem_of_mem_take h1) hl
  refine wpAny_holding (wpAny_bind (wpAny_attempt (wpAny_holding (wpAny_run (codeAny_mono h₄ fun r s' hr => ?_)))))
  cases r with
  | ok f =>
    refine wpAny_bind (wpAny_rule (wpAny_bind (wpAny_holding (wpAny_mono hr (fun _ s'' hr' => ?_) fun _ _ h' => h'))))
    obtain ⟨m, hn, hr'⟩ := hr'
    exact wpAny_bind (wpAny_comp_letGo (cenv := { cenv with scope := ownScope scope env }) hkind _ s'' m hv' hn fun h' m' _ hs' => wpAny_pure (hr' h' hs'))
  | error x => exact hr.elim
end

section
variable {P : Program} {w : World} {h₀ : Heap} {A : Around} {c : Cx} {σ : Str → Option D} {Φ : Out → Prop} {pos p : Pos}

/-- the tests of a comprehension: none or one -/
noncomputable def Tst (P : Program) (w : World) (h₀ : Heap) (A : Around) (c : Cx) (σ : Str → Option D) (ifs : List Expr) (r : Bool) : Prop := (ifs = [] ∧ r = true) ∨ ∃ t, ifs = [t] ∧ EvT P w h₀ A c σ t r
theorem tst_wp {c : Cx} {σ : Str → Option D} {ifs : List Expr} {r : Bool} {K : Know} {s : Shared} {Q : Bool → Shared → Prop} {E : Value → Shared → Prop} (h : Tst P w h₀ A c σ ifs r) (I : Inv h₀ c σ K s) (hQ : ∀ K' s', Step K s K' s' → Q r s') :
    wpAny (model P w) A (forIn ifs true fun t r => if r = true then do let ok ← isTrue t c.env (eval t c.env); pure (ForInStep.yield ok) else pure (ForInStep.yield r)) Q E s := by
  rcases h with ⟨rfl, rfl⟩ | ⟨t, rfl, h⟩
  · exact wpAny_tests_nil (hQ K s (Step.refl I.kin))
  · exact wpAny_tests_one (h.run K s _ _ I hQ)

/-- what one item gives -/
noncomputable def Turn (P : Program) (w : World) (h₀ : Heap) (A : Around) (c : Cx) (b : Bool) (σ : Str → Option D) (tgt elt : Expr) (ifs : List Expr) (d : D) (r : Option D) : Prop :=
  ∃ σ', (∀ x d, σ x = some d → σ' x = some d) ∧ Asg P w h₀ A c b σ tgt d σ' ∧ Tst P w h₀ A c σ' ifs r.isSome ∧ ∀ e, r = some e → Ev P w h₀ A c σ' elt e

theorem Inv.put {cx : Cx} {σc : Str → Option D} {K : Know} {s : Shared} {a : Addr} {o : Obj} (I : Inv h₀ cx σc K s) (ha : K a = none) (ho : s.heap.get? a = some o) (ht : a ∉ cx.turns) : Inv h₀ cx σc (K.put a o) s := by
  have sub : KSub K (K.put a o) := fun b o' e => by rw [Know.put_ne _ _ (fun q => by rw [q, ha] at e; cases e)]; exact e
  refine ⟨fun b o' e => sub _ _ (I.base _ _ e), fun b o' e => ?_, fun b hb => by rw [Know.put_ne _ _ (fun q => ht (by rw [← q]; exact hb))]; exact I.off b hb, I.has, I.ns, I.loc, I.cell, I.inj, fun x d e hp => ?_, fun x b ds e => ?_, I.own1⟩
  · by_cases q : b = a
    · subst q; rw [Know.put_same] at e; cases e; exact ho
    · rw [Know.put_ne _ _ q] at e; exact I.kin _ _ e
  · obtain ⟨v, b, r⟩ := I.vars x d e hp; exact ⟨v, b, r.mono sub⟩
  · obtain ⟨h1, h2, vs, h3, h4⟩ := I.own x b ds e; exact ⟨h1, h2, vs, h3, h4.mono sub⟩
theorem Know.put_sub {K : Know} {a : Addr} {o : Obj} (ha : K a = none) : KSub K (K.put a o) := fun b o' e => by rw [Know.put_ne _ _ (fun q => by rw [q, ha] at e; cases e)]; exact e

/-- the loop of a comprehension of one clause -/
theorem compLoop1 {b : Bool} {tgt iter elt : Expr} {ifs : List Expr} {scope : Scope} {ds : List D} {f : D → Option D} {σc : Str → Option D} {cx : Cx} {R : Result → Shared → Prop} {K K1 : Know} {s s1 : Shared} {I Dd : Addr} {fp wr : List Addr} {St : Nat → Heap → Prop} {Mid : Nat → Value → Heap → Prop}
    (st1 : SStep cx K s K1 s1) (hL : cx.env.locals ∉ fp) (hturns : cx.turns = [cx.env.locals]) (hLs : s.heap.get? cx.env.locals = none) (hDs : s.heap.get? Dd = none) (hDL : Dd ≠ cx.env.locals) (hDf : Dd ∉ fp) (hcells : ∀ x a, cx.env.cells.lookup x = some a → ∃ o, s.heap.get? a = some o)
    (W : Itr P w A b tgt K1 I fp wr ds St Mid) (hst : St 0 s1.heap) (hwr : ∀ a ∈ wr, K1 a = none ∧ s.heap.get? a = none) (hD1 : K1 Dd = none)
    (hacc : s1.heap.PlainList Dd #[]) (I1 : Inv h₀ cx σc K1 s1) (hsz : ds.length ≤ sizeLine)
    (turn : ∀ (i : Nat) (d : D), ds[i]? = some d → Turn P w h₀ A cx b σc tgt elt ifs d (f d))
    (hR : ∀ K' s', Step K s K' s' → Inv h₀ cx σc K' s' → Rep K' (.ref Dd) (.lst (ds.filterMap f)) → R (.ok .next) s') :
    codeAny (model P w) A (.compLoop (.ListComp elt [⟨tgt, iter, ifs, 0⟩] scope pos) 0 (.ref I) (.ref Dd) cx.env) R s1 := by
  have tn : ∀ a ∈ cx.turns, a ∉ wr := fun a ha q => by rw [hturns, List.mem_singleton] at ha; exact hL (ha ▸ W.sub a q)
  have cn : ∀ x a, cx.env.cells.lookup x = some a → a ∉ wr := fun x a ha q => by obtain ⟨o, e⟩ := hcells x a ha; rw [(hwr a q).2] at e; cases e
  have hDw : Dd ∉ wr := fun q => hDf (W.sub _ q)
  have hDt : Dd ∉ cx.turns := fun q => by rw [hturns, List.mem_singleton] at q; exact hDL q
  have fpt : ∀ a ∈ fp, a ∉ cx.turns := fun a ha q => by rw [hturns, List.mem_singleton] at q; exact hL (q ▸ ha)
  refine codeAny_loop rfl (fun k s' => ∃ i K' ys, i ≤ ds.length ∧ k = ds.length - i ∧ SStep cx K s K' s' ∧ KSub K1 K' ∧ Inv h₀ cx σc K' s' ∧ St i s'.heap ∧ (∀ a ∈ wr, K' a = none) ∧ K' Dd = none ∧ s'.heap.PlainList Dd (List.toArray ys) ∧ RepAll K' ys ((ds.take i).filterMap f)) (fun k s' hI => ?_) ds.length
    ⟨0, K1, [], Nat.zero_le _, rfl, st1, fun _ _ e => e, I1, hst, fun a ha => (hwr a ha).1, hD1, hacc, by simpa using RepAll.nil⟩
  obtain ⟨i, K', ys, hi', rfl, st, hsub, I', hst', hwr', hD', hacc', hrep⟩ := hI
  have hw' : ∀ a ∈ wr, K' a = none ∧ s.heap.get? a = none := fun a ha => ⟨hwr' a ha, (hwr a ha).2⟩
  have kin1 : KIn K1 s'.heap := fun a o e => I'.kin _ _ (hsub _ _ e)
  show wpAny _ A ((compTurn (.ListComp elt [⟨tgt, iter, ifs, 0⟩] scope pos) 0 (.ref I) (.ref Dd) cx.env).onRaise (fun x => do noteFrame x cx.env; theTreesLotGoes x)) _ _ s'
  refine wpAny_noted ?_
  rw [compTurn_list]
  refine wpAny_bind (wpAny_standAt (wpAny_bind ?_))
  by_cases hlt : i < ds.length
  · have hd : ds[i]? = some ds[i] := List.getElem?_eq_getElem hlt
    refine W.item i _ s' _ _ hd hst' kin1 fun v h2 tk2 hv hmid hk2 => ?_
    obtain ⟨st2, I2⟩ := butWr (tk := tk2) st tn cn I' hw' hk2
    have kin2 : KIn K1 h2 := fun a o e => I2.kin _ _ (hsub _ _ e)
    refine wpAny_bind (W.go i _ v _ _ _ hv hmid kin2 fun h3 hv3 hst3 hk3 => ?_)
    obtain ⟨st3, I3⟩ := butWr (tk := tk2) st2 tn cn I2 hw' hk3
    have acc3 : h3.PlainList Dd ys.toArray := hacc'.at fun o e => hk3 _ _ hDw (hk2 _ _ hDw e)
    obtain ⟨σ', hσ, hasg, htst, helt⟩ := turn i _ hd
    refine wpAny_bind (hasg.run K' _ v _ _ I3 (hv3.mono hsub) fun s4 st4 I4 => ?_)
    have hst4 : St (i + 1) s4.heap := W.frame _ _ _ hst3 fun a ha o e => st4.keep _ _ (fpt a ha) e
    have acc4 : s4.heap.PlainList Dd ys.toArray := acc3.at fun o e => st4.keep _ _ hDt e
    refine wpAny_bind (tst_wp htst I4 fun K5 s5 st5 => ?_)
    have I5 : Inv h₀ cx σ' K5 s5 := I4.step st5
    have hst5 : St (i + 1) s5.heap := W.frame _ _ _ hst4 fun a ha o e => st5.keep _ _ e
    have acc5 : s5.heap.PlainList Dd ys.toArray := acc4.at fun o e => st5.keep _ _ e
    have hD5 : K5 Dd = none := by obtain ⟨n, e⟩ := acc4; exact (st5.new _ _ e).trans hD'
    have hwr5 : ∀ a ∈ wr, K5 a = none := fun a ha => by obtain ⟨o', e'⟩ := W.alive _ _ hst4 a (W.sub a ha); exact (st5.new a o' e').trans (hwr' a ha)
    have stA : SStep cx K s K5 s5 := (st3.trans st4).trans (SStep.of st5)
    have hsub5 : KSub K1 K5 := fun a o e => st5.mono _ _ (hsub _ _ e)
    have htake : ds.take (i + 1) = ds.take i ++ [ds[i]] := by rw [List.take_add_one, hd]; rfl
    cases hf : f ds[i] with
    | none =>
      simp only [Option.isSome_none, Bool.false_eq_true, if_false]
      refine wpAny_pure ⟨rfl, ds.length - (i + 1), by omega, i + 1, K5, ys, hlt, rfl, stA, hsub5, I5.sub hσ, hst5, hwr5, hD5, acc5, ?_⟩
      rw [htake, List.filterMap_append]
      simpa [hf] using hrep.mono st5.mono
    | some e =>
      simp only [Option.isSome_some, if_true]
      refine wpAny_bind (wpAny_bind ((helt e hf).run K5 s5 _ _ I5 fun y K6 s6 st6 r6 => ?_))
      have I6 : Inv h₀ cx σ' K6 s6 := I5.step st6
      have acc6 : s6.heap.PlainList Dd ys.toArray := acc5.at fun o e => st6.keep _ _ e
      have hD6 : K6 Dd = none := by obtain ⟨n, e⟩ := acc5; exact (st6.new _ _ e).trans hD5
      have hwr6 : ∀ a ∈ wr, K6 a = none := fun a ha => by obtain ⟨o', e'⟩ := W.alive _ _ hst5 a (W.sub a ha); exact (st6.new a o' e').trans (hwr5 a ha)
      have hlen : ys.length ≤ ds.length := by
        have e1 := hrep.length
        have e2 := List.length_filterMap_le f (ds.take i)
        have e3 : (ds.take i).length ≤ ds.length := by rw [List.length_take]; omega
        omega
      refine wpAny_bind (wpAny_list_append_plain (hsz := by rw [List.size_toArray]; omega) acc6 fun h7 hl7 hs7 => ?_)
      obtain ⟨st7, I7⟩ := butWr (wr := [Dd]) (tk := s6.toks) (h' := h7) (stA.trans (SStep.of st6)) (fun a ha q => hDt (by rw [List.mem_singleton] at q; rw [← q]; exact ha))
        (fun x a ha q => by obtain ⟨o, e⟩ := hcells x a ha; rw [List.mem_singleton] at q; rw [q, hDs] at e; cases e) I6 (fun a ha => by rw [List.mem_singleton] at ha; subst ha; exact ⟨hD6, hDs⟩)
        (fun a o ha e => (hs7.2 a (fun q => ha (by rw [q]; exact List.mem_singleton.mpr rfl))).trans e)
      refine wpAny_pure (wpAny_pure ⟨rfl, ds.length - (i + 1), by omega, i + 1, K6, ys ++ [y], hlt, rfl, st7, fun a o e => st6.mono _ _ (hsub5 _ _ e), I7.sub hσ, ?_, hwr6, hD6, by simpa using hl7, ?_⟩)
      · exact W.frame _ _ _ hst5 fun a ha o e => (hs7.2 a (fun q => hDf (q ▸ ha))).trans (st6.keep _ _ e)
      · rw [htake, List.filterMap_append]
        have := ((hrep.mono st5.mono).mono st6.mono).snoc r6
        simpa [hf] using this
  · have hin : i = ds.length := by omega
    subst hin
    refine W.done _ _ _ hst' fun h2 tk2 hk2 => ?_
    obtain ⟨st2, I2⟩ := butWr (tk := tk2) st tn cn I' hw' hk2
    obtain ⟨n, acc2⟩ : h2.PlainList Dd ys.toArray := hacc'.at fun o e => hk2 _ _ hDw e
    have hne : ∀ a o, s.heap.get? a = some o → a ≠ Dd := fun a o e q => by rw [q, hDs] at e; cases e
    rw [List.take_length] at hrep
    have hsubp : KSub K' (K'.put Dd (seqObj "list" ys.toArray n)) := Know.put_sub hD'
    refine wpAny_pure (hR (K'.put Dd (seqObj "list" ys.toArray n)) _ ⟨fun a o e => hsubp _ _ (st2.mono _ _ e), (I2.put hD' acc2 hDt).kin, fun a o e => (Know.put_ne _ _ (hne a o e)).trans (st2.new a o e), fun a o e => st2.keep a o (fun q => by rw [hturns, List.mem_singleton] at q; rw [q, hLs] at e; cases e) e, st2.same⟩ (I2.put hD' acc2 hDt) (.lst (Know.put_same _ _ _) (hrep.mono hsubp)))
end

section
variable {P : Program} {w : World} {h₀ : Heap} {A : Around} {c : Cx} {σ : Str → Option D} {Φ : Out → Prop} {pos p : Pos}

/-- what is static about a comprehension in a frame -/
structure CompOk (c : Cx) (scope : Scope) (cl : List (Str × Addr)) (σ σc : Str → Option D) : Prop where
  clo : closureFor scope c.env = pure cl
  kind : scope.kind = .function
  cell : ∀ x ∈ scope.names, x.2 ≠ .cell
  names : ∀ x ∈ scope.names, x.2 = .local → (ownScope scope c.env).names.lookup x.1 = some .local
  cells : ∀ x a, cl.lookup x = some a → c.env.cells.lookup x = some a
  vars : ∀ x d, σc x = some d → d.plain = true ∧ σ x = some d ∧ c.env.kindOf x = some .cell ∧ (ownScope scope c.env).names.lookup x = some .cell ∧ ∃ a, cl.lookup x = some a

theorem comp_inv {scope : Scope} {cl : List (Str × Addr)} {σc : Str → Option D} {K : Know} {s : Shared} {C : Addr} {h' : Heap} {tk : Nat} {m : Str → Option Value} (ok : CompOk c scope cl σ σc) (I : Inv h₀ c σ K s) (hC : K C = none) (hn : h'.Ns C m)
    (hk : ∀ a o, s.heap.get? a = some o → h'.get? a = some o) : Inv h₀ ⟨compEnvOf scope c.env cl C, [C]⟩ σc K { s with heap := h', toks := tk } := by
  refine ⟨I.base, fun a o e => hk _ _ (I.kin _ _ e), fun a ha => by rw [List.mem_singleton.mp ha]; exact hC, fun a ha => ?_, ⟨m, hn⟩, List.mem_singleton.mpr rfl, fun x a e => ?_, fun x y a e e' => I.inj x y a (ok.cells x a e) (ok.cells y a e'), fun x d e hp => ?_, fun x b ds e => (by have := (ok.vars x _ e).1; cases this), fun x y b es _ e _ => (by have := (ok.vars x _ e).1; cases this)⟩
  · rw [List.mem_singleton.mp ha]; obtain ⟨o, _, _, ho, _⟩ := hn; exact ⟨o, ho⟩
  · obtain ⟨v, o, ho, hd⟩ := I.cell x a (ok.cells x a e); exact ⟨v, o, hk _ _ ho, hd⟩
  · obtain ⟨_, e1, e2, e3, a, e4⟩ := ok.vars x d e
    obtain ⟨v, b, r⟩ := I.vars x d e1 hp
    rcases b with ⟨b1, _⟩ | ⟨_, a', o, b2, b3, b4⟩
    · rw [e2] at b1; cases b1
    · have : a' = a := by have := ok.cells x a e4; rw [b2] at this; exact Option.some.inj this
      subst this
      exact ⟨v, .inr ⟨.inl e3, a', o, e4, hk _ _ b3, b4⟩, r⟩

theorem comp_start {b : Bool} {tgt iter elt : Expr} {ifs : List Expr} {scope : Scope} {ds : List D} {f : D → Option D} {cl : List (Str × Addr)} {σc : Str → Option D} {K K1 : Know} {s s1 : Shared} {it : Value} {E : Value → Shared → Prop}
    {R : Value → Env → Result → Shared → Prop} (ok : CompOk c scope cl σ σc) (I : Inv h₀ c σ K s) (st1 : Step K s K1 s1) (hit : IterAt P w A b tgt s K1 s1 it ds) (hsz : ds.length ≤ sizeLine)
    (turn : ∀ (C : Addr) (i : Nat) (d : D), ds[i]? = some d → Turn P w h₀ A ⟨compEnvOf scope c.env cl C, [C]⟩ b σc tgt elt ifs d (f d))
    (hR : ∀ Dd C K' s', Step K s K' s' → Rep K' (.ref Dd) (.lst (ds.filterMap f)) → s.heap.get? C = none → K' C = none → (∃ m, s'.heap.Ns C m) → R (.ref Dd) (compEnvOf scope c.env cl C) (.ok .next) s') :
    wpAny (model P w) A (newList []) (fun acc s₃ => wpAny (model P w) A (newFunctionEnv scope c.env.globals cl [] c.env.qual none .none (some c.env)) (fun cenv s₄ =>
      codeAny (model P w) A (.compStart (.ListComp elt [⟨tgt, iter, ifs, 0⟩] scope pos) 0 it acc { cenv with scope := ownScope scope c.env }) (R acc { cenv with scope := ownScope scope c.env }) s₄) E s₃) E s1 := by
  obtain ⟨Ia, fp, wr, St, Mid, rfl, W, hst, hfk, hwr⟩ := hit.ex
  refine wpAny_newObj_type (wpAny_newFunctionEnv ok.cell (by intro y hy; simp at hy) (fun h₁ hns₁ hsb₁ => ?_) ok.kind)
  dsimp only at hns₁ hsb₁ ⊢
  generalize hH2 : s1.heap.push { cls := .type "list", dict := none, data := .seq ([] : List Value).toArray } = H2 at hns₁ hsb₁ ⊢
  have hCs : H2.objs.size = s1.heap.objs.size + 1 := by rw [← hH2, Heap.size_push]
  have hDC : s1.heap.objs.size ≠ H2.objs.size := by rw [hCs]; exact Nat.ne_of_lt (Nat.lt_succ_self _)
  have hD : s1.heap.get? s1.heap.objs.size = none := none_of_size (Nat.le_refl _)
  have hC : s1.heap.get? H2.objs.size = none := none_of_size (by rw [hCs]; exact Nat.le_succ _)
  have ne : ∀ a o, s1.heap.get? a = some o → a ≠ H2.objs.size ∧ a ≠ s1.heap.objs.size := fun a o e => ⟨fun q => (by rw [q, hC] at e; cases e), fun q => (by rw [q, hD] at e; cases e)⟩
  have old : ∀ a o, s1.heap.get? a = some o → h₁.get? a = some o := fun a o e => hsb₁.extBut a o (ne a o e).1 (Heap.get?_push_of_some _ (hH2 ▸ Heap.get?_push_of_some _ e))
  have hacc : h₁.PlainList s1.heap.objs.size #[] := ⟨_, hsb₁.extBut _ _ hDC (Heap.get?_push_of_some _ (hH2 ▸ Heap.get?_push_size _ rfl))⟩
  have I1 : Inv h₀ c σ K1 s1 := I.step st1
  have kn : ∀ a, s1.heap.get? a = none → K1 a = none := fun a e => by
    cases q : K1 a with
    | none => rfl
    | some o => rw [st1.kin _ _ q] at e; cases e
  have sn : ∀ a, s1.heap.get? a = none → s.heap.get? a = none := fun a e => by
    cases q : s.heap.get? a with
    | none => rfl
    | some o => rw [st1.keep _ _ q] at e; cases e
  have Ic : Inv h₀ ⟨compEnvOf scope c.env cl H2.objs.size, [H2.objs.size]⟩ σc K1 { s1 with heap := h₁, toks := s1.toks + ([] : List (Str × Value)).length } := comp_inv ok I1 (kn _ hC) hns₁ old
  have stS : SStep ⟨compEnvOf scope c.env cl H2.objs.size, [H2.objs.size]⟩ K s K1 { s1 with heap := h₁, toks := s1.toks + ([] : List (Str × Value)).length } :=
    (SStep.of st1).trans (SStep.of (Step.grow I1.kin old))
  have fpne : ∀ a ∈ fp, a ≠ H2.objs.size ∧ a ≠ s1.heap.objs.size := fun a ha => by obtain ⟨o, e⟩ := W.alive _ _ hst a ha; exact ne a o e
  have hst₁ : St 0 h₁ := W.frame _ _ _ hst fun a _ o e => old a o e
  have loop : codeAny (model P w) A (.compLoop (.ListComp elt [⟨tgt, iter, ifs, 0⟩] scope pos) 0 (.ref Ia) (.ref s1.heap.objs.size) (compEnvOf scope c.env cl H2.objs.size))
      (R (.ref s1.heap.objs.size) (compEnvOf scope c.env cl H2.objs.size)) { s1 with heap := h₁, toks := s1.toks + ([] : List (Str × Value)).length } :=
    compLoop1 (cx := ⟨compEnvOf scope c.env cl H2.objs.size, [H2.objs.size]⟩) stS (fun q => (fpne _ q).1 rfl) rfl (sn _ hC) (sn _ hD) hDC (fun q => (fpne _ q).2 rfl) (fun x a e => by obtain ⟨v, o, e', _⟩ := I.cell x a (ok.cells x a e); exact ⟨o, e'⟩)
      W hst₁ hwr (kn _ hD) hacc Ic hsz (turn H2.objs.size) fun K' s' st' I' r' => hR _ _ K' s' st' r' (sn _ hC) (I'.off _ (List.mem_singleton.mpr rfl)) I'.ns
  exact codeAny_compStart_list loop (W.self 0 _ _ _ hst₁ loop)

theorem ev_comp {b : Bool} {tgt iter elt : Expr} {ifs : List Expr} {scope : Scope} {ds : List D} (f : D → Option D) {cl : List (Str × Addr)} {σc : Str → Option D} (ok : CompOk c scope cl σ σc)
    (hi : EvI P w h₀ A c σ b tgt iter ds) (turn : ∀ (C : Addr) (i : Nat) (d : D), ds[i]? = some d → Turn P w h₀ A ⟨compEnvOf scope c.env cl C, [C]⟩ b σc tgt elt ifs d (f d)) (hsz : ds.length ≤ sizeLine)
    (hf : ∀ x, foldedSetIterable iter c.env x = pure x := by intro _; rfl) : Ev P w h₀ A c σ (.ListComp elt [⟨tgt, iter, ifs, 0⟩] scope pos) (.lst (ds.filterMap f)) := .mk fun K s Q E I hq => by
  rw [eval_ListComp]
  refine comp_none (M := model P w) rfl hf ok.clo ok.kind ok.names ?_
  refine hi.run K s _ E I fun it K1 s1 st1 hit => ?_
  refine comp_start (R := fun acc cenv r s' => match r with | .ok _ => ∃ m, s'.heap.Ns cenv.locals m ∧ ∀ h', Heap.SameBut cenv.locals s'.heap h' → Q acc { s' with heap := h' } | .error _ => False) ok I st1 hit hsz turn ?_
  intro Dd C K' s' st r hC hKC hn
  obtain ⟨m, hn⟩ := hn
  refine ⟨m, hn, fun h' hs => ?_⟩
  have ne : ∀ a o, s.heap.get? a = some o → a ≠ C := fun a o e q => by rw [q, hC] at e; cases e
  have nk : ∀ a o, K' a = some o → a ≠ C := fun a o e q => by rw [q, hKC] at e; cases e
  refine hq _ K' _ ⟨st.mono, fun a o e => (hs.2 a (nk a o e)).trans (st.kin _ _ e), st.new, fun a o e => (hs.2 a (ne a o e)).trans (st.keep a o e), ?_⟩ r
  obtain ⟨h, t, rfl⟩ := st.same
  exact ⟨h', t, rfl⟩

/-- a comprehension whose list is stored at once under a name -/
theorem x_comp {b : Bool} {tgt iter elt : Expr} {ifs : List Expr} {scope : Scope} {ds : List D} (f : D → Option D) {cl : List (Str × Addr)} {σc : Str → Option D} {x : Str} {px : Pos} (ok : CompOk c scope cl σ σc)
    (hi : EvI P w h₀ A c σ b tgt iter ds) (turn : ∀ (C : Addr) (i : Nat) (d : D), ds[i]? = some d → Turn P w h₀ A ⟨compEnvOf scope c.env cl C, [C]⟩ b σc tgt elt ifs d (f d)) (hsz : ds.length ≤ sizeLine)
    (hΦ : Φ (.next (put σ x (.lst (ds.filterMap f))))) (hx : Stores c x := by first | exact .inl ⟨rfl, rfl⟩ | exact .inr ⟨rfl, rfl, _, rfl, by simp⟩)
    (hsw : swapsWith (.ListComp elt [⟨tgt, iter, ifs, 0⟩] scope p) (some (.Name x px)) pos.line c.env = pure true := by rfl) (hf : ∀ x, foldedSetIterable iter c.env x = pure x := by intro _; rfl) :
    X1 P w h₀ A c σ (.Assign [.Name x px] (.ListComp elt [⟨tgt, iter, ifs, 0⟩] scope p) pos) Φ := .mk fun K s Q E I hq => by
  rw [exec_Assign_Name_used _ _ _ _ hsw]
  refine wpAny_bind (wpAny_standAt (wpAny_bind ?_))
  show wpAny _ A (do let _ ← comprehension (.ListComp elt [⟨tgt, iter, ifs, 0⟩] scope p) scope c.env _ (newList []) false (eval iter c.env) (some (assign (.Name x px) c.env))) _ _ s
  refine wpAny_bind (wpAny_mono (comp_some (M := model P w) (A := A) (E := E) (Q := fun _ s' => Q .next s') rfl hf ok.clo ok.kind ok.names ?_) (fun _ s' hq => wpAny_pure (wpAny_pure hq)) fun _ _ e => e)
  refine hi.run K s _ E I fun it K1 s1 st1 hit => ?_
  refine comp_start (R := fun acc cenv r s' => match r with
    | .ok _ => wpAny (model P w) A (assign (.Name x px) c.env acc) (fun _ s'' => ∃ m, s''.heap.Ns cenv.locals m ∧ ∀ h', Heap.SameBut cenv.locals s''.heap h' → Q .next { s'' with heap := h' }) E s'
    | .error _ => False) ok I st1 hit hsz turn ?_
  intro Dd C K' s' st r hC hKC hn
  obtain ⟨m, hn⟩ := hn
  have I' : Inv h₀ c σ K' s' := I.step st
  have tn : C ∉ c.turns := fun q => by obtain ⟨o, e⟩ := I.has _ q; rw [hC] at e; cases e
  refine wpAny_assign_Name (store I' r hx fun s2 st2 I2 => ?_)
  refine ⟨m, hn.at' fun o e => st2.keep _ _ tn e, fun h' hs => ?_⟩
  obtain ⟨st3, I3⟩ := butWr (wr := [C]) (tk := s2.toks) (h' := h') ((SStep.of st).trans st2) (fun a ha q => tn (by rw [List.mem_singleton] at q; rw [← q]; exact ha))
    (fun y a ha q => by obtain ⟨v, o, e, _⟩ := I.cell y a ha; rw [List.mem_singleton] at q; rw [q, hC] at e; cases e) I2 (fun a ha => by rw [List.mem_singleton] at ha; subst ha; exact ⟨hKC, hC⟩)
    (fun a o ha e => (hs.2 a (fun q => ha (by rw [q]; exact List.mem_singleton.mpr rfl))).trans e)
  exact hq _ _ _ _ st3 hΦ ⟨rfl, I3⟩
end


noncomputable def Tgt (tgt : Expr) (ds : List D) : Prop := (∃ x p, tgt = .Name x p) ∨ ((∃ es k p, tgt = .Tuple es k p) ∧ ∀ d ∈ ds, ∃ e, d = .tup e)
section
variable {P : Program} {w : World} {h₀ : Heap} {A : Around} {c : Cx} {σ : Str → Option D} {pos p : Pos} {K : Know} {s : Shared}

theorem go_name {x : Str} {I v : Value} {Q : Unit → Shared → Prop} {E : Value → Shared → Prop} (h : Q () s) : wpAny (model P w) A (letOwnedTupleGo (.Name x p) I v) Q E s := wpAny_pure h

theorem Itr.walk {tgt : Expr} {I : Addr} {fp wr : List Addr} {n : Nat} {Pr : Nat → Value → Prop} {St : Nat → Heap → Prop} {ds : List D} (W : Walks P w A I fp wr n Pr St) (hn : n = ds.length)
    (alive : ∀ i h, St i h → ∀ a ∈ fp, ∃ o, h.get? a = some o) (conv : ∀ i v d, ds[i]? = some d → Pr i v → Rep K v d)
    (go : ∀ i d v (s : Shared) (Q : Unit → Shared → Prop) (E : Value → Shared → Prop), Rep K v d → ds[i]? = some d → St (i + 1) s.heap → Q () s → wpAny (model P w) A (letOwnedTupleGo tgt (.ref I) v) Q E s) :
    Itr P w A true tgt K I fp wr ds St (fun i v h => St (i + 1) h ∧ ∃ d, ds[i]? = some d ∧ Rep K v d) where
  sub := W.sub
  frame := W.frame
  alive := alive
  item := fun i d s Q E hd hst hk hQ => W.item i s Q E (by rw [hn]; exact (List.getElem?_eq_some_iff.mp hd).1) hst fun v h' tk hp hst' hk' => hQ v h' tk (.inl (conv i v d hd hp)) ⟨hst', d, hd, conv i v d hd hp⟩ hk'
  go := fun i d v s Q E hr hm hk hQ => by
    obtain ⟨hst, d', hd', hr'⟩ := hm
    exact go i d' v s Q E hr' hd' hst (hQ s.heap hr hst fun _ _ _ e => e)
  done := fun s Q E hst hQ => W.done s Q E (by rw [hn]; exact hst) hQ
  self := W.self

theorem kn_none {K : Know} {s : Shared} {a : Addr} (kin : KIn K s.heap) (h : s.heap.get? a = none) : K a = none := by
  cases q : K a with
  | none => rfl
  | some o => rw [kin _ _ q] at h; cases h
theorem Step.back {K K' : Know} {s s' : Shared} {a : Addr} (st : Step K s K' s') (h : s'.heap.get? a = none) : s.heap.get? a = none := by
  cases q : s.heap.get? a with
  | none => rfl
  | some o => rw [st.keep _ _ q] at h; cases h

/-- an iterator of one new object -/
theorem evI_one {tgt e : Expr} {ds : List D}
    (h : ∀ K s (Q : Value → Shared → Prop) (E : Value → Shared → Prop), Inv h₀ c σ K s →
      (∀ x K1 (s1 : Shared) o St Mid fp, Step K s K1 s1 → Itr P w A true tgt K1 s1.heap.objs.size fp [s1.heap.objs.size] ds St Mid → St 0 (s1.heap.push o) → (∀ a ∈ fp, a = s1.heap.objs.size ∨ ∃ o, K1 a = some o) →
        (∀ Q' : Value → Shared → Prop, Q' (.ref s1.heap.objs.size) { s1 with heap := s1.heap.push o } → wpAny (model P w) A (pyIter x) Q' E s1) → Q x s1) →
      wpAny (model P w) A (eval e c.env) Q E s) : EvI P w h₀ A c σ true tgt e ds := .mk fun K s Q E I hq => by
  refine h K s _ E I fun x K1 s1 o St Mid fp st1 W hst hfp hit => hit _ ?_
  have hn : s1.heap.get? s1.heap.objs.size = none := none_of_size (Nat.le_refl _)
  refine hq _ K1 _ (st1.trans (Step.grow st1.kin fun a o' e => Heap.get?_push_of_some _ e)) ⟨_, fp, _, St, Mid, rfl, W, hst, fun a ha => (hfp a ha).imp (fun e => by rw [e]; exact List.mem_singleton.mpr rfl) id, fun a ha => ?_⟩
  rw [List.mem_singleton.mp ha]
  exact ⟨kn_none st1.kin hn, st1.back hn⟩

theorem evI_list {tgt e : Expr} {ds : List D} (hh : A.handled = none) (h : Ev P w h₀ A c σ e (.lst ds)) (ht : Tgt tgt ds := by first | exact .inl ⟨_, _, rfl⟩) : EvI P w h₀ A c σ true tgt e ds := evI_one fun K s Q E I hq => by
  refine h.run K s _ E I fun v K1 s1 st1 r1 => ?_
  obtain ⟨a, vs, n, rfl, hk, hr⟩ := r1.inv
  have hl : s1.heap.IsList a vs.toArray := ⟨_, st1.kin _ _ hk, rfl, n, rfl⟩
  have hlt : a < s1.heap.objs.size := Heap.lt_size (st1.kin _ _ hk)
  refine hq (.ref a) K1 s1 { cls := .type "list_iterator", data := .fields #[.ref a, .int 0 0] } _ _ [s1.heap.objs.size, a] st1
    (Itr.walk (Walks.list hh s1.heap.objs.size a (Nat.ne_of_lt hlt) vs.toArray) (by rw [List.size_toArray, hr.length]) (fun i h hst b hb => ?_) (fun i v d hd hv => ?_) (fun i d v s Q E hr' hd hst hQ => ?_))
    ⟨⟨_, Heap.get?_push_size _ rfl, rfl, rfl⟩, hl.at fun o e => Heap.get?_push_of_some _ e⟩ (fun b hb => ?_) fun Q' hQ => wpAny_pyIter_list hl hQ
  · simp only [List.mem_cons, List.not_mem_nil, or_false] at hb
    rcases hb with rfl | rfl
    · obtain ⟨o, e, _⟩ := hst.1; exact ⟨o, e⟩
    · obtain ⟨o, e, _⟩ := hst.2; exact ⟨o, e⟩
  · obtain ⟨v', e', r'⟩ := hr.get? hd
    have : v' = v := by rw [List.getElem?_toArray, e'] at hv; exact Option.some.inj hv
    exact this ▸ r'
  · rcases ht with ⟨x, p, rfl⟩ | ⟨⟨es, k, p, rfl⟩, hall⟩
    · exact go_name hQ
    · obtain ⟨e, rfl⟩ := hall d (List.mem_of_getElem? hd)
      cases hr' with
      | tup _ _ => exact wpAny_letOwnedTupleGo_listiter hst.1 hQ
  · simp only [List.mem_cons, List.not_mem_nil, or_false] at hb
    rcases hb with rfl | rfl
    · exact .inl rfl
    · exact .inr ⟨_, hk⟩

theorem evI_tup {x : Str} {e : Expr} {ds : List D} (hh : A.handled = none) (h : Ev P w h₀ A c σ e (.tup ds)) : EvI P w h₀ A c σ true (.Name x p) e ds := evI_one fun K s Q E I hq => by
  refine h.run K s _ E I fun v K1 s1 st1 r1 => ?_
  obtain ⟨a, vs, n, rfl, hk, hr⟩ := r1.inv
  have hl : s1.heap.IsTuple a vs.toArray := ⟨_, st1.kin _ _ hk, rfl, n, rfl⟩
  have hlt : a < s1.heap.objs.size := Heap.lt_size (st1.kin _ _ hk)
  refine hq (.ref a) K1 s1 { cls := .type "tuple_iterator", data := .fields #[.ref a, .int 0 0] } _ _ [s1.heap.objs.size, a] st1
    (Itr.walk (Walks.tuple hh s1.heap.objs.size a (Nat.ne_of_lt hlt) vs.toArray) (by rw [List.size_toArray, hr.length]) (fun i h hst b hb => ?_) (fun i v d hd hv => ?_) (fun i d v s Q E hr' hd hst hQ => go_name hQ))
    ⟨⟨_, Heap.get?_push_size _ rfl, rfl, rfl⟩, hl.at fun o e => Heap.get?_push_of_some _ e⟩ (fun b hb => ?_) fun Q' hQ => wpAny_pyIter_tuple hl hQ
  · simp only [List.mem_cons, List.not_mem_nil, or_false] at hb
    rcases hb with rfl | rfl
    · obtain ⟨o, e, _⟩ := hst.1; exact ⟨o, e⟩
    · obtain ⟨o, e, _⟩ := hst.2; exact ⟨o, e⟩
  · obtain ⟨v', e', r'⟩ := hr.get? hd
    have : v' = v := by rw [List.getElem?_toArray, e'] at hv; exact Option.some.inj hv
    exact this ▸ r'
  · simp only [List.mem_cons, List.not_mem_nil, or_false] at hb
    rcases hb with rfl | rfl
    · exact .inl rfl
    · exact .inr ⟨_, hk⟩

/-- a row of upTo -/
noncomputable def upTo (a : Int) (n : Nat) : List D := (List.range n).map fun (k : Nat) => .int (a + k)
theorem upTo_at {a : Int} {n i : Nat} {d : D} (h : (upTo a n)[i]? = some d) : i < n ∧ d = .int (a + i) := by
  unfold upTo at h
  rw [List.getElem?_map] at h
  cases e : (List.range n)[i]? with
  | none => rw [e] at h; cases h
  | some k =>
    rw [e] at h
    obtain ⟨h1, h2⟩ := List.getElem?_eq_some_iff.mp e
    rw [List.getElem_range] at h2
    rw [List.length_range] at h1
    subst h2
    cases h
    exact ⟨h1, rfl⟩
theorem upTo_length (a : Int) (n : Nat) : (upTo a n).length = n := by simp [upTo]

theorem range_itr {x : Str} {a b : Int} {t u v : Tok} {s1 : Shared} {r : Addr} {K1 : Know} (hh : A.handled = none) :
    Itr P w A true (.Name x p) K1 s1.heap.objs.size [s1.heap.objs.size] [s1.heap.objs.size] (upTo a (b - a).toNat) (fun i h => IsRangeIter h s1.heap.objs.size (a + (i : Nat) * 1) (((b - a).toNat : Int) - (i : Nat)) 1)
      (fun i v h => IsRangeIter h s1.heap.objs.size (a + ((i + 1 : Nat) : Nat) * 1) (((b - a).toNat : Int) - ((i + 1 : Nat) : Nat)) 1 ∧ ∃ d, (upTo a (b - a).toNat)[i]? = some d ∧ Rep K1 v d) :=
  Itr.walk (Walks.range hh s1.heap.objs.size a 1 (b - a).toNat) (upTo_length _ _).symm (fun i h hst q hq => by rw [List.mem_singleton.mp hq]; exact ⟨_, hst⟩)
    (fun i v d hd hv => by
      obtain ⟨_, rfl⟩ := upTo_at hd
      obtain ⟨t, rfl⟩ := hv
      rw [Int.mul_one]
      exact .int _ _) (fun i d v s Q E hr' hd hst hQ => go_name hQ)

/-- a call by name, at any end -/
theorem callQ {mg mb : Str → Option Value} {x : Str} {f : Value} {es : List Expr} {ds : List D} (N : Names h₀ mg mb) (hf : (mg x).or (mb x) = some f) (hc : Callee h₀ f) (ha : EvL P w h₀ A c σ es ds) {Q : Value → Shared → Prop} {E : Value → Shared → Prop} (I : Inv h₀ c σ K s)
    (hcall : ∀ vs K1 s1, Step K s K1 s1 → RepAll K1 vs ds → wpAny (model P w) A (call f vs []) Q E s1)
    (hs : starEach es c.env = es.map fun e => (false, eval e c.env) := by rfl)
    (hk : c.env.scope.kind = .function := by rfl) (hx : c.env.kindOf x = some .globalImplicit := by rfl) (hg : c.env.globals = mainGlobals := by rfl) (hb : c.env.builtins = builtinsNs := by rfl) (hd : (x == ("__debug__" : Str)) = false := by decide) :
    wpAny (model P w) A (eval (.Call (.Name x p) es [] pos) c.env) Q E s := by
  refine wpAny_Call_Name_kw (gname N I hf ?_ hk hx hg hb hd)
  show wpAny _ _ (callWith pos f [] (backTo pos (starEach es c.env)) []) _ _ _
  have args : wpAny (model P w) A (evalArgs f true (backTo pos (starEach es c.env)) []) (fun x s₁ => (∀ a o, h₀.get? a = some o → s₁.heap.get? a = some o) ∧ wpAny (model P w) A (call f ([] ++ x.pos) x.kw) Q E s₁) E s :=
    evalArgs_of hs (ha.run pos K s _ E I fun vs K1 s1 st1 r1 => ⟨(I.step st1).here, hcall vs K1 s1 st1 r1⟩)
  cases hc with
  | builtin id => exact Calls.callWith_builtin (backTo_plain hs) (wpAny_mono args (fun _ _ h => h.2) fun _ _ h => h)
  | type T => exact PyProof.Rows.callWith_type (backTo_plain hs) (wpAny_mono args (fun _ _ h => h.2) fun _ _ h => h)
  | fn ho hd => exact Calls.callWith_function (wpAny_mono args (fun _ _ h => ⟨⟨h.1 _ _ ho, hd⟩, h.2⟩) fun _ _ h => h)

section
variable {mg mb : Str → Option Value} {x y : Str}
theorem range_src {a b : Int} {t u v : Tok} {Q : Value → Shared → Prop} {E : Value → Shared → Prop} {K1 : Know} {s1 : Shared} (hh : A.handled = none) (ha : -(2 ^ 62) ≤ a ∧ a < 2 ^ 62) (hb : -(2 ^ 62) ≤ b ∧ b < 2 ^ 62) (st1 : Step K s K1 s1) (tk : Nat)
    (hq : ∀ x K1 (s1 : Shared) o St Mid fp, Step K s K1 s1 → Itr P w A true (.Name y p) K1 s1.heap.objs.size fp [s1.heap.objs.size] (upTo a (b - a).toNat) St Mid → St 0 (s1.heap.push o) → (∀ a ∈ fp, a = s1.heap.objs.size ∨ ∃ o, K1 a = some o) →
        (∀ Q' : Value → Shared → Prop, Q' (.ref s1.heap.objs.size) { s1 with heap := s1.heap.push o } → wpAny (model P w) A (pyIter x) Q' E s1) → Q x s1) :
    Q (.ref s1.heap.objs.size) { s1 with heap := s1.heap.push { cls := .type "range", data := .fields #[.int a t, .int b u, .int 1 v] }, toks := tk } := by
  have hr := IsRange.new s1.heap a b 1 t u v
  refine hq _ K1 _ { cls := .type "range_iterator", data := .fields #[rawInt a, rawInt (Builtin.Range.rangeSize a b 1), rawInt 1] } _ _ _ (st1.trans (Step.grow (t := tk) st1.kin fun a o' e => Heap.get?_push_of_some _ e))
    (range_itr (a := a) (b := b) (t := t) (u := u) (v := v) (r := s1.heap.objs.size) hh) ?_ (fun a ha => .inl (List.mem_singleton.mp ha)) fun Q' hQ => wpAny_pyIter_range hr (small_one ha.1 ha.2 hb.1 hb.2) hQ
  have e1 : Builtin.Range.rangeSize a b 1 = ((b - a).toNat : Int) - ((0 : Nat) : Int) := by rw [rangeSize_one]; split <;> omega
  have e2 : a = a + ((0 : Nat) : Int) * 1 := by simp
  show IsRangeIter _ _ (a + ((0 : Nat) : Int) * 1) _ 1
  rw [← e1, ← e2]
  exact Heap.get?_push_size _ rfl
theorem evI_range1 {e : Expr} {n : Int} (N : Names h₀ mg mb) (hh : A.handled = none) (hf : (mg x).or (mb x) = some (.type "range")) (ha : Ev P w h₀ A c σ e (.int n)) (hn : -(2 ^ 62) ≤ n ∧ n < 2 ^ 62)
    (hs : ∀ env, starEach [e] env = [(false, eval e env)] := by intro _; rfl)
    (hk : c.env.scope.kind = .function := by rfl) (hx : c.env.kindOf x = some .globalImplicit := by rfl) (hg : c.env.globals = mainGlobals := by rfl) (hb : c.env.builtins = builtinsNs := by rfl) (hd : (x == ("__debug__" : Str)) = false := by decide) {q : Pos} :
    EvI P w h₀ A c σ true (.Name y q) (.Call (.Name x p) [e] [] pos) (upTo 0 n.toNat) := evI_one fun K s Q E I hq =>
  callQ N hf (.type _) (evl_cons ha evl_nil (fun env => hs env)) I (fun vs K1 s1 st1 r1 => by
    obtain ⟨_, _, rfl, r, rr⟩ := r1.inv
    obtain rfl := rr.inv; (first | obtain ⟨_, rfl⟩ := r.inv | obtain rfl := r.inv | cases r)
    refine call_range_1 ?_
    have e0 : n.toNat = (n - 0).toNat := by rw [Int.sub_zero]
    rw [e0] at hq
    exact range_src (y := y) (p := q) hh (by decide) hn st1 (s1.toks + 1 + 1) hq) (hs c.env) hk hx hg hb hd
theorem evI_range2 {e e' : Expr} {a b : Int} (N : Names h₀ mg mb) (hh : A.handled = none) (hf : (mg x).or (mb x) = some (.type "range")) (h1 : Ev P w h₀ A c σ e (.int a)) (h2 : Ev P w h₀ A c σ e' (.int b)) (ha : -(2 ^ 62) ≤ a ∧ a < 2 ^ 62) (hb : -(2 ^ 62) ≤ b ∧ b < 2 ^ 62)
    (hs : ∀ env, starEach [e, e'] env = [(false, eval e env), (false, eval e' env)] := by intro _; rfl) (hs' : ∀ env, starEach [e'] env = [(false, eval e' env)] := by intro _; rfl)
    (hk : c.env.scope.kind = .function := by rfl) (hx : c.env.kindOf x = some .globalImplicit := by rfl) (hg : c.env.globals = mainGlobals := by rfl) (hb' : c.env.builtins = builtinsNs := by rfl) (hd : (x == ("__debug__" : Str)) = false := by decide) {q : Pos} :
    EvI P w h₀ A c σ true (.Name y q) (.Call (.Name x p) [e, e'] [] pos) (upTo a (b - a).toNat) := evI_one fun K s Q E I hq =>
  callQ N hf (.type _) (evl_cons h1 (evl_cons h2 evl_nil (fun env => hs' env)) (fun env => by rw [hs, hs'])) I (fun vs K1 s1 st1 r1 => by
    obtain ⟨_, _, rfl, r, rr⟩ := r1.inv
    obtain ⟨_, _, rfl, r', rr⟩ := rr.inv
    obtain rfl := rr.inv; (first | obtain ⟨_, rfl⟩ := r.inv | obtain rfl := r.inv | cases r); (first | obtain ⟨_, rfl⟩ := r'.inv | obtain rfl := r'.inv | cases r')
    exact call_range_2 (range_src (y := y) (p := q) hh ha hb st1 (s1.toks + 1) hq)) (hs c.env) hk hx hg hb' hd
end

/-- the signs of a text -/
noncomputable def signs (x : Str) : List D := x.cps.toList.map fun ch => .str ⟨#[ch]⟩
theorem evI_str {y : Str} {e : Expr} {x : Str} (hh : A.handled = none) (h : Ev P w h₀ A c σ e (.str x)) : EvI P w h₀ A c σ true (.Name y p) e (signs x) := evI_one fun K s Q E I hq => by
  refine h.run K s _ E I fun v K1 s1 st1 r1 => ?_
  obtain ⟨t, rfl⟩ := r1.inv
  have conv : ∀ i v d, (signs x)[i]? = some d → SignAt x i v → Rep K1 v d := fun i v d hd hv => by
    obtain ⟨ch, u, e1, rfl⟩ := hv
    unfold signs at hd
    rw [List.getElem?_map, Array.getElem?_toList, e1] at hd
    cases hd
    exact .str _ _
  have hw : ∀ T, Walks P w A s1.heap.objs.size [s1.heap.objs.size] [s1.heap.objs.size] x.cps.size (SignAt x) (fun i h => h.IsStrIter s1.heap.objs.size T x t i) →
      (∀ Q' : Value → Shared → Prop, Q' (.ref s1.heap.objs.size) { s1 with heap := s1.heap.push { cls := .type T, data := .fields #[.str x t, .int 0 0] } } → wpAny (model P w) A (pyIter (.str x t)) Q' E s1) → Q (.str x t) s1 := fun T W hit =>
    hq _ K1 s1 { cls := .type T, data := .fields #[.str x t, .int 0 0] } _ _ [s1.heap.objs.size] st1
      (Itr.walk W (by simp [signs]) (fun i h hst b hb => by rw [List.mem_singleton.mp hb]; exact let ⟨o, e, _⟩ := hst; ⟨o, e⟩) conv (fun i d v s Q E hr' hd hst hQ => go_name hQ))
      ⟨_, Heap.get?_push_size _ rfl, rfl, rfl⟩ (fun a ha => .inl (List.mem_singleton.mp ha)) hit
  cases ha : x.cps.all (· < 128)
  · exact hw _ (Walks.strWide hh _ x t) fun Q' hQ => wpAny_pyIter_wide ha hQ
  · exact hw _ (Walks.strAscii hh _ x t) fun Q' hQ => wpAny_pyIter_ascii ha hQ
noncomputable def byteInts (b : Array UInt8) : List D := b.toList.map fun ch => .int (ch.toNat : Int)
theorem evI_bytes {y : Str} {e : Expr} {b : Array UInt8} (hh : A.handled = none) (h : Ev P w h₀ A c σ e (.bytes b)) : EvI P w h₀ A c σ true (.Name y p) e (byteInts b) := evI_one fun K s Q E I hq => by
  refine h.run K s _ E I fun v K1 s1 st1 r1 => ?_
  (first | obtain ⟨_, rfl⟩ := r1.inv | obtain rfl := r1.inv | cases r1)
  refine hq _ K1 s1 { cls := .type "bytes_iterator", data := .fields #[.bytes b _, .int 0 0] } _ _ [s1.heap.objs.size] st1
    (Itr.walk (PySem.W.KBw.walks hh s1.heap.objs.size b _) (by simp [byteInts]) (fun i h hst b hb => by rw [List.mem_singleton.mp hb]; exact let ⟨o, e, _⟩ := hst; ⟨o, e⟩) (fun i v d hd hv => ?_) (fun i d v s Q E hr' hd hst hQ => go_name hQ))
    ⟨_, Heap.get?_push_size _ rfl, rfl, rfl⟩ (fun a ha => .inl (List.mem_singleton.mp ha)) fun Q' hQ => PySem.W.KBw.pyIter_bytes hQ
  obtain ⟨ch, u, e1, rfl⟩ := hv
  unfold byteInts at hd
  rw [List.getElem?_map, Array.getElem?_toList, e1] at hd
  cases hd
  exact .int _ _
end

section
variable {P : Program} {w : World} {h₀ : Heap} {A : Around} {c : Cx} {σ : Str → Option D} {pos p : Pos} {K : Know} {s : Shared}

theorem add_ne {s i j : Nat} (h : i ≠ j) : ((s + i : Nat) : Addr) ≠ (s + j : Nat) := fun e => h (Nat.add_left_cancel e)
theorem add_ne0 {s i : Nat} (h : i ≠ 0) : ((s + i : Nat) : Addr) ≠ s := fun e => h (Nat.add_left_cancel (n := s) (m := i) (k := 0) e)
theorem add_ne0' {s i : Nat} (h : i ≠ 0) : (s : Addr) ≠ (s + i : Nat) := fun e => h (Nat.add_left_cancel (n := s) (m := i) (k := 0) e.symm)
theorem lt_ne {a s : Nat} (h : a < s) (i : Nat) : (a : Addr) ≠ (s + i : Nat) := Nat.ne_of_lt (Nat.lt_of_lt_of_le h (Nat.le_add_right _ _))
theorem Itr.walkT {es : List Expr} {k : Nat} {I : Addr} {fp wr wr' : List Addr} {n : Nat} {Pt : Nat → Array Value → Prop} {St : Nat → Heap → Prop} {Mid : Nat → Addr → Heap → Prop} {ds : List D} (W : WalksT P w A I fp wr n Pt St Mid) (hn : n = ds.length)
    (hw : ∀ a ∈ wr, a ∈ wr') (hsub : ∀ a ∈ wr', a ∈ fp)
    (alive : ∀ i h, St i h → ∀ a ∈ fp, ∃ o, h.get? a = some o) (conv : ∀ i vals d, ds[i]? = some d → Pt i vals → ∃ e, d = .tup e ∧ RepAll K vals.toList e) :
    Itr P w A false (.Tuple es k p) K I fp wr' ds St (fun i v h => ∃ T, v = .ref T ∧ Mid i T h) where
  sub := hsub
  frame := W.frame
  alive := alive
  item := fun i d s Q E hd hst hk hQ => W.item i s Q E (by rw [hn]; exact (List.getElem?_eq_some_iff.mp hd).1) hst fun T vals h' tk hp _ hT hm hk' => by
    obtain ⟨e, rfl, hr⟩ := conv i vals d hd hp
    exact hQ _ h' tk (.inr ⟨rfl, T, vals, e, rfl, rfl, hT, hr⟩) ⟨T, rfl, hm⟩ fun a o ha e => hk' a o (fun q => ha (hw a q)) e
  go := fun i d v s Q E hr hm hk hQ => by
    obtain ⟨T, rfl, hm⟩ := hm
    refine W.go es k p i T s Q E hm fun h' hst hk' => hQ h' ?_ hst fun a o ha e => hk' a o (fun q => ha (hw a q)) e
    rcases hr with r | ⟨_, T', vals, ds', e1, e2, e3, e4⟩
    · exact .inl r
    · cases e1
      exact .inr ⟨rfl, T, vals, ds', rfl, e2, e3.at fun o e => hk' _ _ (W.apart _ _ _ hm) e, e4⟩
  done := fun s Q E hst hQ => W.done s Q E (by rw [hn]; exact hst) fun h' tk hk => hQ h' tk fun a o ha e => hk a o (fun q => ha (hw a q)) e
  self := W.self

noncomputable def enumD (ds : List D) : List D := ds.mapIdx fun i d => .tup [.int i, d]
noncomputable def zipD (ds es : List D) : List D := List.zipWith (fun a b => .tup [a, b]) ds es

variable {mg mb : Str → Option Value} {x : Str}
theorem evI_enum {e : Expr} {ds : List D} {es : List Expr} {k : Nat} {q : Pos} (N : Names h₀ mg mb) (hh : A.handled = none) (hf : (mg x).or (mb x) = some (.type "enumerate")) (ha : Ev P w h₀ A c σ e (.lst ds))
    (hs : ∀ env, starEach [e] env = [(false, eval e env)] := by intro _; rfl)
    (hk : c.env.scope.kind = .function := by rfl) (hx : c.env.kindOf x = some .globalImplicit := by rfl) (hg : c.env.globals = mainGlobals := by rfl) (hb : c.env.builtins = builtinsNs := by rfl) (hd : (x == ("__debug__" : Str)) = false := by decide) :
    EvI P w h₀ A c σ false (.Tuple es k q) (.Call (.Name x p) [e] [] pos) (enumD ds) := .mk fun K s Q E I hq =>
  callQ N hf (.type _) (evl_cons ha evl_nil (fun env => hs env)) I (fun vs K1 s1 st1 r1 => by
    obtain ⟨_, _, rfl, r, rr⟩ := r1.inv
    obtain rfl := rr.inv
    obtain ⟨a, vs, n, rfl, hka, hr⟩ := r.inv
    have hl : s1.heap.IsList a vs.toArray := ⟨_, st1.kin _ _ hka, rfl, n, rfl⟩
    have hlt : @LT.lt Nat _ a s1.heap.objs.size := Heap.lt_size (st1.kin _ _ hka)
    refine call_enumerate_list hl fun h' he hit hsz hk' => ?_
    have hn1 : s1.heap.get? s1.heap.objs.size = none := none_of_size (Nat.le_refl _)
    have hn2 : s1.heap.get? (s1.heap.objs.size + 1) = none := none_of_size (Nat.le_succ _)
    refine wpAny_pyIter_enum he ?_
    refine hq _ K1 _ (st1.trans (Step.grow (t := s1.toks) st1.kin hk')) ⟨_, [s1.heap.objs.size + 1, s1.heap.objs.size, a], [s1.heap.objs.size + 1, s1.heap.objs.size], _, _, rfl,
      Itr.walkT (WalksT.enumerate hh (s1.heap.objs.size + 1) s1.heap.objs.size a (Nat.succ_ne_self _) (Nat.ne_of_lt (Nat.lt_succ_of_lt hlt)) (Nat.ne_of_lt hlt) vs.toArray) (by rw [List.size_toArray, hr.length]; simp [enumD]) (fun _ h => h) (fun b hb => by simp only [List.mem_cons, List.not_mem_nil, or_false] at hb ⊢; rcases hb with e | e <;> simp [e]) (fun i h hst b hb => ?_) (fun i vals d hd hv => ?_),
      ⟨⟨_, he⟩, hit, hl.at fun o e => hk' _ _ e⟩, fun b hb => ?_, fun b hb => ?_⟩
    · obtain ⟨⟨old, h1⟩, ⟨o2, h2, _⟩, ⟨o3, h3, _⟩⟩ := hst
      simp only [List.mem_cons, List.not_mem_nil, or_false] at hb
      rcases hb with rfl | rfl | rfl
      · exact ⟨_, h1⟩
      · exact ⟨_, h2⟩
      · exact ⟨_, h3⟩
    · obtain ⟨t, v, hv, rfl⟩ := hv
      unfold enumD at hd
      rw [List.getElem?_mapIdx] at hd
      cases hd' : ds[i]? with
      | none => rw [hd'] at hd; cases hd
      | some d' =>
        rw [hd'] at hd; cases hd
        obtain ⟨v', e', r'⟩ := hr.get? hd'
        have : v' = v := by rw [List.getElem?_toArray, e'] at hv; exact Option.some.inj hv
        exact ⟨_, rfl, .cons (.int _ _) (.one (this ▸ r'))⟩
    · simp only [List.mem_cons, List.not_mem_nil, or_false] at hb
      rcases hb with rfl | rfl | rfl
      · exact .inl (by simp)
      · exact .inl (by simp)
      · exact .inr ⟨_, hka⟩
    · simp only [List.mem_cons, List.not_mem_nil, or_false] at hb
      rcases hb with rfl | rfl
      · exact ⟨kn_none st1.kin hn2, st1.back hn2⟩
      · exact ⟨kn_none st1.kin hn1, st1.back hn1⟩) (hs c.env) hk hx hg hb hd

theorem evI_zip {e e' : Expr} {ds ds' : List D} {es : List Expr} {k : Nat} {q : Pos} (N : Names h₀ mg mb) (hh : A.handled = none) (hf : (mg x).or (mb x) = some (.type "zip")) (ha : Ev P w h₀ A c σ e (.lst ds)) (ha' : Ev P w h₀ A c σ e' (.lst ds'))
    (hs : ∀ env, starEach [e, e'] env = [(false, eval e env), (false, eval e' env)] := by intro _; rfl) (hs' : ∀ env, starEach [e'] env = [(false, eval e' env)] := by intro _; rfl)
    (hk : c.env.scope.kind = .function := by rfl) (hx : c.env.kindOf x = some .globalImplicit := by rfl) (hg : c.env.globals = mainGlobals := by rfl) (hb : c.env.builtins = builtinsNs := by rfl) (hd : (x == ("__debug__" : Str)) = false := by decide) :
    EvI P w h₀ A c σ false (.Tuple es k q) (.Call (.Name x p) [e, e'] [] pos) (zipD ds ds') := .mk fun K s Q E I hq =>
  callQ N hf (.type _) (evl_cons ha (evl_cons ha' evl_nil (fun env => hs' env)) (fun env => by rw [hs, hs'])) I (fun vs K1 s1 st1 r1 => by
    obtain ⟨_, _, rfl, r, rr⟩ := r1.inv
    obtain ⟨_, rfl, r'⟩ := rr.inv1
    obtain ⟨a, vs, n, rfl, hka, hr⟩ := r.inv
    obtain ⟨a', vs', n', rfl, hka', hr'⟩ := r'.inv
    have hl : s1.heap.IsList a vs.toArray := ⟨_, st1.kin _ _ hka, rfl, n, rfl⟩
    have hl' : s1.heap.IsList a' vs'.toArray := ⟨_, st1.kin _ _ hka', rfl, n', rfl⟩
    have hlt : @LT.lt Nat _ a s1.heap.objs.size := Heap.lt_size (st1.kin _ _ hka)
    have hlt' : @LT.lt Nat _ a' s1.heap.objs.size := Heap.lt_size (st1.kin _ _ hka')
    refine call_zip_2 hl hl' fun h' hz hTI hTO h1 h2 hsz hk' => ?_
    have hn : ∀ j, s1.heap.get? (s1.heap.objs.size + j) = none := fun j => none_of_size (Nat.le_add_right _ _)
    have hn0 : s1.heap.get? s1.heap.objs.size = none := none_of_size (Nat.le_refl _)
    have D : ZipApart (s1.heap.objs.size + 4) (s1.heap.objs.size + 2) (s1.heap.objs.size + 3) s1.heap.objs.size (s1.heap.objs.size + 1) a a' := by
      constructor <;> first | exact add_ne (by decide) | exact add_ne0 (by decide) | exact add_ne0' (by decide) | exact lt_ne hlt _ | exact lt_ne hlt' _ | exact Nat.ne_of_lt hlt | exact Nat.ne_of_lt hlt'
    refine wpAny_pyIter_zip hz ?_
    refine hq _ K1 _ (st1.trans (Step.grow (t := s1.toks) st1.kin hk')) ⟨_, [s1.heap.objs.size + 4, s1.heap.objs.size + 2, s1.heap.objs.size + 3, s1.heap.objs.size, s1.heap.objs.size + 1, a, a'],
      [s1.heap.objs.size + 4, s1.heap.objs.size + 2, s1.heap.objs.size + 3, s1.heap.objs.size, s1.heap.objs.size + 1], _, _, rfl,
      Itr.walkT (WalksT.zip2 hh _ _ _ _ _ a a' D vs.toArray vs'.toArray) (by rw [List.size_toArray, List.size_toArray, hr.length, hr'.length]; simp [zipD]) (fun b hb => by simp only [List.mem_cons, List.not_mem_nil, or_false] at hb ⊢; rcases hb with e | e | e | e <;> simp [e]) (fun b hb => List.mem_append_left [a, a'] hb) (fun i h hst b hb => ?_) (fun i vals d hd hv => ?_),
      ⟨hz, hTI, ⟨_, _, hTO⟩, h1, h2, hl.at fun o e => hk' _ _ e, hl'.at fun o e => hk' _ _ e⟩, fun b hb => ?_, fun b hb => ?_⟩
    · obtain ⟨h1, h2, ⟨_, _, h3⟩, ⟨o2, h4, _⟩, ⟨o3, h5, _⟩, ⟨_, h6, _⟩, ⟨_, h7, _⟩⟩ := hst
      simp only [List.mem_cons, List.not_mem_nil, or_false] at hb
      rcases hb with rfl | rfl | rfl | rfl | rfl | rfl | rfl
      · exact ⟨_, h1⟩
      · exact ⟨_, h2⟩
      · exact ⟨_, h3⟩
      · exact ⟨_, h4⟩
      · exact ⟨_, h5⟩
      · exact ⟨_, h6⟩
      · exact ⟨_, h7⟩
    · obtain ⟨v, u, hv, hu, rfl⟩ := hv
      unfold zipD at hd
      rw [List.getElem?_zipWith] at hd
      cases hd1 : ds[i]? with
      | none => rw [hd1] at hd; cases hd
      | some d1 =>
      cases hd2 : ds'[i]? with
      | none => rw [hd1, hd2] at hd; cases hd
      | some d2 =>
        rw [hd1, hd2] at hd; cases hd
        obtain ⟨v', e', r'⟩ := hr.get? hd1
        obtain ⟨u', f', q'⟩ := hr'.get? hd2
        have e1 : v' = v := by rw [List.getElem?_toArray, e'] at hv; exact Option.some.inj hv
        have e2 : u' = u := by rw [List.getElem?_toArray, f'] at hu; exact Option.some.inj hu
        exact ⟨_, rfl, .cons (e1 ▸ r') (.one (e2 ▸ q'))⟩
    · simp only [List.mem_cons, List.not_mem_nil, or_false] at hb
      rcases hb with rfl | rfl | rfl | rfl | rfl | rfl | rfl
      · exact .inl (by simp)
      · exact .inl (by simp)
      · exact .inl (by simp)
      · exact .inl (by simp)
      · exact .inl (by simp)
      · exact .inr ⟨_, hka⟩
      · exact .inr ⟨_, hka'⟩
    · simp only [List.mem_cons, List.not_mem_nil, or_false] at hb
      rcases hb with rfl | rfl | rfl | rfl | rfl
      · exact ⟨kn_none st1.kin (hn 4), st1.back (hn 4)⟩
      · exact ⟨kn_none st1.kin (hn 2), st1.back (hn 2)⟩
      · exact ⟨kn_none st1.kin (hn 3), st1.back (hn 3)⟩
      · exact ⟨kn_none st1.kin hn0, st1.back hn0⟩
      · exact ⟨kn_none st1.kin (hn 1), st1.back (hn 1)⟩) (hs c.env) hk hx hg hb hd
end


/-- the items at a place, from the right where it is below nought -/
noncomputable def AtI (ds : List D) (k : Int) (d : D) : Prop := (0 ≤ k ∧ ds[k.toNat]? = some d) ∨ (k < 0 ∧ -(ds.length : Int) ≤ k ∧ ds[(k + ds.length).toNat]? = some d)
noncomputable def cut {α : Type} (l : List α) (lo hi : Option Int) : List α := (l.drop (kms_lo lo l.length)).take (kms_hi hi l.length - kms_lo lo l.length)
theorem RepAll.cut {K : Know} {vs : List Value} {ds : List D} (h : RepAll K vs ds) (lo hi : Option Int) : RepAll K (cut vs lo hi) (cut ds lo hi) := by
  unfold Mine.cut
  rw [h.length]
  exact (h.drop _).take _
section
variable {P : Program} {w : World} {h₀ : Heap} {A : Around} {c : Cx} {σ : Str → Option D} {pos p : Pos} {K : Know} {s : Shared} {e i : Expr} {ds : List D} {d : D} {k : Int}

theorem ev_item_tup (h1 : Ev P w h₀ A c σ e (.tup ds)) (h2 : Ev P w h₀ A c σ i (.int k)) (hk : AtI ds k d) (hfit : ds.length ≤ sizeLine)
    (hs : ∀ o v, subscripted i false o v = operate [o, v] (getItem o v) := by intro _ _; with_unfolding_all rfl) : Ev P w h₀ A c σ (.Subscript e i pos) d := .mk fun K s Q E I hq =>
  Subscript_ (h1.run K s _ E I fun v K1 s1 st1 r1 => h2.run K1 s1 _ E (I.step st1) fun u K2 s2 st2 r2 => by
    (first | obtain ⟨_, rfl⟩ := r2.inv | obtain rfl := r2.inv | cases r2)
    have r1' := r1.mono st2.mono
    obtain ⟨a, vs, n, rfl, hk1, hr⟩ := r1'.inv
    have hl : IsTup s2.heap a vs.toArray := ⟨_, st2.kin _ _ hk1, rfl, _, rfl⟩
    have hlen := hr.length
    have hsl : sizeLine = 16777216 := rfl
    obtain ⟨j, hj, hd, hlo, hhi⟩ : ∃ j, seqIndex? k vs.length = some j ∧ ds[j]? = some d ∧ -(2 ^ 63) ≤ k ∧ k < 2 ^ 63 := by
      rcases hk with ⟨h0, hd⟩ | ⟨h0, h1, hd⟩
      · have := (List.getElem?_eq_some_iff.mp hd).1
        refine ⟨k.toNat, ?_, hd, by omega, by omega⟩
        have e1 : (if k < 0 then k + (vs.length : Int) else k) = k := if_neg (by omega)
        unfold seqIndex?
        simp only [e1]
        rw [if_pos (by simp only [Bool.and_eq_true, decide_eq_true_eq]; omega)]
      · refine ⟨_, ?_, hd, by omega, by omega⟩
        have e1 : (if k < 0 then k + (vs.length : Int) else k) = k + (ds.length : Int) := by rw [if_pos h0, hlen]
        unfold seqIndex?
        simp only [e1]
        rw [if_pos (by simp only [Bool.and_eq_true, decide_eq_true_eq]; omega)]
    obtain ⟨x, hx, rx⟩ := hr.get? hd
    exact item_tupleT hl hlo hhi hj hx (hq _ _ _ (st1.trans st2) rx) (hs _ _))

theorem ev_item_lst (h1 : Ev P w h₀ A c σ e (.lst ds)) (h2 : Ev P w h₀ A c σ i (.int k)) (hk : AtI ds k d) (hfit : ds.length ≤ sizeLine)
    (hs : ∀ o v, subscripted i false o v = operate [o, v] (getItem o v) := by intro _ _; with_unfolding_all rfl) : Ev P w h₀ A c σ (.Subscript e i pos) d := .mk fun K s Q E I hq =>
  Subscript_ (h1.run K s _ E I fun v K1 s1 st1 r1 => h2.run K1 s1 _ E (I.step st1) fun u K2 s2 st2 r2 => by
    (first | obtain ⟨_, rfl⟩ := r2.inv | obtain rfl := r2.inv | cases r2)
    have r1' := r1.mono st2.mono
    obtain ⟨a, vs, n, rfl, hk1, hr⟩ := r1'.inv
    have hl : s2.heap.IsList a vs.toArray := ⟨_, st2.kin _ _ hk1, rfl, n, rfl⟩
    have hlen := hr.length
    have hsl : sizeLine = 16777216 := rfl
    rcases hk with ⟨h0, hd⟩ | ⟨h0, hm, hd⟩
    · have := (List.getElem?_eq_some_iff.mp hd).1
      obtain ⟨x, hx, rx⟩ := hr.get? hd
      exact tail_any hl.typeIs slot_list_getitem.lookup (wpAny_getItem_list hl h0 (by omega) (by rw [List.getElem?_toArray]; exact hx) (hq _ _ _ (st1.trans st2) rx)) (hs _ _)
    · obtain ⟨x, hx, rx⟩ := hr.get? hd
      exact tail_any hl.typeIs slot_list_getitem.lookup (wpAny_getItem_list_neg hl h0 (by rw [List.size_toArray]; omega) (by omega) (by rw [List.getElem?_toArray, List.size_toArray, hlen]; exact hx) (hq _ _ _ (st1.trans st2) rx)) (hs _ _))

/-! slices -/
inductive EvP (P : Program) (w : World) (h₀ : Heap) (A : Around) (c : Cx) (σ : Str → Option D) : Option Expr → Option Int → Prop
  | none : EvP P w h₀ A c σ none none
  | some {e : Expr} {i : Int} : Ev P w h₀ A c σ e (.int i) → EvP P w h₀ A c σ (some e) (some i)
theorem evP_wp {x : Option Expr} {o : Option Int} {Q : Value → Shared → Prop} {E : Value → Shared → Prop} (h : EvP P w h₀ A c σ x o) (I : Inv h₀ c σ K s) (hq : ∀ v K' s', Step K s K' s' → IsPart v o → Q v s') : wpAny (model P w) A (evalPart x c.env) Q E s := by
  cases h with
  | none => exact wpAny_pure (hq _ K s (Step.refl I.kin) .none)
  | some h => exact h.run K s Q E I fun v K1 s1 st1 r1 => by (first | obtain ⟨_, rfl⟩ := r1.inv | obtain rfl := r1.inv | cases r1); exact hq _ K1 s1 st1 (.int _ _)

/-- the slice of a value, up to the getting of the item -/
theorem sub_slice {lo hi st : Option Expr} {l u t : Option Int} (h1 : Ev P w h₀ A c σ e d) (hl : EvP P w h₀ A c σ lo l) (hu : EvP P w h₀ A c σ hi u) (ht : EvP P w h₀ A c σ st t) {Q : Value → Shared → Prop} {E : Value → Shared → Prop} (I : Inv h₀ c σ K s)
    (hq : ∀ v K1 (s1 : Shared) vl vu vt, Step K s K1 { s1 with heap := s1.heap.push { cls := .type "slice", data := .fields #[vl, vu, vt] } } → Rep K1 v d → IsPart vl l → IsPart vu u → IsPart vt t →
      wpAny (model P w) A (subscriptTail e (.Slice lo hi st p) v (.ref s1.heap.objs.size)) Q E { s1 with heap := s1.heap.push { cls := .type "slice", data := .fields #[vl, vu, vt] } }) :
    wpAny (model P w) A (eval (.Subscript e (.Slice lo hi st p) pos) c.env) Q E s :=
  Subscript_ (h1.run K s _ E I fun v K1 s1 st1 r1 => wpAny_Slice (evP_wp hl (I.step st1) fun vl K2 s2 st2 p2 => evP_wp hu ((I.step st1).step st2) fun vu K3 s3 st3 p3 => evP_wp ht (((I.step st1).step st2).step st3) fun vt K4 s4 st4 p4 =>
    hq v K4 s4 vl vu vt ((((st1.trans st2).trans st3).trans st4).trans (Step.grow st4.kin fun a o e => Heap.get?_push_of_some _ e)) (((r1.mono st2.mono).mono st3.mono).mono st4.mono) p2 p3 p4))

theorem slice_list_ {lo hi st : Option Expr} {l u t : Option Int} {es : List D} (h1 : Ev P w h₀ A c σ e (.lst ds)) (hl : EvP P w h₀ A c σ lo l) (hu : EvP P w h₀ A c σ hi u) (ht : EvP P w h₀ A c σ st t) (hfit : ds.length ≤ sizeLine) (h0 : t ≠ some 0)
    (hp : ∀ K vs, RepAll K vs ds → RepAll K (slicePick vs.toArray l u t).toList es)
    (hs : ∀ o v, ∃ ops, subscripted (.Slice lo hi st p) false o v = operate ops (getItem o v)) : Ev P w h₀ A c σ (.Subscript e (.Slice lo hi st p) pos) (.lst es) := .mk fun K s Q E I hq =>
  sub_slice h1 hl hu ht I fun v K1 s1 vl vu vt st1 r1 p1 p2 p3 => by
    obtain ⟨a, vs, n, rfl, hk1, hr⟩ := r1.inv
    have hls : (s1.heap.push { cls := .type "slice", data := .fields #[vl, vu, vt] }).IsList a vs.toArray := ⟨_, st1.kin _ _ hk1, rfl, n, rfl⟩
    obtain ⟨ops, ho⟩ := hs (.ref a) (.ref s1.heap.objs.size)
    refine tail_any (Heap.IsList.typeIs (s := { s1 with heap := s1.heap.push { cls := .type "slice", data := .fields #[vl, vu, vt] } }) hls) slot_list_getitem.lookup (wpAny_getItem_list_slice hls (Heap.IsSliceOf.new ..) p1 p2 p3 h0 ?_ (by rw [List.size_toArray, hr.length]; exact hfit)) ho
    have hr' := hp K1 vs hr
    have hob : ((s1.heap.push { cls := .type "slice", data := .fields #[vl, vu, vt] }).push { cls := .type "list", data := .seq (slicePick vs.toArray l u t) }).get? (s1.heap.push { cls := .type "slice", data := .fields #[vl, vu, vt] }).objs.size = some { cls := .type "list", data := .seq (slicePick vs.toArray l u t) } := Heap.get?_push_size _ rfl
    have st2 := Step.one (t := s1.toks) st1.kin (fun b o e => Heap.get?_push_of_some _ e) (none_of_size (Nat.le_refl _)) hob
    refine hq _ _ _ (st1.trans st2) (.lst (vs := (slicePick vs.toArray l u t).toList) (n := 0) ?_ (hr'.mono st2.mono))
    rw [Array.toArray_toList]
    exact Know.put_same _ _ _
theorem ev_cut {lo hi : Option Expr} {l u : Option Int} (h1 : Ev P w h₀ A c σ e (.lst ds)) (hl : EvP P w h₀ A c σ lo l) (hu : EvP P w h₀ A c σ hi u) (hfit : ds.length ≤ sizeLine)
    (hs : ∀ o v, ∃ ops, subscripted (.Slice lo hi none p) false o v = operate ops (getItem o v) := by intro _ _; exact ⟨_, by with_unfolding_all rfl⟩) : Ev P w h₀ A c σ (.Subscript e (.Slice lo hi none p) pos) (.lst (cut ds l u)) :=
  slice_list_ h1 hl hu .none hfit (fun e => nomatch e) (fun K vs hr => by rw [kms_pick_eq]; exact hr.cut l u) hs
theorem ev_rev {st : Expr} (h1 : Ev P w h₀ A c σ e (.lst ds)) (ht : Ev P w h₀ A c σ st (.int (-1))) (hfit : ds.length ≤ sizeLine)
    (hs : ∀ o v, ∃ ops, subscripted (.Slice none none (some st) p) false o v = operate ops (getItem o v) := by intro _ _; exact ⟨_, by with_unfolding_all rfl⟩) : Ev P w h₀ A c σ (.Subscript e (.Slice none none (some st) p) pos) (.lst ds.reverse) :=
  slice_list_ h1 .none .none (.some ht) hfit (by decide) (fun K vs hr => by rw [krv_pick]; exact hr.reverse) hs

theorem slice_bytes_ {lo hi : Option Expr} {l u : Option Int} {b : Array UInt8} (h1 : Ev P w h₀ A c σ e (.bytes b)) (hl : EvP P w h₀ A c σ lo l) (hu : EvP P w h₀ A c σ hi u) (hfit : b.size ≤ sizeLine)
    (hs : ∀ o v, ∃ ops, subscripted (.Slice lo hi none p) false o v = operate ops (getItem o v) := by intro _ _; exact ⟨_, by with_unfolding_all rfl⟩) : Ev P w h₀ A c σ (.Subscript e (.Slice lo hi none p) pos) (.bytes (cut b.toList l u).toArray) := .mk fun K s Q E I hq =>
  sub_slice h1 hl hu .none I fun v K1 s1 vl vu vt st1 r1 p1 p2 p3 => by
    obtain ⟨t, rfl⟩ := r1.inv
    cases p3
    obtain ⟨ops, ho⟩ := hs (.bytes b t) (.ref s1.heap.objs.size)
    refine tail_any (typeIs_bytes _ _ _) FB.slot_bytes_getitem.lookup (getItem_meets (typeIs_bytes _ _ _) (by decide) FB.slot_bytes_getitem FB.entry_bytes_getitem (FB.args_bytes_getitem_2 _ _) (KBc.meets_slice2 b t _ p1 p2)
      ⟨Heap.IsSliceOf.new _ _ _ _, Nat.le_trans (KBc.size_picked_le b l u) hfit, fun t' k => ?_⟩) ho
    have e1 : KBy.picked b l u = (cut b.toList l u).toArray := by
      unfold KBy.picked Builtin.Bytes.sliced Mine.cut
      rw [kms_bounds]
      show ((sliceRange ((kms_lo l b.size : Nat) : Int) ((kms_hi u b.size : Nat) : Int) 1).filterMap _).toArray = _
      rw [sliceRange_one, pick_run, Array.length_toList]
    rw [e1]
    exact hq _ K1 _ (st1.trans (Step.toks st1.kin _)) (.bytes _ _)

end

open Builtin in
theorem meets_rev (b : Array UInt8) (t : Tok) (a : Addr) (u : Tok) :
    Meets («bytes.__getitem__» ⟨[.bytes b t, .ref a], []⟩) (fun _ R s => s.heap.IsSliceOf a .none .none (.int (-1) u) ∧ b.size ≤ sizeLine ∧ ∀ t' k, R (.ok (.ret (.bytes b.toList.reverse.toArray t'))) { s with toks := k }) := by
  refine .of_wp fun prog w A R s hS => ?_
  obtain ⟨⟨o, ho, hc, hd⟩, hsz, h⟩ := hS
  have hT : s.TypeIs (.ref a) "slice" := ⟨o, ho, hc⟩
  show wpAny _ _ (Bytes.payload (.bytes b t) >>= fun r => _) _ _ s
  refine wpAny_bind (wpAny_of_eq (a := b) rfl ?_)
  show wpAny _ _ (Bytes.subscript? (.ref a) >>= fun r => _) _ _ s
  refine wpAny_bind ?_
  unfold Bytes.subscript?
  refine wpAny_bind (wpAny_specialOf hT slice_no_index (wpAny_pure ?_))
  refine wpAny_bind (wpAny_typeOf hT ?_)
  show wpAny _ _ (Bytes.sliceParts (.ref a) >>= fun r => _) _ _ s
  refine wpAny_bind ?_
  unfold Bytes.sliceParts
  refine wpAny_bind (wpAny_field (x := .int (-1) u) ho hd rfl ?_)
  refine wpAny_bind (wpAny_ite (KBy.ite_no (show ¬ ((Value.int (-1) u == Value.none) = true) from Bool.false_ne_true) ?_))
  refine wpAny_bind (wpAny_specialOf (T := "int") (typeIs_int _ _ _) F.slot_int_index.lookup ?_)
  refine wpAny_ite (KBy.ite_no (show ¬ (Option.isNone (some _) = true) from Bool.false_ne_true) ?_)
  refine wpAny_bind (wpAny_of_eq (a := (-1 : Int)) rfl (wpAny_pure ?_))
  refine wpAny_ite (KBy.ite_no (show ¬ ((rawInt (-1) == rawInt 0) = true) by decide) ?_)
  refine wpAny_bind (wpAny_field (x := .none) ho hd rfl ?_)
  refine wpAny_bind (wpAny_of_eq (a := Value.none) rfl ?_)
  refine wpAny_bind (wpAny_field (x := .none) ho hd rfl ?_)
  refine wpAny_bind (wpAny_of_eq (a := Value.none) rfl ?_)
  refine wpAny_pure ?_
  have go : wpAny (model prog w) A.in1 (sliceIndices (rawPart none) (rawPart none) (rawPart (some (-1))) b.size) (fun r s' => r = sliceBounds none none (some (-1)) b.size ∧ s' = s) (fun _ _ => False) s :=
    wpAny_of_eq (sliceIndices_raw none none (some (-1)) b.size (by decide)) ⟨rfl, rfl⟩
  refine wpAny_bind (wpAny_mono go (fun r s' hr => ?_) fun _ _ e => e.elim)
  obtain ⟨rfl, rfl⟩ := hr
  rw [krv_bounds]
  have hn : ¬ ((((b.size : Int) - 1 == 0) && ((-1 : Int) == 1) && ((-1 : Int) == b.size) && !b.isEmpty) = true) := by simp
  refine wpAny_ite (KBy.ite_no hn ?_)
  have e1 : Bytes.sliced b ((b.size : Int) - 1) (-1) (-1) = b.toList.reverse.toArray := by
    unfold Bytes.sliced
    rw [krv_sliceRange, krv_range, List.filterMap_reverse, krv_all]
  have hz : (Bytes.sliced b ((b.size : Int) - 1) (-1) (-1)).size ≤ sizeLine := by rw [e1]; simpa using hsz
  refine wpAny_bind (wpAny_mkBytes (wpAny_pure ⟨_, rfl, ?_⟩) hz)
  rw [e1]
  exact h _ _

section
variable {prog : Program} {w : World} {A : Around} {E : Value → Shared → Prop} {s : Shared}
theorem sliceApplied_run {sl : Addr} {a b n : Nat} {u v : Tok} {Q : Int × Int × Nat → Shared → Prop} (hs : s.heap.IsSliceOf sl (.int a u) (.int b v) .none) (ha : a ≤ b) (hb : b ≤ n) (h : Q ((a : Int), 1, b - a) s) :
    wpAny (model prog w) A (Builtin.Slice.sliceApplied (.ref sl) (pure (n : Int))) Q E s := by
  obtain ⟨os, hos, hcs, hds⟩ := id hs
  unfold Builtin.Slice.sliceApplied Builtin.Slice.sliceFields
  refine wpAny_bind (wpAny_bind (wpAny_field hos hds (x := .int a u) rfl (wpAny_bind (wpAny_field hos hds (x := .int b v) rfl (wpAny_bind (wpAny_field hos hds (x := .none) rfl (wpAny_pure ?_)))))))
  refine wpAny_bind (slicePart_none ?_)
  show wpAny _ _ (if ((1 : Int) == 0) = true then _ else _) _ _ s
  rw [if_neg (by decide)]
  refine wpAny_bind (slicePart_int (wpAny_bind (slicePart_int (wpAny_bind (wpAny_pure ?_)))))
  have e1 : Builtin.Slice.sliceAdjust (some (a : Int)) (some (b : Int)) 1 (n : Int) = ((a : Int), (b : Int)) := by
    unfold Builtin.Slice.sliceAdjust
    have h1 : ¬ ((1 : Int) < 0) := by omega
    have h2 : ¬ ((a : Int) < 0) := by omega
    have h3 : ¬ ((b : Int) < 0) := by omega
    simp only [h1, h2, h3, if_false]
    refine Prod.ext ?_ ?_ <;> dsimp only <;> omega
  have e2 : Builtin.Slice.slicePlaces (a : Int) (b : Int) 1 = b - a := by
    unfold Builtin.Slice.slicePlaces
    have h1 : (1 : Int) > 0 := by omega
    simp only [h1, if_true, Int.ediv_one]
    split <;> omega
  show wpAny _ _ (match Builtin.Slice.sliceAdjust (some (a : Int)) (some (b : Int)) 1 (n : Int) with | (lo, hi) => pure (lo, (1 : Int), Builtin.Slice.slicePlaces lo hi 1)) _ _ s
  rw [e1]
  show wpAny _ _ (pure ((a : Int), (1 : Int), Builtin.Slice.slicePlaces (a : Int) (b : Int) 1)) _ _ s
  rw [e2]
  exact wpAny_pure h
theorem pick_run' (xs : Array Value) (a k : Nat) : ((List.range k).filterMap fun (k : Nat) => xs[((a : Int) + (k : Int) * 1).toNat]?).toArray = ((xs.toList.drop a).take k).toArray := by
  have e : (fun (k : Nat) => xs[((a : Int) + (k : Int) * 1).toNat]?) = fun k => xs[a + k]? := by
    funext k
    have : ((a : Int) + (k : Int) * 1).toNat = a + k := by omega
    rw [this]
  rw [e]
  have := pick_run xs a k
  rw [List.filterMap_map] at this
  have e2 : ((fun x => xs[x]?) ∘ fun x => a + x) = fun k => xs[a + k]? := rfl
  rw [e2] at this
  rw [this]
theorem getItem_tuple_run {t sl : Addr} {items : Array Value} {a b : Nat} {u v : Tok} {Q : Value → Shared → Prop} (ht : IsTup s.heap t items) (hs : s.heap.IsSliceOf sl (.int a u) (.int b v) .none) (h1 : 1 ≤ a) (ha : a ≤ b) (hb : b ≤ items.size)
    (h : Q (.ref s.heap.objs.size) { s with heap := s.heap.push { cls := .type "tuple", data := .seq ((items.toList.drop a).take (b - a)).toArray } })
    (hsz : items.size ≤ sizeLine) : wpAny (model prog w) A (getItem (.ref t) (.ref sl)) Q E s := by
  have hdrop : sizeOk (.seq ((items.toList.drop a).take (b - a)).toArray) := by
    show ((items.toList.drop a).take (b - a)).toArray.size ≤ sizeLine
    rw [List.size_toArray, List.length_take, List.length_drop, Array.length_toList]
    omega
  obtain ⟨os, hos, hcs, hds⟩ := id hs
  have hTs : s.TypeIs (.ref sl) "slice" := ⟨os, hos, hcs⟩
  unfold getItem
  try with_reducible refine wpAny_holding ?_
  first | refine wpAny_bind (wpAny_pure ?_) | skip
  refine wpAny_bind (wpAny_sequenceKey ht.typeIs (by decide) ?_)
  refine wpAny_bind (wpAny_callSpecial?_slot (name := Str.ofString "__getitem__") ht.typeIs slot_tuple_getitem
    (wpAny_call_entry slot_tuple_getitem ht.typeIs entry_tuple_getitem ?_ (args_tuple_getitem _ _)))
  show wpAny _ _ (Builtin.Tuple.tupleItemsOf (.ref t) >>= _) _ _ s
  refine wpAny_bind (tupleItemsOf_ ht ?_)
  refine wpAny_bind (wpAny_typeOf hTs ?_)
  rw [if_pos (by decide)]
  refine wpAny_bind (sliceApplied_run hs ha hb ?_)
  have hno : ¬ (((a : Int) == 0 && (1 : Int) == 1 && (b - a) == items.size) = true) := by
    have : ((a : Int) == 0) = false := by rw [beq_eq_false_iff_ne]; omega
    rw [this]; simp
  show wpAny _ _ (if ((a : Int) == 0 && (1 : Int) == 1 && (b - a) == items.size) = true then _ else _) _ _ s
  rw [if_neg hno, pick_run' items a (b - a)]
  first
    | exact wpAny_bind (m := Builtin.Tuple.tupleExact _) (wpAny_newObj_type (wpAny_pure ⟨_, rfl, wpAny_pure h⟩) hdrop)
    | exact wpAny_bind (m := Builtin.Tuple.tupleExact _) (wpAny_newObj_type (wpAny_bind (wpAny_pure (wpAny_pure ⟨_, rfl, wpAny_pure h⟩))) hdrop)
    | exact wpAny_bind (wpAny_bind (m := Builtin.Tuple.tupleExact _) (wpAny_newObj_type (wpAny_pure (wpAny_pure ⟨_, rfl, wpAny_pure h⟩)) hdrop))
    | exact wpAny_bind (wpAny_bind (m := Builtin.Tuple.tupleExact _) (wpAny_newObj_type (wpAny_pure ⟨_, rfl, wpAny_pure h⟩) hdrop))
end

section
variable {P : Program} {w : World} {h₀ : Heap} {A : Around} {c : Cx} {σ : Str → Option D} {pos p : Pos} {K : Know} {s : Shared} {e l r : Expr} {ds es : List D}

theorem ev_rev_bytes {st : Expr} {b : Array UInt8} (h1 : Ev P w h₀ A c σ e (.bytes b)) (ht : Ev P w h₀ A c σ st (.int (-1))) (hfit : b.size ≤ sizeLine)
    (hs : ∀ o v, ∃ ops, subscripted (.Slice none none (some st) p) false o v = operate ops (getItem o v) := by intro _ _; exact ⟨_, by with_unfolding_all rfl⟩) : Ev P w h₀ A c σ (.Subscript e (.Slice none none (some st) p) pos) (.bytes b.toList.reverse.toArray) := .mk fun K s Q E I hq =>
  sub_slice h1 .none .none (.some ht) I fun v K1 s1 vl vu vt st1 r1 p1 p2 p3 => by
    cases r1 with
    | bytes _ t =>
    cases p1; cases p2
    cases p3 with
    | int _ u =>
    obtain ⟨ops, ho⟩ := hs (.bytes b t) (.ref s1.heap.objs.size)
    exact tail_any (typeIs_bytes _ _ _) FB.slot_bytes_getitem.lookup (getItem_meets (typeIs_bytes _ _ _) (by decide) FB.slot_bytes_getitem FB.entry_bytes_getitem (FB.args_bytes_getitem_2 _ _) (meets_rev b t _ u)
      ⟨Heap.IsSliceOf.new _ _ _ _, hfit, fun t' k => hq _ K1 _ (st1.trans (Step.toks st1.kin _)) (.bytes _ _)⟩) ho

theorem ev_cut_tup {lo hi : Expr} {a b : Nat} (h1 : Ev P w h₀ A c σ e (.tup ds)) (hl : Ev P w h₀ A c σ lo (.int a)) (hu : Ev P w h₀ A c σ hi (.int b)) (ha : 1 ≤ a) (hab : a ≤ b) (hb : b ≤ ds.length) (hfit : ds.length ≤ sizeLine)
    (hs : ∀ o v, ∃ ops, subscripted (.Slice (some lo) (some hi) none p) false o v = operate ops (getItem o v) := by intro _ _; exact ⟨_, by with_unfolding_all rfl⟩) : Ev P w h₀ A c σ (.Subscript e (.Slice (some lo) (some hi) none p) pos) (.tup ((ds.drop a).take (b - a))) := .mk fun K s Q E I hq =>
  sub_slice h1 (.some hl) (.some hu) .none I fun v K1 s1 vl vu vt st1 r1 p1 p2 p3 => by
    cases p3
    cases p1 with
    | int _ t =>
    cases p2 with
    | int _ u =>
    obtain ⟨q, vs, n, rfl, hk1, hr⟩ := r1.inv
    have hls : IsTup (s1.heap.push { cls := .type "slice", data := .fields #[.int a t, .int b u, .none] }) q vs.toArray := ⟨_, st1.kin _ _ hk1, rfl, _, rfl⟩
    obtain ⟨ops, ho⟩ := hs (.ref q) (.ref s1.heap.objs.size)
    refine tail_any (IsTup.typeIs (s := { s1 with heap := s1.heap.push { cls := .type "slice", data := .fields #[.int a t, .int b u, .none] } }) hls) slot_tuple_getitem.lookup (getItem_tuple_run hls (Heap.IsSliceOf.new ..) ha hab (by rw [List.size_toArray, hr.length]; exact hb) ?_ (by rw [List.size_toArray, hr.length]; exact hfit)) ho
    have hr' := (hr.drop a).take (b - a)
    have hob : ((s1.heap.push { cls := .type "slice", data := .fields #[.int a t, .int b u, .none] }).push { cls := .type "tuple", data := .seq ((vs.drop a).take (b - a)).toArray }).get? (s1.heap.push { cls := .type "slice", data := .fields #[.int a t, .int b u, .none] }).objs.size = some { cls := .type "tuple", data := .seq ((vs.drop a).take (b - a)).toArray } := Heap.get?_push_size _ rfl
    have st2 := Step.one (t := s1.toks) st1.kin (fun b o e => Heap.get?_push_of_some _ e) (none_of_size (Nat.le_refl _)) hob
    exact hq _ _ _ (st1.trans st2) (.tup (n := 0) (Know.put_same _ _ _) (hr'.mono st2.mono))

theorem ev_addl (h1 : Ev P w h₀ A c σ l (.lst ds)) (h2 : Ev P w h₀ A c σ r (.lst es)) (hfit : ds.length + es.length ≤ sizeLine) : Ev P w h₀ A c σ (.BinOp l .Add r pos) (.lst (ds ++ es)) := .mk fun K s Q E I hq =>
  wpAny_BinOp (h1.run K s _ E I fun v K1 s1 st1 r1 => h2.run K1 s1 _ E (I.step st1) fun u K2 s2 st2 r2 => by
    have r1' := r1.mono st2.mono
    cases r1' with
    | @lst a vs n _ hk hr =>
    obtain ⟨a', vs', n', rfl, hk', hr'⟩ := r2.inv
    refine PySem.P.add_list (items := vs.toArray) (items2 := vs'.toArray) (st2.kin _ _ hk) (st2.kin _ _ hk') ?_ (by rw [List.size_toArray, List.size_toArray, hr.length, hr'.length]; exact hfit)
    have hob : (s2.heap.push { cls := .type "list", data := .seq (vs.toArray ++ vs'.toArray) }).get? s2.heap.objs.size = some { cls := .type "list", data := .seq (vs.toArray ++ vs'.toArray) } := Heap.get?_push_size _ rfl
    have st3 := Step.one (t := s2.toks) st2.kin (fun b o e => Heap.get?_push_of_some _ e) (none_of_size (Nat.le_refl _)) hob
    refine hq _ _ _ ((st1.trans st2).trans st3) (.lst (vs := vs ++ vs') (n := 0) ?_ ((hr.append hr').mono st3.mono))
    rw [← List.append_toArray]
    exact Know.put_same _ _ _)
theorem ev_addb {b b' : Array UInt8} (h1 : Ev P w h₀ A c σ l (.bytes b)) (h2 : Ev P w h₀ A c σ r (.bytes b')) (hfit : b.size + b'.size ≤ 16777216) : Ev P w h₀ A c σ (.BinOp l .Add r pos) (.bytes (b ++ b')) := .mk fun K s Q E I hq =>
  wpAny_BinOp (h1.run K s _ E I fun v K1 s1 st1 r1 => h2.run K1 s1 _ E (I.step st1) fun u K2 s2 st2 r2 => by
    (first | obtain ⟨_, rfl⟩ := r1.inv | obtain rfl := r1.inv | cases r1); (first | obtain ⟨_, rfl⟩ := r2.inv | obtain rfl := r2.inv | cases r2)
    exact KBy.add_bytes hfit fun t' k => hq _ _ _ ((st1.trans st2).trans (Step.toks st2.kin _)) (.bytes _ _))
end

mutual
noncomputable def py : D → PyData
  | .none => .none
  | .bool b => .bool b
  | .int i => .int i
  | .str x => .str x
  | .bytes _ => .none
  | .typ _ => .none
  | .rng _ _ => .none
  | .set _ => .none
  | .dct _ => .none
  | .fn _ => .none
  | .own _ _ => .none
  | .tup ds => .tuple (pys ds)
  | .lst ds => .list (pys ds)
noncomputable def pys : List D → List PyData
  | [] => []
  | d :: ds => py d :: pys ds
end
/-- data whose atoms are all truth values (b), or none of them -/
noncomputable def Pln (b : Bool) : Nat → D → Bool
  | _, .none => true
  | _, .bool _ => b
  | _, .int _ => !b
  | _, .str x => PyData.strOk x
  | n + 1, .tup ds => ds.all (Pln b n)
  | n + 1, .lst ds => ds.all (Pln b n)
  | _, _ => false

/-- the kinds of such data -/
inductive PlnV (b : Bool) (n : Nat) : D → Prop
  | none : PlnV b n .none
  | bool (x : Bool) (h : b = true) : PlnV b n (.bool x)
  | int (i : Int) (h : b = false) : PlnV b n (.int i)
  | str (x : Str) (h : PyData.strOk x = true) : PlnV b n (.str x)
  | tup (ds : List D) (m : Nat) (e : n = m + 1) (h : ∀ d ∈ ds, Pln b m d = true) : PlnV b n (.tup ds)
  | lst (ds : List D) (m : Nat) (e : n = m + 1) (h : ∀ d ∈ ds, Pln b m d = true) : PlnV b n (.lst ds)
theorem plnV {b : Bool} : ∀ {n : Nat} {d : D}, Pln b n d = true → PlnV b n d := by
  have two : ∀ {n : Nat} {d : D}, (Pln b n d = Pln b 0 d) → (Pln b 0 d = true → PlnV b n d) → Pln b n d = true → PlnV b n d := fun e f h => f (e ▸ h)
  intro n d
  cases d with
  | none => exact fun _ => .none
  | bool x => exact two (by cases n <;> rfl) fun h => .bool x h
  | int i => exact two (by cases n <;> rfl) fun h => .int i (by cases b with | false => rfl | true => exact h.symm)
  | str x => exact two (by cases n <;> rfl) fun h => .str x h
  | tup ds =>
    cases n with
    | zero => exact fun h => Bool.noConfusion h
    | succ n => exact fun h => .tup ds n rfl (List.all_eq_true.mp h)
  | lst ds =>
    cases n with
    | zero => exact fun h => Bool.noConfusion h
    | succ n => exact fun h => .lst ds n rfl (List.all_eq_true.mp h)
  | bytes x => exact two (by cases n <;> rfl) fun h => Bool.noConfusion h
  | typ x => exact two (by cases n <;> rfl) fun h => Bool.noConfusion h
  | rng x y => exact two (by cases n <;> rfl) fun h => Bool.noConfusion h
  | set x => exact two (by cases n <;> rfl) fun h => Bool.noConfusion h
  | dct x => exact two (by cases n <;> rfl) fun h => Bool.noConfusion h
  | fn x => exact two (by cases n <;> rfl) fun h => Bool.noConfusion h
  | own x y => exact two (by cases n <;> rfl) fun h => Bool.noConfusion h
theorem py_reads {K : Know} {h : Heap} (hk : KIn K h) {v : Value} {d : D} (b : Bool) (n : Nat) (r : Rep K v d) (p : Pln b n d = true) : ∃ as, Reads h v (py d) as := by
  have all : ∀ n, (∀ v d, Rep K v d → Pln b n d = true → ∃ as, Reads h v (py d) as) → ∀ (ds : List D) (vs : List Value), RepAll K vs ds → (∀ d ∈ ds, Pln b n d = true) → ∃ as, ReadsAll h vs (pys ds) as := by
    intro n ih ds
    induction ds with
    | nil => intro vs rr _; obtain rfl := rr.inv; exact ⟨_, .nil⟩
    | cons d ds hi =>
      intro vs rr hp
      obtain ⟨v, us, rfl, r, rr⟩ := rr.inv
      obtain ⟨as, ra⟩ := ih v d r (hp _ (.head _))
      obtain ⟨bs, rb⟩ := hi us rr fun d hd => hp d (.tail _ hd)
      exact ⟨_, .cons ra rb⟩
  induction n generalizing v d with
  | zero =>
    cases plnV p with
    | none => obtain rfl := r.inv; exact ⟨_, .none⟩
    | bool x => obtain rfl := r.inv; exact ⟨_, .bool x⟩
    | int i => obtain ⟨t, rfl⟩ := r.inv; exact ⟨_, .int i t⟩
    | str x => obtain ⟨t, rfl⟩ := r.inv; exact ⟨_, .str x t⟩
    | tup ds m e => exact absurd e (Nat.succ_ne_zero m).symm
    | lst ds m e => exact absurd e (Nat.succ_ne_zero m).symm
  | succ n ih =>
    cases plnV p with
    | none => obtain rfl := r.inv; exact ⟨_, .none⟩
    | bool x => obtain rfl := r.inv; exact ⟨_, .bool x⟩
    | int i => obtain ⟨t, rfl⟩ := r.inv; exact ⟨_, .int i t⟩
    | str x => obtain ⟨t, rfl⟩ := r.inv; exact ⟨_, .str x t⟩
    | tup ds m e hp =>
      obtain ⟨a, vs, k, rfl, e', rr⟩ := r.inv
      obtain ⟨as, ra⟩ := all n (fun v d => ih) ds vs rr (Nat.succ.inj e ▸ hp)
      exact ⟨_, .tuple (hk _ _ e') rfl rfl (by rw [List.toList_toArray]; exact ra)⟩
    | lst ds m e hp =>
      obtain ⟨a, vs, k, rfl, e', rr⟩ := r.inv
      obtain ⟨as, ra⟩ := all n (fun v d => ih) ds vs rr (Nat.succ.inj e ▸ hp)
      exact ⟨_, .list (hk _ _ e') rfl rfl (by rw [List.toList_toArray]; exact ra)⟩

theorem py_lay (b : Bool) : ∀ (n : Nat) (d : D), Pln b n d = true → (py d).canLay0 = true ∧ (py d).depth ≤ n := by
  have all : ∀ (n : Nat), (∀ d, Pln b n d = true → (py d).canLay0 = true ∧ (py d).depth ≤ n) → ∀ ds : List D, (∀ d ∈ ds, Pln b n d = true) → PyData.canLayAll0 (pys ds) = true ∧ PyData.depthAll (pys ds) ≤ n := by
    intro n ih ds
    induction ds with
    | nil => intro _; simp [pys, PyData.canLayAll0, PyData.depthAll]
    | cons d ds hi =>
      intro h
      have h1 := ih d (h d (.head _))
      have h2 := hi fun e he => h e (.tail _ he)
      simp only [pys, PyData.canLayAll0, PyData.depthAll, h1.1, h2.1, Bool.and_self, true_and]
      have a1 := h1.2
      have a2 := h2.2
      omega
  intro n
  induction n with
  | zero =>
    intro d h
    cases d <;> simp_all [Pln, py, PyData.canLay0, PyData.depth]
  | succ n ih =>
    intro d h
    cases d with
    | none => simp [py, PyData.canLay0, PyData.depth]
    | bool b => simp [py, PyData.canLay0, PyData.depth]
    | int i => simp [py, PyData.canLay0, PyData.depth]
    | str x => simp [Pln] at h; simp [py, PyData.canLay0, PyData.depth, h]
    | bytes b => simp [Pln] at h
    | typ b => simp [Pln] at h
    | rng a b => simp [Pln] at h
    | set b => simp [Pln] at h
    | dct b => simp [Pln] at h
    | fn b => simp [Pln] at h
    | own b _ => simp [Pln] at h
    | tup ds =>
      have q := all n ih ds (by simpa [Pln] using h)
      have q2 := q.2
      simp only [py, PyData.canLay0, PyData.depth, q.1, true_and]
      omega
    | lst ds =>
      have q := all n ih ds (by simpa [Pln] using h)
      have q2 := q.2
      simp only [py, PyData.canLay0, PyData.depth, q.1, true_and]
      omega
theorem pys_lay (b : Bool) {n : Nat} {ds : List D} (h : ∀ d ∈ ds, Pln b n d = true) : PyData.canLayAll0 (pys ds) = true ∧ PyData.depthAll (pys ds) ≤ n := by
  have := py_lay b (n + 1) (.lst ds) (by simpa [Pln] using h)
  simp only [py, PyData.canLay0, PyData.depth] at this
  exact ⟨this.1, by omega⟩
noncomputable def dk : D → Nat
  | .none => 0
  | .bool _ => 1
  | .int _ => 2
  | .str _ => 3
  | .tup _ => 4
  | .lst _ => 5
  | _ => 6
theorem PZbool {x y : Bool} : (PyData.eqv (.bool x) (.bool y) = true ↔ D.bool x = D.bool y) := by simp [PyData.eqv]
theorem PZint {x y : Int} : (PyData.eqv (.int x) (.int y) = true ↔ D.int x = D.int y) := by simp [PyData.eqv]
theorem PZstr {x y : Str} : (PyData.eqv (.str x) (.str y) = true ↔ D.str x = D.str y) := by simp [PyData.eqv]
theorem py_eqv (b : Bool) : ∀ (n : Nat) (d e : D) (k : Nat), Pln b n d = true → Pln b k e = true → (PyData.eqv (py d) (py e) = true ↔ d = e) := by
  have all : ∀ (n : Nat), (∀ d e k, Pln b n d = true → Pln b k e = true → (PyData.eqv (py d) (py e) = true ↔ d = e)) → ∀ (k : Nat) (ds es : List D), (∀ d ∈ ds, Pln b n d = true) → (∀ d ∈ es, Pln b k d = true) →
      (PyData.eqvAll (pys ds) (pys es) = true ↔ ds = es) := by
    intro n ih k ds
    induction ds with
    | nil =>
      intro es _ _
      cases es with
      | nil => exact ⟨fun _ => rfl, fun _ => rfl⟩
      | cons e es => exact ⟨fun h => Bool.noConfusion h, fun h => List.noConfusion rfl (heq_of_eq h)⟩
    | cons d ds hi =>
      intro es h1 h2
      cases es with
      | nil => exact ⟨fun h => Bool.noConfusion h, fun h => List.noConfusion rfl (heq_of_eq h)⟩
      | cons e es =>
        have q1 := ih d e k (h1 d (.head _)) (h2 e (.head _))
        have q2 := hi es (fun x hx => h1 x (.tail _ hx)) fun x hx => h2 x (.tail _ hx)
        simp only [pys, PyData.eqvAll, Bool.and_eq_true, q1, q2, List.cons.injEq]
  have no : ∀ {x : Bool} {d e : D}, x = false → Nat.beq (dk d) (dk e) = false → (x = true ↔ d = e) := fun h1 h2 => ⟨fun h => Bool.noConfusion (h1.symm.trans h), fun h => by subst h; rw [Nat.beq_refl] at h2; exact Bool.noConfusion h2⟩
  intro n
  induction n with
  | zero =>
    intro d e k h1 h2
    cases plnV h1 with
    | none => cases plnV h2 with
      | none => exact ⟨fun _ => rfl, fun _ => rfl⟩
      | _ => exact no rfl rfl
    | bool x hx => cases plnV h2 with
      | bool y => exact PZbool
      | int i hi => exact Bool.noConfusion (hx.symm.trans hi)
      | _ => exact no rfl rfl
    | int x hx => cases plnV h2 with
      | int y => exact PZint
      | bool i hi => exact Bool.noConfusion (hx.symm.trans hi)
      | _ => exact no rfl rfl
    | str x => cases plnV h2 with
      | str y => exact PZstr
      | _ => exact no rfl rfl
    | tup ds m e => exact absurd e (Nat.succ_ne_zero m).symm
    | lst ds m e => exact absurd e (Nat.succ_ne_zero m).symm
  | succ n ih =>
    intro d e k h1 h2
    cases plnV h1 with
    | none => cases plnV h2 with
      | none => exact ⟨fun _ => rfl, fun _ => rfl⟩
      | _ => exact no rfl rfl
    | bool x hx => cases plnV h2 with
      | bool y => exact PZbool
      | int i hi => exact Bool.noConfusion (hx.symm.trans hi)
      | _ => exact no rfl rfl
    | int x hx => cases plnV h2 with
      | int y => exact PZint
      | bool i hi => exact Bool.noConfusion (hx.symm.trans hi)
      | _ => exact no rfl rfl
    | str x => cases plnV h2 with
      | str y => exact PZstr
      | _ => exact no rfl rfl
    | tup ds m em hd => cases plnV h2 with
      | tup es k' ek he =>
        simp only [py, PyData.eqv, D.tup.injEq]
        exact all n ih k' ds es (Nat.succ.inj em ▸ hd) he
      | _ => exact no rfl rfl
    | lst ds m em hd => cases plnV h2 with
      | lst es k' ek he =>
        simp only [py, PyData.eqv, D.lst.injEq]
        exact all n ih k' ds es (Nat.succ.inj em ▸ hd) he
      | _ => exact no rfl rfl

section
variable {P : Program} {w : World} {h₀ : Heap} {A : Around} {c : Cx} {σ : Str → Option D} {pos : Pos} {d d' : D} {x : Bool} {ds : List D}
theorem cmp_Eq (b : Bool) (h1 : Pln b 8 d = true) (h2 : Pln b 8 d' = true) (hx : x = true ↔ d = d') (hu : A.units ≤ 5000) : CmpIs P w A .Eq d d' x := fun K s v u Q E k r1 r2 hq => by
  obtain ⟨as, ra⟩ := py_reads k b 8 r1 h1
  obtain ⟨bs, rb⟩ := py_reads k b 8 r2 h2
  refine SeqAt.compareEq_reads ra rb (py_lay b 8 d h1).1 (py_lay b 8 d' h2).1 (by have := (py_lay b 8 d h1).2; have : cLine = 9900 := rfl; omega) ?_
  have e : PyData.eqv (py d) (py d') = x := by rw [Bool.eq_iff_iff, py_eqv b 8 d d' 8 h1 h2, hx]
  rw [e]
  exact hq _ _ (Step.refl k)
theorem cmp_Ne (b : Bool) (h1 : Pln b 8 d = true) (h2 : Pln b 8 d' = true) (hx : x = false ↔ d = d') (hu : A.units ≤ 5000) : CmpIs P w A .NotEq d d' x := fun K s v u Q E k r1 r2 hq => by
  obtain ⟨as, ra⟩ := py_reads k b 8 r1 h1
  obtain ⟨bs, rb⟩ := py_reads k b 8 r2 h2
  refine SeqAt.compareNe_reads ra rb (py_lay b 8 d h1).1 (py_lay b 8 d' h2).1 (by have := (py_lay b 8 d h1).2; have : cLine = 9900 := rfl; omega) ?_
  have e : PyData.eqv (py d) (py d') = !x := by rw [Bool.eq_iff_iff, py_eqv b 8 d d' 8 h1 h2, ← hx]; simp
  rw [e, Bool.not_not]
  exact hq _ _ (Step.refl k)
theorem pys_any (b : Bool) : ∀ (ds : List D) (d : D), (∀ e ∈ ds, Pln b 7 e = true) → Pln b 7 d = true → ((pys ds).any (fun y => PyData.eqv y (py d)) = true ↔ d ∈ ds)
  | [], d, _, _ => by simp [pys]
  | e :: ds, d, h, h' => by
    rw [pys, List.any_cons, Bool.or_eq_true, py_eqv b 7 e d 7 (h e (.head _)) h', pys_any b ds d (fun x hx => h x (.tail _ hx)) h', List.mem_cons]
    exact or_congr ⟨Eq.symm, Eq.symm⟩ Iff.rfl
theorem cmp_in_lst (b : Bool) (h1 : Pln b 7 d = true) (h2 : ∀ e ∈ ds, Pln b 7 e = true) (hx : x = true ↔ d ∈ ds) (hu : A.units ≤ 5000) : CmpIs P w A .In d (.lst ds) x := fun K s v u Q E k r1 r2 hq => by
  obtain ⟨as, ra⟩ := py_reads k b 7 r1 h1
  obtain ⟨bs, rb⟩ := py_reads k b 8 r2 (by simpa [Pln] using h2)
  refine SeqAt.in_list_reads rb ra (pys_lay b h2).1 (py_lay b 7 d h1).1 (by have := (py_lay b 7 d h1).2; have : cLine = 9900 := rfl; omega) ?_
  have e : ((pys ds).any fun y => PyData.eqv y (py d)) = x := by rw [Bool.eq_iff_iff, pys_any b ds d h2 h1, hx]
  rw [e]
  exact hq _ _ (Step.refl k)
theorem cmp_in_tup (b : Bool) (h1 : Pln b 7 d = true) (h2 : ∀ e ∈ ds, Pln b 7 e = true) (hx : x = true ↔ d ∈ ds) (hu : A.units ≤ 5000) : CmpIs P w A .In d (.tup ds) x := fun K s v u Q E k r1 r2 hq => by
  obtain ⟨as, ra⟩ := py_reads k b 7 r1 h1
  obtain ⟨bs, rb⟩ := py_reads k b 8 r2 (by simpa [Pln] using h2)
  refine SeqAt.in_tuple_reads rb ra (pys_lay b h2).1 (py_lay b 7 d h1).1 (by have := (py_lay b 7 d h1).2; have : cLine = 9900 := rfl; omega) ?_
  have e : ((pys ds).any fun y => PyData.eqv y (py d)) = x := by rw [Bool.eq_iff_iff, pys_any b ds d h2 h1, hx]
  rw [e]
  exact hq _ _ (Step.refl k)
theorem cmp_nin_tup (b : Bool) (h1 : Pln b 7 d = true) (h2 : ∀ e ∈ ds, Pln b 7 e = true) (hx : x = false ↔ d ∈ ds) (hu : A.units ≤ 5000) : CmpIs P w A .NotIn d (.tup ds) x := fun K s v u Q E k r1 r2 hq => by
  obtain ⟨as, ra⟩ := py_reads k b 7 r1 h1
  obtain ⟨bs, rb⟩ := py_reads k b 8 r2 (by simpa [Pln] using h2)
  refine SeqAt.notIn_tuple_reads rb ra (pys_lay b h2).1 (py_lay b 7 d h1).1 (by have := (py_lay b 7 d h1).2; have : cLine = 9900 := rfl; omega) ?_
  have e : ((pys ds).any fun y => PyData.eqv y (py d)) = !x := by rw [Bool.eq_iff_iff, pys_any b ds d h2 h1, ← hx]; simp
  rw [e, Bool.not_not]
  exact hq _ _ (Step.refl k)
theorem cmp_is_bool {a b : Bool} : CmpIs P w A .Is (.bool a) (.bool b) (a == b) := fun K s v u Q E k r1 r2 hq => by (first | obtain ⟨_, rfl⟩ := r1.inv | obtain rfl := r1.inv | cases r1); (first | obtain ⟨_, rfl⟩ := r2.inv | obtain rfl := r2.inv | cases r2); exact is_bool (hq _ _ (Step.refl k))
theorem cmp_isnot_none (hd : d ≠ .none) : CmpIs P w A .IsNot d .none true := fun K s v u Q E k r1 r2 hq => by
  (first | obtain ⟨_, rfl⟩ := r2.inv | obtain rfl := r2.inv | cases r2)
  exact isnot_none_ne (by rintro rfl; (first | obtain ⟨_, rfl⟩ := r1.inv | obtain rfl := r1.inv | cases r1); exact hd rfl) (hq _ _ (Step.refl k))
theorem cmp_isnot_none' : CmpIs P w A .IsNot .none .none false := fun K s v u Q E k r1 r2 hq => by
  (first | obtain ⟨_, rfl⟩ := r1.inv | obtain rfl := r1.inv | cases r1); (first | obtain ⟨_, rfl⟩ := r2.inv | obtain rfl := r2.inv | cases r2)
  exact isnot_none_none (hq _ _ (Step.refl k))

/-! and, or -/
variable {e₁ e₂ e₃ : Expr} {a b b' : Bool}
theorem evt_and2 (h1 : EvT P w h₀ A c σ e₁ a) (h2 : a = true → EvT P w h₀ A c σ e₂ b) : EvT P w h₀ A c σ (.BoolOp .And [e₁, e₂] pos) (a && b) := .mk fun K s Q E I hq =>
  isTrue_and (h1.run K s _ E I fun K1 s1 st1 => by
    cases a with
    | false => exact hq K1 s1 st1
    | true =>
      refine isTrue_and ((h2 rfl).run K1 s1 _ E (I.step st1) fun K2 s2 st2 => ?_)
      cases b with
      | false => exact hq _ _ (st1.trans st2)
      | true => exact isTrue_and_nil (hq _ _ (st1.trans st2)))
theorem evt_or2 (h1 : EvT P w h₀ A c σ e₁ a) (h2 : a = false → EvT P w h₀ A c σ e₂ b) : EvT P w h₀ A c σ (.BoolOp .Or [e₁, e₂] pos) (a || b) := .mk fun K s Q E I hq =>
  isTrue_or (h1.run K s _ E I fun K1 s1 st1 => by
    cases a with
    | true => exact hq K1 s1 st1
    | false =>
      refine isTrue_or ((h2 rfl).run K1 s1 _ E (I.step st1) fun K2 s2 st2 => ?_)
      cases b with
      | true => exact hq _ _ (st1.trans st2)
      | false => exact isTrue_or_nil (hq _ _ (st1.trans st2)))
theorem evt_and3 (h1 : EvT P w h₀ A c σ e₁ a) (h2 : a = true → EvT P w h₀ A c σ e₂ b) (h3 : a = true → b = true → EvT P w h₀ A c σ e₃ b') : EvT P w h₀ A c σ (.BoolOp .And [e₁, e₂, e₃] pos) (a && (b && b')) := .mk fun K s Q E I hq =>
  isTrue_and (h1.run K s _ E I fun K1 s1 st1 => by
    cases a with
    | false => exact hq K1 s1 st1
    | true => exact (evt_and2 (pos := pos) (h2 rfl) (h3 rfl)).run K1 s1 Q E (I.step st1) fun K2 s2 st2 => hq _ _ (st1.trans st2))
theorem ev_and2 (h1 : Ev P w h₀ A c σ e₁ (.bool a)) (h2 : a = true → Ev P w h₀ A c σ e₂ (.bool b)) : Ev P w h₀ A c σ (.BoolOp .And [e₁, e₂] pos) (.bool (a && b)) := .mk fun K s Q E I hq =>
  BoolOp_and (h1.run K s _ E I fun v K1 s1 st1 r1 => by
    (first | obtain ⟨_, rfl⟩ := r1.inv | obtain rfl := r1.inv | cases r1)
    refine wpAny_truthy_bool ?_
    cases a with
    | false => exact hq _ K1 s1 st1 (.bool _)
    | true => exact BoolOp_one ((h2 rfl).run K1 s1 _ E (I.step st1) fun v K2 s2 st2 r2 => hq _ _ _ (st1.trans st2) r2))
theorem ev_and3 (h1 : Ev P w h₀ A c σ e₁ (.bool a)) (h2 : a = true → Ev P w h₀ A c σ e₂ (.bool b)) (h3 : a = true → b = true → Ev P w h₀ A c σ e₃ (.bool b')) : Ev P w h₀ A c σ (.BoolOp .And [e₁, e₂, e₃] pos) (.bool (a && (b && b'))) := .mk fun K s Q E I hq =>
  BoolOp_and (h1.run K s _ E I fun v K1 s1 st1 r1 => by
    (first | obtain ⟨_, rfl⟩ := r1.inv | obtain rfl := r1.inv | cases r1)
    refine wpAny_truthy_bool ?_
    cases a with
    | false => exact hq _ K1 s1 st1 (.bool _)
    | true => exact (ev_and2 (pos := pos) (h2 rfl) (h3 rfl)).run K1 s1 Q E (I.step st1) fun v K2 s2 st2 r2 => hq _ _ _ (st1.trans st2) r2)

/-! a chain of two comparisons -/
theorem evt_chain {l r₁ r₂ : Expr} {o₁ o₂ : CmpOp} {f g k : D} (h1 : Ev P w h₀ A c σ l f) (h2 : Ev P w h₀ A c σ r₁ g) (h3 : Ev P w h₀ A c σ r₂ k) (c1 : CmpIs P w A o₁ f g a) (c2 : CmpIs P w A o₂ g k b) (hm : lastMarks [o₁, o₂] [r₁, r₂] = false := by with_unfolding_all rfl) :
    EvT P w h₀ A c σ (.Compare l [o₁, o₂] [r₁, r₂] pos) (a && b) := .mk fun K s Q E I hq =>
  isTrue_chain (h1.run K s _ E I fun v K1 s1 st1 r1 => test_link (h2.run K1 s1 _ E (I.step st1) fun u K2 s2 st2 r2 => c1 K2 s2 v u _ E st2.kin (r1.mono st2.mono) r2 fun K3 s3 st3 => by
    refine wpAny_truthy_bool ?_
    have st' := (st1.trans st2).trans st3
    cases a with
    | false => exact hq _ _ st'
    | true =>
      exact test_last (h3.run K3 s3 _ E (I.step st') fun v' K4 s4 st4 r4 => c2 K4 s4 u v' _ E st4.kin ((r2.mono st3.mono).mono st4.mono) r4 fun K5 s5 st5 => wpAny_truthy_bool (hq _ _ ((st'.trans st4).trans st5))))) hm
end

section
variable {P : Program} {w : World} {h₀ : Heap} {ns : List Int}

noncomputable def intsD (ns : List Int) : List D := ns.map .int
theorem RepAll.intsAre {K : Know} : ∀ {vs : List Value} {ns : List Int}, RepAll K vs (intsD ns) → IntsAre vs ns
  | _, [], h => by cases h; exact .nil
  | _, n :: ns, h => by
    obtain ⟨_, _, rfl, r, rr⟩ := h.inv
    (first | obtain ⟨_, rfl⟩ := r.inv | obtain rfl := r.inv | cases r); exact .cons _ _ (RepAll.intsAre rr)
theorem RepAll.ofInts {K : Know} : ∀ {vs : List Value} {ns : List Int}, IntsAre vs ns → RepAll K vs (intsD ns)
  | _, _, .nil => .nil
  | _, _, .cons n t r => .cons (.int _ _) (RepAll.ofInts r)
theorem isListOf {K : Know} {s : Shared} {a : Addr} {vs : List Value} {n : Nat} (k : KIn K s.heap) (h : K a = some (seqObj "list" vs.toArray n)) : s.heap.IsList a vs.toArray := ⟨_, k _ _ h, rfl, n, rfl⟩

theorem callIs_ord {x : Str} (h1 : x.length = 1) : CallIs P w h₀ 0 (.builtin "ord") [.str x] (.int (x.cps.getD 0 0 : Nat)) := fun A K s vs Q E hh hd hu hb hk hr hq => by
  obtain ⟨_, _, rfl, r, rr⟩ := hr.inv
  obtain rfl := rr.inv; (first | obtain ⟨_, rfl⟩ := r.inv | obtain rfl := r.inv | cases r); exact ord_of_one h1 (hq _ K _ (Step.toks hk _) (.int _ _))
theorem callIs_chr {i : Int} (h0 : 0 ≤ i) (h1 : i ≤ 1114111) : CallIs P w h₀ 0 (.builtin "chr") [.int i] (.str ⟨#[i.toNat]⟩) := fun A K s vs Q E hh hd hu hb hk hr hq => by
  obtain ⟨_, _, rfl, r, rr⟩ := hr.inv
  obtain rfl := rr.inv; (first | obtain ⟨_, rfl⟩ := r.inv | obtain rfl := r.inv | cases r); exact chr_of_range h0 h1 (hq _ K _ (Step.toks hk _) (.str _ _))
theorem callIs_abs {i : Int} : CallIs P w h₀ 0 (.builtin "abs") [.int i] (.int (i.natAbs : Nat)) := fun A K s vs Q E hh hd hu hb hk hr hq => by
  obtain ⟨_, _, rfl, r, rr⟩ := hr.inv
  obtain rfl := rr.inv; (first | obtain ⟨_, rfl⟩ := r.inv | obtain rfl := r.inv | cases r)
  refine call_abs_int fun u tk => ?_
  have e : (if i < 0 then -i else i) = (i.natAbs : Int) := by split <;> omega
  rw [e]
  exact hq _ K _ (Step.toks hk _) (.int _ _)
theorem callIs_int {i : Int} : CallIs P w h₀ 0 (.type "int") [.int i] (.int i) := fun A K s vs Q E hh hd hu hb hk hr hq => by
  obtain ⟨_, _, rfl, r, rr⟩ := hr.inv
  obtain rfl := rr.inv; (first | obtain ⟨_, rfl⟩ := r.inv | obtain rfl := r.inv | cases r); exact call_int_int (hq _ K _ (Step.refl hk) (.int _ _))
theorem callIs_len {ds : List D} (hn : ds.length ≤ sizeLine) : CallIs P w h₀ 0 (.builtin "len") [.lst ds] (.int (ds.length : Nat)) := fun A K s vs Q E hh hd hu hb hk hr hq => by
  obtain ⟨_, _, rfl, r, rr⟩ := hr.inv
  obtain rfl := rr.inv
  obtain ⟨a, vs, n, rfl, e, r⟩ := r.inv
  have hl := isListOf hk e
  have : sizeLine = 16777216 := rfl
  refine Calls.call_len_list hl (by rw [List.size_toArray, r.length]; omega) ?_
  rw [List.size_toArray, r.length]
  exact hq _ K _ (Step.toks hk _) (.int _ _)
theorem callIs_isbytes {b : Array UInt8} : CallIs P w h₀ 0 (.builtin "isinstance") [.bytes b, .typ "bytes"] (.bool true) := fun A K s vs Q E hh hd hu hb hk hr hq => by
  obtain ⟨_, _, rfl, r, rr⟩ := hr.inv
  obtain ⟨_, _, rfl, r', rr⟩ := rr.inv
  obtain rfl := rr.inv; (first | obtain ⟨_, rfl⟩ := r.inv | obtain rfl := r.inv | cases r); (first | obtain ⟨_, rfl⟩ := r'.inv | obtain rfl := r'.inv | cases r')
  exact call_isinstance_yes (typeIs_bytes _ _ _) meta_bytes F.sub_bytes_bytes (hq _ K _ (Step.refl hk) (.bool _))
theorem getD_at {i : Nat} (h : i < ns.length) : ns.getD i 0 = ns[i] := by simp [h]

theorem preSum_sum (ns : List Int) : ∀ k, k ≤ ns.length → preSum (fun i => ns.getD i 0) k = (ns.take k).sum
  | 0, _ => by simp [preSum]
  | k + 1, h => by
    rw [preSum, preSum_sum ns k (by omega), List.take_add_one, List.sum_append]
    have : k < ns.length := by omega
    simp [this]
theorem callIs_sum (hn : ns.length ≤ sizeLine) : CallIs P w h₀ 0 (.builtin "sum") [.lst (intsD ns)] (.int ns.sum) := fun A K s vs Q E hh hd hu hb hk hr hq => by
  obtain ⟨_, _, rfl, r, rr⟩ := hr.inv
  obtain rfl := rr.inv
  obtain ⟨a, vs, n, rfl, e, r⟩ := r.inv
  have hl := isListOf hk e
  have hlt : a < s.heap.objs.size := Heap.lt_size (hk _ _ e)
  have hlen : vs.length = ns.length := r.length.trans (by simp [intsD])
  refine call_sum_walkAnyS (wpAny_pyIter_list hl ?_)
  refine ⟨_, _, _, _, vs.toArray.size, _, _, fun i => ns.getD i 0, rfl, (Walks.list (A := A.in1) hh s.heap.objs.size a (Nat.ne_of_lt hlt) vs.toArray).toS, ⟨⟨_, Heap.get?_push_size _ rfl, rfl, rfl⟩, hl.at fun o e => Heap.get?_push_of_some _ e⟩, fun b hb => ?_, fun i v hv => ?_, fun s' t' hm => ?_⟩
  · simp only [List.mem_cons, List.not_mem_nil, or_false] at hb
    show b < (s.heap.push _).objs.size
    rw [Heap.size_push]
    rcases hb with rfl | rfl
    · exact Nat.lt_succ_self _
    · exact Nat.lt_succ_of_lt hlt
  · rw [List.getElem?_toArray] at hv
    have hi : i < ns.length := by rw [← hlen]; exact (List.getElem?_eq_some_iff.mp hv).1
    obtain ⟨v', e', r'⟩ := r.get? (k := i) (d := .int ns[i]) (by simp [intsD, hi])
    have : v' = v := by rw [e'] at hv; exact Option.some.inj hv
    subst this
    obtain ⟨t, rfl⟩ := r'.inv
    exact ⟨t, by simp [hi]⟩
  · have hs : preSum (fun i => ns.getD i 0) vs.toArray.size = ns.sum := by rw [List.size_toArray, preSum_sum ns _ (by omega), hlen, List.take_length]
    rw [hs]
    refine hq _ K _ ⟨fun _ _ e => e, fun b o e' => hm.heap b o (fun q => ?_) (Heap.get?_push_of_some _ (hk _ _ e')), fun _ _ _ => rfl, fun b o e' => hm.heap b o (fun q => ?_) (Heap.get?_push_of_some _ e'), s'.heap, s'.toks, ?_⟩ (.int _ _)
    · rw [List.mem_singleton.mp q] at e'; exact Nat.lt_irrefl _ (Heap.lt_size (hk _ _ e'))
    · rw [List.mem_singleton.mp q] at e'; exact Nat.lt_irrefl _ (Heap.lt_size e')
    · have h1 := hm.gens
      have h2 := hm.drawn
      have h3 := hm.os
      cases s' with
      | mk a b c d e => simp only at h1 h2 h3 ⊢; rw [h1, h2, h3]

theorem argBest_le (val : Nat → Int) : ∀ k, argBest (fun i j => decide (val i < val j)) k ≤ k ∧ ∀ j, j ≤ k → val (argBest (fun i j => decide (val i < val j)) k) ≤ val j
  | 0 => ⟨Nat.le_refl _, fun j hj => by rw [Nat.le_zero.mp hj]; exact Int.le_refl _⟩
  | k + 1 => by
    obtain ⟨h1, h2⟩ := argBest_le val k
    rw [argBest]
    by_cases h : val (k + 1) < val (argBest (fun i j => decide (val i < val j)) k)
    · rw [if_pos (by simpa using h)]
      refine ⟨Nat.le_refl _, fun j hj => ?_⟩
      by_cases q : j = k + 1
      · subst q; exact Int.le_refl _
      · have := h2 j (by omega); omega
    · rw [if_neg (by simpa using h)]
      refine ⟨by omega, fun j hj => ?_⟩
      by_cases q : j = k + 1
      · subst q; omega
      · exact h2 j (by omega)
theorem callIs_min {m : Int} (hm : m ∈ ns) (hle : ∀ k ∈ ns, m ≤ k) : CallIs P w h₀ 0 (.builtin "min") [.lst (intsD ns)] (.int m) := fun A K s vs Q E hh hd hu hb hk hr hq => by
  obtain ⟨_, _, rfl, r, rr⟩ := hr.inv
  obtain rfl := rr.inv
  obtain ⟨a, vs, n, rfl, e, r⟩ := r.inv
  have hl := isListOf hk e
  have hlt : a < s.heap.objs.size := Heap.lt_size (hk _ _ e)
  have hlen : vs.length = ns.length := r.length.trans (by simp [intsD])
  have hpos : 0 < ns.length := List.length_pos_of_mem hm
  have val : ∀ (i : Nat) (v : Value), vs.toArray[i]? = some v → i < ns.length ∧ ∃ t, v = .int (ns.getD i 0) t := fun i v hv => by
    rw [List.getElem?_toArray] at hv
    have hi : i < ns.length := by rw [← hlen]; exact (List.getElem?_eq_some_iff.mp hv).1
    obtain ⟨v', e', r'⟩ := r.get? (k := i) (d := .int ns[i]) (by simp [intsD, hi])
    have : v' = v := by rw [e'] at hv; exact Option.some.inj hv
    subst this
    obtain ⟨t, rfl⟩ := r'.inv
    exact ⟨hi, t, by simp [hi]⟩
  refine call_min_walk (wpAny_pyIter_list hl ?_)
  refine ⟨_, _, _, vs.toArray.size, _, _, fun i j => decide (ns.getD i 0 < ns.getD j 0), rfl, Walks.list (A := A.in1) hh s.heap.objs.size a (Nat.ne_of_lt hlt) vs.toArray, ⟨⟨_, Heap.get?_push_size _ rfl, rfl, rfl⟩, hl.at fun o e => Heap.get?_push_of_some _ e⟩, fun b hb => ?_, by rw [List.size_toArray, hlen]; exact hpos, fun i j vi vj s Q E h1 h2 hQ => ?_, fun v h' tk hv hk' => ?_⟩
  · simp only [List.mem_cons, List.not_mem_nil, or_false] at hb
    show b < (s.heap.push _).objs.size
    rw [Heap.size_push]
    rcases hb with rfl | rfl
    · exact Nat.lt_succ_self _
    · exact Nat.lt_succ_of_lt hlt
  · obtain ⟨_, t, rfl⟩ := val i vi h1
    obtain ⟨_, u, rfl⟩ := val j vj h2
    exact lt_int (w := w) hQ
  · obtain ⟨hi, t, rfl⟩ := val _ v hv
    have hsz : vs.toArray.size - 1 = ns.length - 1 := by rw [List.size_toArray, hlen]
    rw [hsz] at hi ⊢
    obtain ⟨b1, b2⟩ := argBest_le (fun i => ns.getD i 0) (ns.length - 1)
    have e1 : ns.getD (argBest (fun i j => decide (ns.getD i 0 < ns.getD j 0)) (ns.length - 1)) 0 = m := by
      obtain ⟨j, hj, rfl⟩ := List.mem_iff_getElem.mp hm
      have h1 := b2 j (by omega)
      have h2 := hle _ (List.getElem_mem hi)
      have e2 := getD_at hi
      have e3 := getD_at hj
      rw [e2] at h1 ⊢
      rw [e3] at h1
      exact Int.le_antisymm h1 h2
    rw [e1]
    refine hq _ K _ ⟨fun _ _ e => e, fun b o e' => hk' b o (fun q => ?_) (Heap.get?_push_of_some _ (hk _ _ e')), fun _ _ _ => rfl, fun b o e' => hk' b o (fun q => ?_) (Heap.get?_push_of_some _ e'), _, _, rfl⟩ (.int _ _)
    · rw [List.mem_singleton.mp q] at e'; exact Nat.lt_irrefl _ (Heap.lt_size (hk _ _ e'))
    · rw [List.mem_singleton.mp q] at e'; exact Nat.lt_irrefl _ (Heap.lt_size e')

theorem callIs_sorted {ms : List Int} (h64 : ns.length < 64) (hp : ms.Perm ns) (hs : ms.Pairwise (· ≤ ·)) : CallIs P w h₀ 0 (.builtin "sorted") [.lst (intsD ns)] (.lst (intsD ms)) := fun A K s vs Q E hh hd hu hb hk hr hq => by
  obtain ⟨_, _, rfl, r, rr⟩ := hr.inv
  obtain rfl := rr.inv
  obtain ⟨a, vs, n, rfl, e, r⟩ := r.inv
  have hl := isListOf hk e
  have hlen : vs.length = ns.length := r.length.trans (by simp [intsD])
  refine sorted_ints hl r.intsAre (by omega) fun out ns' h1 h2 h3 => ?_
  have e1 : ns' = ms := List.Perm.eq_of_pairwise (fun a b _ _ x y => Int.le_antisymm x y) h3 hs (h2.trans hp.symm)
  subst e1
  obtain ⟨e2, he2⟩ := sortedAll_at s.heap vs out
  have st := Step.one (t := s.toks) hk (fun b o e => sortedAll_old (vs := vs) (out := out) e) (none_of_size (Nat.le_succ _)) he2
  refine hq _ _ _ st (.lst (vs := out.toList) (n := e2) ?_ (RepAll.ofInts h1))
  rw [Array.toArray_toList]
  exact Know.put_same _ _ _
theorem callIs_divmod {a b : Int} (hb0 : b ≠ 0) (hp : Builtin.divisionGoesByPylong a b = false) : CallIs P w h₀ 0 (.builtin "divmod") [.int a, .int b] (.tup [.int (a.fdiv b), .int (a.fmod b)]) := fun A K s vs Q E hh hd hu hb hk hr hq => by
  obtain ⟨_, _, rfl, r, rr⟩ := hr.inv
  obtain ⟨_, _, rfl, r', rr⟩ := rr.inv
  obtain rfl := rr.inv; (first | obtain ⟨_, rfl⟩ := r.inv | obtain rfl := r.inv | cases r); (first | obtain ⟨_, rfl⟩ := r'.inv | obtain rfl := r'.inv | cases r')
  refine divmod_int hb0 ?_ (.inl hp)
  have st := Step.one (t := s.toks + 1 + 1) hk (fun c o e => Heap.get?_push_of_some { cls := .type "tuple", data := .seq #[.int (a.fdiv b) s.toks, .int (a.fmod b) (s.toks + 1)] } e) (none_of_size (Nat.le_refl _)) (Heap.get?_push_size s.heap (o := { cls := .type "tuple", data := .seq #[.int (a.fdiv b) s.toks, .int (a.fmod b) (s.toks + 1)] }) rfl)
  exact hq _ _ _ st (.tup (vs := [.int (a.fdiv b) s.toks, .int (a.fmod b) (s.toks + 1)]) (n := 0) (Know.put_same _ _ _) (.cons (.int _ _) (.one (.int _ _))))
end

section
variable {P : Program} {w : World} {h₀ : Heap} {A : Around} {c : Cx} {σ : Str → Option D} {pos p : Pos} {K : Know} {s : Shared} {mg mb : Str → Option Value}

theorem cmp_in_set {i : Int} {ns : List Int} {x : Bool} (hx : x = true ↔ i ∈ ns) : CmpIs P w A .In (.int i) (.set ns) x := fun K s v u Q E k r1 r2 hq => by
  obtain ⟨t, rfl⟩ := r1.inv
  obtain ⟨a, o, S, n, rfl, e, h1, h2, h3⟩ := r2.inv
  have hS : s.heap.SetOf (intKind P w) a S n := (h1 P w).setOf (k _ _ e) h2
  refine wpAny_inSet_of (k := i) (by simp [intKind, Value.isInt]) rfl hS ?_
  have e1 : S i = x := by rw [Bool.eq_iff_iff, h3, hx]
  rw [e1]
  exact hq _ _ (Step.toks k _)

theorem ev_gname {x : Str} {v : Value} {d : D} (N : Names h₀ mg mb) (hf : (mg x).or (mb x) = some v) (hr : Rep (fun a => h₀.get? a) v d)
    (hk : c.env.scope.kind = .function := by rfl) (hx : c.env.kindOf x = some .globalImplicit := by rfl) (hg : c.env.globals = mainGlobals := by rfl) (hb : c.env.builtins = builtinsNs := by rfl) (hd : (x == ("__debug__" : Str)) = false := by decide) :
    Ev P w h₀ A c σ (.Name x p) d := .mk fun K s Q E I hq =>
  gname N I hf (hq v K s (Step.refl I.kin) (hr.mono I.base)) hk hx hg hb hd

theorem strVals_at (k : Int) : ∀ {l : List (Int × Value)} {m : List (Int × Str)}, StrVals l m → (m.lookup k = none ∧ valueAt l k = none) ∨ ∃ x t, m.lookup k = some x ∧ valueAt l k = some (.str x t)
  | _, _, .nil => .inl ⟨rfl, rfl⟩
  | _, _, .cons (i := i) (x := x) (t := t) h => by
    by_cases q : k = i
    · subst q; exact .inr ⟨x, t, by simp, by simp [valueAt]⟩
    · have e1 : (k == i) = false := by simpa using q
      have e2 : (i = k) = False := eq_false fun e => q e.symm
      rcases strVals_at k h with ⟨a, b⟩ | ⟨y, u, a, b⟩
      · exact .inl ⟨by rw [List.lookup_cons, e1]; exact a, by simpa [valueAt, e2] using b⟩
      · exact .inr ⟨y, u, by rw [List.lookup_cons, e1]; exact a, by simpa [valueAt, e2] using b⟩
theorem strVals_keys : ∀ {l : List (Int × Value)} {m : List (Int × Str)}, StrVals l m → l.map (·.1) = m.map (·.1)
  | _, _, .nil => rfl
  | _, _, .cons h => by rw [List.map_cons, List.map_cons, strVals_keys h]

theorem dct_in {K : Know} {a : Addr} {kvs : List (Int × Str)} (kin : KIn K s.heap) (r : Rep K (.ref a) (.dct kvs)) (P : Program) (w : World) : ∃ l, s.heap.DictOf (intKind P w) a l ∧ StrVals l kvs ∧ (a == sysModules) = false := by
  obtain ⟨a', o, e0, e, h, hs⟩ := r.inv
  obtain rfl : a = a' := Value.ref.inj e0
  obtain ⟨l, h1, h2⟩ := h
  exact ⟨l, Heap.dictOf_iff.mpr ⟨_, kin _ _ e, h1 P w⟩, h2, hs⟩

/-- what «get» gives -/
noncomputable def got (kvs : List (Int × Str)) (k : Int) (dflt : D) : D := match kvs.lookup k with | some x => .str x | none => dflt
theorem ev_get1 {o e : Expr} {apos : Pos} {kvs : List (Int × Str)} {k : Int} (ho : Ev P w h₀ A c σ o (.dct kvs)) (h : Ev P w h₀ A c σ e (.int k))
    (hbase : attributeBase o ("get" : Str) c.env (eval o c.env) = eval o c.env := by rfl) (hline : (apos.endLine == pos.line) = true := by rfl) (htrees : backTo pos (starEach [e] c.env) = [(false, eval e c.env)] := by rfl) :
    Ev P w h₀ A c σ (.Call (.Attribute o ("get" : Str) apos) [e] [] pos) (got kvs k .none) := .mk fun K s Q E I hq =>
  wpAny_Call_method1_late hbase hline htrees (ho.run K s _ E I fun v K1 s1 st1 r1 => by
    obtain ⟨a, rfl⟩ : ∃ a, v = .ref a := by obtain ⟨_, _, rfl, _⟩ := r1.inv; exact ⟨_, rfl⟩
    obtain ⟨l, hd, hv, hs⟩ := dct_in st1.kin r1 P w
    refine ⟨"dict", "dict.get", F.plainAttrs_dict, F.slot_dict_get, F.type_dict_get, hd.typeIs, hd.mapOf.noDict, wpAny_dict_get1 (knd := intKind P w) hs (h.run K1 s1 _ E (I.step st1) fun u K2 s2 st2 r2 => ?_)⟩
    obtain ⟨t, rfl⟩ := r2.inv
    refine ⟨k, _, by simp [intKind, Value.isInt], (hd.keep st2.keep).mapOf, ?_⟩
    have st := (st1.trans st2).trans (Step.toks st2.kin (s2.toks + 1))
    unfold got at hq
    rcases strVals_at k hv with ⟨e1, e2⟩ | ⟨x, t', e1, e2⟩
    · rw [e2]; rw [e1] at hq; exact hq _ K2 _ st .none
    · rw [e2]; rw [e1] at hq; exact hq _ K2 _ st (.str _ _))
theorem ev_get2 {o e f : Expr} {apos : Pos} {kvs : List (Int × Str)} {k : Int} {d : D} (ho : Ev P w h₀ A c σ o (.dct kvs)) (h : Ev P w h₀ A c σ e (.int k)) (hf : Ev P w h₀ A c σ f d)
    (hbase : attributeBase o ("get" : Str) c.env (eval o c.env) = eval o c.env := by rfl) (hline : (apos.endLine == pos.line) = true := by rfl) (htrees : backTo pos (starEach [e, f] c.env) = [(false, eval e c.env), (false, eval f c.env)] := by rfl) :
    Ev P w h₀ A c σ (.Call (.Attribute o ("get" : Str) apos) [e, f] [] pos) (got kvs k d) := .mk fun K s Q E I hq =>
  wpAny_Call_method2_late hbase hline htrees (ho.run K s _ E I fun v K1 s1 st1 r1 => by
    obtain ⟨a, rfl⟩ : ∃ a, v = .ref a := by obtain ⟨_, _, rfl, _⟩ := r1.inv; exact ⟨_, rfl⟩
    obtain ⟨l, hd, hv, hs⟩ := dct_in st1.kin r1 P w
    refine ⟨"dict", "dict.get", F.plainAttrs_dict, F.slot_dict_get, F.type_dict_get, hd.typeIs, hd.mapOf.noDict, wpAny_dict_get2 (knd := intKind P w) hs (h.run K1 s1 _ E (I.step st1) fun u K2 s2 st2 r2 => hf.run K2 s2 _ E ((I.step st1).step st2) fun u' K3 s3 st3 r3 => ?_)⟩
    obtain ⟨t, rfl⟩ := r2.inv
    refine ⟨k, _, by simp [intKind, Value.isInt], (hd.keep fun b o e => st3.keep _ _ (st2.keep _ _ e)).mapOf, ?_⟩
    have st := ((st1.trans st2).trans st3).trans (Step.toks st3.kin (s3.toks + 1))
    unfold got at hq
    rcases strVals_at k hv with ⟨e1, e2⟩ | ⟨x, t', e1, e2⟩
    · rw [e2]; rw [e1] at hq; exact hq _ K3 _ st r3
    · rw [e2]; rw [e1] at hq; exact hq _ K3 _ st (.str _ _))

theorem callIs_listdict {kvs : List (Int × Str)} (hn : kvs.length ≤ sizeLine) : CallIs P w h₀ 0 (.type "list") [.dct kvs] (.lst (kvs.map fun x => .int x.1)) := fun A K s vs Q E hh hd hu hb hk hr hq => by
  obtain ⟨v, rfl, r⟩ := hr.inv1
  · obtain ⟨a, rfl⟩ : ∃ a, v = Value.ref a := by obtain ⟨_, _, rfl, _⟩ := r.inv; exact ⟨_, rfl⟩
    obtain ⟨l, hd', hv, hs⟩ := dct_in hk r P w
    obtain ⟨ep, hat⟩ := hd'.dictAt
    have hlen : l.length = kvs.length := by have := congrArg List.length (strVals_keys hv); simpa using this
    refine kdl_call (kdl_dict (kvs := l) (ep := ep) hs) hh hat (by omega) fun h' tk acc' c' hk' hg hit => ?_
    have st := Step.one (t := tk) hk hk' (none_of_size (Nat.le_refl _)) hg
    refine hq _ _ _ st (.lst (vs := acc'.toList) (n := c') (by rw [Array.toArray_toList]; exact Know.put_same _ _ _) ?_)
    have key : ∀ (ms : List Int) (acc : List Value), acc.length = ms.length → (∀ (j : Nat) (v : Value), acc[j]? = some v → ∃ k, ms[j]? = some k ∧ ∃ t, v = Value.int k t) → RepAll (K.put s.heap.objs.size (seqObj "list" acc' c')) acc (intsD ms) := by
      intro ms
      induction ms with
      | nil => intro acc h1 _; rw [List.length_eq_zero_iff.mp h1]; exact .nil
      | cons k ms ih =>
        intro acc h1 h2
        cases acc with
        | nil => simp at h1
        | cons v acc =>
          obtain ⟨k', e1, t, rfl⟩ := h2 0 v rfl
          cases e1
          exact .cons (.int _ _) (ih acc (by simpa using h1) fun j u hu => h2 (j + 1) u hu)
    have e2 : (kvs.map fun x => D.int x.1) = intsD (l.map (·.1)) := by rw [strVals_keys hv]; simp [intsD, List.map_map]
    rw [e2]
    refine key _ _ (by rw [Array.length_toList, hit.1, List.length_map]) fun j v hj => ?_
    rw [Array.getElem?_toList] at hj
    obtain ⟨k, x, e3, e4⟩ := hit.2 j v hj
    refine ⟨k, by rw [List.getElem?_map, e3]; rfl, ?_⟩
    obtain ⟨t, rfl⟩ := Value.isInt_shape e4
    exact ⟨t, rfl⟩

theorem ev_lower {o : Expr} {apos : Pos} {x : Str} (ho : Ev P w h₀ A c σ o (.str x)) (hx : x.length ≤ 5592405)
    (hbase : attributeBase o ("lower" : Str) c.env (eval o c.env) = eval o c.env := by rfl) (hline : (apos.endLine == pos.line) = true := by rfl) :
    Ev P w h₀ A c σ (.Call (.Attribute o ("lower" : Str) apos) [] [] pos) (.str (Txt.lower x)) := .mk fun K s Q E I hq =>
  Call_method0 hbase hline (ho.run K s _ E I fun v K1 s1 st1 r1 => by
    (first | obtain ⟨_, rfl⟩ := r1.inv | obtain rfl := r1.inv | cases r1)
    exact SB.lower (fit_lower hx) (hq _ K1 _ (st1.trans (Step.toks st1.kin _)) (.str _ _)))

theorem ev_index {o e : Expr} {apos : Pos} {ns : List Int} {k : Int} (ho : Ev P w h₀ A c σ o (.lst (intsD ns))) (h : Ev P w h₀ A c σ e (.int k)) (hk : k ∈ ns) (hlay : PyData.layable0 (.list (ns.map .int)) = true)
    (hbase : attributeBase o ("index" : Str) c.env (eval o c.env) = eval o c.env := by rfl) (hline : (apos.endLine == pos.line) = true := by rfl) (hs : starEach [e] c.env = [(false, eval e c.env)] := by rfl) :
    Ev P w h₀ A c σ (.Call (.Attribute o ("index" : Str) apos) [e] [] pos) (.int (ns.idxOf k : Nat)) := .mk fun K s Q E I hq =>
  Call_method1 hbase hs hline (ho.run K s _ E I fun v K1 s1 st1 r1 => by
    obtain ⟨a, vs, n, rfl, e1, r⟩ := r1.inv
    have hl := isListOf st1.kin e1
    refine ⟨"list", "list.index", F.plainAttrs_list, F.slot_list_index, F.type_list_index, hl.typeIs, fun b e => by cases e; exact ⟨_, st1.kin _ _ e1, rfl⟩, ?_⟩
    refine Calls.callWith_builtin rfl (Calls.evalArgs_plain (Calls.spliced_cons (h.run K1 s1 _ E (I.step st1) fun u K2 s2 st2 r2 => Calls.spliced_nil ?_)))
    (first | obtain ⟨_, rfl⟩ := r2.inv | obtain rfl := r2.inv | cases r2)
    exact index_list_ints (isListOf st2.kin (st2.mono _ _ e1)) (r.mono st2.mono).intsAre hlay hk (hq _ K2 _ ((st1.trans st2).trans (Step.toks st2.kin _)) (.int _ _)))
end


theorem bindL_other {kindOf : Str → Option NameKind} {x : Str} : ∀ {binds : List (Str × Value)} {m : Str → Option Value}, x ∉ binds.map (·.1) → bindL kindOf binds m x = m x
  | [], _, _ => rfl
  | (y, v) :: r, m, h => by
    rw [List.map_cons, List.mem_cons, not_or] at h
    rw [bindL, bindL_other h.2]
    split
    · exact if_neg h.1
    · rfl
theorem bindC_other {kindOf : Str → Option NameKind} {x : Str} : ∀ {binds : List (Str × Value)} {m : Str → Option Value}, x ∉ binds.map (·.1) → bindC kindOf binds m x = m x
  | [], _, _ => rfl
  | (y, v) :: r, m, h => by
    rw [List.map_cons, List.mem_cons, not_or] at h
    rw [bindC, bindC_other h.2]
    split
    · rfl
    · exact if_neg h.1
theorem bind_at {kindOf : Str → Option NameKind} {x : Str} {v : Value} : ∀ {binds : List (Str × Value)} {m m' : Str → Option Value}, (binds.map (·.1)).Nodup → binds.lookup x = some v → (kindOf x = some .local → bindL kindOf binds m x = some v) ∧ (kindOf x ≠ some .local → bindC kindOf binds m' x = some v)
  | [], _, _, _, h => by simp at h
  | (y, u) :: r, m, m', hn, h => by
    rw [List.map_cons, List.nodup_cons] at hn
    rw [List.lookup_cons] at h
    cases e : x == y with
    | true =>
      rw [e] at h; cases h
      have e' := beq_iff_eq.mp e
      subst e'
      refine ⟨fun hk => ?_, fun hk => ?_⟩
      · rw [bindL, bindL_other hn.1, if_pos hk]; simp
      · rw [bindC, bindC_other hn.1, if_neg hk]; simp
    | false => rw [e] at h; exact bind_at (binds := r) hn.2 h

section
variable {P : Program} {w : World} {h₀ : Heap}
/-- a def, entered; with cells -/
theorem callIs_defC {a : Addr} {o : Obj} {fd : FuncData} {body : List Stmt} {names : List Str} {ds : List D} {d : D} {n : Nat} (cells : Addr → List (Str × Addr)) (ho : h₀.get? a = some o) (hdata : o.data = .func fd) (hlim : h₀.NoLimit) (hcd : h₀.CodeRec fd.code fd.qualname)
    (hbody : fd.body = .stmts body) (hbind : ∀ vs : List Value, vs.length = ds.length → bindArgs fd ⟨vs, []⟩ = pure (names.zip vs)) (hnames : names.length = ds.length) (hnd : names.Nodup)
    (hcells : ∀ L : Addr, cellsFrom (L + 1) fd.scope.names [] = cells L) (hcn : ∀ L, ((cells L).map (·.1)).Nodup)
    (hloc : ∀ x ∈ names, fd.scope.names.lookup x = some .local ∨ (fd.scope.names.lookup x = some .cell ∧ ∀ L, ((cells L).lookup x).isSome = true)) (hcl : fd.closure = [])
    (hb : ∀ A L, Room A n → ∀ K s (Q : Flow → Shared → Prop) (E : Value → Shared → Prop), Inv h₀ ⟨callEnvC fd L a, L :: (cells L).map (·.2)⟩ (fun x => (names.zip ds).lookup x) K s →
      (∀ fl K' s', SStep ⟨callEnvC fd L a, L :: (cells L).map (·.2)⟩ K s K' s' ∨ (∃ c, c.env = callEnvC fd L a ∧ (∀ b ∈ c.turns, b ∈ L :: (cells L).map (·.2) ∨ s.heap.get? b = none) ∧ SStep c K s K' s') → KIn K' s'.heap → (∃ v, fl = .ret v ∧ Rep K' v d) → Q fl s') → wpAny (model P w) A (execs body (callEnvC fd L a)) Q E s)
    (hco : fd.scope.isCoroutine = false := by rfl) (hgen : fd.scope.isGenerator = false := by rfl) (hk : fd.scope.kind = .function := by rfl) : CallIs P w h₀ (n + 1) (.ref a) ds d := by
  intro A K s vs Q E hh hd hu hbase hkin hr hQ
  have here : ∀ b o, h₀.get? b = some o → s.heap.get? b = some o := fun b o e => hkin _ _ (hbase _ _ e)
  have hlen : vs.length = ds.length := hr.length
  have hmem : ∀ x ∈ names.zip vs, x.1 ∈ names := fun x hx => (List.of_mem_zip (a := x.1) (b := x.2) hx).1
  refine wpAny_call (codeAny_call_cells (binds := names.zip vs) (by have : recursionLimit = 1000 := rfl; omega) (here _ _ ho) hdata (hlim.keeps here) ?_ hbody (hbind vs hlen) hcl
    (fun x hx => (hloc x.1 (hmem x hx)).imp id fun h => ⟨h.1, by rw [hcells]; exact h.2 _⟩) (fun s₁ hx => ?_) hco hgen hk)
  · obtain ⟨c, o, vs, t, e1, e2, e3, e4⟩ := hcd; exact ⟨c, o, vs, t, e1, here _ _ e2, e3, e4⟩
  have hfst : (names.zip vs).map (·.1) = names := List.map_fst_zip (by omega)
  have hnew : ∀ b, s.heap.objs.size ≤ b → s.heap.get? b = none := fun b h => none_of_size h
  have hcs : (callEnvC fd s.heap.objs.size a).cells = cells s.heap.objs.size := hcells _
  have hmemL : ∀ b ∈ s.heap.objs.size :: (cells s.heap.objs.size).map (·.2), s.heap.objs.size ≤ b := fun b hb => by
    rcases List.mem_cons.mp hb with rfl | hb
    · exact Nat.le_refl _
    · obtain ⟨⟨x, c⟩, hm, rfl⟩ := List.mem_map.mp hb
      exact Nat.le_of_lt (hx.above x c (by rw [hcs]; exact hm))
  have Kn : ∀ b, s.heap.objs.size ≤ b → K b = none := fun b h => by
    cases e : K b with
    | none => rfl
    | some o => have := hkin _ _ e; rw [hnew b h] at this; cases this
  have look : ∀ x c, (x, c) ∈ cells s.heap.objs.size → (cells s.heap.objs.size).lookup x = some c := by
    have : ∀ (l : List (Str × Addr)) x c, (l.map (·.1)).Nodup → (x, c) ∈ l → l.lookup x = some c := by
      intro l
      induction l with
      | nil => intro x c _ h; cases h
      | cons y l ih =>
        intro x c hn h
        obtain ⟨y1, y2⟩ := y
        rw [List.map_cons, List.nodup_cons] at hn
        rcases List.mem_cons.mp h with e | hin
        · cases e; simp
        · have hne : (x == y1) = false := by
            rw [beq_eq_false_iff_ne]; intro q
            exact hn.1 (List.mem_map.mpr ⟨(x, c), hin, q⟩)
          rw [List.lookup_cons, hne]; exact ih x c hn.2 hin
    exact fun x c h => this _ x c (hcn _) h
  have I : Inv h₀ ⟨callEnvC fd s.heap.objs.size a, s.heap.objs.size :: (cells s.heap.objs.size).map (·.2)⟩ (fun x => (names.zip ds).lookup x) K s₁ := by
    refine ⟨hbase, fun b o e => hx.toInCall.keep _ _ (hkin _ _ e), fun b hb => Kn b (hmemL b hb), fun b hb => ?_, ⟨_, hx.toInCall.ns⟩, List.mem_cons_self, fun x c e => ?_, fun x y c e e' => ?_, fun x d' hl hp => ?_, fun x b es hl => ?_, fun x y b es _ hl _ => ?_⟩
    · rcases List.mem_cons.mp hb with rfl | hb
      · obtain ⟨o, _, _, h, _⟩ := hx.toInCall.ns; exact ⟨o, h⟩
      · obtain ⟨⟨x, c⟩, hm, rfl⟩ := List.mem_map.mp hb
        obtain ⟨o, h, _⟩ := hx.cell x c (by rw [hcs]; exact look x c hm)
        exact ⟨o, h⟩
    · exact ⟨_, hx.cell x c e⟩
    · exact name_of_addr hx.apart (mem_of_lookup e) (mem_of_lookup e')
    · obtain ⟨v, h1, h2, h3⟩ := zip_key hr hnames hl
      obtain ⟨b1, b2⟩ := bind_at (kindOf := (callEnvC fd s.heap.objs.size a).kindOf) (m := fun _ => none) (m' := fun _ => none) (by rw [hfst]; exact hnd) h1
      rcases hloc x h3 with hl' | ⟨hl', hc'⟩
      · exact ⟨v, .inl ⟨hl', _, hx.toInCall.ns, b1 hl'⟩, h2⟩
      · obtain ⟨c, hc⟩ := Option.isSome_iff_exists.mp (hc' s.heap.objs.size)
        have hkc : (callEnvC fd s.heap.objs.size a).kindOf x = some .cell := hl'
        obtain ⟨oc, ho1, ho2⟩ := hx.cell x c (by rw [hcs]; exact hc)
        exact ⟨v, .inr ⟨.inl hkc, c, oc, by rw [hcs]; exact hc, ho1, by rw [ho2, b2 (by rw [hkc]; decide)]⟩, h2⟩
    · obtain ⟨v, h1, h2, h3⟩ := zip_key hr hnames hl
      cases h2
    · obtain ⟨v, h1, h2, h3⟩ := zip_key hr hnames hl
      cases h2
  refine wpAny_mono (hb (A.deeper (callEnvC fd s.heap.objs.size a)) s.heap.objs.size ⟨hh, by show A.depth + 1 + n ≤ 600; omega, by show A.units + 3 + 10 * n ≤ 5000; omega⟩ K _ (fun fl s' => match fl with | .ret v => Q v s' | _ => False) (fun _ _ => False) I
    fun fl K' s' st k hv => ?_) (fun fl s' h => ?_) fun _ _ x => x.elim
  · obtain ⟨v, rfl, r⟩ := hv
    have fin : ∀ c : Cx, (∀ b ∈ c.turns, s.heap.objs.size ≤ b ∨ s₁.heap.get? b = none) → SStep c K s₁ K' s' → Q v s' := fun c ht st => by
      obtain ⟨hh', tt, rfl⟩ := st.same
      obtain ⟨h1, t1, e1⟩ := hx.toInCall.same
      refine hQ v K' _ ⟨st.mono, k, fun b o e => st.new _ _ (hx.toInCall.keep _ _ e), fun b o e => st.keep _ _ (fun q => ?_) (hx.toInCall.keep _ _ e), hh', tt, by rw [e1]⟩ r
      rcases ht b q with h | h
      · rw [hnew b h] at e; cases e
      · rw [hx.toInCall.keep _ _ e] at h; cases h
    rcases st with st | ⟨c, _, ht, st⟩
    · exact fin _ (fun b hb => .inl (hmemL b hb)) st
    · exact fin c (fun b hb => (ht b hb).imp (fun h => hmemL b h) id) st
  · cases fl <;> first | exact h.elim | exact h

end


noncomputable def stmtAt (k : Nat) : Stmt := PySem.Challenge.pw_kl0165_01.main.body.getD k (.Pass ⟨0, 0, 0, 0⟩)
/-- what stands in a statement -/
noncomputable def stOf : Stmt → Arguments × List Stmt × Scope × List Expr × Option Expr × Pos
  | .FunctionDef _ a b _ _ _ s _ _ p => (a, b, s, [], none, p)
  | .Assign t e p => (⟨[], [], none, [], [], none, []⟩, [], { kind := .function, names := [], isGenerator := false, isCoroutine := false }, t, some e, p)
  | .Return e p => (⟨[], [], none, [], [], none, []⟩, [], { kind := .function, names := [], isGenerator := false, isCoroutine := false }, [], e, p)
  | _ => (⟨[], [], none, [], [], none, []⟩, [], { kind := .function, names := [], isGenerator := false, isCoroutine := false }, [], none, ⟨0, 0, 0, 0⟩)
/-- what stands in an expression -/
noncomputable def exOf : Expr → List (Option Expr) × List Expr × Pos
  | .Dict ks vs p => (ks, vs, p)
  | .Name _ p => ([], [], p)
  | _ => ([], [], ⟨0, 0, 0, 0⟩)
noncomputable def tupC : Expr → Option (List Expr × Nat × Pos)
  | .Tuple es k p => some (es, k, p)
  | _ => none
noncomputable def intC : Expr → Option Int
  | .Constant (.int i) _ _ => some i
  | _ => none
noncomputable def valC : Expr → Option Str
  | .Constant (.str x) _ _ => some x
  | _ => none
noncomputable def argsOf (s : Stmt) : Arguments := (stOf s).1
noncomputable def bodyOf (s : Stmt) : List Stmt := (stOf s).2.1
noncomputable def scopeOf (s : Stmt) : Scope := (stOf s).2.2.1
noncomputable def stPos (s : Stmt) : Pos := (stOf s).2.2.2.2.2
noncomputable def retPos (s : Stmt) : Pos := stPos ((bodyOf s).headD s)
noncomputable def exprOf (s : Stmt) : Expr := ((stOf s).2.2.2.2.1.or ((bodyOf s).head?.bind fun r => (stOf r).2.2.2.2.1)).getD (.Tuple [] 0 ⟨0, 0, 0, 0⟩)
noncomputable def keysOf (s : Stmt) : List (Option Expr) := (exOf (exprOf s)).1
noncomputable def valsOf (s : Stmt) : List Expr := (exOf (exprOf s)).2.1
noncomputable def dictPos (s : Stmt) : Pos := (exOf (exprOf s)).2.2
noncomputable def namePos (s : Stmt) : Pos := (exOf ((stOf s).2.2.2.1.headD (exprOf s))).2.2
noncomputable def tupAt (s : Stmt) : List Expr × Nat × Pos := (tupC (exprOf s)).getD ([], 0, ⟨0, 0, 0, 0⟩)
noncomputable def tupElts (s : Stmt) : List Expr := (tupAt s).1
noncomputable def tupK (s : Stmt) : Nat := (tupAt s).2.1
noncomputable def tupPos (s : Stmt) : Pos := (tupAt s).2.2
noncomputable def intOf (e : Expr) : Int := (intC e).getD 0
noncomputable def keyC (k : Option Expr) : Option Int := k.bind intC
noncomputable def dctOf (s : Stmt) : List (Int × Str) := ((keysOf s).zip (valsOf s)).filterMap fun x => (keyC x.1).bind fun i => (valC x.2).map fun y => (i, y)
noncomputable def rowsOf (s : Stmt) : List (List Int) := (tupElts s).map fun e => ((tupC e).map fun x => x.1.map intOf).getD [intOf e]
theorem intC_some {e : Expr} {i : Int} (h : intC e = some i) : ∃ n p, e = .Constant (.int i) n p := by
  unfold intC at h
  split at h
  · cases h; exact ⟨_, _, rfl⟩
  · cases h
theorem valC_some {k : Expr} {i : Str} (h : valC k = some i) : ∃ n p, k = .Constant (.str i) n p := by
  unfold valC at h
  split at h
  · cases h; exact ⟨_, _, rfl⟩
  · cases h
theorem tupC_some {e : Expr} {x : List Expr × Nat × Pos} (h : tupC e = some x) : e = .Tuple x.1 x.2.1 x.2.2 := by
  unfold tupC at h
  split at h
  · cases h; rfl
  · cases h
noncomputable def b3D : List (Int × Str) := dctOf (stmtAt 3)
noncomputable def spellD : List (Int × Str) := dctOf (stmtAt 18)
noncomputable def runsN : List (List Int) := rowsOf (stmtAt 17)
noncomputable def holesN : List Int := (rowsOf (stmtAt 19)).flatten
noncomputable def runFrom (a : Int) (n : Nat) : List Int := (List.range n).map fun (k : Nat) => a + k
noncomputable def b1N : List Int := [173, 847, 6150, 6155, 6156, 6157, 8203, 8204, 8205, 8288, 65279] ++ runFrom 65024 16
noncomputable def c6N : List Int := runFrom 65529 5
noncomputable def c7N : List Int := runFrom 12272 12
noncomputable def c8N : List Int := [832, 833, 8206, 8207] ++ runFrom 8234 5 ++ runFrom 8298 6
noncomputable def c9N : List Int := [917505] ++ runFrom 917536 96
noncomputable def topD : List (Str × D) := [
  (("b1_set" : Str), .set b1N), (("in_table_b1" : Str), .fn (stmtAt 2)), (("b3_exceptions" : Str), .dct b3D), (("map_table_b3" : Str), .fn (stmtAt 4)), (("in_table_c4" : Str), .fn (stmtAt 5)),
  (("c6_set" : Str), .set c6N), (("in_table_c6" : Str), .fn (stmtAt 7)), (("c7_set" : Str), .set c7N), (("in_table_c7" : Str), .fn (stmtAt 9)), (("c8_set" : Str), .set c8N), (("in_table_c8" : Str), .fn (stmtAt 11)),
  (("c9_set" : Str), .set c9N), (("in_table_c9" : Str), .fn (stmtAt 13)), (("Int2AP" : Str), .fn (stmtAt 15)), (("_LAW_RUNS" : Str), .tup (runsN.map fun r => .tup (intsD r))), (("_LAW_SPELL" : Str), .fn (stmtAt 18)),
  (("_LAW_HOLES" : Str), .tup (intsD holesN)), (("_law_code" : Str), .fn (stmtAt 20)), (("_law_sum" : Str), .fn (stmtAt 21)), (("_law_due" : Str), .fn (stmtAt 22)), (("_law_told" : Str), .fn (stmtAt 23)),
  (("_law_read" : Str), .fn (stmtAt 24)), (("_law_plain" : Str), .fn (stmtAt 25)), (("_law_reading" : Str), .fn (stmtAt 26)), (("_law_struck" : Str), .fn (stmtAt 27)), (("law" : Str), .fn (stmtAt 28))]
noncomputable def biL : List (Str × Value) := [
  (("ord" : Str), .builtin "ord"), (("chr" : Str), .builtin "chr"), (("abs" : Str), .builtin "abs"), (("len" : Str), .builtin "len"), (("divmod" : Str), .builtin "divmod"), (("isinstance" : Str), .builtin "isinstance"),
  (("sum" : Str), .builtin "sum"), (("sorted" : Str), .builtin "sorted"), (("min" : Str), .builtin "min"), (("int" : Str), .type "int"), (("bytes" : Str), .type "bytes"), (("list" : Str), .type "list"), (("range" : Str), .type "range"),
  (("enumerate" : Str), .type "enumerate"), (("zip" : Str), .type "zip")]

structure Top (h₀ : Heap) (mg mb : Str → Option Value) : Prop where
  names : Names h₀ mg mb
  lim : h₀.NoLimit
  sys : ∃ o, h₀.get? sysModules = some o
  glob : ∀ x d, topD.lookup x = some d → ∃ v, mg x = some v ∧ Rep (fun a => h₀.get? a) v d
  blt : ∀ x v, biL.lookup x = some v → (mg x).or (mb x) = some v

noncomputable def frame (scope : Scope) (L : Addr) (q : Str) (a : Addr) (code : Value) : Env := newEnv scope L mainGlobals (cellsFrom (L + 1) scope.names []) q (some a) code none builtinsNs

section
variable (P : Program) (w : World) (h₀ : Heap) (mg mb : Str → Option Value)
noncomputable def Fn (x : Str) (n : Nat) (ds : List D) (d : D) : Prop := ∃ f, (mg x).or (mb x) = some f ∧ Callee h₀ f ∧ CallIs P w h₀ n f ds d
end
section
variable {P : Program} {w : World} {h₀ : Heap} {A : Around} {c : Cx} {σ : Str → Option D} {pos p : Pos} {mg mb : Str → Option Value}
theorem CallIs.le {n m : Nat} {f : Value} {ds : List D} {d : D} (h : CallIs P w h₀ n f ds d) (hn : n ≤ m) : CallIs P w h₀ m f ds d := fun A K s vs Q E hh hd hu => h A K s vs Q E hh (by omega) (by omega)
theorem Fn.le {x : Str} {n m : Nat} {ds : List D} {d : D} (h : Fn P w h₀ mg mb x n ds d) (hn : n ≤ m) : Fn P w h₀ mg mb x m ds d := let ⟨f, a, b, c⟩ := h; ⟨f, a, b, c.le hn⟩
theorem ev_fn {x : Str} {es : List Expr} {ds : List D} {d : D} {n m : Nat} (T : Top h₀ mg mb) (R : Room A m) (h : Fn P w h₀ mg mb x n ds d) (ha : EvL P w h₀ A c σ es ds) (hn : n ≤ m := by decide)
    (hs : starEach es c.env = es.map fun e => (false, eval e c.env) := by rfl)
    (hk : c.env.scope.kind = .function := by rfl) (hx : c.env.kindOf x = some .globalImplicit := by rfl) (hg : c.env.globals = mainGlobals := by rfl) (hb : c.env.builtins = builtinsNs := by rfl) (hd : (x == ("__debug__" : Str)) = false := by decide) :
    Ev P w h₀ A c σ (.Call (.Name x p) es [] pos) d := by
  obtain ⟨f, h1, h2, h3⟩ := h
  exact ev_call T.names R h1 h2 ha (h3.le hn) hs hk hx hg hb hd
theorem fn_b {x id : String} {ds : List D} {d : D} (T : Top h₀ mg mb) (h : CallIs P w h₀ 0 (.builtin id) ds d) (hx : biL.lookup (Str.ofString x) = some (.builtin id) := by rfl) : Fn P w h₀ mg mb (Str.ofString x) 0 ds d := ⟨_, T.blt _ _ hx, .builtin id, h⟩
theorem fn_t {x id : String} {ds : List D} {d : D} (T : Top h₀ mg mb) (h : CallIs P w h₀ 0 (.type id) ds d) (hx : biL.lookup (Str.ofString x) = some (.type id) := by rfl) : Fn P w h₀ mg mb (Str.ofString x) 0 ds d := ⟨_, T.blt _ _ hx, .type id, h⟩
/-- a global name of the top -/
theorem ev_top {x : Str} {d : D} (T : Top h₀ mg mb) (hx : topD.lookup x = some d := by rfl)
    (hk : c.env.scope.kind = .function := by rfl) (hkx : c.env.kindOf x = some .globalImplicit := by rfl) (hg : c.env.globals = mainGlobals := by rfl) (hb : c.env.builtins = builtinsNs := by rfl) (hd : (x == ("__debug__" : Str)) = false := by decide) :
    Ev P w h₀ A c σ (.Name x p) d := by
  obtain ⟨v, h1, h2⟩ := T.glob x d hx
  exact ev_gname T.names (by rw [h1]; rfl) h2 hk hkx hg hb hd
theorem ev_type {x : Str} {id : String} (T : Top h₀ mg mb) (hx : biL.lookup x = some (.type id) := by rfl)
    (hk : c.env.scope.kind = .function := by rfl) (hkx : c.env.kindOf x = some .globalImplicit := by rfl) (hg : c.env.globals = mainGlobals := by rfl) (hb : c.env.builtins = builtinsNs := by rfl) (hd : (x == ("__debug__" : Str)) = false := by decide) :
    Ev P w h₀ A c σ (.Name x p) (.typ id) := ev_gname T.names (T.blt _ _ hx) (.typ id) hk hkx hg hb hd

/-- entering a def of the top -/
theorem fn_raw {x nm : Str} {args : Arguments} {body : List Stmt} {ret : Option Expr} {scope : Scope} {ts : Option Scope} {bind : Str} {names : List Str} {ds : List D} {d : D} {n : Nat} (cells : Addr → List (Str × Addr)) (T : Top h₀ mg mb)
    (hx : topD.lookup x = some (.fn (.FunctionDef nm args body [] ret [] scope ts bind pos)))
    (hb : ∀ A L q a code, Room A n → ∀ K s (Q : Flow → Shared → Prop) (E : Value → Shared → Prop), Inv h₀ ⟨frame scope L q a code, L :: (cells L).map (·.2)⟩ (fun x => (names.zip ds).lookup x) K s →
      (∀ fl K' s', SStep ⟨frame scope L q a code, L :: (cells L).map (·.2)⟩ K s K' s' ∨ (∃ c, c.env = frame scope L q a code ∧ (∀ b ∈ c.turns, b ∈ L :: (cells L).map (·.2) ∨ s.heap.get? b = none) ∧ SStep c K s K' s') → KIn K' s'.heap → (∃ v, fl = .ret v ∧ Rep K' v d) → Q fl s') → wpAny (model P w) A (execs body (frame scope L q a code)) Q E s)
    (hbind : ∀ (name qn : Str) (fb : FuncBody) (doc pm ct code : Value) (ann : Option Addr) (vs : List Value), vs.length = ds.length → bindArgs ⟨name, qn, args, fb, scope, mainGlobals, [], .none, .none, doc, pm, ann, code, ct, builtinsNs⟩ ⟨vs, []⟩ = pure (names.zip vs))
    (hnames : names.length = ds.length := by rfl) (hnd : names.Nodup := by decide)
    (hcells : ∀ L : Addr, cellsFrom (L + 1) scope.names [] = cells L := by intro _; rfl) (hcn : ∀ L, ((cells L).map (·.1)).Nodup := by intro _; first | decide | simp)
    (hloc : ∀ x ∈ names, scope.names.lookup x = some .local ∨ (scope.names.lookup x = some .cell ∧ ∀ L, ((cells L).lookup x).isSome = true))
    (hco : scope.isCoroutine = false := by rfl) (hgen : scope.isGenerator = false := by rfl) (hk : scope.kind = .function := by rfl) : Fn P w h₀ mg mb x (n + 1) ds d := by
  obtain ⟨v, h1, h2⟩ := T.glob x _ hx
  cases h2 with
  | @fn a o fd _ ho hdata hf =>
    obtain ⟨b1, b2, b3, b4, b5, b6, cc, oc, vs, t, e1, e2, e3, e4, e5, e6, e7, e8, e9, e10, e11⟩ := hf
    obtain ⟨f1, f2, f3, f4, f5, f6, f7, f8, f9, f10, f11, f12, f13, f14, f15⟩ := fd
    simp only at e1 e2 e3 e4 e5 e6 e7 e8 e11
    injection e1 with g1 g2 g3 g4 g5 g6 g7 g8 g9 g10
    subst g2 g3 g7 e2 e3 e4 e5 e6 e7 e8
    refine ⟨.ref a, by rw [h1]; rfl, .fn ho hdata, ?_⟩
    exact callIs_defC cells ho hdata T.lim ⟨cc, oc, vs, t, rfl, e9, e10, e11⟩ rfl (hbind _ _ _ _ _ _ _ _) hnames hnd hcells hcn hloc rfl (fun A L R => hb A L _ _ _ R) hco hgen hk
theorem fn_def {x nm : Str} {args : Arguments} {body : List Stmt} {ret : Option Expr} {scope : Scope} {ts : Option Scope} {bind : Str} {names : List Str} {ds : List D} {d : D} {n : Nat} (cells : Addr → List (Str × Addr)) (T : Top h₀ mg mb)
    (hx : topD.lookup x = some (.fn (.FunctionDef nm args body [] ret [] scope ts bind pos)))
    (hb : ∀ A L q a code, Room A n → Xs P w h₀ A ⟨frame scope L q a code, L :: (cells L).map (·.2)⟩ (fun x => (names.zip ds).lookup x) body (fun o => o = .ret d))
    (hbind : ∀ (name qn : Str) (fb : FuncBody) (doc pm ct code : Value) (ann : Option Addr) (vs : List Value), vs.length = ds.length → bindArgs ⟨name, qn, args, fb, scope, mainGlobals, [], .none, .none, doc, pm, ann, code, ct, builtinsNs⟩ ⟨vs, []⟩ = pure (names.zip vs))
    (hnames : names.length = ds.length := by rfl) (hnd : names.Nodup := by decide)
    (hcells : ∀ L : Addr, cellsFrom (L + 1) scope.names [] = cells L := by intro _; rfl) (hcn : ∀ L, ((cells L).map (·.1)).Nodup := by intro _; first | decide | simp)
    (hloc : ∀ x ∈ names, scope.names.lookup x = some .local ∨ (scope.names.lookup x = some .cell ∧ ∀ L, ((cells L).lookup x).isSome = true))
    (hco : scope.isCoroutine = false := by rfl) (hgen : scope.isGenerator = false := by rfl) (hk : scope.kind = .function := by rfl) : Fn P w h₀ mg mb x (n + 1) ds d :=
  fn_raw cells T hx (fun A L q a code R K s Q E I hQ => (hb A L q a code R).run K s Q E I fun fl K' s' o st ho oi => by
    subst ho
    obtain ⟨k, v, rfl, r⟩ := oi
    exact hQ _ K' s' (.inl st) k ⟨v, rfl, r⟩) hbind hnames hnd hcells hcn hloc hco hgen hk

end

section
variable {P : Program} {w : World} {h₀ : Heap} {A : Around} {c : Cx} {σ : Str → Option D} {Φ : Out → Prop} {pos p : Pos} {K : Know} {s : Shared} {e : Expr}
theorem evt_int {i : Int} (h : Ev P w h₀ A c σ e (.int i)) (hp : ∀ whole, isTrue e c.env whole = (do let v ← whole; standAt e.pos; holding [v] (truthy v)) := by intro _; rfl) : EvT P w h₀ A c σ e (i != 0) := .mk fun K s Q E I hq =>
  isTrue_plain (h.run K s _ E I fun v K1 s1 st1 r1 => by (first | obtain ⟨_, rfl⟩ := r1.inv | obtain rfl := r1.inv | cases r1); exact PyProof.Rows.truthy_int (hq _ _ st1)) (hp _)
theorem evt_not {b : Bool} (h : EvT P w h₀ A c σ e b) : EvT P w h₀ A c σ (.UnaryOp .Not e pos) (!b) := .mk fun K s Q E I hq => isTrue_not (h.run K s _ E I hq)

theorem tup_of {b : Bool} {K : Know} {h : Heap} {v : Value} {ds : List D} (kin : KIn K h) (r : Rep K v (.tup ds)) : ∃ T vals, v = .ref T ∧ h.IsTuple T vals ∧ IsTup h T vals ∧ RepAll K vals.toList ds := by
  obtain ⟨_, _, _, rfl, e, r⟩ := r.inv
  exact ⟨_, _, rfl, ⟨_, kin _ _ e, rfl, _, rfl⟩, ⟨_, kin _ _ e, rfl, _, rfl⟩, r⟩

/-- a tuple's items go to names -/
theorem x_asgt {xs : List (Str × Pos)} {ds : List D} {k : Nat} (hh : A.handled = none) (h : Ev P w h₀ A c σ e (.tup ds)) (hΦ : Φ (.next (putAll σ (xs.map (·.1)) ds))) (hl : xs.length = ds.length := by rfl)
    (hx : ∀ x ∈ xs, Stores c x.1) (he : assignEach (xs.map fun x => .Name x.1 x.2) c.env = xs.map fun x => (false, assign (.Name x.1 x.2) c.env) := by rfl)
    (hs : swapsWithSole [.Tuple (xs.map fun x => .Name x.1 x.2) k p] e pos.line c.env = pure false := by rfl) (hw : swappedStores [.Tuple (xs.map fun x => .Name x.1 x.2) k p] e c.env = pure none := by rfl) :
    X1 P w h₀ A c σ (.Assign [.Tuple (xs.map fun x => .Name x.1 x.2) k p] e pos) Φ := .mk fun K s Q E I hq =>
  Assign_Tuple (h.run K s _ E I fun v K1 s1 st1 r1 => (asg_tuple (b := true) hh hl hx he).run K1 s1 v _ E (I.step st1) (.inl r1) fun s2 st2 I2 => hq _ _ _ _ ((SStep.of st1).trans st2) hΦ ⟨rfl, I2⟩) hs hw

theorem bindAll {Q : Unit → Shared → Prop} {E : Value → Shared → Prop} (xs : List Str) : ∀ (vs : List Value) (ds : List D) (σ : Str → Option D) (s : Shared), xs.length = ds.length → (∀ x ∈ xs, Stores c x) → Inv h₀ c σ K s → RepAll K vs ds →
    (∀ s', SStep c K s K s' → Inv h₀ c (putAll σ xs ds) K s' → Q () s') → wpAny (model P w) A (assignInOrder (xs.map fun n => bindName c.env n) vs) Q E s := by
  induction xs with
  | nil =>
    intro vs ds σ s hl hx I hr hQ
    cases ds with
    | nil => cases hr; exact wpAny_pure (hQ s SStep.refl I)
    | cons => simp at hl
  | cons x xs ih =>
    intro vs ds σ s hl hx I hr hQ
    cases ds with
    | nil => simp at hl
    | cons d ds =>
      obtain ⟨_, _, rfl, r, rr⟩ := hr.inv
      refine wpAny_bind (wpAny_holding (wpAny_bindName (store I r (hx x List.mem_cons_self) fun s1 st1 I1 => ?_)))
      exact ih _ ds _ s1 (by simpa using hl) (fun y hy => hx y (List.mem_cons_of_mem _ hy)) I1 rr fun s2 st2 I2 => hQ s2 (st1.trans st2) I2
theorem x_swap {elts : List Expr} {names : List Str} {ds : List D} {k : Nat} (hh : A.handled = none) (h : Ev P w h₀ A c σ e (.tup ds)) (hΦ : Φ (.next (putAll σ names.reverse ds.reverse))) (hl : names.length = ds.length := by rfl)
    (hx : ∀ x ∈ names, Stores c x)
    (hs : swapsWithSole [.Tuple elts k p] e pos.line c.env = pure false := by rfl) (hw : swappedStores [.Tuple elts k p] e c.env = pure (some names) := by rfl) :
    X1 P w h₀ A c σ (.Assign [.Tuple elts k p] e pos) Φ := .mk fun K s Q E I hq =>
  Assign_Tuple_swapped (h.run K s _ E I fun v K1 s1 st1 r1 => by
    obtain ⟨T, vals, rfl, _, hT, hr⟩ := tup_of (b := true) st1.kin r1
    have hlen : names.length = vals.size := by rw [hl, ← hr.length, Array.length_toList]
    rw [hlen]
    refine unpackItems_tuple hh hT fun h' hk' => ?_
    have st : Step K1 s1 K1 { s1 with heap := h', toks := s1.toks } := Step.grow st1.kin fun b o e => hk' b o (Nat.ne_of_lt (Heap.lt_size e)) e
    exact bindAll names.reverse vals.toList.reverse ds.reverse σ _ (by simpa using hl) (fun x hm => hx x (List.mem_reverse.mp hm)) (I.step (st1.trans st)) hr.reverse fun s2 st2 I2 => hq _ _ _ _ ((SStep.of (st1.trans st)).trans st2) hΦ ⟨rfl, I2⟩) hs hw
end

/-- a store of the names that a comprehension takes from around it -/
noncomputable def only (σ : Str → Option D) (caps : List Str) : Str → Option D := fun x => if x ∈ caps then (σ x).filter D.plain else none
theorem only_some {σ : Str → Option D} {caps : List Str} {x : Str} {d : D} (h : only σ caps x = some d) : x ∈ caps ∧ d.plain = true ∧ σ x = some d := by
  unfold only at h
  split at h
  · obtain ⟨h1, h2⟩ := Option.filter_eq_some_iff.mp h
    exact ⟨‹_›, h2, h1⟩
  · cases h
section
variable {P : Program} {w : World} {h₀ : Heap} {A : Around} {c : Cx} {σ : Str → Option D} {Φ : Out → Prop} {pos p : Pos}

theorem comp_ok {scope : Scope} (caps : List Str) (cl : List (Str × Addr)) (clo : closureFor scope c.env = pure cl := by rfl) (kind : scope.kind = .function := by rfl) (cell : (scope.names.all fun x => decide (x.2 ≠ .cell)) = true := by rfl)
    (names : (scope.names.all fun x => decide (x.2 = .local → (ownScope scope c.env).names.lookup x.1 = some .local)) = true := by rfl) (cells : ∀ x ∈ cl, c.env.cells.lookup x.1 = some x.2 := by intro x hx; first | (cases hx; done) | (simp only [List.mem_cons, List.not_mem_nil, or_false] at hx; subst hx; rfl))
    (vars : ∀ x ∈ caps, c.env.kindOf x = some .cell ∧ (ownScope scope c.env).names.lookup x = some .cell ∧ ∃ a, cl.lookup x = some a := by intro x hx; first | (cases hx; done) | (simp only [List.mem_cons, List.not_mem_nil, or_false] at hx; subst hx; exact ⟨rfl, rfl, _, rfl⟩)) : CompOk c scope cl σ (only σ caps) where
  clo := clo
  kind := kind
  cell := fun x hx => of_decide_eq_true (List.all_eq_true.mp cell x hx)
  names := fun x hx => of_decide_eq_true (List.all_eq_true.mp names x hx)
  cells := fun x a e => cells _ (mem_of_lookup e)
  vars := fun x d e => by
    obtain ⟨h1, h2, h3⟩ := only_some e
    exact ⟨h2, h3, vars x h1⟩

theorem turn_name {x : Str} {elt : Expr} {ifs : List Expr} {σ : Str → Option D} {d : D} {r : Option D} (hx : σ x = none) (hs : Stores c x) (h1 : Tst P w h₀ A c (put σ x d) ifs r.isSome) (h2 : ∀ e, r = some e → Ev P w h₀ A c (put σ x d) elt e) :
    Turn P w h₀ A c true σ (.Name x p) elt ifs d r :=
  ⟨put σ x d, fun y d' e => by unfold put; rw [if_neg (fun q => by subst q; rw [hx] at e; cases e)]; exact e, asg_name hs, h1, h2⟩
theorem tst_one {t : Expr} {r : Bool} (h : EvT P w h₀ A c σ t r) : Tst P w h₀ A c σ [t] r := .inr ⟨t, rfl, h⟩
theorem tst_nil {r : Bool} (h : r = true := by rfl) : Tst P w h₀ A c σ [] r := .inl ⟨rfl, h⟩

/-- the frame of a comprehension -/
noncomputable def inner (c : Cx) (scope : Scope) (cl : List (Str × Addr)) (C : Addr) : Cx := ⟨compEnvOf scope c.env cl C, [C]⟩

/-- a comprehension over a plain name -/
theorem ev_compN {x : Str} {elt iter : Expr} {ifs : List Expr} {scope : Scope} {ds : List D} (caps : List Str) (cl : List (Str × Addr)) (f : D → Option D) (hi : EvI P w h₀ A c σ true (.Name x p) iter ds)
    (ok : CompOk c scope cl σ (only σ caps))
    (h : ∀ (C : Addr) (i : Nat) (d : D), ds[i]? = some d → Tst P w h₀ A (inner c scope cl C) (put (only σ caps) x d) ifs (f d).isSome ∧ ∀ e, f d = some e → Ev P w h₀ A (inner c scope cl C) (put (only σ caps) x d) elt e)
    (hsz : ds.length ≤ sizeLine) (hx : x ∉ caps := by decide) (hs : ∀ C, Stores (inner c scope cl C) x := by intro _; exact .inl ⟨rfl, rfl⟩) (hf : ∀ x, foldedSetIterable iter c.env x = pure x := by intro _; rfl) :
    Ev P w h₀ A c σ (.ListComp elt [⟨.Name x p, iter, ifs, 0⟩] scope pos) (.lst (ds.filterMap f)) :=
  ev_comp f ok hi (fun C i d hd => turn_name (if_neg hx) (hs C) (h C i d hd).1 (h C i d hd).2) hsz hf
theorem x_compN {x y : Str} {py pc : Pos} {elt iter : Expr} {ifs : List Expr} {scope : Scope} {ds : List D} (caps : List Str) (cl : List (Str × Addr)) (f : D → Option D) (hi : EvI P w h₀ A c σ true (.Name x p) iter ds)
    (ok : CompOk c scope cl σ (only σ caps))
    (h : ∀ (C : Addr) (i : Nat) (d : D), ds[i]? = some d → Tst P w h₀ A (inner c scope cl C) (put (only σ caps) x d) ifs (f d).isSome ∧ ∀ e, f d = some e → Ev P w h₀ A (inner c scope cl C) (put (only σ caps) x d) elt e)
    (hsz : ds.length ≤ sizeLine) (hΦ : Φ (.next (put σ y (.lst (ds.filterMap f))))) (hx : x ∉ caps := by decide) (hs : ∀ C, Stores (inner c scope cl C) x := by intro _; exact .inl ⟨rfl, rfl⟩)
    (hy : Stores c y := by first | exact .inl ⟨rfl, rfl⟩ | exact .inr ⟨rfl, rfl, _, rfl, by simp⟩)
    (hsw : swapsWith (.ListComp elt [⟨.Name x p, iter, ifs, 0⟩] scope pc) (some (.Name y py)) pos.line c.env = pure true := by rfl) (hf : ∀ x, foldedSetIterable iter c.env x = pure x := by intro _; rfl) :
    X1 P w h₀ A c σ (.Assign [.Name y py] (.ListComp elt [⟨.Name x p, iter, ifs, 0⟩] scope pc) pos) Φ :=
  x_comp f ok hi (fun C i d hd => turn_name (if_neg hx) (hs C) (h C i d hd).1 (h C i d hd).2) hsz hΦ hy hsw hf
/-- over a tuple of names -/
theorem turn_tup {b : Bool} {xs : List (Str × Pos)} {k : Nat} {elt : Expr} {ifs : List Expr} {σ : Str → Option D} {ds : List D} {r : Option D} (hh : A.handled = none) (hl : xs.length = ds.length) (hx : ∀ x ∈ xs, σ x.1 = none) (hs : ∀ x ∈ xs, Stores c x.1)
    (he : assignEach (xs.map fun x => .Name x.1 x.2) c.env = xs.map fun x => (false, assign (.Name x.1 x.2) c.env)) (h1 : Tst P w h₀ A c (putAll σ (xs.map (·.1)) ds) ifs r.isSome) (h2 : ∀ e, r = some e → Ev P w h₀ A c (putAll σ (xs.map (·.1)) ds) elt e) :
    Turn P w h₀ A c b σ (.Tuple (xs.map fun x => .Name x.1 x.2) k p) elt ifs (.tup ds) r := by
  refine ⟨_, fun y d' e => ?_, asg_tuple hh hl hs he, h1, h2⟩
  have key : ∀ (ys : List Str) (es : List D) (τ : Str → Option D), y ∉ ys → putAll τ ys es y = τ y := by
    intro ys
    induction ys with
    | nil => intro es τ _; cases es <;> rfl
    | cons z ys ih =>
      intro es τ hn
      rw [List.mem_cons, not_or] at hn
      cases es with
      | nil => rfl
      | cons d es => rw [putAll, ih es _ hn.2]; exact if_neg hn.1
  rw [key _ _ _ fun hm => by
    obtain ⟨z, hz, rfl⟩ := List.mem_map.mp hm
    rw [hx z hz] at e; cases e]
  exact e
end

noncomputable def flushR (run : List (Sem Value × Sem Value)) (main : Option Addr) : Sem (Option Addr) := do
    if run.isEmpty then return main
    match main with
    | none => return some (← subDict run)
    | some d =>
      let sub ← holding [.ref d] (subDict run)
      (holding [.ref d, .ref sub] (mergeMapping d (.ref sub) false)).onRaise fun x => do let _ ← holding [.ref d, x] (runValue (.builtin "proto.let_go" {}))
      return some d
noncomputable def bodyR (p : Sem Value × Sem Value) (st : Option Addr × List (Sem Value × Sem Value)) : Sem (ForInStep (Option Addr × List (Sem Value × Sem Value))) :=
  if (st.2 ++ [p]).length == 17 then do
    let m ← flushR (st.2 ++ [p]) st.1
    pure (.yield (m, []))
  else pure (.yield (st.1, st.2 ++ [p]))
theorem dictDisplay_eq (ps : List (Sem Value × Sem Value)) : dictDisplay (ps.map fun p => (some p.1, p.2)) = (do
    let r ← forIn ps ((none : Option Addr), ([] : List (Sem Value × Sem Value))) bodyR
    match ← flushR r.2 r.1 with
    | some d => pure (.ref d)
    | none => newDict) := by
  unfold dictDisplay
  dsimp only
  have : ∀ (st : Option Addr × List (Sem Value × Sem Value)) (f : (Option (Sem Value) × Sem Value) → (Option Addr × List (Sem Value × Sem Value)) → Sem (ForInStep (Option Addr × List (Sem Value × Sem Value)))), (∀ p st, f (some p.1, p.2) st = bodyR p st) → forIn (ps.map fun p => (some p.1, p.2)) st f = forIn ps st bodyR := by
    induction ps with
    | nil => intro st f hf; rfl
    | cons p ps ih =>
      intro st f hf
      rw [List.map_cons, List.forIn_cons, List.forIn_cons, hf]
      congr 1
      funext r
      cases r with
      | done b => rfl
      | yield b => exact ih b f hf
  rw [this _ _ fun p st => ?_]
  · rfl
  · unfold bodyR
    rfl

/-- a pair of trees that give an int and a text -/
noncomputable def GoodP (P : Program) (w : World) (p : Sem Value × Sem Value) (y : Int × Str) : Prop :=
  (∀ (A : Around) (E : Value → Shared → Prop) (s : Shared) (Q : Value → Shared → Prop), (∀ t tk, Q (.int y.1 t) { s with toks := tk }) → wpAny (model P w) A p.1 Q E s) ∧
  (∀ (A : Around) (E : Value → Shared → Prop) (s : Shared) (Q : Value → Shared → Prop), (∀ t tk, Q (.str y.2 t) { s with toks := tk }) → wpAny (model P w) A p.2 Q E s)
inductive GoodPs (P : Program) (w : World) : List (Sem Value × Sem Value) → List (Int × Str) → Prop
  | nil : GoodPs P w [] []
  | cons {p : Sem Value × Sem Value} {y : Int × Str} {ps : List (Sem Value × Sem Value)} {ys : List (Int × Str)} : GoodP P w p y → GoodPs P w ps ys → GoodPs P w (p :: ps) (y :: ys)
inductive VPairs : List (Value × Value) → List (Int × Str) → Prop
  | nil : VPairs [] []
  | cons {i : Int} {x : Str} {t u : Tok} {vs : List (Value × Value)} {ys : List (Int × Str)} : VPairs vs ys → VPairs ((.int i t, .str x u) :: vs) ((i, x) :: ys)
theorem GoodPs.append {P : Program} {w : World} : ∀ {ps qs : List (Sem Value × Sem Value)} {ys zs : List (Int × Str)}, GoodPs P w ps ys → GoodPs P w qs zs → GoodPs P w (ps ++ qs) (ys ++ zs)
  | _, _, _, _, .nil, h => h
  | _, _, _, _, .cons a r, h => .cons a (r.append h)
noncomputable def HasD (P : Program) (w : World) (h : Heap) (d : Addr) (kvs : List (Int × Str)) : Prop := ∃ l, h.DictOf (intKind P w) d l ∧ StrVals l kvs
theorem StrVals.append : ∀ {l m : List (Int × Value)} {ys zs : List (Int × Str)}, StrVals l ys → StrVals m zs → StrVals (l ++ m) (ys ++ zs)
  | _, _, _, _, .nil, h => h
  | _, _, _, _, .cons r, h => .cons (r.append h)
section
variable {P : Program} {w : World} {A : Around} {E : Value → Shared → Prop}

theorem not_keys {l : List (Int × Value)} {ys : List (Int × Str)} {i : Int} (h : StrVals l ys) (hi : i ∉ ys.map (·.1)) : i ∉ l.map (·.1) := by rw [strVals_keys h]; exact hi
theorem stored_new {l : List (Int × Value)} {i : Int} {v : Value} (h : i ∉ l.map (·.1)) : stored l i v = l ++ [(i, v)] := by
  rw [stored, if_neg]
  rw [List.any_eq_true]; rintro ⟨kv, hkv, he⟩
  exact h (List.mem_map.mpr ⟨kv, hkv, of_decide_eq_true he⟩)
theorem set_one {s : Shared} {d : Addr} {ys : List (Int × Str)} {i : Int} {x : Str} {t u : Tok} {Q : Unit → Shared → Prop} (h : HasD P w s.heap d ys) (hi : i ∉ ys.map (·.1)) (hsz : ys.length ≤ sizeLine)
    (hQ : ∀ h', HasD P w h' d (ys ++ [(i, x)]) → Heap.SameBut d s.heap h' → Q () { s with heap := h', toks := s.toks + 1 }) : wpAny (model P w) A (dictSet d (.int i t) (.str x u)) Q E s := by
  obtain ⟨l, hd, hv⟩ := h
  have hlen : l.length = ys.length := by have := congrArg List.length (strVals_keys hv); simpa using this
  refine wpAny_dictSet_pairs (knd := intKind P w) (k := i) (by simp [intKind, Value.isInt]) hd (fun h' hd' hs => hQ h' ⟨_, by rw [stored_new (not_keys hv hi)] at hd'; exact hd', hv.append (.cons .nil)⟩ hs) (by omega)

theorem pairs_wp : ∀ {ps : List (Sem Value × Sem Value)} {ys : List (Int × Str)} (s : Shared) (Q : List (Value × Value) → Shared → Prop), GoodPs P w ps ys → (∀ vs tk, VPairs vs ys → Q vs { s with toks := tk }) → wpAny (model P w) A (evalPairs ps) Q E s
  | _, _, s, Q, .nil, hQ => evalPairs_nil (hQ [] s.toks .nil)
  | _, _, s, Q, .cons (p := (k, v)) (y := (i, x)) g r, hQ => evalPairs_cons (g.1 A E s _ fun t tk => g.2 A E _ _ fun u tk' => pairs_wp _ _ r fun vs tk'' hv => hQ _ tk'' (.cons hv))

theorem store_wp {d : Addr} : ∀ {vs : List (Value × Value)} {ys : List (Int × Str)} (done : List (Int × Str)) (s : Shared) (Q : PUnit → Shared → Prop), VPairs vs ys → HasD P w s.heap d done → ((done ++ ys).map (·.1)).Nodup → (done ++ ys).length ≤ sizeLine →
    (∀ h' tk, HasD P w h' d (done ++ ys) → Heap.SameBut d s.heap h' → Q ⟨⟩ { s with heap := h', toks := tk }) →
    wpAny (model P w) A (forIn vs PUnit.unit fun (x : Value × Value) (_ : PUnit) => (do dictSet d x.1 x.2; pure (ForInStep.yield PUnit.unit) : Sem (ForInStep PUnit))) Q E s
  | _, _, done, s, Q, .nil, hd, hn, hz, hQ => by rw [List.forIn_nil]; exact wpAny_pure (by simpa using hQ s.heap s.toks (by simpa using hd) (Heap.SameBut.refl _ _))
  | _, _, done, s, Q, .cons (i := i) (x := x) (ys := ys) r, hd, hn, hz, hQ => by
    rw [List.forIn_cons]
    have e : done ++ (i, x) :: ys = (done ++ [(i, x)]) ++ ys := by simp
    have hi : i ∉ done.map (·.1) := by
      rw [List.map_append, List.map_cons, List.nodup_append] at hn
      exact fun hm => hn.2.2 i hm i List.mem_cons_self rfl
    refine wpAny_bind (wpAny_bind (set_one hd hi (by rw [List.length_append] at hz; omega) fun h' hd' hs => wpAny_pure ?_))
    rw [e] at hn hz hQ
    exact store_wp (done ++ [(i, x)]) _ Q r hd' hn hz fun h'' tk hd'' hs' => hQ h'' tk hd'' (hs.trans hs')
theorem long_wp {d : Addr} : ∀ {ps : List (Sem Value × Sem Value)} {ys : List (Int × Str)} (done : List (Int × Str)) (s : Shared) (Q : PUnit → Shared → Prop), GoodPs P w ps ys → HasD P w s.heap d done → ((done ++ ys).map (·.1)).Nodup → (done ++ ys).length ≤ sizeLine →
    (∀ h' tk, HasD P w h' d (done ++ ys) → Heap.SameBut d s.heap h' → Q ⟨⟩ { s with heap := h', toks := tk }) →
    wpAny (model P w) A (forIn ps PUnit.unit fun (x : Sem Value × Sem Value) (_ : PUnit) => (do
        let kv ← x.1
        let vv ← holding [kv] x.2
        holding [kv, vv] (dictSet d kv vv)
        pure (ForInStep.yield PUnit.unit) : Sem (ForInStep PUnit))) Q E s
  | _, _, done, s, Q, .nil, hd, hn, hz, hQ => by rw [List.forIn_nil]; exact wpAny_pure (by simpa using hQ s.heap s.toks (by simpa using hd) (Heap.SameBut.refl _ _))
  | _, _, done, s, Q, .cons (p := p) (y := (i, x)) (ys := ys) g r, hd, hn, hz, hQ => by
    rw [List.forIn_cons]
    have e : done ++ (i, x) :: ys = (done ++ [(i, x)]) ++ ys := by simp
    have hi : i ∉ done.map (·.1) := by
      rw [List.map_append, List.map_cons, List.nodup_append] at hn
      exact fun hm => hn.2.2 i hm i List.mem_cons_self rfl
    refine wpAny_bind (wpAny_bind (g.1 A E s _ fun t tk => wpAny_bind (wpAny_holding (g.2 A E _ _ fun u tk' => wpAny_bind (wpAny_holding (set_one (s := { s with toks := tk' }) hd hi (by rw [List.length_append] at hz; omega) fun h' hd' hs => wpAny_pure ?_))))))
    rw [e] at hn hz hQ
    exact long_wp (done ++ [(i, x)]) _ Q r hd' hn hz fun h'' tk hd'' hs' => hQ h'' tk hd'' (hs.trans hs')

theorem subDict_wp {ps : List (Sem Value × Sem Value)} {ys : List (Int × Str)} {s : Shared} {Q : Addr → Shared → Prop} (g : GoodPs P w ps ys) (hn : (ys.map (·.1)).Nodup) (hz : ys.length ≤ sizeLine)
    (hQ : ∀ h' tk, HasD P w h' s.heap.objs.size ys → (∀ b o, s.heap.get? b = some o → h'.get? b = some o) → Q s.heap.objs.size { s with heap := h', toks := tk }) : wpAny (model P w) A (subDict ps) Q E s := by
  unfold subDict
  have h0 : HasD P w (s.heap.push { cls := .type "dict", data := .dict #[] }) s.heap.objs.size [] := ⟨[], ⟨_, #[], 0, Heap.get?_push_size _ rfl, ⟨rfl, rfl, rfl⟩, rfl, fun _ he => by simp at he, .nil, List.nodup_nil⟩, .nil⟩
  have kp : ∀ h' : Heap, Heap.SameBut s.heap.objs.size (s.heap.push { cls := .type "dict", data := .dict #[] }) h' → ∀ b o, s.heap.get? b = some o → h'.get? b = some o := fun h' hs b o e => (hs.2 b (Nat.ne_of_lt (Heap.lt_size e))).trans (Heap.get?_push_of_some _ e)
  refine wpAny_bind (wpAny_alloc (wpAny_bind (wpAny_holding ?_)))
  by_cases hl : ps.length ≤ 15
  · rw [if_pos hl]
    refine wpAny_bind (pairs_wp _ _ g fun vs tk hv => wpAny_holding (wpAny_bind (store_wp [] _ _ hv h0 hn hz fun h' tk' hd hs => wpAny_pure (wpAny_pure (hQ h' tk' hd (kp h' hs))))))
  · rw [if_neg hl]
    exact wpAny_bind (wpAny_rule (wpAny_bind (long_wp [] _ _ g h0 hn hz fun h' tk' hd hs => wpAny_pure (wpAny_pure (hQ h' tk' hd (kp h' hs))))))
end

section
variable {P : Program} {w : World} {A : Around} {E : Value → Shared → Prop}
theorem sub_dict_self : isSubtype (.type "dict") (.type "dict") = pure true := by rw [isSubtype_type]; kernel_rfl

theorem put_new {s : Shared} {d : Addr} {l : List (Int × Value)} {k : Int} {key v : Value} {Q : Unit → Shared → Prop} (hkey : (intKind P w).is k key = true) (hm : s.heap.DictOf (intKind P w) d l) (hk' : k ∉ l.map (·.1)) (hsz : l.length ≤ sizeLine)
    (hQ : ∀ h', h'.DictOf (intKind P w) d (l ++ [(k, v)]) → Heap.SameBut d s.heap h' → Q () { s with heap := h' }) : wpAny (model P w) A (dictPut d ((intKind P w).hash k) key v) Q E s := by
  obtain ⟨o, es, ep, ho, hc, hd, hk, hp, hn⟩ := hm
  have hes : es.size ≤ sizeLine := by have e1 := hp.length; have e2 : es.toList.length = es.size := by simp
                                      omega
  unfold dictPut
  refine wpAny_bind (wpAny_dictFind_of hkey ho hd hk ?_)
  have hidx : (es.findIdx? fun e => (intKind P w).is k e.key) = l.findIdx? fun kv => decide (kv.1 = k) := by
    rw [← hp.findIdx k]; obtain ⟨l⟩ := es; simp
  have hnone : (l.findIdx? fun kv => decide (kv.1 = k)) = none := by
    rw [List.findIdx?_eq_none_iff]
    intro kv hkv
    exact decide_eq_false fun e => hk' (List.mem_map.mpr ⟨kv, hkv, e⟩)
  rw [hidx, hnone]
  refine wpAny_updateDictKeys (hz := hes) ho hd (hQ _ ⟨_, _, ep + 1, Heap.get?_update_self _ ho (Obj.isFreed_of_dict (Obj.data_mapDictKeys hd _)),
      hc.mapDictKeys _, Obj.data_mapDictKeys hd _, hk.push hkey _, ?_, ?_⟩ (Heap.SameBut.update ..))
  · have := hp.append hkey ((intKind P w).hash k) v
    obtain ⟨l⟩ := es
    simpa using this
  · rw [List.map_append, List.nodup_append]
    refine ⟨hn, by simp, ?_⟩
    intro a ha b hb
    simp only [List.map_cons, List.map_nil, List.mem_singleton] at hb
    subst hb
    exact fun e => hk' (e ▸ ha)

theorem merge_loop {d a : Addr} {o : Obj} {es : Array DictEntry} {ep : Nat} {l2 : List (Int × Value)} (hne : a ≠ d) (hd : o.data = .dict es ep) (hk : KeysOf (intKind P w) es) (hp : Pairs (intKind P w) es.toList l2) (B : Nat → PUnit → Sem (ForInStep PUnit))
    (hB : ∀ i u, B i u = (do
      let x ← dictEntries a
      match x[i]? with
      | some e => do
        holding [e.key, e.val] (dictPut d e.hash e.key e.val)
        let ep' ← dictEpoch a
        if (ep' != ep) = true then do
          unsupported "dict.changed-during-merge"
          pure (ForInStep.yield PUnit.unit)
        else pure (ForInStep.yield PUnit.unit)
      | none => do
        unsupported "dict.changed-during-merge"
        pure (ForInStep.yield PUnit.unit))) :
    ∀ (n j : Nat) (l : List (Int × Value)) (s : Shared) (Q : PUnit → Shared → Prop), j + n = l2.length → s.heap.get? a = some o → s.heap.DictOf (intKind P w) d (l ++ l2.take j) → ((l ++ l2).map (·.1)).Nodup → (l ++ l2).length ≤ sizeLine →
      (∀ h', h'.DictOf (intKind P w) d (l ++ l2) → Heap.SameBut d s.heap h' → Q ⟨⟩ { s with heap := h' }) →
      wpAny (model P w) A (forIn (List.range' j n) PUnit.unit B) Q E s
  | 0, j, l, s, Q, hj, ho, hm, hn, hz, hQ => by
    rw [List.range'_zero, List.forIn_nil]
    have : l2.take j = l2 := List.take_of_length_le (by omega)
    rw [this] at hm
    exact wpAny_pure (hQ s.heap hm (Heap.SameBut.refl _ _))
  | n + 1, j, l, s, Q, hj, ho, hm, hn, hz, hQ => by
    rw [List.range'_succ, List.forIn_cons, hB]
    have hes : es.size = l2.length := by rw [← hp.length]; simp
    have hjl : j < l2.length := by omega
    have hje : j < es.size := by omega
    have he : es[j]? = some es[j] := Array.getElem?_eq_getElem hje
    have hpair : ∀ (es : List DictEntry) (l2 : List (Int × Value)) (j : Nat), Pairs (intKind P w) es l2 → ∀ (h1 : j < es.length) (h2 : j < l2.length), (intKind P w).is (l2[j]).1 (es[j]).key = true ∧ (es[j]).val = (l2[j]).2 := by
      intro es l2 j hp
      induction hp generalizing j with
      | nil => intro h; cases h
      | cons a b _ ih =>
        intro h1 h2
        cases j with
        | zero => exact ⟨a, b⟩
        | succ j => exact ih j (Nat.lt_of_succ_lt_succ h1) (Nat.lt_of_succ_lt_succ h2)
    obtain ⟨h1, h2⟩ := hpair es.toList l2 j hp (by simpa using hje) hjl
    rw [Array.getElem_toList] at h1 h2
    obtain ⟨k', hk1, hk2⟩ := hk es[j] (Array.getElem_mem hje)
    have hkk : k' = (l2[j]).1 := (intKind P w).inj _ _ _ hk1 h1
    rw [hkk] at hk2
    refine wpAny_bind (wpAny_bind (wpAny_dictEntries ho hd ?_))
    rw [he]
    dsimp only
    rw [hk2, h2]
    have htake : l2.take (j + 1) = l2.take j ++ [l2[j]] := by rw [List.take_add_one, List.getElem?_eq_getElem hjl]; rfl
    have hnot : (l2[j]).1 ∉ (l ++ l2.take j).map (·.1) := by
      have e : l ++ l2 = (l ++ l2.take j) ++ (l2[j] :: l2.drop (j + 1)) := by rw [List.append_assoc, ← List.drop_eq_getElem_cons hjl, List.take_append_drop]
      rw [e, List.map_append, List.map_cons, List.nodup_append] at hn
      exact fun hm => hn.2.2 _ hm _ List.mem_cons_self rfl
    refine wpAny_bind (wpAny_holding (put_new h1 hm hnot (by rw [List.length_append, List.length_take]; rw [List.length_append] at hz; omega) fun h' hm' hs => ?_))
    have ho' : h'.get? a = some o := (hs.2 a hne).trans ho
    refine wpAny_bind (wpAny_dictEpoch (s := { s with heap := h' }) ho' hd ?_)
    simp only [bne_self_eq_false, Bool.false_eq_true, if_false]
    refine wpAny_pure ?_
    rw [List.append_assoc, ← htake] at hm'
    exact merge_loop hne hd hk hp B hB n (j + 1) l { s with heap := h' } Q (by omega) ho' hm' hn hz fun h'' hm'' hs' => hQ h'' hm'' (hs.trans hs')

theorem merge_wp {s : Shared} {d a : Addr} {ys zs : List (Int × Str)} {Q : Unit → Shared → Prop} (h1 : HasD P w s.heap d ys) (h2 : HasD P w s.heap a zs) (hne : a ≠ d) (hs : (a == sysModules) = false) (h0 : ys ≠ []) (hn : ((ys ++ zs).map (·.1)).Nodup) (hz : (ys ++ zs).length ≤ sizeLine)
    (hQ : ∀ h', HasD P w h' d (ys ++ zs) → Heap.SameBut d s.heap h' → Q () { s with heap := h' }) : wpAny (model P w) A (mergeMapping d (.ref a) false) Q E s := by
  obtain ⟨l1, hd1, hv1⟩ := h1
  obtain ⟨l2, hd2, hv2⟩ := h2
  obtain ⟨o1, es1, ep1, ho1, hc1, hdt1, hk1, hp1, hn1⟩ := id hd1
  obtain ⟨o2, es2, ep2, ho2, hc2, hdt2, hk2, hp2, hn2⟩ := id hd2
  have hl1 : l1.length = ys.length := by have := congrArg List.length (strVals_keys hv1); simpa using this
  have hl2 : l2.length = zs.length := by have := congrArg List.length (strVals_keys hv2); simpa using this
  unfold mergeMapping
  refine wpAny_bind (m := isInstance _ _) (wpAny_isInstance hd2.typeIs sub_dict_self ?_)
  rw [if_pos rfl]
  refine wpAny_bind (wpAny_specialOf hd2.typeIs F.slot_dict_iter.lookup (wpAny_bind (wpAny_pure ?_)))
  simp only [beq_self_eq_true]
  rw [hs]
  simp only [Bool.false_eq_true, if_false]
  refine wpAny_bind (wpAny_dictEntries ho1 hdt1 ?_)
  have hne1 : es1.isEmpty = false := by
    have e1 : es1.toList.length = ys.length := hp1.length.trans hl1
    have e2 : 0 < ys.length := List.length_pos_iff.mpr h0
    rw [Array.length_toList] at e1
    cases e : es1.isEmpty with
    | false => rfl
    | true => rw [Array.isEmpty_iff_size_eq_zero] at e; omega
  rw [hne1]
  simp only [Bool.false_eq_true, if_false]
  refine wpAny_bind (wpAny_dictEntries ho2 hdt2 (wpAny_bind (wpAny_dictEpoch ho2 hdt2 ?_)))
  have hes : es2.size = l2.length := by rw [← hp2.length]; simp
  have hn' : ((l1 ++ l2).map (·.1)).Nodup := by rw [List.map_append, strVals_keys hv1, strVals_keys hv2, ← List.map_append]; exact hn
  have hz' : (l1 ++ l2).length ≤ sizeLine := by rw [List.length_append, hl1, hl2, ← List.length_append]; exact hz
  rw [hes, List.range_eq_range']
  refine wpAny_bind (merge_loop hne hdt2 hk2 hp2 _ ?hB l2.length 0 l1 s _ (Nat.zero_add _) ho2 (by simpa using hd1) hn' hz' fun h' hd' hs' => wpAny_pure (hQ h' ⟨_, hd', hv1.append hv2⟩ hs'))
  intro i u
  refine congrArg (dictEntries a >>= ·) (funext fun x => ?_)
  cases x[i]? <;> rfl
end

section
variable {P : Program} {w : World} {A : Around} {E : Value → Shared → Prop} {s₀ : Shared}
noncomputable def Disp (P : Program) (w : World) (s₀ : Shared) (main : Option Addr) (done : List (Int × Str)) (s : Shared) : Prop :=
  ∃ h tk, s = { s₀ with heap := h, toks := tk } ∧ (∀ b o, s₀.heap.get? b = some o → h.get? b = some o) ∧ match main with
    | none => done = []
    | some d => HasD P w h d done ∧ done ≠ [] ∧ s₀.heap.get? d = none
theorem HasD.keep {h h' : Heap} {d : Addr} {ys : List (Int × Str)} (x : HasD P w h d ys) (k : ∀ b o, h.get? b = some o → h'.get? b = some o) : HasD P w h' d ys := by
  obtain ⟨l, hd, hv⟩ := x
  exact ⟨l, hd.keep k, hv⟩
theorem HasD.there {h : Heap} {d : Addr} {ys : List (Int × Str)} (x : HasD P w h d ys) : ∃ o, h.get? d = some o := by
  obtain ⟨l, ⟨o, es, ep, ho, r⟩, hv⟩ := x; exact ⟨o, ho⟩

theorem flush_wp (hsys : ∃ o, s₀.heap.get? sysModules = some o) {run : List (Sem Value × Sem Value)} {yr done : List (Int × Str)} {main : Option Addr} {s : Shared} {Q : Option Addr → Shared → Prop} (D : Disp P w s₀ main done s) (g : GoodPs P w run yr) (hn : ((done ++ yr).map (·.1)).Nodup) (hz : (done ++ yr).length ≤ sizeLine)
    (hQ : ∀ main' s', Disp P w s₀ main' (done ++ yr) s' → Q main' s') : wpAny (model P w) A (flushR run main) Q E s := by
  obtain ⟨h, tk, rfl, hk, hm⟩ := D
  obtain ⟨osys, hosys⟩ := hsys
  have notsys : ∀ h' : Heap, (∀ b o, s₀.heap.get? b = some o → h'.get? b = some o) → (h'.objs.size == sysModules) = false := fun h' k => by
    rw [beq_eq_false_iff_ne]
    intro e
    have h1 := k _ _ hosys
    rw [← e, none_of_size (Nat.le_refl _)] at h1; cases h1
  have fresh : ∀ h' : Heap, (∀ b o, s₀.heap.get? b = some o → h'.get? b = some o) → s₀.heap.get? h'.objs.size = none := fun h' k => by
    cases e : s₀.heap.get? h'.objs.size with
    | none => rfl
    | some o => have := k _ _ e; rw [none_of_size (Nat.le_refl _)] at this; cases this
  unfold flushR
  cases g with
  | nil =>
    rw [List.append_nil] at hQ
    exact wpAny_pure (hQ main _ ⟨h, tk, rfl, hk, hm⟩)
  | @cons p y ps ys gp gr =>
    have hne : y :: ys ≠ [] := by simp
    simp only [List.isEmpty_cons, Bool.false_eq_true, if_false]
    cases main with
    | none =>
      replace hm : done = [] := hm
      subst hm
      refine wpAny_bind (subDict_wp (.cons gp gr) hn hz fun h' tk' hd k => wpAny_pure (hQ _ _ ⟨h', tk', rfl, fun b o e => k _ _ (hk _ _ e), hd, hne, fresh h hk⟩))
    | some d =>
      obtain ⟨hd, h0, hdn⟩ := hm
      have hn2 : ((y :: ys).map (·.1)).Nodup := by rw [List.map_append, List.nodup_append] at hn; exact hn.2.1
      have hz2 : (y :: ys).length ≤ sizeLine := by rw [List.length_append] at hz; omega
      refine wpAny_bind (wpAny_holding (subDict_wp (s := { s₀ with heap := h, toks := tk }) (.cons gp gr) hn2 hz2 fun h' tk' ha k => ?_))
      have hda : h.objs.size ≠ d := fun e => by obtain ⟨o, ho⟩ := hd.there; rw [← e, none_of_size (Nat.le_refl _)] at ho; cases ho
      refine wpAny_bind (wpAny_onRaise (wpAny_holding (merge_wp (s := { s₀ with heap := h', toks := tk' }) (hd.keep k) ha hda (notsys h hk) h0 hn hz fun h'' hd'' hs => wpAny_pure (hQ _ _ ⟨h'', tk', rfl, fun b o e => ?_, hd'', by simp, hdn⟩))))
      exact (hs.2 b (fun q => by rw [q, hdn] at e; cases e)).trans (k _ _ (hk _ _ e))

theorem disp_loop (hsys : ∃ o, s₀.heap.get? sysModules = some o) {Q : Option Addr × List (Sem Value × Sem Value) → Shared → Prop} : ∀ {ps : List (Sem Value × Sem Value)} {ys : List (Int × Str)} (run : List (Sem Value × Sem Value)) (yr done : List (Int × Str)) (main : Option Addr) (s : Shared), GoodPs P w ps ys → GoodPs P w run yr → Disp P w s₀ main done s →
    ((done ++ yr ++ ys).map (·.1)).Nodup → (done ++ yr ++ ys).length ≤ sizeLine →
    (∀ main' run' done' yr' s', Disp P w s₀ main' done' s' → GoodPs P w run' yr' → done' ++ yr' = done ++ yr ++ ys → Q (main', run') s') → wpAny (model P w) A (forIn ps (main, run) bodyR) Q E s
  | _, _, run, yr, done, main, s, .nil, g, D, hn, hz, hQ => by
    rw [List.forIn_nil]
    exact wpAny_pure (hQ main run done yr s D g (by simp))
  | _, _, run, yr, done, main, s, .cons (p := p) (y := y) (ps := ps) (ys := ys) gp gr, g, D, hn, hz, hQ => by
    rw [List.forIn_cons]
    have g' : GoodPs P w (run ++ [p]) (yr ++ [y]) := g.append (.cons gp .nil)
    have e : done ++ yr ++ y :: ys = done ++ (yr ++ [y]) ++ ys := by simp
    rw [e] at hn hz hQ
    have hn1 : ((done ++ (yr ++ [y])).map (·.1)).Nodup := by rw [List.map_append, List.nodup_append] at hn; exact hn.1
    have hz1 : (done ++ (yr ++ [y])).length ≤ sizeLine := by rw [List.length_append] at hz; omega
    unfold bodyR
    by_cases hl : ((run ++ [p]).length == 17) = true
    · rw [if_pos hl]
      refine wpAny_bind (wpAny_bind (flush_wp hsys D g' hn1 hz1 fun main' s' D' => wpAny_pure ?_))
      refine disp_loop hsys [] [] _ main' s' gr .nil D' (by simpa using hn) (by simpa using hz) fun m' r' d' y' s'' D'' g'' e' => hQ m' r' d' y' s'' D'' g'' (by rw [e']; simp)
    · rw [if_neg hl]
      refine wpAny_bind (wpAny_pure ?_)
      exact disp_loop hsys (run ++ [p]) (yr ++ [y]) done main s gr g' D hn hz hQ

/-- a row of constants as a dict's -/
theorem keyC_some {k : Option Expr} {i : Int} (h : keyC k = some i) : ∃ n p, k = some (.Constant (.int i) n p) := by
  cases k with
  | none => cases h
  | some e =>
    obtain ⟨n, p, rfl⟩ := intC_some h
    exact ⟨n, p, rfl⟩
noncomputable def constPairs : List (Option Expr) → List Expr → Option (List (Int × Str))
  | [], [] => some []
  | k :: ks, v :: vs => match keyC k, valC v with
    | some i, some x => (constPairs ks vs).map ((i, x) :: ·)
    | _, _ => none
  | _, _ => none
theorem good_const (env : Env) (pos : Pos) : ∀ {ks : List (Option Expr)} {vs : List Expr} {ys : List (Int × Str)}, constPairs ks vs = some ys → GoodPs P w (pairTrees ks vs env pos) ys ∧ ks.all (·.isSome) = true ∧ ks.length = vs.length
  | [], [], ys, h => by cases h; exact ⟨.nil, rfl, rfl⟩
  | [], _ :: _, ys, h => by simp [constPairs] at h
  | k :: ks, [], ys, h => by simp [constPairs] at h
  | k :: ks, v :: vs, ys, h => by
    rw [constPairs] at h
    cases e1 : keyC k with
    | none => rw [e1] at h; cases h
    | some i =>
    cases e2 : valC v with
    | none => rw [e1, e2] at h; cases h
    | some x =>
    rw [e1, e2] at h
    obtain ⟨k1, p1, rfl⟩ := keyC_some e1
    obtain ⟨k2, p2, rfl⟩ := valC_some e2
    cases e : constPairs ks vs with
    | none => rw [e] at h; cases h
    | some zs =>
      rw [e] at h; cases h
      obtain ⟨a, b, c⟩ := good_const env pos e
      refine ⟨.cons ⟨fun A E s Q hQ => wpAny_Constant_int (env := env) (k := k1) (pos := p1) (hQ _ _), fun A E s Q hQ => wpAny_bind (Calls.Constant_str (env := env) (k := k2) (pos := p2) (wpAny_bind (wpAny_standAt (wpAny_pure (hQ _ _)))))⟩ a, by simpa using b, by simpa using c⟩
end
section
variable {P : Program} {w : World} {h₀ : Heap} {A : Around} {c : Cx} {σ : Str → Option D} {pos : Pos}
theorem ev_dict {ks : List (Option Expr)} {vs : List Expr} {ys : List (Int × Str)} (hsys : ∃ o, h₀.get? sysModules = some o) (h : constPairs ks vs = some ys) (hn : (ys.map (·.1)).Nodup) (hz : ys.length ≤ sizeLine) (h0 : ys ≠ []) : Ev P w h₀ A c σ (.Dict ks vs pos) (.dct ys) := .mk fun K s Q E I hq => by
  obtain ⟨g, hall, hl⟩ := good_const (P := P) (w := w) c.env pos h
  obtain ⟨osys, hosys⟩ := hsys
  have hsys' : ∃ o, s.heap.get? sysModules = some o := ⟨_, I.here _ _ hosys⟩
  rw [arm_eval_Dict, zip_pairTrees ks vs c.env pos hall hl, dictDisplay_eq]
  refine wpAny_bind (wpAny_standAt (wpAny_bind (disp_loop (s₀ := s) hsys' [] [] [] none s g .nil ⟨s.heap, s.toks, rfl, fun _ _ e => e, rfl⟩ (by simpa using hn) (by simpa using hz) fun main run done yr s1 D g' e => ?_)))
  rw [List.append_nil, List.nil_append] at e
  refine wpAny_bind (flush_wp hsys' D g' (by rw [e]; exact hn) (by rw [e]; exact hz) fun main' s2 D' => ?_)
  rw [e] at D'
  obtain ⟨h', tk, rfl, hk, hm⟩ := D'
  cases main' with
  | none => exact absurd hm h0
  | some d =>
    obtain ⟨⟨l, hd, hv⟩, _, hdn⟩ := hm
    obtain ⟨o, ho, r⟩ := Heap.dictOf_iff.mp hd
    refine wpAny_pure (hq _ (K.put d o) _ (Step.one I.kin hk hdn ho) (.dct (Know.put_same _ _ _) ⟨l, fun P' w' => ?_, hv⟩ ?_))
    · obtain ⟨es, ep, a1, a2, a3, a4, a5⟩ := r
      have a4' : Pairs (intKind P' w') es.toList l := by
        clear a2 a3 ho hd hv
        have key : ∀ (es : List DictEntry) (l : List (Int × Value)), Pairs (intKind P w) es l → Pairs (intKind P' w') es l := by
          intro es l hp
          induction hp with
          | nil => exact .nil
          | cons a b _ ih => exact .cons a b ih
        exact key _ _ a4
      exact ⟨es, ep, a1, a2, fun e he => a3 e he, a4', a5⟩
    · rw [beq_eq_false_iff_ne]
      rintro rfl
      obtain ⟨o', ho'⟩ := hsys'
      rw [hdn] at ho'; cases ho'
end

section
variable {P : Program} {w : World} {h₀ : Heap} {A : Around} {c : Cx} {σ : Str → Option D} {Φ : Out → Prop} {pos p : Pos}

/-- what is done with a passing item: a row of data goes to the list -/
noncomputable def Act (P : Program) (w : World) (h₀ : Heap) (A : Around) (cx : Cx) (K : Know) (s : Shared) (Dd : Addr) (σc σ' : Str → Option D) (act : Sem Fin) (again' : Fin) (zs : List D) (E : Value → Shared → Prop) : Prop :=
  ∀ K5 s5 (ys : List Value) (Q : Fin → Shared → Prop), SStep cx K s K5 s5 → Inv h₀ cx σ' K5 s5 → K5 Dd = none → s5.heap.PlainList Dd (List.toArray ys) → ys.length + zs.length ≤ sizeLine →
    (∀ K6 s6 vs, SStep cx K s K6 s6 → Inv h₀ cx σc K6 s6 → KSub K5 K6 → (∀ a o, a ∉ cx.turns → a ≠ Dd → s5.heap.get? a = some o → s6.heap.get? a = some o) → (∀ a o, s5.heap.get? a = some o → K6 a = K5 a) → s6.heap.PlainList Dd (List.toArray (ys ++ vs)) → RepAll K6 vs zs → Q again' s6) →
    wpAny (model P w) A act Q E s5

theorem compLoopG {b : Bool} {tgt : Expr} {ifs : List Expr} {elt : Expr} {gens : List Comprehension} {scope : Scope} {j : Nat} {ipos : Pos} {act : Env → Sem Fin} {ds : List D} {g : D → List D} {σc : Str → Option D} {cx : Cx} {R : Result → Shared → Prop} {K K1 : Know} {s s1 : Shared} {I Dd : Addr} {fp wr : List Addr} {St : Nat → Heap → Prop} {Mid : Nat → Value → Heap → Prop} {ys0 : List Value}
    (hT : compTurn (.ListComp elt gens scope pos) j (.ref I) (.ref Dd) cx.env = (do
        standAt ipos
        match ← pyNext (.ref I) with
        | none => pure (.done .next)
        | some v =>
          letOwnedTupleGo tgt (.ref I) v
          assign tgt cx.env v
          let mut ok := true
          for c in ifs do
            if ok then ok ← isTrue c cx.env (eval c cx.env)
          if ok then act cx.env else again (.compLoop (.ListComp elt gens scope pos) j (.ref I) (.ref Dd) cx.env)))
    (st1 : SStep cx K s K1 s1) (hturns : cx.turns = [cx.env.locals]) (hL : cx.env.locals ∉ fp) (hDs : s.heap.get? Dd = none) (hDL : Dd ≠ cx.env.locals) (hDf : Dd ∉ fp) (hcells : ∀ x a, cx.env.cells.lookup x = some a → ∃ o, s.heap.get? a = some o)
    (W : Itr P w A b tgt K1 I fp wr ds St Mid) (hst : St 0 s1.heap) (hwr : ∀ a ∈ wr, K1 a = none ∧ s.heap.get? a = none) (hD1 : K1 Dd = none)
    (hacc : s1.heap.PlainList Dd (List.toArray ys0)) (I1 : Inv h₀ cx σc K1 s1) (hsz : ys0.length + (ds.flatMap g).length ≤ sizeLine)
    (turn : ∀ (i : Nat) (d : D), ds[i]? = some d → ∃ σ' r, (∀ x d, σc x = some d → σ' x = some d) ∧ Asg P w h₀ A cx b σc tgt d σ' ∧ Tst P w h₀ A cx σ' ifs r ∧ (r = false → g d = []) ∧ (r = true → ∀ E, Act P w h₀ A cx K s Dd σc σ' (act cx.env) (.again (.compLoop (.ListComp elt gens scope pos) j (.ref I) (.ref Dd) cx.env)) (g d) E))
    (hR : ∀ K' s' vs, SStep cx K s K' s' → Inv h₀ cx σc K' s' → KSub K1 K' → (∀ a o, a ∉ cx.turns → a ∉ wr → a ≠ Dd → s1.heap.get? a = some o → s'.heap.get? a = some o) → (∀ a o, s1.heap.get? a = some o → K' a = K1 a) → s'.heap.PlainList Dd (List.toArray (ys0 ++ vs)) → RepAll K' vs (ds.flatMap g) → R (.ok .next) s') :
    codeAny (model P w) A (.compLoop (.ListComp elt gens scope pos) j (.ref I) (.ref Dd) cx.env) R s1 := by
  have tn : ∀ a ∈ cx.turns, a ∉ wr := fun a ha q => by rw [hturns, List.mem_singleton] at ha; exact hL (ha ▸ W.sub a q)
  have cn : ∀ x a, cx.env.cells.lookup x = some a → a ∉ wr := fun x a ha q => by obtain ⟨o, e⟩ := hcells x a ha; rw [(hwr a q).2] at e; cases e
  have hDw : Dd ∉ wr := fun q => hDf (W.sub _ q)
  have hDt : Dd ∉ cx.turns := fun q => by rw [hturns, List.mem_singleton] at q; exact hDL q
  have fpt : ∀ a ∈ fp, a ∉ cx.turns := fun a ha q => by rw [hturns, List.mem_singleton] at q; exact hL (q ▸ ha)
  have fpD : ∀ a ∈ fp, a ≠ Dd := fun a ha q => hDf (q ▸ ha)
  refine codeAny_loop rfl (fun k s' => ∃ i K' vs, i ≤ ds.length ∧ k = ds.length - i ∧ SStep cx K s K' s' ∧ KSub K1 K' ∧ Inv h₀ cx σc K' s' ∧ St i s'.heap ∧ (∀ a ∈ wr, K' a = none) ∧ K' Dd = none ∧ s'.heap.PlainList Dd (List.toArray (ys0 ++ vs)) ∧ RepAll K' vs ((ds.take i).flatMap g) ∧
      (∀ a o, a ∉ cx.turns → a ∉ wr → a ≠ Dd → s1.heap.get? a = some o → s'.heap.get? a = some o) ∧ (∀ a o, s1.heap.get? a = some o → K' a = K1 a) ∧ (∀ a o, s1.heap.get? a = some o → ∃ o', s'.heap.get? a = some o')) (fun k s' hI => ?_) ds.length
    ⟨0, K1, [], Nat.zero_le _, rfl, st1, fun _ _ e => e, I1, hst, fun a ha => (hwr a ha).1, hD1, by simpa using hacc, by simpa using RepAll.nil, fun _ _ _ _ _ e => e, fun _ _ _ => rfl, fun _ o e => ⟨o, e⟩⟩
  obtain ⟨i, K', vs, hi', rfl, st, hsub, I', hst', hwr', hD', hacc', hrep, hkp, hnw, hal⟩ := hI
  have hw' : ∀ a ∈ wr, K' a = none ∧ s.heap.get? a = none := fun a ha => ⟨hwr' a ha, (hwr a ha).2⟩
  have kin1 : KIn K1 s'.heap := fun a o e => I'.kin _ _ (hsub _ _ e)
  show wpAny _ A ((compTurn (.ListComp elt gens scope pos) j (.ref I) (.ref Dd) cx.env).onRaise (fun x => do noteFrame x cx.env; theTreesLotGoes x)) _ _ s'
  refine wpAny_noted ?_
  rw [hT]
  refine wpAny_bind (wpAny_standAt (wpAny_bind ?_))
  by_cases hlt : i < ds.length
  · have hd : ds[i]? = some ds[i] := List.getElem?_eq_getElem hlt
    refine W.item i _ s' _ _ hd hst' kin1 fun v h2 tk2 hv hmid hk2 => ?_
    obtain ⟨st2, I2⟩ := butWr (tk := tk2) st tn cn I' hw' hk2
    have kin2 : KIn K1 h2 := fun a o e => I2.kin _ _ (hsub _ _ e)
    refine wpAny_bind (W.go i _ v _ _ _ hv hmid kin2 fun h3 hv3 hst3 hk3 => ?_)
    obtain ⟨st3, I3⟩ := butWr (tk := tk2) st2 tn cn I2 hw' hk3
    have acc3 : h3.PlainList Dd (ys0 ++ vs).toArray := hacc'.at fun o e => hk3 _ _ hDw (hk2 _ _ hDw e)
    obtain ⟨σ', r, hσ, hasg, htst, hno, hact⟩ := turn i _ hd
    refine wpAny_bind (hasg.run K' _ v _ _ I3 (hv3.mono hsub) fun s4 st4 I4 => ?_)
    have hst4 : St (i + 1) s4.heap := W.frame _ _ _ hst3 fun a ha o e => st4.keep _ _ (fpt a ha) e
    have acc4 : s4.heap.PlainList Dd (ys0 ++ vs).toArray := acc3.at fun o e => st4.keep _ _ hDt e
    refine wpAny_bind (tst_wp htst I4 fun K5 s5 st5 => ?_)
    have I5 : Inv h₀ cx σ' K5 s5 := I4.step st5
    have hst5 : St (i + 1) s5.heap := W.frame _ _ _ hst4 fun a ha o e => st5.keep _ _ e
    have acc5 : s5.heap.PlainList Dd (ys0 ++ vs).toArray := acc4.at fun o e => st5.keep _ _ e
    have hD5 : K5 Dd = none := by obtain ⟨n, e⟩ := acc4; exact (st5.new _ _ e).trans hD'
    have hwr5 : ∀ a ∈ wr, K5 a = none := fun a ha => by obtain ⟨o', e'⟩ := W.alive _ _ hst4 a (W.sub a ha); exact (st5.new a o' e').trans (hwr' a ha)
    have stA : SStep cx K s K5 s5 := (st3.trans st4).trans (SStep.of st5)
    have hsub5 : KSub K1 K5 := fun a o e => st5.mono _ _ (hsub _ _ e)
    have htake : ds.take (i + 1) = ds.take i ++ [ds[i]] := by rw [List.take_add_one, hd]; rfl
    have hfl : (ds.take (i + 1)).flatMap g = (ds.take i).flatMap g ++ g ds[i] := by rw [htake, List.flatMap_append]; simp
    have hkp5 : ∀ a o, a ∉ cx.turns → a ∉ wr → a ≠ Dd → s1.heap.get? a = some o → s5.heap.get? a = some o := fun a o h1 h2 h3 e => st5.keep _ _ (st4.keep _ _ h1 (hk3 _ _ h2 (hk2 _ _ h2 (hkp a o h1 h2 h3 e))))
    have hal5 : ∀ a o, s1.heap.get? a = some o → ∃ o', s5.heap.get? a = some o' := fun a o e => by
      by_cases q : a ∈ wr
      · obtain ⟨o', e'⟩ := W.alive _ _ hst5 a (W.sub a q); exact ⟨o', e'⟩
      · obtain ⟨o1, e1⟩ := hal a o e
        obtain ⟨o4, e4⟩ := st4.alive a o1 (hk3 _ _ q (hk2 _ _ q e1))
        exact ⟨o4, st5.keep _ _ e4⟩
    have hnw5 : ∀ a o, s1.heap.get? a = some o → K5 a = K1 a := fun a o e => by
      have h1 : ∃ o4, s4.heap.get? a = some o4 := by
        by_cases q : a ∈ wr
        · obtain ⟨o', e'⟩ := W.alive _ _ hst4 a (W.sub a q); exact ⟨o', e'⟩
        · obtain ⟨o1, e1⟩ := hal a o e
          exact st4.alive a o1 (hk3 _ _ q (hk2 _ _ q e1))
      obtain ⟨o4, e4⟩ := h1
      exact (st5.new a o4 e4).trans (hnw a o e)
    have hlen : (ys0 ++ vs).length + (g ds[i]).length ≤ sizeLine := by
      have e1 := hrep.length
      have e2 : ds.flatMap g = (ds.take (i + 1)).flatMap g ++ (ds.drop (i + 1)).flatMap g := by rw [← List.flatMap_append, List.take_append_drop]
      rw [e2, List.length_append, hfl, List.length_append] at hsz
      rw [List.length_append]
      omega
    cases r with
    | false =>
      simp only [Bool.false_eq_true, if_false]
      refine wpAny_pure ⟨rfl, ds.length - (i + 1), by omega, i + 1, K5, vs, hlt, rfl, stA, hsub5, I5.sub hσ, hst5, hwr5, hD5, acc5, ?_, hkp5, hnw5, hal5⟩
      rw [hfl, hno rfl, List.append_nil]
      exact hrep.mono st5.mono
    | true =>
      simp only [if_true]
      refine hact rfl _ K5 s5 (ys0 ++ vs) _ stA I5 hD5 acc5 hlen fun K6 s6 us st6 I6 hs6 hk6 hn6 acc6 hr6 => ?_
      have hD6 : K6 Dd = none := by obtain ⟨n, e⟩ := acc5; exact (hn6 _ _ e).trans hD5
      have alive6 : ∀ a o, s5.heap.get? a = some o → ∃ o', s6.heap.get? a = some o' := fun a o e => by
        by_cases q1 : a ∈ cx.turns
        · exact I6.has a q1
        · by_cases q2 : a = Dd
          · obtain ⟨n, e'⟩ := acc6; exact ⟨_, q2 ▸ e'⟩
          · exact ⟨o, hk6 a o q1 q2 e⟩
      refine ⟨rfl, ds.length - (i + 1), by omega, i + 1, K6, vs ++ us, hlt, rfl, st6, fun a o e => hs6 _ _ (hsub5 _ _ e), I6, ?_, fun a ha => ?_, hD6, by simpa using acc6, ?_, fun a o h1 h2 h3 e => hk6 a o h1 h3 (hkp5 a o h1 h2 h3 e), fun a o e => ?_, fun a o e => ?_⟩
      · exact W.frame _ _ _ hst5 fun a ha o e => hk6 a o (fpt a ha) (fpD a ha) e
      · obtain ⟨o', e'⟩ := W.alive _ _ hst5 a (W.sub a ha)
        exact (hn6 a o' e').trans (hwr5 a ha)
      · rw [hfl]
        exact ((hrep.mono st5.mono).mono hs6).append hr6
      · obtain ⟨o', e'⟩ := hal5 a o e
        exact (hn6 a o' e').trans (hnw5 a o e)
      · obtain ⟨o', e'⟩ := hal5 a o e
        exact alive6 a o' e'
  · have hin : i = ds.length := by omega
    subst hin
    refine W.done _ _ _ hst' fun h2 tk2 hk2 => ?_
    obtain ⟨st2, I2⟩ := butWr (tk := tk2) st tn cn I' hw' hk2
    rw [List.take_length] at hrep
    exact wpAny_pure (hR K' _ vs st2 I2 hsub (fun a o h1 h2 h3 e => hk2 _ _ h2 (hkp a o h1 h2 h3 e)) hnw (hacc'.at fun o e => hk2 _ _ hDw e) hrep)
end

theorem start1 {prog : Program} {w : World} {A : Around} {R : Result → Shared → Prop} {s : Shared} {elt : Expr} {g1 : Comprehension} {target iter : Expr} {ifs : List Expr} {scope : Scope} {pos : Pos} {it acc : Value} {env : Env}
    (h0 : codeAny (model prog w) A (.compLoop (.ListComp elt [g1, ⟨target, iter, ifs, 0⟩] scope pos) 1 it acc env) R s)
    (h : wpAny (model prog w) A (pyIter it) (fun it' s' => codeAny (model prog w) A (.compLoop (.ListComp elt [g1, ⟨target, iter, ifs, 0⟩] scope pos) 1 it' acc env) R s')
      (notedBy (model prog w) A env fun x s' => R (.error x) s') s) :
    codeAny (model prog w) A (.compStart (.ListComp elt [g1, ⟨target, iter, ifs, 0⟩] scope pos) 1 it acc env) R s := by
  refine codeAny_of_tree ?_
  show wpAny _ _ ((compStart (.ListComp elt [g1, ⟨target, iter, ifs, 0⟩] scope pos) 1 it acc env).onRaise (fun x => do noteFrame x env; standAt theWindowsPlace)) _ _ s
  refine wpAny_notedAt ?_
  unfold compStart
  show wpAny _ _ (ask >>= _) _ _ s
  refine wpAny_bind (wpAny_askSetting (wpAny_ite ?_))
  split
  · first
      | exact wpAny_bind (wpAny_pure (wpAny_pure (And.intro rfl h0)))
      | exact wpAny_pure (And.intro rfl h0)
  · first
      | exact wpAny_bind (wpAny_rule (wpAny_bind (wpAny_standAt (wpAny_bind (wpAny_mono h (fun it' s' h' => wpAny_pure (And.intro rfl h')) fun _ _ x => x)))))
      | (refine wpAny_bind (wpAny_rule ?_); show wpAny _ _ (standAt iter.pos >>= _) _ _ s; exact wpAny_bind (wpAny_standAt (wpAny_bind (wpAny_mono h (fun it' s' h' => wpAny_pure (And.intro rfl h')) fun _ _ x => x))))
section
variable {P : Program} {w : World} {h₀ : Heap} {A : Around} {c : Cx} {σ : Str → Option D} {Φ : Out → Prop} {pos p : Pos}

theorem act_emit {cx : Cx} {K : Know} {s : Shared} {Dd : Addr} {σc σ' : Str → Option D} {elt : Expr} {d : D} {code : Code} {E : Value → Shared → Prop} (hσ : ∀ x d, σc x = some d → σ' x = some d) (hDs : s.heap.get? Dd = none) (hDt : Dd ∉ cx.turns) (hcD : ∀ x a, cx.env.cells.lookup x = some a → a ≠ Dd) (h : Ev P w h₀ A cx σ' elt d) :
    Act P w h₀ A cx K s Dd σc σ' ((do let _ ← call (.builtin "list.append") [.ref Dd, ← eval elt cx.env] : Sem Unit) >>= fun _ => again code) (.again code) [d] E := fun K5 s5 ys Q st5 I5 hD5 acc5 hlen hQ => by
  refine wpAny_bind (wpAny_bind (h.run K5 s5 _ _ I5 fun y K6 s6 st6 r6 => ?_))
  have I6 := I5.step st6
  have acc6 : s6.heap.PlainList Dd ys.toArray := acc5.at fun o e => st6.keep _ _ e
  have hD6 : K6 Dd = none := by obtain ⟨n, e⟩ := acc5; exact (st6.new _ _ e).trans hD5
  refine wpAny_bind (wpAny_list_append_plain (hsz := by rw [List.size_toArray]; simp at hlen; omega) acc6 fun h7 hl7 hs7 => ?_)
  obtain ⟨st7, I7⟩ := butWr (wr := [Dd]) (tk := s6.toks) (h' := h7) (st5.trans (SStep.of st6)) (fun a ha q => hDt (by rw [List.mem_singleton] at q; rw [← q]; exact ha))
    (fun x a ha q => hcD x a ha (List.mem_singleton.mp q)) I6 (fun a ha => by rw [List.mem_singleton] at ha; subst ha; exact ⟨hD6, hDs⟩)
    (fun a o ha e => (hs7.2 a (fun q => ha (by rw [q]; exact List.mem_singleton.mpr rfl))).trans e)
  exact wpAny_pure (wpAny_pure (hQ K6 _ [y] st7 (I7.sub hσ) st6.mono (fun a o _ hne e => (hs7.2 a hne).trans (st6.keep _ _ e)) st6.new (by simpa using hl7) (.one r6)))

/-- what a comprehension of two clauses does with an item of the first -/
noncomputable def Turn2 (P : Program) (w : World) (h₀ : Heap) (A : Around) (cx : Cx) (b b2 : Bool) (σc : Str → Option D) (t1 t2 i2 elt : Expr) (fs1 fs2 : List Expr) (d : D) (zs : List D) : Prop :=
  ∃ σ' r, (∀ x d, σc x = some d → σ' x = some d) ∧ Asg P w h₀ A cx b σc t1 d σ' ∧ Tst P w h₀ A cx σ' fs1 r ∧ (r = false → zs = []) ∧
      (r = true → ∃ ds2 g2, EvI P w h₀ A cx σ' b2 t2 i2 ds2 ∧ zs = ds2.flatMap g2 ∧
        ∀ (i : Nat) (d2 : D), ds2[i]? = some d2 → ∃ σ'' r2, (∀ x d, σ' x = some d → σ'' x = some d) ∧ Asg P w h₀ A cx b2 σ' t2 d2 σ'' ∧ Tst P w h₀ A cx σ'' fs2 r2 ∧ (r2 = false → g2 d2 = []) ∧ (r2 = true → ∃ e, g2 d2 = [e] ∧ Ev P w h₀ A cx σ'' elt e))
theorem comp2_start {b b2 : Bool} {t1 i1 t2 i2 elt : Expr} {fs1 fs2 : List Expr} {scope : Scope} {ds : List D} {g : D → List D} {cl : List (Str × Addr)} {σc : Str → Option D} {K K1 : Know} {s s1 : Shared} {it : Value} {E : Value → Shared → Prop}
    {R : Value → Env → Result → Shared → Prop} (ok : CompOk c scope cl σ σc) (I : Inv h₀ c σ K s) (st1 : Step K s K1 s1) (hit : IterAt P w A b t1 s K1 s1 it ds) (hsz : (ds.flatMap g).length ≤ sizeLine)
    (turn : ∀ (C : Addr) (i : Nat) (d : D), ds[i]? = some d → Turn2 P w h₀ A (inner c scope cl C) b b2 σc t1 t2 i2 elt fs1 fs2 d (g d))
    (hR : ∀ Dd C K' s', Step K s K' s' → Rep K' (.ref Dd) (.lst (ds.flatMap g)) → s.heap.get? C = none → K' C = none → (∃ m, s'.heap.Ns C m) → R (.ref Dd) (compEnvOf scope c.env cl C) (.ok .next) s')
    (hf2 : ∀ (C : Addr) (x : Value), foldedSetIterable i2 (inner c scope cl C).env x = pure x) :
    wpAny (model P w) A (newList []) (fun acc s₃ => wpAny (model P w) A (newFunctionEnv scope c.env.globals cl [] c.env.qual none .none (some c.env)) (fun cenv s₄ =>
      codeAny (model P w) A (.compStart (.ListComp elt [⟨t1, i1, fs1, 0⟩, ⟨t2, i2, fs2, 0⟩] scope pos) 0 it acc { cenv with scope := ownScope scope c.env }) (R acc { cenv with scope := ownScope scope c.env }) s₄) E s₃) E s1 := by
  obtain ⟨Ia, fp, wr, St, Mid, rfl, W, hst, hfk, hwr⟩ := hit.ex
  refine wpAny_newObj_type (wpAny_newFunctionEnv ok.cell (by intro y hy; simp at hy) (fun h₁ hns₁ hsb₁ => ?_) ok.kind)
  dsimp only at hns₁ hsb₁ ⊢
  generalize hH2 : s1.heap.push { cls := .type "list", dict := none, data := .seq ([] : List Value).toArray } = H2 at hns₁ hsb₁ ⊢
  have hCs : H2.objs.size = s1.heap.objs.size + 1 := by rw [← hH2, Heap.size_push]
  have hDC : s1.heap.objs.size ≠ H2.objs.size := by rw [hCs]; exact Nat.ne_of_lt (Nat.lt_succ_self _)
  have hD : s1.heap.get? s1.heap.objs.size = none := none_of_size (Nat.le_refl _)
  have hC : s1.heap.get? H2.objs.size = none := none_of_size (by rw [hCs]; exact Nat.le_succ _)
  have ne : ∀ a o, s1.heap.get? a = some o → a ≠ H2.objs.size ∧ a ≠ s1.heap.objs.size := fun a o e => ⟨fun q => (by rw [q, hC] at e; cases e), fun q => (by rw [q, hD] at e; cases e)⟩
  have old : ∀ a o, s1.heap.get? a = some o → h₁.get? a = some o := fun a o e => hsb₁.extBut a o (ne a o e).1 (Heap.get?_push_of_some _ (hH2 ▸ Heap.get?_push_of_some _ e))
  have hacc : h₁.PlainList s1.heap.objs.size #[] := ⟨_, hsb₁.extBut _ _ hDC (Heap.get?_push_of_some _ (hH2 ▸ Heap.get?_push_size _ rfl))⟩
  have I1 : Inv h₀ c σ K1 s1 := I.step st1
  have kn : ∀ a, s1.heap.get? a = none → K1 a = none := fun a e => kn_none st1.kin e
  have sn : ∀ a, s1.heap.get? a = none → s.heap.get? a = none := fun a e => st1.back e
  have Ic : Inv h₀ (inner c scope cl H2.objs.size) σc K1 { s1 with heap := h₁, toks := s1.toks + ([] : List (Str × Value)).length } := comp_inv ok I1 (kn _ hC) hns₁ old
  have stS : SStep (inner c scope cl H2.objs.size) K s K1 { s1 with heap := h₁, toks := s1.toks + ([] : List (Str × Value)).length } :=
    (SStep.of st1).trans (SStep.of (Step.grow I1.kin old))
  have fpne : ∀ a ∈ fp, a ≠ H2.objs.size ∧ a ≠ s1.heap.objs.size := fun a ha => by obtain ⟨o, e⟩ := W.alive _ _ hst a ha; exact ne a o e
  have hst₁ : St 0 h₁ := W.frame _ _ _ hst fun a _ o e => old a o e
  have hDt : s1.heap.objs.size ∉ (inner c scope cl H2.objs.size).turns := fun q => hDC (List.mem_singleton.mp q)
  have hcs : ∀ x a, (inner c scope cl H2.objs.size).env.cells.lookup x = some a → ∃ o, s.heap.get? a = some o := fun x a e => by obtain ⟨v, o, e', _⟩ := I.cell x a (ok.cells x a e); exact ⟨o, e'⟩
  have loop : codeAny (model P w) A (.compLoop (.ListComp elt [⟨t1, i1, fs1, 0⟩, ⟨t2, i2, fs2, 0⟩] scope pos) 0 (.ref Ia) (.ref s1.heap.objs.size) (inner c scope cl H2.objs.size).env)
      (R (.ref s1.heap.objs.size) (compEnvOf scope c.env cl H2.objs.size)) { s1 with heap := h₁, toks := s1.toks + ([] : List (Str × Value)).length } := by
    refine compLoopG (cx := inner c scope cl H2.objs.size) (ys0 := []) (ds := ds) (g := g)
      (act := fun env => do
        let x ← eval i2 env
        standAt i2.pos
        let x ← foldedSetIterable i2 env x
        let it ← holding [x] (pyIter x)
        let _ ← runOwn (.compStart (.ListComp elt [⟨t1, i1, fs1, 0⟩, ⟨t2, i2, fs2, 0⟩] scope pos) 1 it (.ref s1.heap.objs.size) env) env
        again (.compLoop (.ListComp elt [⟨t1, i1, fs1, 0⟩, ⟨t2, i2, fs2, 0⟩] scope pos) 0 (.ref Ia) (.ref s1.heap.objs.size) env))
      rfl stS rfl (fun q => (fpne _ q).1 rfl) (sn _ hD) hDC (fun q => (fpne _ q).2 rfl) hcs W hst₁ hwr (kn _ hD) hacc Ic (by simpa using hsz) ?_ ?_
    · intro i d hd
      obtain ⟨σ', r, hσ, hasg, htst, hno, hyes⟩ := turn H2.objs.size i d hd
      refine ⟨σ', r, hσ, hasg, htst, hno, fun hr E' => ?_⟩
      obtain ⟨ds2, g2, hi2, hg, turn2⟩ := hyes hr
      intro K5 s5 ys Q' st5 I5 hD5 acc5 hlen hQ'
      refine wpAny_bind (wpAny_mono (hi2.run K5 s5 (fun it s' => ∃ K6, Step K5 s5 K6 s' ∧ IterAt P w A b2 t2 s5 K6 s' it ds2) _ I5 fun it K6 s6 st6 hit6 => ⟨K6, st6, hit6⟩) (fun x s6 hx => ?_) fun _ _ e => e)
      refine wpAny_bind (wpAny_standAt (wpAny_bind (wpAny_of_eq (hf2 _ x) (wpAny_bind (wpAny_holding (wpAny_mono hx (fun it s7 h7 => ?_) fun _ _ e => e))))))
      obtain ⟨K7, st7, hit7⟩ := h7
      obtain ⟨Ib, fp2, wr2, St2, Mid2, rfl, W2, hst2, hfk2, hwr2⟩ := hit7.ex
      have hCK : K5 H2.objs.size = none := I5.off _ (List.mem_singleton.mpr rfl)
      obtain ⟨oC, hoC⟩ := I5.has H2.objs.size (List.mem_singleton.mpr rfl)
      obtain ⟨nD, hoD⟩ := id acc5
      have hf2K : ∀ a ∈ fp2, a ∈ wr2 ∨ ∃ o, K7 a = some o := hfk2
      have notC : H2.objs.size ∉ fp2 := fun q => by
        rcases hf2K _ q with h | ⟨o, h⟩
        · rw [(hwr2 _ h).2] at hoC; cases hoC
        · rw [st7.new _ _ hoC, hCK] at h; cases h
      have notD : s1.heap.objs.size ∉ fp2 := fun q => by
        rcases hf2K _ q with h | ⟨o, h⟩
        · rw [(hwr2 _ h).2] at hoD; cases hoD
        · rw [st7.new _ _ hoD, hD5] at h; cases h
      have base2 : ∀ a ∈ wr2, s.heap.get? a = none := fun a ha => by
        cases e : s.heap.get? a with
        | none => rfl
        | some o => obtain ⟨o', e'⟩ := st5.alive a o e; rw [(hwr2 a ha).2] at e'; cases e'
      have loop2 : codeAny (model P w) A (.compLoop (.ListComp elt [⟨t1, i1, fs1, 0⟩, ⟨t2, i2, fs2, 0⟩] scope pos) 1 (.ref Ib) (.ref s1.heap.objs.size) (inner c scope cl H2.objs.size).env)
          (fun r s' => match r with | .ok _ => Q' (.again (.compLoop (.ListComp elt [⟨t1, i1, fs1, 0⟩, ⟨t2, i2, fs2, 0⟩] scope pos) 0 (.ref Ia) (.ref s1.heap.objs.size) (inner c scope cl H2.objs.size).env)) s' | .error e => cameBackBy (model P w) A (inner c scope cl H2.objs.size).env E' e s') s7 := by
        refine compLoopG (cx := inner c scope cl H2.objs.size) (K := K) (s := s) (ys0 := ys) (ds := ds2) (g := g2) (σc := σ')
          (act := fun env => (do let _ ← call (.builtin "list.append") [.ref s1.heap.objs.size, ← eval elt env] : Sem Unit) >>= fun _ => again (.compLoop (.ListComp elt [⟨t1, i1, fs1, 0⟩, ⟨t2, i2, fs2, 0⟩] scope pos) 1 (.ref Ib) (.ref s1.heap.objs.size) env))
          rfl (st5.trans (SStep.of st7)) rfl notC (sn _ hD) hDC notD hcs W2 hst2 (fun a ha => ⟨(hwr2 a ha).1, base2 a ha⟩) ((st7.new _ _ hoD).trans hD5) (acc5.at fun o e => st7.keep _ _ e) (I5.step st7) (by rw [← hg]; exact hlen) ?_ ?_
        · intro i2' d2 hd2
          obtain ⟨σ'', r2, hσ2, hasg2, htst2, hno2, hyes2⟩ := turn2 i2' d2 hd2
          refine ⟨σ'', r2, hσ2, hasg2, htst2, hno2, fun hr2 E'' => ?_⟩
          obtain ⟨e2, he2, hev2⟩ := hyes2 hr2
          rw [he2]
          exact act_emit hσ2 (sn _ hD) hDt (fun x a e q => by obtain ⟨o, ho⟩ := hcs x a e; rw [q, sn _ hD] at ho; cases ho) hev2
        · intro K8 s8 vs st8 I8 hsub8 hk8 hn8 acc8 hr8
          refine hQ' K8 s8 vs st8 (I8.sub hσ) (fun a o e => hsub8 _ _ (st7.mono _ _ e)) (fun a o h1 h2 e => hk8 a o h1 (fun q => by rw [(hwr2 a q).2] at e; cases e) h2 (st7.keep _ _ e)) (fun a o e => (hn8 a o (st7.keep _ _ e)).trans (st7.new a o e)) acc8 (by rw [hg]; exact hr8)
      refine wpAny_bind (wpAny_runOwn (codeAny_mono (start1 loop2 (W2.self 0 _ _ _ hst2 loop2)) fun r s' hr' => ?_))
      cases r with
      | ok f => exact wpAny_pure hr'
      | error e => exact hr'
    · intro K' s' vs st' I' _ _ hn' acc' hr'
      obtain ⟨n, hacc'⟩ := acc'
      rw [List.nil_append] at hacc'
      obtain ⟨n0, ho0⟩ := hacc
      have hD' : K' s1.heap.objs.size = none := (hn' _ _ ho0).trans (kn _ hD)
      have nC : ∀ a o, s.heap.get? a = some o → a ≠ H2.objs.size := fun a o e q => by rw [q, sn _ hC] at e; cases e
      have nD : ∀ a o, s.heap.get? a = some o → a ≠ s1.heap.objs.size := fun a o e q => by rw [q, sn _ hD] at e; cases e
      have kC : ∀ a o, K' a = some o → a ≠ H2.objs.size := fun a o e q => by rw [q, I'.off _ (List.mem_singleton.mpr rfl)] at e; cases e
      have hsubp : KSub K' (K'.put s1.heap.objs.size (seqObj "list" vs.toArray n)) := Know.put_sub hD'
      refine hR _ _ (K'.put s1.heap.objs.size (seqObj "list" vs.toArray n)) _ ⟨fun a o e => hsubp _ _ (st'.mono _ _ e), fun a o e => ?_, fun a o e => (Know.put_ne _ _ (nD a o e)).trans (st'.new a o e), fun a o e => ?_, st'.same⟩ (.lst (Know.put_same _ _ _) (hr'.mono hsubp)) (sn _ hC) ((Know.put_ne _ _ (fun q => hDC q.symm)).trans (I'.off _ (List.mem_singleton.mpr rfl))) I'.ns
      · by_cases q : a = s1.heap.objs.size
        · subst q; rw [Know.put_same] at e; cases e
          exact hacc'
        · rw [Know.put_ne _ _ q] at e
          exact I'.kin _ _ e
      · exact st'.keep a o (fun q => nC a o e (List.mem_singleton.mp q)) e
  exact codeAny_compStart_list loop (W.self 0 _ _ _ hst₁ loop)

/-- a comprehension of two clauses whose list is stored at once under a name -/
theorem x_comp2 {b b2 : Bool} {t1 i1 t2 i2 elt : Expr} {fs1 fs2 : List Expr} {scope : Scope} {ds : List D} (g : D → List D) {cl : List (Str × Addr)} {σc : Str → Option D} {x : Str} {px : Pos} (ok : CompOk c scope cl σ σc)
    (hi : EvI P w h₀ A c σ b t1 i1 ds) (hsz : (ds.flatMap g).length ≤ sizeLine)
    (turn : ∀ (C : Addr) (i : Nat) (d : D), ds[i]? = some d → Turn2 P w h₀ A (inner c scope cl C) b b2 σc t1 t2 i2 elt fs1 fs2 d (g d))
    (hΦ : Φ (.next (put σ x (.lst (ds.flatMap g))))) (hx : Stores c x := by first | exact .inl ⟨rfl, rfl⟩ | exact .inr ⟨rfl, rfl, _, rfl, by simp⟩)
    (hsw : swapsWith (.ListComp elt [⟨t1, i1, fs1, 0⟩, ⟨t2, i2, fs2, 0⟩] scope p) (some (.Name x px)) pos.line c.env = pure true := by rfl)
    (hf : ∀ x, foldedSetIterable i1 c.env x = pure x := by intro _; rfl) (hf2 : ∀ (C : Addr) (x : Value), foldedSetIterable i2 (inner c scope cl C).env x = pure x := by intro _ _; rfl) :
    X1 P w h₀ A c σ (.Assign [.Name x px] (.ListComp elt [⟨t1, i1, fs1, 0⟩, ⟨t2, i2, fs2, 0⟩] scope p) pos) Φ := .mk fun K s Q E I hq => by
  rw [exec_Assign_Name_used _ _ _ _ hsw]
  refine wpAny_bind (wpAny_standAt (wpAny_bind ?_))
  show wpAny _ A (do let _ ← comprehension (.ListComp elt [⟨t1, i1, fs1, 0⟩, ⟨t2, i2, fs2, 0⟩] scope p) scope c.env _ (newList []) false (eval i1 c.env) (some (assign (.Name x px) c.env))) _ _ s
  refine wpAny_bind (wpAny_mono (comp_some (M := model P w) (A := A) (E := E) (Q := fun _ s' => Q .next s') rfl hf ok.clo ok.kind ok.names ?_) (fun _ s' hq => wpAny_pure (wpAny_pure hq)) fun _ _ e => e)
  refine hi.run K s _ E I fun it K1 s1 st1 hit => ?_
  refine comp2_start (R := fun acc cenv r s' => match r with
    | .ok _ => wpAny (model P w) A (assign (.Name x px) c.env acc) (fun _ s'' => ∃ m, s''.heap.Ns cenv.locals m ∧ ∀ h', Heap.SameBut cenv.locals s''.heap h' → Q .next { s'' with heap := h' }) E s'
    | .error _ => False) ok I st1 hit hsz turn ?_ hf2
  intro Dd C K' s' st r hC hKC hn
  obtain ⟨m, hn⟩ := hn
  have I' : Inv h₀ c σ K' s' := I.step st
  have tn : C ∉ c.turns := fun q => by obtain ⟨o, e⟩ := I.has _ q; rw [hC] at e; cases e
  refine wpAny_assign_Name (store I' r hx fun s2 st2 I2 => ?_)
  refine ⟨m, hn.at' fun o e => st2.keep _ _ tn e, fun h' hs => ?_⟩
  obtain ⟨st3, I3⟩ := butWr (wr := [C]) (tk := s2.toks) (h' := h') ((SStep.of st).trans st2) (fun a ha q => tn (by rw [List.mem_singleton] at q; rw [← q]; exact ha))
    (fun y a ha q => by obtain ⟨v, o, e, _⟩ := I.cell y a ha; rw [List.mem_singleton] at q; rw [q, hC] at e; cases e) I2 (fun a ha => by rw [List.mem_singleton] at ha; subst ha; exact ⟨hKC, hC⟩)
    (fun a o ha e => (hs.2 a (fun q => ha (by rw [q]; exact List.mem_singleton.mpr rfl))).trans e)
  exact hq _ _ _ _ st3 hΦ ⟨rfl, I3⟩
end

section
variable {P : Program} {w : World} {h₀ : Heap} {mg mb : Str → Option Value}

theorem fn_b1 {x : Str} (T : Top h₀ mg mb) (h1 : x.length = 1) {r : Bool} (hr : r = true ↔ ((x.cps.getD 0 0 : Nat) : Int) ∈ b1N) : Fn P w h₀ mg mb ("in_table_b1" : Str) 1 [.str x] (.bool r) :=
  fn_def (names := [("code" : Str)]) (fun _ => []) T rfl (fun A L q a code R => xs_cons (x_ret (ev_cmp (ev_fn T R (fn_b T (callIs_ord h1)) (evl_cons (ev_name rfl) evl_nil)) (ev_top T) (cmp_in_set hr)) rfl))
    (fun _ _ _ _ _ _ _ _ vs hv => by
      obtain ⟨v, rfl⟩ := len1 hv
      rfl) (hloc := by intro x hx; exact .inl (by rw [List.mem_singleton.mp hx]; rfl))
end

section
variable {P : Program} {w : World} {h₀ : Heap} {mg mb : Str → Option Value}

/-- a sign's number -/
noncomputable def sgn (x : Str) : Int := ((x.cps.getD 0 0 : Nat) : Int)

theorem fn_c6 {x : Str} (T : Top h₀ mg mb) (h1 : x.length = 1) {r : Bool} (hr : r = true ↔ sgn x ∈ c6N) : Fn P w h₀ mg mb ("in_table_c6" : Str) 1 [.str x] (.bool r) :=
  fn_def (names := [("code" : Str)]) (fun _ => []) T rfl (fun A L q a code R => xs_cons (x_ret (ev_cmp (ev_fn T R (fn_b T (callIs_ord h1)) (evl_cons (ev_name rfl) evl_nil)) (ev_top T) (cmp_in_set hr)) rfl))
    (fun _ _ _ _ _ _ _ _ vs hv => by
      obtain ⟨v, rfl⟩ := len1 hv
      rfl) (hloc := by intro x hx; exact .inl (by rw [List.mem_singleton.mp hx]; rfl))
theorem fn_c7 {x : Str} (T : Top h₀ mg mb) (h1 : x.length = 1) {r : Bool} (hr : r = true ↔ sgn x ∈ c7N) : Fn P w h₀ mg mb ("in_table_c7" : Str) 1 [.str x] (.bool r) :=
  fn_def (names := [("code" : Str)]) (fun _ => []) T rfl (fun A L q a code R => xs_cons (x_ret (ev_cmp (ev_fn T R (fn_b T (callIs_ord h1)) (evl_cons (ev_name rfl) evl_nil)) (ev_top T) (cmp_in_set hr)) rfl))
    (fun _ _ _ _ _ _ _ _ vs hv => by
      obtain ⟨v, rfl⟩ := len1 hv
      rfl) (hloc := by intro x hx; exact .inl (by rw [List.mem_singleton.mp hx]; rfl))
theorem fn_c8 {x : Str} (T : Top h₀ mg mb) (h1 : x.length = 1) {r : Bool} (hr : r = true ↔ sgn x ∈ c8N) : Fn P w h₀ mg mb ("in_table_c8" : Str) 1 [.str x] (.bool r) :=
  fn_def (names := [("code" : Str)]) (fun _ => []) T rfl (fun A L q a code R => xs_cons (x_ret (ev_cmp (ev_fn T R (fn_b T (callIs_ord h1)) (evl_cons (ev_name rfl) evl_nil)) (ev_top T) (cmp_in_set hr)) rfl))
    (fun _ _ _ _ _ _ _ _ vs hv => by
      obtain ⟨v, rfl⟩ := len1 hv
      rfl) (hloc := by intro x hx; exact .inl (by rw [List.mem_singleton.mp hx]; rfl))
theorem fn_c9 {x : Str} (T : Top h₀ mg mb) (h1 : x.length = 1) {r : Bool} (hr : r = true ↔ sgn x ∈ c9N) : Fn P w h₀ mg mb ("in_table_c9" : Str) 1 [.str x] (.bool r) :=
  fn_def (names := [("code" : Str)]) (fun _ => []) T rfl (fun A L q a code R => xs_cons (x_ret (ev_cmp (ev_fn T R (fn_b T (callIs_ord h1)) (evl_cons (ev_name rfl) evl_nil)) (ev_top T) (cmp_in_set hr)) rfl))
    (fun _ _ _ _ _ _ _ _ vs hv => by
      obtain ⟨v, rfl⟩ := len1 hv
      rfl) (hloc := by intro x hx; exact .inl (by rw [List.mem_singleton.mp hx]; rfl))

noncomputable def c4P (k : Int) : Prop := ¬ k < 64976 ∧ (k < 65008 ∨ (Builtin.bitAnd k 65535 = 65534 ∨ Builtin.bitAnd k 65535 = 65535))
theorem fn_c4 {x : Str} (T : Top h₀ mg mb) (h1 : x.length = 1) {r : Bool} (hr : r = true ↔ c4P (sgn x)) : Fn P w h₀ mg mb ("in_table_c4" : Str) 1 [.str x] (.bool r) :=
  fn_def (names := [("code" : Str)]) (fun _ => []) T rfl (fun A L q a code R =>
      xs_cons (x_assign (ev_fn T R (fn_b T (callIs_ord h1)) (evl_cons (ev_name rfl) evl_nil))
        (xs_cons (x_if (evt_cmp (ev_name rfl) (ev_int _) cmp_lt)
          (fun hb => xs_cons (x_ret (ev_bool _) (by
            have h : ¬ c4P (sgn x) := fun h => h.1 (of_decide_eq_true hb)
            rw [show r = false from by cases r with | false => rfl | true => exact absurd (hr.mp rfl) h])))
          (fun hb => xs_nil (xs_cons (x_if (evt_cmp (ev_name rfl) (ev_int _) cmp_lt)
            (fun hb' => xs_cons (x_ret (ev_bool _) (by
              have h : c4P (sgn x) := ⟨of_decide_eq_false hb, .inl (of_decide_eq_true hb')⟩
              rw [hr.mpr h])))
            (fun hb' => xs_nil (xs_cons (x_ret (ev_cmp (d' := .tup [.int 65534, .int 65535]) (x := r) (ev_bitand (ev_fn T R (fn_b T (callIs_ord h1)) (evl_cons (ev_name rfl) evl_nil)) (ev_int _)) (ev_tuple (evl_cons (ev_int _) (evl_cons (ev_int _) evl_nil))) (cmp_in_tup false rfl (by intro e he; simp at he; rcases he with rfl | rfl <;> rfl) (by
              rw [hr]
              have q1 := of_decide_eq_false hb
              have q2 := of_decide_eq_false hb'
              simp only [List.mem_cons, D.int.injEq, List.not_mem_nil, or_false]
              exact ⟨fun h => h.2.resolve_left q2, fun h => ⟨q1, .inr h⟩⟩) (by have := R.units; omega))) rfl))))))))))
    (fun _ _ _ _ _ _ _ _ vs hv => by
      obtain ⟨v, rfl⟩ := len1 hv
      rfl) (hloc := by intro x hx; exact .inl (by rw [List.mem_singleton.mp hx]; rfl))

noncomputable def mapB3 (x : Str) : Str := match b3D.lookup (sgn x) with | some y => y | none => Txt.lower x
theorem fn_map {x : Str} (T : Top h₀ mg mb) (h1 : x.length = 1) : Fn P w h₀ mg mb ("map_table_b3" : Str) 1 [.str x] (.str (mapB3 x)) :=
  fn_def (names := [("code" : Str)]) (fun _ => []) T rfl (fun A L q a code R =>
      xs_cons (x_assign (ev_get1 (ev_top T) (ev_fn T R (fn_b T (callIs_ord h1)) (evl_cons (ev_name rfl) evl_nil)))
        (by
          show Xs _ _ _ _ _ (put _ _ (got b3D (sgn x) .none)) _ _
          unfold got mapB3
          cases e : b3D.lookup (sgn x) with
          | some y => exact xs_cons (x_if (evt_cmp (ev_name rfl) ev_none (cmp_isnot_none (fun h => nomatch h))) (fun _ => xs_cons (x_ret (ev_name rfl) rfl)) (fun h => nomatch h))
          | none => exact xs_cons (x_if (evt_cmp (ev_name rfl) ev_none cmp_isnot_none') (fun h => nomatch h) (fun _ => xs_nil (xs_cons (x_ret (ev_lower (ev_name rfl) (by omega)) rfl)))))))
    (fun _ _ _ _ _ _ _ _ vs hv => by
      obtain ⟨v, rfl⟩ := len1 hv
      rfl) (hloc := by intro x hx; exact .inl (by rw [List.mem_singleton.mp hx]; rfl))
end

/-- the letters of a number, base sixteen -/
noncomputable def apL (n : Nat) : List UInt8 := if h : n = 0 then [] else apL (n / 16) ++ [UInt8.ofNat (65 + n % 16)]
termination_by n
decreasing_by exact Nat.div_lt_self (Nat.pos_of_ne_zero h) (by decide)
theorem apL_zero : apL 0 = [] := by rw [apL]; simp
theorem apL_pos {n : Nat} (h : n ≠ 0) : apL n = apL (n / 16) ++ [UInt8.ofNat (65 + n % 16)] := by rw [apL, dif_neg h]
noncomputable def apB : List UInt8 := [65, 66, 67, 68, 69, 70, 71, 72, 73, 74, 75, 76, 77, 78, 79, 80]
theorem cut_ap : ∀ m : Nat, m < 16 → cut apB (some (m : Int)) (some ((m : Int) + 1)) = [UInt8.ofNat (65 + m)] := by decide
section
variable {P : Program} {w : World} {h₀ : Heap} {mg mb : Str → Option Value}

theorem fn_ap {i : Int} (T : Top h₀ mg mb) (hn : (apL i.natAbs).length ≤ 1000000) : Fn P w h₀ mg mb ("Int2AP" : Str) 1 [.int i] (.bytes (apL i.natAbs).toArray) :=
  fn_def (names := [("num" : Str)]) (fun _ => []) T rfl (fun A L q a code R => by
      refine xs_cons (x_assign (ev_bytes _) ?_)
      refine xs_cons (x_assign (ev_bytes _) ?_)
      refine xs_cons (x_assign (ev_fn T R (fn_t T callIs_int) (evl_cons (ev_fn T R (fn_b T callIs_abs) (evl_cons (ev_name rfl) evl_nil)) evl_nil)) ?_)
      refine xs_cons (x_while (fun m σ => ∃ v : List UInt8, σ ("num" : Str) = some (.int (m : Nat)) ∧ σ ("val" : Str) = some (.bytes v.toArray) ∧ σ ("AP" : Str) = some (.bytes apB.toArray) ∧ apL m ++ v = apL i.natAbs) i.natAbs
          ⟨[], rfl, rfl, rfl, List.append_nil _⟩ ?_)
      rintro m σ' ⟨v, h1, h2, h3, h4⟩
      refine ⟨_, evt_int (ev_name h1), fun hb => ?_, fun hb => ?_⟩
      · have hm : m ≠ 0 := by rintro rfl; exact absurd hb (by decide)
        rw [apL_pos hm] at h4
        have hlen : (apL (m / 16)).length + 1 + v.length ≤ 1000000 := by
          have := congrArg List.length h4
          simp only [List.length_append, List.length_singleton] at this
          omega
        have hd : ((m : Nat) : Int).fdiv 16 = ((m / 16 : Nat) : Int) := by rw [Int.fdiv_eq_ediv_of_nonneg _ (by decide)]; omega
        have hf : ((m : Nat) : Int).fmod 16 = ((m % 16 : Nat) : Int) := by rw [Int.fmod_eq_emod_of_nonneg _ (by decide)]; omega
        refine xs_cons (x_asgt (xs := [(("num" : Str), _), (("mod" : Str), _)]) R.handled (ev_fn T R (fn_b T (callIs_divmod (by decide) (PyProof.noPylong_small (by decide)))) (evl_cons (ev_name h1) (evl_cons (ev_int _) evl_nil))) ?_ rfl ?_)
        · refine xs_cons (x_assign (ev_addb (b := [UInt8.ofNat (65 + m % 16)].toArray) (b' := v.toArray) ?_ (ev_name h2) ?_) (xs_nil ⟨m / 16, Nat.div_lt_self (Nat.pos_of_ne_zero hm) (by decide), [UInt8.ofNat (65 + m % 16)] ++ v, ?_, ?_, ?_, ?_⟩))
          · rw [← cut_ap _ (Nat.mod_lt m (by decide))]
            exact slice_bytes_ (b := apB.toArray) (ev_name h3) (.some (ev_name (by rw [← hf]; rfl))) (.some (ev_add (ev_name (by rw [← hf]; rfl)) (ev_int _))) (by decide)
          · simp only [List.size_toArray, List.length_singleton]; omega
          · rw [← hd]; rfl
          · rw [← List.append_toArray]; rfl
          · exact h3
          · rw [← h4, List.append_assoc]
        · intro x hx
          simp only [List.mem_cons, List.not_mem_nil, or_false] at hx
          rcases hx with rfl | rfl <;> exact .inl ⟨rfl, rfl⟩
      · have hm : m = 0 := by simpa using hb
        subst hm
        rw [apL_zero, List.nil_append] at h4
        subst h4
        exact xs_cons (x_ret (ev_name h2) rfl))
    (fun _ _ _ _ _ _ _ _ vs hv => by
      obtain ⟨v, rfl⟩ := len1 hv
      rfl) (hloc := by intro x hx; exact .inl (by rw [List.mem_singleton.mp hx]; rfl))
end

noncomputable def sum16 (ns : List Int) : Int := ns.foldl (fun a b => a * 16 + b) 0
theorem intsD_at {ns : List Int} {i : Nat} {d : D} (h : (intsD ns)[i]? = some d) : ∃ k, ns[i]? = some k ∧ d = .int k := by
  unfold intsD at h
  rw [List.getElem?_map] at h
  cases e : ns[i]? with
  | none => rw [e] at h; cases h
  | some k => rw [e] at h; cases h; exact ⟨k, rfl, rfl⟩
theorem intsD_length (ns : List Int) : (intsD ns).length = ns.length := List.length_map ..
section
variable {P : Program} {w : World} {h₀ : Heap} {mg mb : Str → Option Value}

theorem fn_sum {ns : List Int} (T : Top h₀ mg mb) : Fn P w h₀ mg mb ("_law_sum" : Str) 1 [.lst (intsD ns)] (.int (sum16 ns)) :=
  fn_def (names := [("figures" : Str)]) (fun _ => []) T rfl (fun A L q a code R => by
      refine xs_cons (x_assign (ev_int _) ?_)
      refine xs_cons (x_for (fun i σ => σ ("number" : Str) = some (.int (sum16 (ns.take i)))) (evI_list R.handled (ev_name (d := .lst (intsD ns)) rfl)) rfl ?_ ?_)
      · intro i d σ hd hJ
        obtain ⟨k, hk, rfl⟩ := intsD_at hd
        refine ⟨_, asg_name, xs_cons (x_assign (ev_add (ev_mul (IntMulOk.of_right (by decide)) (ev_name (d := .int (sum16 (ns.take i))) hJ) (ev_int _)) (ev_name rfl)) (xs_nil ?_))⟩
        have e : sum16 (ns.take (i + 1)) = sum16 (ns.take i) * 16 + k := by
          rw [List.take_add_one, hk]
          unfold sum16
          rw [List.foldl_append]
          rfl
        show some _ = some _
        rw [e]
      · intro σ hJ
        rw [intsD_length, List.take_length] at hJ
        exact xs_cons (x_ret (ev_name hJ) rfl))
    (fun _ _ _ _ _ _ _ _ vs hv => by
      obtain ⟨v, rfl⟩ := len1 hv
      rfl) (hloc := by intro x hx; exact .inl (by rw [List.mem_singleton.mp hx]; rfl))

end

theorem Ev.of_eq {P : Program} {w : World} {h₀ : Heap} {A : Around} {c : Cx} {σ : Str → Option D} {e : Expr} {d d' : D} (h : Ev P w h₀ A c σ e d) (q : d = d') : Ev P w h₀ A c σ e d' := q ▸ h
theorem EvT.of_eq {P : Program} {w : World} {h₀ : Heap} {A : Around} {c : Cx} {σ : Str → Option D} {e : Expr} {b b' : Bool} (h : EvT P w h₀ A c σ e b) (q : b = b') : EvT P w h₀ A c σ e b' := q ▸ h
theorem letter (m : Nat) : (UInt8.ofNat (65 + m % 16)).toNat = 65 + m % 16 := by
  rw [UInt8.toNat_ofNat']
  exact Nat.mod_eq_of_lt (by have := Nat.mod_lt m (show 0 < 16 by decide); omega)
theorem apL_mem : ∀ (n : Nat) (x : UInt8), x ∈ apL n → 65 ≤ x.toNat ∧ x.toNat ≤ 80 := by
  intro n
  induction n using Nat.strongRecOn with
  | _ n ih =>
    intro x hx
    by_cases h : n = 0
    · subst h; rw [apL_zero] at hx; cases hx
    · rw [apL_pos h] at hx
      rcases List.mem_append.mp hx with hx | hx
      · exact ih _ (Nat.div_lt_self (Nat.pos_of_ne_zero h) (by decide)) x hx
      · rw [List.mem_singleton.mp hx, letter]
        have := Nat.mod_lt n (show 0 < 16 by decide)
        omega
theorem apL_head : ∀ n : Nat, (apL n).take 1 ≠ [65] := by
  intro n
  induction n using Nat.strongRecOn with
  | _ n ih =>
    by_cases h : n = 0
    · subst h; rw [apL_zero]; decide
    · rw [apL_pos h]
      by_cases h' : n / 16 = 0
      · rw [h', apL_zero, List.nil_append]
        intro e
        have e1 : UInt8.ofNat (65 + n % 16) = 65 := by simpa using e
        have := congrArg UInt8.toNat e1
        rw [letter] at this
        have : n % 16 = 0 := by simpa using this
        omega
      · have hl : 1 ≤ (apL (n / 16)).length := by rw [apL_pos h', List.length_append]; simp
        rw [List.take_append_of_le_length hl]
        exact ih (n / 16) (Nat.div_lt_self (Nat.pos_of_ne_zero h) (by decide))
theorem apL_sum : ∀ n : Nat, sum16 ((apL n).map fun x => (x.toNat : Int) - 65) = n := by
  intro n
  induction n using Nat.strongRecOn with
  | _ n ih =>
    by_cases h : n = 0
    · subst h; rw [apL_zero]; rfl
    · have e := ih _ (Nat.div_lt_self (Nat.pos_of_ne_zero h) (show 1 < 16 by decide))
      rw [apL_pos h, List.map_append]
      unfold sum16 at e ⊢
      rw [List.foldl_append, e]
      simp only [List.map_cons, List.map_nil, List.foldl_cons, List.foldl_nil]
      rw [letter]
      omega
theorem byteInts_at {b : Array UInt8} {i : Nat} {d : D} (h : (byteInts b)[i]? = some d) : ∃ x ∈ b.toList, d = .int (x.toNat : Int) := by
  unfold byteInts at h
  rw [List.getElem?_map] at h
  cases e : b.toList[i]? with
  | none => rw [e] at h; cases h
  | some x => rw [e] at h; cases h; exact ⟨x, List.mem_of_getElem? e, rfl⟩
theorem fm_none (ds : List D) : ds.filterMap (fun _ => (none : Option D)) = [] := by simp
/-- an int's own f -/
noncomputable def onInt (f : Int → Int) : D → Option D
  | .int i => some (.int (f i))
  | d => some d
theorem filterMap_onInt (f : Int → Int) (ns : List Int) : (intsD ns).filterMap (onInt f) = intsD (ns.map f) := by
  unfold intsD
  rw [List.filterMap_map, List.map_map, ← List.filterMap_eq_map]
  rfl
theorem byteInts_eq (b : Array UInt8) : byteInts b = intsD (b.toList.map fun x => (x.toNat : Int)) := by
  unfold byteInts intsD; rw [List.map_map]; rfl
section
variable {P : Program} {w : World} {h₀ : Heap} {mg mb : Str → Option Value}

theorem fn_read {n : Nat} (T : Top h₀ mg mb) (hn : (apL n).length ≤ 1000000) : Fn P w h₀ mg mb ("_law_read" : Str) 2 [.bytes (apL n).toArray] (.int n) :=
  fn_def (names := [("word" : Str)]) (fun _ => []) T rfl (fun A L q a code R => by
      have hsz : (byteInts (apL n).toArray).length ≤ sizeLine := by have : sizeLine = 16777216 := rfl; simp only [byteInts, List.length_map]; omega
      refine xs_cons (x_assign (d := .bool true) (ev_and3 (a := true) (b := true) (b' := true) (ev_fn T R (fn_b T (callIs_isbytes (b := (apL n).toArray))) (evl_cons (ev_name rfl) (evl_cons (ev_type T) evl_nil))) (fun _ => ?_) (fun _ _ => ?_)) ?_)
      · refine Ev.of_eq (ev_cmp (slice_bytes_ (b := (apL n).toArray) (ev_name rfl) .none (.some (ev_int 1)) (by have : sizeLine = 16777216 := rfl; simp only [List.size_toArray]; omega)) (ev_bytes [65]) cmp_neb) ?_
        have e : cut (apL n) none (some 1) = (apL n).take 1 := by
          unfold cut kms_lo kms_hi
          simp only [List.drop_zero, Nat.sub_zero]
          simp only [show ¬ ((1 : Int) < 0) by decide, if_false]
          by_cases h : 1 ≤ (apL n).length
          · rw [Nat.min_eq_left (by simpa using h)]; rfl
          · have : (apL n).length = 0 := by omega
            rw [List.length_eq_zero_iff.mp this]; rfl
        show D.bool (cut (apL n) none (some 1) != [65]) = _
        rw [e]
        have := apL_head n
        rw [show ((apL n).take 1 != [65]) = true by simpa using this]
      · refine ev_cmp (d' := .lst []) (ev_compN [] [] (fun _ => none) (evI_bytes R.handled (ev_name (d := .bytes (apL n).toArray) rfl)) (comp_ok [] []) (fun C i d hd => ?_) hsz) (ev_list evl_nil) (cmp_Eq false (by rw [fm_none]; rfl) rfl (by rw [fm_none]; simp) (by have := R.units; omega))
        obtain ⟨x, hx, rfl⟩ := byteInts_at hd
        have hb := apL_mem n x hx
        refine ⟨tst_one ?_, fun e h => nomatch h⟩
        have h1 : decide ((x.toNat : Int) < 65) = false := decide_eq_false (by omega)
        have h2 : decide ((80 : Int) < (x.toNat : Int)) = false := decide_eq_false (by omega)
        refine EvT.of_eq (evt_or2 (a := decide ((x.toNat : Int) < 65)) (b := decide ((80 : Int) < (x.toNat : Int))) (evt_cmp (ev_name rfl) (ev_int _) cmp_lt) (fun _ => evt_cmp (ev_name rfl) (ev_int _) cmp_gt)) ?_
        rw [h1, h2]; rfl
      · refine xs_cons (x_ret (ev_if (x := true) (evt_bool (ev_name rfl)) (fun _ => ?_) (fun h => nomatch h)) rfl)
        refine Ev.of_eq (ev_fn T R (fn_sum (ns := (apL n).map fun x => (x.toNat : Int) - 65) T) (evl_cons (Ev.of_eq (ev_compN [] [] (onInt (· - 65)) (evI_bytes R.handled (ev_name (d := .bytes (apL n).toArray) rfl)) (comp_ok [] []) (fun C i d hd => ?_) hsz) ?_) evl_nil)) (by rw [apL_sum])
        · obtain ⟨x, hx, rfl⟩ := byteInts_at hd
          exact ⟨tst_nil, fun e h => by cases h; exact ev_sub (ev_name rfl) (ev_int _)⟩
        · rw [byteInts_eq, filterMap_onInt, List.map_map]; rfl)
    (fun _ _ _ _ _ _ _ _ vs hv => by
      obtain ⟨v, rfl⟩ := len1 hv
      rfl) (hloc := by intro x hx; exact .inl (by rw [List.mem_singleton.mp hx]; rfl))
end

noncomputable def plainZ (deed extra : Int) (vs : List Int) : Int :=
  if deed = 13 then vs.getD 0 0 * 16 + extra else if deed = 1 ∨ deed = 3 then vs.sum else vs.getD 0 0 - vs.getD 1 0
theorem atI_ints {ns : List Int} {i : Nat} (h : i < ns.length) : AtI (intsD ns) (i : Nat) (.int (ns.getD i 0)) := by
  refine .inl ⟨Int.natCast_nonneg i, ?_⟩
  rw [Int.toNat_natCast]
  unfold intsD
  rw [List.getElem?_map, List.getElem?_eq_getElem h]
  simp [h]
section
variable {P : Program} {w : World} {h₀ : Heap} {mg mb : Str → Option Value}
theorem fn_plain {deed extra : Int} {vs : List Int} (T : Top h₀ mg mb) (h1 : 1 ≤ vs.length) (h2 : deed = 13 ∨ 2 ≤ vs.length) (hsz : vs.length ≤ sizeLine) : Fn P w h₀ mg mb ("_law_plain" : Str) 1 [.int deed, .int extra, .lst (intsD vs)] (.int (plainZ deed extra vs)) :=
  fn_def (names := [("deed" : Str), ("extra" : Str), ("values" : Str)]) (fun _ => []) T rfl (fun A L q a code R => by
      have hlen : (intsD vs).length ≤ sizeLine := by rw [intsD_length]; exact hsz
      have i0 := atI_ints (ns := vs) (i := 0) h1
      refine xs_cons (x_if (evt_cmp (ev_name rfl) (ev_int _) cmp_eq) (fun hb => ?_) (fun hb => xs_nil ?_))
      · have e : deed = 13 := by simpa using hb
        refine xs_cons (x_ret (ev_add (ev_mul (IntMulOk.of_right (by decide)) (ev_item_lst (ev_name (d := .lst (intsD vs)) rfl) (ev_int _) i0 hlen) (ev_int _)) (ev_name (d := .int extra) rfl)) ?_)
        unfold plainZ; rw [if_pos e]
      · have e : ¬ deed = 13 := by simpa using hb
        have i1 := atI_ints (ns := vs) (i := 1) (by omega)
        refine xs_cons (x_ret (d := .int (plainZ deed extra vs)) (ev_if (x := decide (deed = 1 ∨ deed = 3)) (evt_cmp (d' := .tup [.int 1, .int 3]) (ev_name rfl) (ev_tuple (evl_cons (ev_int _) (evl_cons (ev_int _) evl_nil))) (cmp_in_tup false rfl (by intro e he; simp at he; rcases he with rfl | rfl <;> rfl) (by simp) (by have := R.units; omega)))
          (fun h => ?_) (fun h => ?_)) rfl)
        · have h' : deed = 1 ∨ deed = 3 := of_decide_eq_true h
          refine Ev.of_eq (ev_fn T R (fn_b T (callIs_sum hsz)) (evl_cons (ev_name (d := .lst (intsD vs)) rfl) evl_nil)) ?_
          unfold plainZ; rw [if_neg e, if_pos h']
        · have h' : ¬ (deed = 1 ∨ deed = 3) := of_decide_eq_false h
          refine Ev.of_eq (ev_sub (ev_item_lst (ev_name (d := .lst (intsD vs)) rfl) (ev_int _) i0 hlen) (ev_item_lst (ev_name (d := .lst (intsD vs)) rfl) (ev_int _) i1 hlen)) ?_
          unfold plainZ; rw [if_neg e, if_neg h'])
    (fun _ _ _ _ _ _ _ _ vs hv => by
      obtain ⟨_, _, _, rfl⟩ := len3 hv
      rfl) (hloc := by intro x hx; simp only [List.mem_cons, List.not_mem_nil, or_false] at hx; rcases hx with rfl | rfl | rfl <;> exact .inl rfl)
end

noncomputable def rising : List Int → Bool
  | a :: b :: l => decide (a < b) && rising (b :: l)
  | _ => true
theorem rising_lt : ∀ {l : List Int}, rising l = true → l.Pairwise (· < ·)
  | [], _ => .nil
  | [a], _ => .cons (by simp) .nil
  | a :: b :: l, h => by
    rw [rising, Bool.and_eq_true, decide_eq_true_eq] at h
    have r := rising_lt h.2
    refine .cons (fun c hc => ?_) r
    rcases List.mem_cons.mp hc with rfl | hc
    · exact h.1
    · exact Int.lt_trans h.1 ((List.pairwise_cons.mp r).1 c hc)
theorem rising_nodup {l : List Int} (h : rising l = true) : l.Nodup := (rising_lt h).imp fun hab => Int.ne_of_lt hab
section
variable {P : Program} {w : World} {h₀ : Heap} {mg mb : Str → Option Value}
theorem spell_pairs : constPairs (keysOf (stmtAt 18)) (valsOf (stmtAt 18)) = some spellD := by kernel_rfl
theorem spell_nodup : (spellD.map (·.1)).Nodup := rising_nodup (by kernel_rfl)
theorem spell_len : spellD.length = 42 := by kernel_rfl
theorem spell_ne : spellD ≠ [] := by
  intro e
  have := spell_len
  rw [e] at this; cases this
theorem spell_at : topD.lookup ("_LAW_SPELL" : Str) = some (.fn (.FunctionDef ("_LAW_SPELL" : Str) (argsOf (stmtAt 18)) [.Return (some (.Dict (keysOf (stmtAt 18)) (valsOf (stmtAt 18)) (dictPos (stmtAt 18)))) (retPos (stmtAt 18))] [] none []
    { kind := .function, names := [], isGenerator := false, isCoroutine := false } none ("_LAW_SPELL" : Str) (stPos (stmtAt 18)))) := by kernel_rfl
theorem fn_dct {x : Str} {args : Arguments} {ks : List (Option Expr)} {vs : List Expr} {p1 p2 p3 : Pos} {ys : List (Int × Str)} (T : Top h₀ mg mb)
    (hx : topD.lookup x = some (.fn (.FunctionDef x args [.Return (some (.Dict ks vs p1)) p2] [] none [] { kind := .function, names := [], isGenerator := false, isCoroutine := false } none x p3)))
    (hp : constPairs ks vs = some ys) (hn : (ys.map (·.1)).Nodup) (hz : ys.length ≤ sizeLine) (h0 : ys ≠ [])
    (hbind : ∀ (name qn : Str) (fb : FuncBody) (doc pm ct code : Value) (ann : Option Addr) (vs : List Value), vs.length = ([] : List D).length → bindArgs ⟨name, qn, args, fb, { kind := .function, names := [], isGenerator := false, isCoroutine := false }, mainGlobals, [], .none, .none, doc, pm, ann, code, ct, builtinsNs⟩ ⟨vs, []⟩ = pure (([] : List Str).zip vs)) :
    Fn P w h₀ mg mb x 1 [] (.dct ys) :=
  fn_def (names := []) (fun _ => []) T hx (fun A L q a code R => xs_cons (x_ret (ev_dict T.sys hp hn hz h0) rfl)) hbind (hloc := by intro x hx; cases hx)
theorem fn_spell (T : Top h₀ mg mb) : Fn P w h₀ mg mb ("_LAW_SPELL" : Str) 1 [] (.dct spellD) :=
  fn_dct T spell_at spell_pairs spell_nodup (by rw [spell_len]; decide) spell_ne (fun _ _ _ _ _ _ _ _ vs hv => by
      obtain rfl := List.length_eq_zero_iff.mp hv
      rfl)
end

noncomputable def rowOf : D → List Int
  | .tup ds => ds.map fun d => match d with | .int i => i | _ => 0
  | _ => []
theorem rowOf_ints (r : List Int) : rowOf (.tup (intsD r)) = r := by
  show (List.map D.int r).map _ = r
  rw [List.map_map]
  exact List.map_id _
noncomputable def col (j : Nat) (r : List Int) : Int := r.getD j 0
noncomputable def chrS (k : Nat) : Str := ⟨#[k]⟩
noncomputable def hit (k : Nat) (r : List Int) : Bool := decide (col 1 r ≤ (k : Int)) && decide ((k : Int) ≤ col 2 r)
noncomputable def tabZ (k : Nat) : Int := (((runsN.filter (hit k)).map (col 0)) ++ [if k % 65536 > 65533 then 5 else 6]).getD 0 0
noncomputable def text0 (k : Nat) : Str := match spellD.lookup (k : Int) with | some x => x | none => ("" : Str)
noncomputable def text1 (k : Nat) : Str := if (65 ≤ k ∧ k < 81) ∨ (97 ≤ k ∧ k < 113) then chrS (97 + (k - 65) % 32) else text0 k
noncomputable def text2 (k : Nat) : Str := if (119808 ≤ k ∧ k < 120484) ∧ ((k - 119808) % 52 < 16 ∧ (k : Int) ∉ holesN) then chrS (97 + (k - 119808) % 52) else text1 k
noncomputable def lettersZ (x : Str) : List Int := x.cps.toList.map fun (c : Nat) => (c : Int) - 97
/-- a sign's letter -/
noncomputable def letterD : D → Option D
  | .str x => some (.int (((x.cps.getD 0 0 : Nat) : Int) - 97))
  | d => some d
theorem signs_letters (x : Str) : (signs x).filterMap letterD = intsD (lettersZ x) := by
  unfold signs lettersZ intsD
  rw [List.filterMap_map, List.map_map, ← List.filterMap_eq_map]
  rfl
theorem lookup_memI : ∀ {l : List (Int × Str)} {k : Int} {x : Str}, l.lookup k = some x → (k, x) ∈ l
  | (i, y) :: l, k, x, h => by
    rw [List.lookup_cons] at h
    cases e : k == i with
    | true => rw [e] at h; cases h; rw [eq_of_beq e]; exact List.mem_cons_self
    | false => rw [e] at h; exact List.mem_cons_of_mem _ (lookup_memI h)
theorem spell_short : spellD.all (fun y => decide (y.2.cps.size ≤ 3)) = true := by kernel_rfl
theorem text0_short (k : Nat) : (text0 k).cps.size ≤ 3 := by
  unfold text0
  cases e : spellD.lookup (k : Int) with
  | none => decide
  | some x => exact of_decide_eq_true (List.all_eq_true.mp spell_short _ (lookup_memI e))
theorem text2_short (k : Nat) : (text2 k).cps.size ≤ 3 := by
  unfold text2 text1
  split
  · exact (by decide : 1 ≤ 3)
  · split
    · exact (by decide : 1 ≤ 3)
    · exact text0_short k
noncomputable def dParts (k : Nat) : Int := if tabZ k = 1 then (if k = 12274 ∨ k = 12275 then 3 else 2) else if tabZ k = 2 ∨ tabZ k = 3 then 1 else 0
noncomputable def dDeed (k : Nat) : Int := if tabZ k = 1 then (k : Int) - 12272 else if tabZ k = 2 ∨ tabZ k = 3 then 10 + tabZ k else 14
noncomputable def dNum (k : Nat) : Int := if tabZ k = 1 then 0 else if tabZ k = 2 ∨ tabZ k = 3 then (if tabZ k = 3 then ((k % 16 : Nat) : Int) else 0) else if tabZ k ≠ 6 then ((k / 65536 : Nat) : Int) else if text2 k = ("" : Str) then (k : Int) else sum16 (lettersZ (text2 k))
noncomputable def dText (k : Nat) : Str := if tabZ k = 6 then text2 k else chrS k
noncomputable def dueD (k : Nat) : D := .tup [.int (tabZ k), .int (dParts k), .int (dDeed k), .int (dNum k), .str (dText k)]

theorem runs_n : runsN.length = 17 := by kernel_rfl
theorem runs_len : runsN.all (fun r => r.length == 3) = true := by kernel_rfl
theorem fmodN (k m : Nat) : ((k : Int).fmod (m : Int)) = ((k % m : Nat) : Int) := by rw [Int.fmod_eq_emod_of_nonneg _ (Int.natCast_nonneg m)]; rfl
theorem fdivN (k m : Nat) : ((k : Int).fdiv (m : Int)) = ((k / m : Nat) : Int) := by rw [Int.fdiv_eq_ediv_of_nonneg _ (Int.natCast_nonneg m)]; rfl
theorem tab_rows (k : Nat) (l : List (List Int)) : ((l.map fun r => D.tup (intsD r)).filterMap fun d => if hit k (rowOf d) then some (D.int (col 0 (rowOf d))) else none) = intsD ((l.filter (hit k)).map (col 0)) := by
  induction l with
  | nil => rfl
  | cons r l ih =>
    rw [List.map_cons, List.filterMap_cons, List.filter_cons]
    simp only [rowOf_ints]
    cases hit k r with
    | true =>
      simp only [if_true]
      rw [ih]; rfl
    | false =>
      simp only [Bool.false_eq_true, if_false]
      exact ih
section
variable {P : Program} {w : World} {h₀ : Heap} {mg mb : Str → Option Value} {A : Around} {c : Cx} {σ : Str → Option D} {Φ : Out → Prop} {pos p : Pos}
theorem x_ifJ (Ψ : (Str → Option D) → Prop) {t : Expr} {b : Bool} {body orelse : List Stmt} (ht : EvT P w h₀ A c σ t b) (h1 : b = true → Xs P w h₀ A c σ body (fun o => match o with | .next σ' => Ψ σ' | _ => False)) (h2 : b = false → Xs P w h₀ A c σ orelse (fun o => match o with | .next σ' => Ψ σ' | _ => False))
    (hc : ∀ σ', Ψ σ' → Φ (.next σ')) : X1 P w h₀ A c σ (.If t body orelse pos) Φ :=
  x_if ht (fun hb => (h1 hb).mono fun o ho => by cases o with | next σ' => exact hc σ' ho | _ => exact ho.elim) (fun hb => (h2 hb).mono fun o ho => by cases o with | next σ' => exact hc σ' ho | _ => exact ho.elim)

theorem fn_due {k : Nat} (T : Top h₀ mg mb) (hk : k ≤ 1114111) : Fn P w h₀ mg mb ("_law_due" : Str) 2 [.int k] (dueD k) :=
  fn_def (names := [("code" : Str)]) (fun L => [(("code" : Str), L + 1)]) T rfl (fun A L q a code R => by
      have hu : A.units ≤ 5000 := by have := R.units; omega
      have chr : ∀ {c : Cx} {σ : Str → Option D} {p pos : Pos} {e : Expr} (i : Nat), i ≤ 1114111 → c.env.scope.kind = .function → c.env.kindOf ("chr" : Str) = some .globalImplicit → c.env.globals = mainGlobals → c.env.builtins = builtinsNs → (∀ env, starEach [e] env = [(false, eval e env)]) → Ev P w h₀ A c σ e (.int i) → Ev P w h₀ A c σ (.Call (.Name ("chr" : Str) p) [e] [] pos) (.str (chrS i)) := fun i hi h1 h2 h3 h4 hs h => by
        have := fn_b (x := "chr") T (callIs_chr (P := P) (w := w) (h₀ := h₀) (i := (i : Nat)) (Int.natCast_nonneg i) (by omega))
        exact ev_fn T R this (evl_cons h evl_nil hs) (hs := hs _) (hk := h1) (hx := h2) (hg := h3) (hb := h4)
      refine xs_cons (x_assign (d := .int (tabZ k)) (ev_item_lst (ds := intsD (((runsN.filter (hit k)).map (col 0)) ++ [if k % 65536 > 65533 then 5 else 6])) (Ev.of_eq (ev_addl
          (ev_compN [("code" : Str)] [(("code" : Str), L + 1)] (fun d => if hit k (rowOf d) then some (D.int (col 0 (rowOf d))) else none) (evI_tup R.handled (ev_top T)) (comp_ok [("code" : Str)] [(("code" : Str), L + 1)]) (fun C i d hd => ?_) ?_)
          (ev_list (ds := intsD [if k % 65536 > 65533 then 5 else 6]) (evl_cons (ev_if (x := decide (k % 65536 > 65533)) ?_ (fun h => ?_) (fun h => ?_)) evl_nil) (show 1 ≤ sizeLine by decide)) ?_) ?_) (ev_int _) ?_ ?_) ?_)
      · rw [List.getElem?_map] at hd
        cases hr : runsN[i]? with
        | none => rw [hr] at hd; cases hd
        | some r =>
          rw [hr] at hd; cases hd
          have hlen : r.length = 3 := by
            have := List.all_eq_true.mp runs_len r (List.mem_of_getElem? hr)
            simpa using this
          have hrow : (intsD r).length ≤ sizeLine := by rw [intsD_length, hlen]; decide
          have at' := fun j (hj : j < r.length) => atI_ints (ns := r) (i := j) hj
          refine ⟨tst_one (EvT.of_eq (evt_chain (ev_item_tup (ds := intsD r) (ev_name rfl) (ev_int _) (at' 1 (by omega)) hrow) (ev_name (d := .int k) rfl) (ev_item_tup (ds := intsD r) (ev_name rfl) (ev_int _) (at' 2 (by omega)) hrow) cmp_le cmp_le) ?_), fun e he => ?_⟩
          · simp only [rowOf_ints]
            show hit k r = _
            cases hit k r <;> rfl
          · simp only [rowOf_ints] at he
            split at he
            · cases he
              exact ev_item_tup (ds := intsD r) (ev_name rfl) (ev_int _) (at' 0 (by omega)) hrow
            · cases he
      · rw [List.length_map, runs_n]; decide
      · exact EvT.of_eq (evt_cmp (ev_mod (by decide) (ev_name (d := .int k) rfl) (ev_int _)) (ev_int _) cmp_gt) (by rw [show ((k : Int).fmod 65536) = ((k % 65536 : Nat) : Int) from fmodN k 65536]; exact decide_eq_decide.mpr (by omega))
      · exact Ev.of_eq (ev_int _) (by rw [if_pos (of_decide_eq_true h)])
      · exact Ev.of_eq (ev_int _) (by rw [if_neg (of_decide_eq_false h)])
      · rw [tab_rows, intsD_length, List.length_map, intsD_length]
        have h1 := List.length_filter_le (hit k) runsN
        have h2 : sizeLine = 16777216 := rfl
        rw [runs_n] at h1
        show _ + 1 ≤ _
        omega
      · rw [tab_rows]; unfold intsD; rw [List.map_append]
      · exact atI_ints (i := 0) (by simp)
      · rw [intsD_length, List.length_append, List.length_map]
        have h1 := List.length_filter_le (hit k) runsN
        have h2 : sizeLine = 16777216 := rfl
        rw [runs_n] at h1
        show _ + 1 ≤ _
        omega
      show Xs _ _ _ _ _ _ _ _
      have num : ∀ {c : Cx} {σ : Str → Option D} {p : Pos}, σ ("code" : Str) = some (.int k) → c.env.scope.kind = .function → Ev P w h₀ A c σ (.Name ("code" : Str) p) (.int k) := fun h1 h2 => ev_name h1 h2
      refine xs_cons (x_if (evt_cmp (ev_name (d := .int (tabZ k)) rfl) (ev_int _) cmp_eq) (fun hb => ?_) (fun hb => xs_nil ?_))
      · have h1 : tabZ k = 1 := by simpa using hb
        refine xs_cons (x_ret (d := dueD k) (Ev.of_eq (ev_tuple (ds := [.int (tabZ k), .int (dParts k), .int ((k : Int) - 12272), .int 0, .str (chrS k)]) (evl_cons (ev_name (d := .int (tabZ k)) rfl) (evl_cons (ev_if (x := decide (k = 12274 ∨ k = 12275)) (evt_cmp (d' := .tup [.int 12274, .int 12275]) (ev_name (d := .int k) rfl) (ev_tuple (evl_cons (ev_int _) (evl_cons (ev_int _) evl_nil))) (cmp_in_tup false rfl (by intro e he; simp at he; rcases he with rfl | rfl <;> rfl) (by simp; omega) hu)) (fun h => Ev.of_eq (ev_int _) ?_) (fun h => Ev.of_eq (ev_int _) ?_))
          (evl_cons (ev_sub (ev_name (d := .int k) rfl) (ev_int _)) (evl_cons (ev_int _) (evl_cons (chr k hk rfl rfl rfl rfl (fun _ => rfl) (ev_name (d := .int k) rfl)) evl_nil)))))) ?_) rfl)
        · unfold dParts; rw [if_pos h1, if_pos (of_decide_eq_true h)]
        · unfold dParts; rw [if_pos h1, if_neg (of_decide_eq_false h)]
        · unfold dueD dDeed dNum dText
          rw [if_pos h1, if_pos h1, if_neg (by omega)]
      · have h1 : ¬ tabZ k = 1 := by simpa using hb
        refine xs_cons (x_if (b := decide (tabZ k = 2 ∨ tabZ k = 3)) (evt_cmp (d' := .tup [.int 2, .int 3]) (ev_name (d := .int (tabZ k)) rfl) (ev_tuple (evl_cons (ev_int _) (evl_cons (ev_int _) evl_nil))) (cmp_in_tup false rfl (by intro e he; simp at he; rcases he with rfl | rfl <;> rfl) (by simp) hu)) (fun hb => ?_) (fun hb => xs_nil ?_))
        · have h2 : tabZ k = 2 ∨ tabZ k = 3 := of_decide_eq_true hb
          refine xs_cons (x_ret (d := dueD k) (Ev.of_eq (ev_tuple (ds := [.int (tabZ k), .int 1, .int (10 + tabZ k), .int (dNum k), .str (chrS k)]) (evl_cons (ev_name (d := .int (tabZ k)) rfl) (evl_cons (ev_int _) (evl_cons (ev_add (ev_int _) (ev_name (d := .int (tabZ k)) rfl))
            (evl_cons (ev_if (x := decide (tabZ k = 3)) (EvT.of_eq (evt_cmp (ev_name (d := .int (tabZ k)) rfl) (ev_int _) cmp_eq) ?_) (fun h => Ev.of_eq (ev_mod (by decide) (ev_name (d := .int k) rfl) (ev_int _)) ?_) (fun h => Ev.of_eq (ev_int _) ?_)) (evl_cons (chr k hk rfl rfl rfl rfl (fun _ => rfl) (ev_name (d := .int k) rfl)) evl_nil)))))) ?_) rfl)
          · by_cases q : tabZ k = 3 <;> simp [q]
          · unfold dNum; rw [if_neg h1, if_pos h2, if_pos (of_decide_eq_true h)]; rw [show ((k : Int).fmod 16) = ((k % 16 : Nat) : Int) from fmodN k 16]
          · unfold dNum; rw [if_neg h1, if_pos h2, if_neg (of_decide_eq_false h)]
          · unfold dueD dDeed dParts dText
            rw [if_neg h1, if_neg h1, if_pos h2, if_pos h2, if_neg (by omega)]
        · have h2 : ¬ (tabZ k = 2 ∨ tabZ k = 3) := of_decide_eq_false hb
          refine xs_cons (x_if (evt_cmp (ev_name (d := .int (tabZ k)) rfl) (ev_int _) cmp_ne) (fun hb => ?_) (fun hb => xs_nil ?_))
          · have h3 : tabZ k ≠ 6 := by simpa using hb
            refine xs_cons (x_ret (d := dueD k) (Ev.of_eq (ev_tuple (ds := [.int (tabZ k), .int 0, .int 14, .int ((k / 65536 : Nat) : Int), .str (chrS k)]) (evl_cons (ev_name (d := .int (tabZ k)) rfl) (evl_cons (ev_int _) (evl_cons (ev_int _)
              (evl_cons (Ev.of_eq (ev_floordiv (by decide) (PyProof.noPylong_small (by decide)) (ev_name (d := .int k) rfl) (ev_int _)) ?_) (evl_cons (chr k hk rfl rfl rfl rfl (fun _ => rfl) (ev_name (d := .int k) rfl)) evl_nil)))))) ?_) rfl)
            · rw [show ((k : Int).fdiv 65536) = ((k / 65536 : Nat) : Int) from fdivN k 65536]
            · unfold dueD dDeed dParts dNum dText
              rw [if_neg h1, if_neg h1, if_neg h1, if_neg h2, if_neg h2, if_neg h2, if_pos h3, if_neg h3]
          · have h3 : tabZ k = 6 := by simpa using hb
            refine xs_cons (x_assign (d := .str (text0 k)) (Ev.of_eq (ev_get2 (kvs := spellD) (k := k) (ev_fn T R (fn_spell T) evl_nil) (ev_name (d := .int k) rfl) (ev_str _)) ?_) ?_)
            · unfold got text0
              cases spellD.lookup (k : Int) <;> rfl
            refine xs_cons (x_ifJ (fun σ => σ ("text" : Str) = some (.str (text1 k)) ∧ σ ("code" : Str) = some (.int k) ∧ σ ("table" : Str) = some (.int (tabZ k))) (b := decide ((65 ≤ k ∧ k < 81) ∨ (97 ≤ k ∧ k < 113)))
              (EvT.of_eq (evt_or2 (a := decide (65 ≤ k ∧ k < 81)) (b := decide (97 ≤ k ∧ k < 113)) (EvT.of_eq (evt_chain (ev_int _) (ev_name (d := .int k) rfl) (ev_int _) cmp_le cmp_lt) ?_) (fun _ => EvT.of_eq (evt_chain (ev_int _) (ev_name (d := .int k) rfl) (ev_int _) cmp_le cmp_lt) ?_)) ?_) (fun hb => ?_) (fun hb => ?_) ?_)
            · rw [← Bool.decide_and]; exact decide_eq_decide.mpr (by omega)
            · rw [← Bool.decide_and]; exact decide_eq_decide.mpr (by omega)
            · exact (Bool.decide_or _ _).symm
            · have h4 := of_decide_eq_true hb
              refine xs_cons (x_assign (chr (97 + (k - 65) % 32) (by omega) rfl rfl rfl rfl (fun _ => rfl) (Ev.of_eq (ev_add (ev_int _) (ev_mod (by decide) (ev_sub (ev_name (d := .int k) rfl) (ev_int _)) (ev_int _))) ?_)) (xs_nil ⟨?_, rfl, rfl⟩))
              · rw [show ((k : Int) - 65) = ((k - 65 : Nat) : Int) by omega, show (((k - 65 : Nat) : Int).fmod 32) = (((k - 65) % 32 : Nat) : Int) from fmodN (k - 65) 32]; rfl
              · show some _ = some _
                unfold text1; rw [if_pos h4]
            · refine xs_nil ⟨?_, rfl, rfl⟩
              show some _ = some _
              unfold text1; rw [if_neg (of_decide_eq_false hb)]
            rintro σ' ⟨g1, g2, g3⟩
            refine xs_cons (x_ifJ (fun σ => σ ("text" : Str) = some (.str (text2 k)) ∧ σ ("code" : Str) = some (.int k) ∧ σ ("table" : Str) = some (.int (tabZ k))) (b := decide ((119808 ≤ k ∧ k < 120484) ∧ ((k - 119808) % 52 < 16 ∧ (k : Int) ∉ holesN)))
              (EvT.of_eq (evt_and3 (a := decide (119808 ≤ k ∧ k < 120484)) (b := decide ((k - 119808) % 52 < 16)) (b' := decide ((k : Int) ∉ holesN)) (EvT.of_eq (evt_chain (ev_int _) (ev_name g2) (ev_int _) cmp_le cmp_lt) ?_)
                (fun h => EvT.of_eq (evt_cmp (ev_mod (by decide) (ev_sub (ev_name g2) (ev_int _)) (ev_int _)) (ev_int _) cmp_lt) ?_)
                (fun _ _ => evt_cmp (d' := .tup (intsD holesN)) (ev_name g2) (ev_top T) (cmp_nin_tup false rfl (by intro e he; obtain ⟨x, _, rfl⟩ := List.mem_map.mp he; rfl) (by rw [decide_eq_false_iff_not, Classical.not_not]; unfold intsD; simp) hu))) ?_) (fun hb => ?_) (fun hb => ?_) ?_)
            · rw [← Bool.decide_and]; exact decide_eq_decide.mpr (by omega)
            · have h5 := of_decide_eq_true h
              rw [show ((k : Int) - 119808) = ((k - 119808 : Nat) : Int) by omega, show (((k - 119808 : Nat) : Int).fmod 52) = (((k - 119808) % 52 : Nat) : Int) from fmodN (k - 119808) 52]
              exact decide_eq_decide.mpr (by omega)
            · rw [← Bool.decide_and, ← Bool.decide_and]
            · have h4 := of_decide_eq_true hb
              refine xs_cons (x_assign (chr (97 + (k - 119808) % 52) (by omega) rfl rfl rfl rfl (fun _ => rfl) (Ev.of_eq (ev_add (ev_int _) (ev_mod (by decide) (ev_sub (ev_name g2) (ev_int _)) (ev_int _))) ?_)) (xs_nil ⟨?_, g2, g3⟩))
              · rw [show ((k : Int) - 119808) = ((k - 119808 : Nat) : Int) by omega, show (((k - 119808 : Nat) : Int).fmod 52) = (((k - 119808) % 52 : Nat) : Int) from fmodN (k - 119808) 52]; rfl
              · show some _ = some _
                unfold text2; rw [if_pos h4]
            · refine xs_nil ⟨?_, g2, g3⟩
              rw [g1]
              unfold text2; rw [if_neg (of_decide_eq_false hb)]
            rintro σ'' ⟨e1, e2, e3⟩
            refine xs_cons (x_ret (d := dueD k) (Ev.of_eq (ev_tuple (ds := [.int (tabZ k), .int 0, .int 14, .int (dNum k), .str (text2 k)]) (evl_cons (ev_name e3) (evl_cons (ev_int _) (evl_cons (ev_int _)
              (evl_cons (ev_if (x := text2 k == ("" : Str)) (evt_cmp (ev_name e1) (ev_str _) cmp_eqs) (fun h => Ev.of_eq (ev_name e2) ?_) (fun h => ?_)) (evl_cons (ev_name e1) evl_nil)))))) ?_) rfl)
            · unfold dNum; rw [if_neg h1, if_neg h2, if_neg (by omega), if_pos (eq_of_beq h)]
            · have h7 : ¬ text2 k = ("" : Str) := fun e => by rw [e] at h; exact absurd h (by decide)
              refine Ev.of_eq (ev_fn T R (fn_sum (ns := lettersZ (text2 k)) T) (evl_cons (Ev.of_eq (ev_compN [] [] letterD (evI_str R.handled (ev_name e1)) (comp_ok [] []) (fun C i d hd => ?_) ?_) ?_) evl_nil)) ?_
              · unfold signs at hd
                rw [List.getElem?_map] at hd
                cases hr : (text2 k).cps.toList[i]? with
                | none => rw [hr] at hd; cases hd
                | some ch =>
                  rw [hr] at hd; cases hd
                  exact ⟨tst_nil, fun e he => by cases he; exact ev_sub (ev_fn T R (fn_b T (callIs_ord (x := ⟨#[ch]⟩) rfl)) (evl_cons (ev_name rfl) evl_nil)) (ev_int _)⟩
              · have h8 := text2_short k
                have h9 : sizeLine = 16777216 := rfl
                simp only [signs, List.length_map, Array.length_toList]
                omega
              · rw [signs_letters]
              · unfold dNum; rw [if_neg h1, if_neg h2, if_neg (by omega), if_neg h7]
            · unfold dueD dDeed dParts dText
              rw [if_neg h1, if_neg h1, if_neg h2, if_neg h2, if_pos h3])
    (fun _ _ _ _ _ _ _ _ vs hv => by
      obtain ⟨v, rfl⟩ := len1 hv
      rfl) (hloc := by intro x hx; exact .inr (by rw [List.mem_singleton.mp hx]; exact ⟨rfl, fun _ => rfl⟩)) (hcn := fun L => by simp)
end

noncomputable def strangeB (x : Str) : Bool := x.cps.toList.any fun c => decide (c < 97) || decide (112 < c)
noncomputable def strangeD : D → Option D
  | .str x => if (decide (x.cps.getD 0 0 < 97) || decide (112 < x.cps.getD 0 0)) = true then some (.str x) else none
  | d => some d
theorem signs_strange (x : Str) : (!((signs x).filterMap strangeD).isEmpty) = strangeB x := by
  unfold signs strangeB
  rw [List.filterMap_map]
  induction x.cps.toList with
  | nil => rfl
  | cons c l ih =>
    rw [List.filterMap_cons, List.any_cons]
    have e : (strangeD ∘ fun ch => D.str ⟨#[ch]⟩) c = if (decide (c < 97) || decide (112 < c)) = true then some (D.str ⟨#[c]⟩) else none := rfl
    rw [e]
    cases (decide (c < 97) || decide (112 < c)) with
    | true => rfl
    | false => simpa using ih
noncomputable def inB (ns : List Int) (k : Nat) : Bool := decide ((k : Int) ∈ ns)
noncomputable def in4B (k : Nat) : Bool := decide (¬ k < 64976 ∧ (k < 65008 ∨ (k % 65536 = 65534 ∨ k % 65536 = 65535)))
theorem bitAndN (k : Nat) : Builtin.bitAnd (k : Int) 65535 = ((k % 65536 : Nat) : Int) := by
  rw [bitAnd_pp (Int.natCast_nonneg k) (by decide)]
  show ((k &&& 65535 : Nat) : Int) = _
  rw [show (65535 : Nat) = 2 ^ 16 - 1 from rfl, Nat.and_two_pow_sub_one_eq_mod]
theorem in4B_iff (k : Nat) : in4B k = true ↔ c4P (k : Int) := by
  unfold in4B c4P
  rw [decide_eq_true_iff, bitAndN]
  omega
noncomputable def toldP (k : Nat) : Int := if inB c7N k then (if k = 12274 ∨ k = 12275 then 3 else 2) else if inB c8N k || inB c9N k then 1 else 0
noncomputable def toldDd (k : Nat) : Int := if inB c7N k then (k : Int) - 12272 else if inB c8N k || inB c9N k then (if inB c8N k then 12 else 13) else 14
noncomputable def toldN (k : Nat) : Nat :=
  if inB c7N k then 0 else if inB c8N k || inB c9N k then (if inB c8N k then 0 else k % 16)
  else if strangeB (mapB3 (chrS k)) then (if inB c6N k || in4B k then k / 65536 else k) else (sum16 (lettersZ (mapB3 (chrS k)))).natAbs
noncomputable def toldD (k : Nat) : D := .tup [.int (toldP k), .int (toldDd k), .bytes (apL (toldN k)).toArray]

theorem apL_len : ∀ (m n : Nat), n < 16 ^ m → (apL n).length ≤ m
  | 0, n, h => by
    have : n = 0 := by simpa using h
    subst this; rw [apL_zero]; exact Nat.le_refl _
  | m + 1, n, h => by
    by_cases h0 : n = 0
    · subst h0; rw [apL_zero]; exact Nat.zero_le _
    · rw [apL_pos h0, List.length_append]
      have : n / 16 < 16 ^ m := by rw [Nat.div_lt_iff_lt_mul (by decide)]; rw [Nat.pow_succ] at h; exact h
      have := apL_len m _ this
      simp; omega
theorem sum16_bound : ∀ (l : List Int), (∀ x ∈ l, 0 ≤ x ∧ x < 16) → ∀ a : Int, ∀ m : Nat, 0 ≤ a → a < (16 : Int) ^ m → 0 ≤ l.foldl (fun a b => a * 16 + b) a ∧ l.foldl (fun a b => a * 16 + b) a < (16 : Int) ^ (m + l.length)
  | [], _, a, m, h0, h1 => ⟨h0, h1⟩
  | x :: l, h, a, m, h0, h1 => by
    have hx := h x List.mem_cons_self
    have e : m + (x :: l).length = (m + 1) + l.length := by rw [List.length_cons]; omega
    rw [e]
    have hb : a * 16 + x < (16 : Int) ^ (m + 1) := by
      have : a + 1 ≤ (16 : Int) ^ m := h1
      rw [Int.pow_succ]
      omega
    exact sum16_bound l (fun y hy => h y (List.mem_cons_of_mem _ hy)) (a * 16 + x) (m + 1) (by omega) hb
theorem sum16_lt {l : List Int} (h : ∀ x ∈ l, 0 ≤ x ∧ x < 16) : 0 ≤ sum16 l ∧ sum16 l < (16 : Int) ^ l.length := by
  have := sum16_bound l h 0 0 (by decide) (by decide)
  rw [Nat.zero_add] at this
  exact this
theorem b3_short : b3D.all (fun y => decide (y.2.cps.size ≤ 5)) = true := by kernel_rfl
theorem mapB3_short (k : Nat) : (mapB3 (chrS k)).cps.size ≤ 5 := by
  unfold mapB3
  cases e : b3D.lookup (sgn (chrS k)) with
  | none =>
    have h1 := len_lower (chrS k)
    have h2 : (chrS k).length = 1 := rfl
    rw [h2] at h1
    exact Nat.le_trans h1 (by decide)
  | some x => exact of_decide_eq_true (List.all_eq_true.mp b3_short _ (lookup_memI e))
theorem letters_16 {x : Str} (h : strangeB x = false) : ∀ y ∈ lettersZ x, 0 ≤ y ∧ y < 16 := by
  intro y hy
  obtain ⟨c, hc, rfl⟩ := List.mem_map.mp hy
  have h1 : (decide (c < 97) || decide (112 < c)) = false := by
    have := List.any_eq_false.mp h c hc
    simpa using this
  rw [Bool.or_eq_false_iff, decide_eq_false_iff_not, decide_eq_false_iff_not] at h1
  omega
theorem toldN_ok {k : Nat} (hk : k ≤ 1114111) : (apL (toldN k)).length ≤ 1000000 := by
  have small : ∀ n, n ≤ 1114111 → (apL n).length ≤ 1000000 := fun n hn => Nat.le_trans (apL_len 6 n (by omega)) (by decide)
  unfold toldN
  split
  · exact small _ (by omega)
  · split
    · split
      · exact small _ (by omega)
      · exact small _ (by omega)
    · split
      · split
        · exact small _ (by omega)
        · exact small _ hk
      · rename_i h1 h2 h3
        have hb := sum16_lt (letters_16 (by simpa using h3))
        have hl : (lettersZ (mapB3 (chrS k))).length ≤ 5 := by rw [lettersZ, List.length_map, Array.length_toList]; exact mapB3_short k
        refine Nat.le_trans (apL_len 5 _ ?_) (by decide)
        have h4 : 16 ^ (lettersZ (mapB3 (chrS k))).length ≤ 16 ^ 5 := Nat.pow_le_pow_right (by decide) hl
        have h5 : (16 : Int) ^ (lettersZ (mapB3 (chrS k))).length = ((16 ^ (lettersZ (mapB3 (chrS k))).length : Nat) : Int) := by rw [Int.natCast_pow]; rfl
        have h6 : 16 ^ 5 = 1048576 := by decide
        omega
section
variable {P : Program} {w : World} {h₀ : Heap} {mg mb : Str → Option Value} {A : Around} {c : Cx} {σ : Str → Option D} {Φ : Out → Prop} {pos p : Pos}
theorem cmp_ne_nil {ds : List D} (hu : A.units ≤ 5000) : CmpIs P w A .NotEq (.lst ds) (.lst []) (!ds.isEmpty) := fun K s v u Q E k r1 r2 hq => by
  have hc : A.units < cLine := by have : cLine = 9900 := rfl; omega
  cases r1 with
  | @lst a vs n _ e r =>
  obtain ⟨a', vs', n', rfl, e', r'⟩ := r2.inv
  (first | obtain ⟨_, rfl⟩ := r'.inv | obtain rfl := r'.inv | cases r')
  cases r with
  | nil => exact SeqAt.RcNeAt.lists (e := fun _ => true) (isListOf k e) (isListOf k e') rfl hc (fun j h1 => absurd h1 (Nat.not_lt_zero _)) P w E Q (hq _ _ (Step.refl k))
  | cons r rr => exact SeqAt.RcNeAt.lists_lengths (isListOf k e) (isListOf k e') (by simp) hc P w E Q (hq _ _ (Step.refl k))
theorem one_lt (a b : Nat) : decide ([a] < [b]) = decide (a < b) := by
  apply decide_eq_decide.mpr
  constructor
  · intro h
    cases h with
    | rel h => exact h
    | cons h => cases h
  · exact .rel
end

section
variable {P : Program} {w : World} {h₀ : Heap} {mg mb : Str → Option Value}
theorem sgn_chr (k : Nat) : sgn (chrS k) = (k : Int) := rfl
theorem fn_told {k : Nat} (T : Top h₀ mg mb) (hk : k ≤ 1114111) : Fn P w h₀ mg mb ("_law_told" : Str) 2 [.str (chrS k)] (toldD k) :=
  fn_def (names := [("sign" : Str)]) (fun _ => []) T rfl (fun A L q a code R => by
      have hu : A.units ≤ 5000 := by have := R.units; omega
      have hn := toldN_ok hk
      have t7 := fn_c7 (P := P) (w := w) (x := chrS k) (r := inB c7N k) T rfl (by rw [sgn_chr]; exact decide_eq_true_iff)
      have t8 := fn_c8 (P := P) (w := w) (x := chrS k) (r := inB c8N k) T rfl (by rw [sgn_chr]; exact decide_eq_true_iff)
      have t9 := fn_c9 (P := P) (w := w) (x := chrS k) (r := inB c9N k) T rfl (by rw [sgn_chr]; exact decide_eq_true_iff)
      have t6 := fn_c6 (P := P) (w := w) (x := chrS k) (r := inB c6N k) T rfl (by rw [sgn_chr]; exact decide_eq_true_iff)
      have t4 := fn_c4 (P := P) (w := w) (x := chrS k) (r := in4B k) T rfl (by rw [sgn_chr]; exact in4B_iff k)
      have tm := fn_map (P := P) (w := w) (x := chrS k) T rfl
      refine xs_cons (x_assign (ev_fn T R (fn_b T (callIs_ord (x := chrS k) rfl)) (evl_cons (ev_name (d := .str (chrS k)) rfl) evl_nil)) ?_)
      refine xs_cons (x_if (evt_bool (ev_fn T R t7 (evl_cons (ev_name (d := .str (chrS k)) rfl) evl_nil))) (fun hb => ?_) (fun hb => xs_nil ?_))
      · refine xs_cons (x_ret (d := toldD k) (Ev.of_eq (ev_tuple (ds := [.int (toldP k), .int (toldDd k), .bytes (apL 0).toArray]) (evl_cons (ev_if (x := decide (k = 12274 ∨ k = 12275)) (evt_cmp (d' := .tup [.int 12274, .int 12275]) (ev_name (d := .int k) rfl) (ev_tuple (evl_cons (ev_int _) (evl_cons (ev_int _) evl_nil))) (cmp_in_tup false rfl (by intro e he; simp at he; rcases he with rfl | rfl <;> rfl) (by simp; omega) hu)) (fun h => Ev.of_eq (ev_int _) ?_) (fun h => Ev.of_eq (ev_int _) ?_))
          (evl_cons (Ev.of_eq (ev_sub (ev_name (d := .int k) rfl) (ev_int _)) ?_) (evl_cons (Ev.of_eq (ev_bytes []) ?_) evl_nil)))) ?_) rfl)
        · unfold toldP; rw [if_pos hb, if_pos (of_decide_eq_true h)]
        · unfold toldP; rw [if_pos hb, if_neg (of_decide_eq_false h)]
        · unfold toldDd; rw [if_pos hb]
        · rw [apL_zero]
        · unfold toldD toldN; rw [if_pos hb]
      have hb' : ¬ inB c7N k = true := by rw [hb]; decide
      refine xs_cons (x_if (evt_or2 (evt_bool (ev_fn T R t8 (evl_cons (ev_name (d := .str (chrS k)) rfl) evl_nil))) (fun _ => evt_bool (ev_fn T R t9 (evl_cons (ev_name (d := .str (chrS k)) rfl) evl_nil)))) (fun h8 => ?_) (fun h8 => xs_nil ?_))
      · refine xs_cons (x_ret (d := toldD k) (ev_if (evt_bool (ev_fn T R t8 (evl_cons (ev_name (d := .str (chrS k)) rfl) evl_nil))) (fun h => ?_) (fun h => ?_)) rfl)
        · refine Ev.of_eq (ev_tuple (evl_cons (ev_int _) (evl_cons (ev_int _) (evl_cons (Ev.of_eq (ev_bytes []) (d' := .bytes (apL 0).toArray) ?_) evl_nil)))) ?_
          · rw [apL_zero]
          · unfold toldD toldN toldP toldDd; rw [if_neg hb', if_neg hb', if_neg hb', if_pos h8, if_pos h8, if_pos h8, if_pos h, if_pos h]
        · have h' : ¬ inB c8N k = true := by rw [h]; decide
          have e1 : toldN k = k % 16 := by unfold toldN; rw [if_neg hb', if_pos h8, if_neg h']
          rw [e1] at hn
          refine Ev.of_eq (ev_tuple (evl_cons (ev_int _) (evl_cons (ev_int _) (evl_cons (ev_fn T R (fn_ap (i := ((k % 16 : Nat) : Int)) T hn) (evl_cons (Ev.of_eq (ev_mod (by decide) (ev_name (d := .int k) rfl) (ev_int _)) ?_) evl_nil)) evl_nil)))) ?_
          · exact congrArg D.int (fmodN k 16)
          · unfold toldD; rw [e1]; unfold toldP toldDd; rw [if_neg hb', if_neg hb', if_pos h8, if_pos h8, if_neg h']; rfl
      have h8' : ¬ (inB c8N k || inB c9N k) = true := by rw [h8]; decide
      refine xs_cons (x_assign (d := .int ((if inB c6N k || in4B k then k / 65536 else k : Nat) : Int)) (ev_if (evt_or2 (evt_bool (ev_fn T R t6 (evl_cons (ev_name (d := .str (chrS k)) rfl) evl_nil))) (fun _ => evt_bool (ev_fn T R t4 (evl_cons (ev_name (d := .str (chrS k)) rfl) evl_nil)))) (fun h => Ev.of_eq (ev_floordiv (by decide) (PyProof.noPylong_small (by decide)) (ev_name (d := .int k) rfl) (ev_int _)) ?_) (fun h => Ev.of_eq (ev_name (d := .int k) rfl) ?_)) ?_)
      · rw [if_pos h]; exact congrArg D.int (fdivN k 65536)
      · rw [if_neg (by rw [h]; decide)]
      refine xs_cons (x_assign (ev_fn T R tm (evl_cons (ev_name (d := .str (chrS k)) rfl) evl_nil)) ?_)
      have hsz : (signs (mapB3 (chrS k))).length ≤ sizeLine := by
        have h8 := mapB3_short k
        have h9 : sizeLine = 16777216 := rfl
        simp only [signs, List.length_map, Array.length_toList]
        omega
      refine xs_cons (x_compN [] [] strangeD (evI_str R.handled (ev_name (d := .str (mapB3 (chrS k))) rfl)) (comp_ok [] []) (fun C i d hd => ?_) hsz ?_)
      · unfold signs at hd
        rw [List.getElem?_map] at hd
        cases hr : (mapB3 (chrS k)).cps.toList[i]? with
        | none => rw [hr] at hd; cases hd
        | some ch =>
          rw [hr] at hd; cases hd
          refine ⟨tst_one (EvT.of_eq (evt_or2 (evt_cmp (ev_name (d := .str ⟨#[ch]⟩) rfl) (ev_str _) cmp_lts) (fun _ => evt_cmp (ev_name (d := .str ⟨#[ch]⟩) rfl) (ev_str _) cmp_gts)) ?_), fun e he => ?_⟩
          · show (decide ([ch] < [97]) || decide ([112] < [ch])) = _
            rw [one_lt, one_lt]
            show _ = (if (decide (ch < 97) || decide (112 < ch)) = true then some (D.str ⟨#[ch]⟩) else none).isSome
            cases (decide (ch < 97) || decide (112 < ch)) <;> rfl
          · have he' : (if (decide (ch < 97) || decide (112 < ch)) = true then some (D.str ⟨#[ch]⟩) else none) = some e := he
            split at he'
            · cases he'; exact ev_name rfl
            · cases he'
      refine xs_cons (x_ret (d := toldD k) (Ev.of_eq (ev_tuple (evl_cons (ev_int _) (evl_cons (ev_int _) (evl_cons (ev_fn T R (fn_ap (i := (toldN k : Nat)) T hn) (evl_cons (ev_if (evt_cmp (ev_name rfl) (ev_list evl_nil) (cmp_ne_nil hu)) (fun h => ?_) (fun h => ?_)) evl_nil)) evl_nil)))) ?_) rfl)
      · have h' : strangeB (mapB3 (chrS k)) = true := by rw [← signs_strange]; exact h
        refine Ev.of_eq (ev_name rfl) ?_
        unfold toldN; rw [if_neg hb', if_neg h8', if_pos h']
      · have h' : strangeB (mapB3 (chrS k)) = false := by rw [← signs_strange]; exact h
        refine Ev.of_eq (ev_fn T R (fn_sum (ns := lettersZ (mapB3 (chrS k))) T) (evl_cons (Ev.of_eq (ev_compN [] [] letterD (evI_str R.handled (ev_name (d := .str (mapB3 (chrS k))) rfl)) (comp_ok [] []) (fun C i d hd => ?_) hsz) ?_) evl_nil)) ?_
        · unfold signs at hd
          rw [List.getElem?_map] at hd
          cases hr : (mapB3 (chrS k)).cps.toList[i]? with
          | none => rw [hr] at hd; cases hd
          | some ch =>
            rw [hr] at hd; cases hd
            exact ⟨tst_nil, fun e he => by cases he; exact ev_sub (ev_fn T R (fn_b T (callIs_ord (x := ⟨#[ch]⟩) rfl)) (evl_cons (ev_name rfl) evl_nil)) (ev_int _)⟩
        · rw [signs_letters]
        · have h0 := (sum16_lt (letters_16 h')).1
          unfold toldN; rw [if_neg hb', if_neg h8', if_neg (by rw [h']; decide)]
          rw [Int.natAbs_of_nonneg h0]
      · unfold toldD toldP toldDd
        rw [if_neg hb', if_neg hb', if_neg h8', if_neg h8']; rfl)
    (fun _ _ _ _ _ _ _ _ vs hv => by
      obtain ⟨v, rfl⟩ := len1 hv
      rfl) (hloc := by intro x hx; exact .inl (by rw [List.mem_singleton.mp hx]; rfl))
end

noncomputable def baseN : List Int := [97, 65, 119808, 119860, 119912, 120016, 120172, 120224, 120276, 120328, 120380, 120432]
noncomputable def keepR (b : Bool) (r : List Int) : Bool := decide (col 0 r ∈ (if b then [0, 2, 3] else [1] : List Int))
noncomputable def spanR (r : List Int) : List Int := (List.range (col 2 r + 1 - col 1 r).toNat).map fun (k : Nat) => col 1 r + (k : Int)
noncomputable def signsN (b : Bool) : List Int := runsN.flatMap fun r => if keepR b r then spanR r else []
noncomputable def gRow (b : Bool) (d : D) : List D := if keepR b (rowOf d) then intsD (spanR (rowOf d)) else []
theorem gRow_all (b : Bool) : (runsN.map fun r => D.tup (intsD r)).flatMap (gRow b) = intsD (signsN b) := by
  unfold signsN
  induction runsN with
  | nil => rfl
  | cons r l ih =>
    rw [List.map_cons, List.flatMap_cons, List.flatMap_cons, ih]
    unfold gRow
    rw [rowOf_ints]
    unfold intsD
    rw [List.map_append]
    cases keepR b r <;> rfl
theorem runs_cols : runsN.all (fun r => decide (0 ≤ col 1 r ∧ col 1 r ≤ 917631 ∧ 0 ≤ col 2 r ∧ col 2 r ≤ 917631 ∧ 1 ≤ col 1 r ∧ 1 ≤ col 2 r)) = true := by kernel_rfl
theorem signs_ok (b : Bool) : (signsN b).length ≤ 200 ∧ 0 < (signsN b).length ∧ (signsN b).all (fun x => decide (0 ≤ x ∧ x ≤ 1114111)) = true := by
  cases b
  · exact ⟨by rw [show (signsN false).length = 12 by kernel_rfl]; decide, by rw [show (signsN false).length = 12 by kernel_rfl]; decide, by kernel_rfl⟩
  · exact ⟨by rw [show (signsN true).length = 139 by kernel_rfl]; decide, by rw [show (signsN true).length = 139 by kernel_rfl]; decide, by kernel_rfl⟩

noncomputable def codeZ (m : Nat) : Int :=
  if m % 10 < 3 then baseN.getD (m / 10 / 16 % 12) 0 + ((m / 10 % 16 : Nat) : Int)
  else if m % 10 = 3 then (spellD.map (·.1)).getD (m / 10 % 42) 0
  else if m % 10 = 4 then (if m / 10 % 1112064 < 55296 then ((m / 10 % 1112064 : Nat) : Int) else ((m / 10 % 1112064 : Nat) : Int) + 2048)
  else if m % 10 = 7 then (runsN.getD (m / 10 % 17) []).getD (1 + m / 10 / 17 % 2) 0 + ((m / 10 / 34 % 3 : Nat) : Int) - 1
  else if m % 10 = 8 then ((m / 10 % 17 : Nat) : Int) * 65536 + 65532 + ((m / 10 / 17 % 4 : Nat) : Int)
  else (signsN (decide (m % 10 = 9))).getD (m / 10 % (signsN (decide (m % 10 = 9))).length) 0
theorem getD_all {l : List Int} {p : Int → Prop} [DecidablePred p] (h : l.all (fun x => decide (p x)) = true) {j : Nat} (hj : j < l.length) : p (l.getD j 0) := by
  have e : l.getD j 0 = l[j] := by simp [hj]
  rw [e]
  exact of_decide_eq_true (List.all_eq_true.mp h _ (List.getElem_mem hj))
theorem codeZ_ok (m : Nat) : 0 ≤ codeZ m ∧ codeZ m ≤ 1114111 := by
  unfold codeZ
  split
  · have := getD_all (l := baseN) (p := fun x => 0 ≤ x ∧ x ≤ 1114000) (by decide) (j := m / 10 / 16 % 12) (Nat.mod_lt _ (by decide))
    omega
  · split
    · exact getD_all (l := spellD.map (·.1)) (p := fun x => 0 ≤ x ∧ x ≤ 1114111) (by kernel_rfl) (j := m / 10 % 42) (by rw [List.length_map, spell_len]; exact Nat.mod_lt _ (by decide))
    · split
      · split <;> omega
      · split
        · have hj : m / 10 % 17 < runsN.length := by rw [runs_n]; exact Nat.mod_lt _ (by decide)
          have hr : runsN.getD (m / 10 % 17) [] = runsN[m / 10 % 17] := by simp [hj]
          have hm := List.getElem_mem hj
          have h1 := of_decide_eq_true (List.all_eq_true.mp runs_cols _ hm)
          have h2 : (runsN[m / 10 % 17]).length = 3 := by simpa using List.all_eq_true.mp runs_len _ hm
          rw [hr]
          have h3 : 1 + m / 10 / 17 % 2 = 1 ∨ 1 + m / 10 / 17 % 2 = 2 := by omega
          unfold col at h1
          rcases h3 with e | e <;> rw [e] <;> omega
        · split
          · omega
          · obtain ⟨_, h2, h3⟩ := signs_ok (decide (m % 10 = 9))
            exact getD_all h3 (Nat.mod_lt _ h2)
section
variable {P : Program} {w : World} {h₀ : Heap} {mg mb : Str → Option Value}
variable {A : Around} {c : Cx} {σ : Str → Option D} {pos p : Pos} {e e' : Expr}
theorem ev_modN {a : Nat} (b : Nat) {i : Int} (h : Ev P w h₀ A c σ e (.int (a : Nat))) (h2 : Ev P w h₀ A c σ e' (.int i)) (hi : i = (b : Int) := by rfl) (hb : b ≠ 0 := by decide) : Ev P w h₀ A c σ (.BinOp e .Mod e' pos) (.int ((a % b : Nat) : Int)) := by
  subst hi
  exact Ev.of_eq (ev_mod (by omega) h h2) (congrArg D.int (fmodN a b))
theorem ev_divN {a : Nat} (b : Nat) {i : Int} (h : Ev P w h₀ A c σ e (.int (a : Nat))) (h2 : Ev P w h₀ A c σ e' (.int i)) (hi : i = (b : Int) := by rfl) (hb : b ≠ 0 := by decide) (hs : b < 1073741824 := by decide) : Ev P w h₀ A c σ (.BinOp e .FloorDiv e' pos) (.int ((a / b : Nat) : Int)) := by
  subst hi
  exact Ev.of_eq (ev_floordiv (by omega) (PyProof.noPylong_small (by rw [Int.natAbs_natCast]; exact hs)) h h2) (congrArg D.int (fdivN a b))
/-- a row of int constants -/
noncomputable def constInts : List Expr → Option (List Int)
  | [] => some []
  | e :: es => (intC e).bind fun i => (constInts es).map (i :: ·)
theorem evl_ints {es : List Expr} {ns : List Int} (h : constInts es = some ns) : EvL P w h₀ A c σ es (intsD ns) := by
  induction es generalizing ns with
  | nil => cases h; exact evl_nil
  | cons e es ih =>
    obtain ⟨i, e1, h⟩ := Option.bind_eq_some_iff.mp h
    obtain ⟨ms, e2, rfl⟩ := Option.map_eq_some_iff.mp h
    obtain ⟨n, p, rfl⟩ := intC_some e1
    exact evl_cons (ev_int _) (ih e2)
theorem ev_pick {es : List Expr} {ns : List Int} {i : Expr} {j k : Nat} {p1 : Pos} (h : constInts es = some ns) (hsz : ns.length ≤ sizeLine) (hi : Ev P w h₀ A c σ i (.int (j : Nat))) (hj : j < ns.length)
    (hs : ∀ o v, subscripted i false o v = operate [o, v] (getItem o v) := by intro _ _; with_unfolding_all rfl) : Ev P w h₀ A c σ (.Subscript (.Tuple es k p1) i pos) (.int (ns.getD j 0)) :=
  ev_item_tup (ds := intsD ns) (ev_tuple (evl_ints h) (by rw [intsD_length]; exact hsz)) hi (atI_ints hj) (by rw [intsD_length]; exact hsz) hs
theorem fn_codeZ {m : Nat} (T : Top h₀ mg mb) : Fn P w h₀ mg mb ("_law_code" : Str) 2 [.int m] (.int (codeZ m)) :=
  fn_def (names := [("number" : Str)]) (fun L => [(("kind" : Str), L + 1)]) T rfl (fun A L q a code R => by
      have hu : A.units ≤ 5000 := by have := R.units; omega
      refine xs_cons (x_asgt (xs := [(("kind" : Str), _), (("which" : Str), _)]) (ds := [.int ((m % 10 : Nat) : Int), .int ((m / 10 : Nat) : Int)]) R.handled (ev_tuple (evl_cons (Ev.of_eq (ev_mod (by decide) (ev_name (d := .int m) rfl) (ev_int _)) (congrArg D.int (fmodN m 10))) (evl_cons (Ev.of_eq (ev_floordiv (by decide) (PyProof.noPylong_small (by decide)) (ev_name (d := .int m) rfl) (ev_int _)) (congrArg D.int (fdivN m 10))) evl_nil))) ?_ rfl ?_)
      rotate_left
      · intro x hx
        simp only [List.mem_cons, List.not_mem_nil, or_false] at hx
        rcases hx with rfl | rfl
        · exact .inr ⟨rfl, rfl, _, rfl, by simp⟩
        · exact .inl ⟨rfl, rfl⟩
      show Xs _ _ _ _ _ _ _ _
      refine xs_cons (x_if (b := decide (m % 10 < 3)) (EvT.of_eq (evt_cmp (ev_name (d := .int ((m % 10 : Nat) : Int)) rfl) (ev_int _) cmp_lt) (decide_eq_decide.mpr (by omega))) (fun hb => ?_) (fun hb => xs_nil ?_))
      · have h1 := of_decide_eq_true hb
        refine xs_cons (x_ret (Ev.of_eq (ev_add (ev_pick (ns := baseN) (j := m / 10 / 16 % 12) rfl (by decide) (ev_modN 12 (ev_divN 16 (ev_name (d := .int ((m / 10 : Nat) : Int)) rfl) (ev_int _)) (ev_int _)) (Nat.mod_lt _ (by decide))) (ev_modN 16 (ev_name (d := .int ((m / 10 : Nat) : Int)) rfl) (ev_int _))) ?_) rfl)
        unfold codeZ; rw [if_pos h1]
      have n3 : ¬ m % 10 < 3 := of_decide_eq_false hb
      refine xs_cons (x_if (b := decide (m % 10 = 3)) (EvT.of_eq (evt_cmp (ev_name (d := .int ((m % 10 : Nat) : Int)) rfl) (ev_int _) cmp_eq) (by by_cases q : m % 10 = 3 <;> simp [q]; omega)) (fun hb => ?_) (fun hb => xs_nil ?_))
      · have h1 : m % 10 = 3 := of_decide_eq_true hb
        refine xs_cons (x_ret (Ev.of_eq (ev_item_lst (ds := intsD (spellD.map (·.1))) (Ev.of_eq (ev_fn T R (fn_t T (callIs_listdict (kvs := spellD) (by rw [spell_len]; decide))) (evl_cons (ev_fn T R (fn_spell T) evl_nil) evl_nil)) ?_) (ev_modN 42 (ev_name (d := .int ((m / 10 : Nat) : Int)) rfl) (ev_int _)) (atI_ints (ns := spellD.map (·.1)) (i := m / 10 % 42) (by rw [List.length_map, spell_len]; exact Nat.mod_lt _ (by decide))) (by rw [intsD_length, List.length_map, spell_len]; decide)) ?_) rfl)
        · unfold intsD; rw [List.map_map]; rfl
        · unfold codeZ; rw [if_neg n3, if_pos h1]
      have n4 : ¬ m % 10 = 3 := of_decide_eq_false hb
      refine xs_cons (x_if (b := decide (m % 10 = 4)) (EvT.of_eq (evt_cmp (ev_name (d := .int ((m % 10 : Nat) : Int)) rfl) (ev_int _) cmp_eq) (by by_cases q : m % 10 = 4 <;> simp [q]; omega)) (fun hb => ?_) (fun hb => xs_nil ?_))
      · have h1 : m % 10 = 4 := of_decide_eq_true hb
        refine xs_cons (x_ret (ev_if (x := decide (m / 10 % 1112064 < 55296)) (EvT.of_eq (evt_cmp (ev_modN 1112064 (ev_name (d := .int ((m / 10 : Nat) : Int)) rfl) (ev_int _)) (ev_int _) cmp_lt) (decide_eq_decide.mpr (by omega)))
          (fun h => Ev.of_eq (ev_modN 1112064 (ev_name (d := .int ((m / 10 : Nat) : Int)) rfl) (ev_int _)) ?_) (fun h => Ev.of_eq (ev_add (ev_modN 1112064 (ev_name (d := .int ((m / 10 : Nat) : Int)) rfl) (ev_int _)) (ev_int _)) ?_)) rfl)
        · unfold codeZ; rw [if_neg n3, if_neg n4, if_pos h1, if_pos (of_decide_eq_true h)]
        · unfold codeZ; rw [if_neg n3, if_neg n4, if_pos h1, if_neg (of_decide_eq_false h)]
      have n5 : ¬ m % 10 = 4 := of_decide_eq_false hb
      refine xs_cons (x_if (b := decide (m % 10 = 7)) (EvT.of_eq (evt_cmp (ev_name (d := .int ((m % 10 : Nat) : Int)) rfl) (ev_int _) cmp_eq) (by by_cases q : m % 10 = 7 <;> simp [q]; omega)) (fun hb => ?_) (fun hb => xs_nil ?_))
      · have h1 : m % 10 = 7 := of_decide_eq_true hb
        have hj : m / 10 % 17 < runsN.length := by rw [runs_n]; exact Nat.mod_lt _ (by decide)
        have hr : runsN.getD (m / 10 % 17) [] = runsN[m / 10 % 17] := by simp [hj]
        have h2 : (runsN[m / 10 % 17]).length = 3 := by simpa using List.all_eq_true.mp runs_len _ (List.getElem_mem hj)
        refine xs_cons (x_ret (Ev.of_eq (ev_sub (ev_add (ev_item_tup (ds := intsD (runsN[m / 10 % 17])) (ev_item_tup (ds := runsN.map fun r => .tup (intsD r)) (ev_top T) (ev_modN 17 (ev_name (d := .int ((m / 10 : Nat) : Int)) rfl) (ev_int _)) (.inl ⟨Int.natCast_nonneg _, ?_⟩) (by rw [List.length_map, runs_n]; decide))
          (Ev.of_eq (d := .int (1 + ((m / 10 / 17 % 2 : Nat) : Int))) (ev_add (ev_int _) (ev_modN 2 (ev_divN 17 (ev_name (d := .int ((m / 10 : Nat) : Int)) rfl) (ev_int _)) (ev_int _))) (d' := .int ((1 + m / 10 / 17 % 2 : Nat) : Int)) ?_) (atI_ints (ns := runsN[m / 10 % 17]) (i := 1 + m / 10 / 17 % 2) (by omega)) (by rw [intsD_length, h2]; decide))
          (ev_modN 3 (ev_divN 34 (ev_name (d := .int ((m / 10 : Nat) : Int)) rfl) (ev_int _)) (ev_int _))) (ev_int _)) ?_) rfl)
        · rw [Int.toNat_natCast, List.getElem?_map, List.getElem?_eq_getElem hj]; rfl
        · congr 1
        · unfold codeZ; rw [if_neg n3, if_neg n4, if_neg n5, if_pos h1, hr]
      have n7 : ¬ m % 10 = 7 := of_decide_eq_false hb
      refine xs_cons (x_if (b := decide (m % 10 = 8)) (EvT.of_eq (evt_cmp (ev_name (d := .int ((m % 10 : Nat) : Int)) rfl) (ev_int _) cmp_eq) (by by_cases q : m % 10 = 8 <;> simp [q]; omega)) (fun hb => ?_) (fun hb => xs_nil ?_))
      · have h1 : m % 10 = 8 := of_decide_eq_true hb
        refine xs_cons (x_ret (Ev.of_eq (ev_add (ev_add (ev_mul (IntMulOk.of_right (by decide)) (ev_modN 17 (ev_name (d := .int ((m / 10 : Nat) : Int)) rfl) (ev_int _)) (ev_int _)) (ev_int _)) (ev_modN 4 (ev_divN 17 (ev_name (d := .int ((m / 10 : Nat) : Int)) rfl) (ev_int _)) (ev_int _))) ?_) rfl)
        unfold codeZ; rw [if_neg n3, if_neg n4, if_neg n5, if_neg n7, if_pos h1]
      have n8 : ¬ m % 10 = 8 := of_decide_eq_false hb
      obtain ⟨s1, s2, s3⟩ := signs_ok (decide (m % 10 = 9))
      have hsl : (intsD (signsN (decide (m % 10 = 9)))).length ≤ sizeLine := by rw [intsD_length]; exact Nat.le_trans s1 (by decide)
      refine xs_cons (x_comp2 (b := true) (b2 := true) (gRow (decide (m % 10 = 9))) (ds := runsN.map fun r => .tup (intsD r)) (comp_ok [("kind" : Str)] [(("kind" : Str), L + 1)]) (evI_tup R.handled (ev_top T)) (by rw [gRow_all]; exact hsl) (fun C i d hd => ?_) ?_)
      · rw [List.getElem?_map] at hd
        cases hr : runsN[i]? with
        | none => rw [hr] at hd; cases hd
        | some r =>
          rw [hr] at hd; cases hd
          have hm := List.mem_of_getElem? hr
          have hlen : r.length = 3 := by simpa using List.all_eq_true.mp runs_len r hm
          have hc := of_decide_eq_true (List.all_eq_true.mp runs_cols r hm)
          have hrow : (intsD r).length ≤ sizeLine := by rw [intsD_length, hlen]; decide
          have at' := fun j (hj : j < r.length) => atI_ints (ns := r) (i := j) hj
          refine ⟨_, keepR (decide (m % 10 = 9)) r, fun y d' e => ?_, asg_name, tst_one (evt_cmp (d' := .tup (intsD (if decide (m % 10 = 9) = true then [0, 2, 3] else [1]))) (ev_item_tup (ds := intsD r) (ev_name rfl) (ev_int _) (at' 0 (by omega)) hrow)
            (ev_if (x := decide (m % 10 = 9)) (EvT.of_eq (evt_cmp (ev_name (d := .int ((m % 10 : Nat) : Int)) rfl) (ev_int _) cmp_eq) (by by_cases q : m % 10 = 9 <;> simp [q]; omega)) (fun h => Ev.of_eq (ev_tuple (evl_ints (ns := [0, 2, 3]) rfl)) ?_) (fun h => Ev.of_eq (ev_tuple (evl_ints (ns := [1]) rfl)) ?_))
            (cmp_in_tup false rfl (fun e he => ?_) ?_ hu)), fun h => ?_, fun h => ⟨upTo (col 1 r) (col 2 r + 1 - col 1 r).toNat, fun d => [d], evI_range2 T.names R.handled (T.blt _ _ rfl) (ev_item_tup (ds := intsD r) (ev_name rfl) (ev_int _) (at' 1 (by omega)) hrow) (ev_add (ev_item_tup (ds := intsD r) (ev_name rfl) (ev_int _) (at' 2 (by omega)) hrow) (ev_int _)) ?_ ?_, ?_, fun i2 d2 hd2 => ⟨_, true, fun y d' e => ?_, asg_name, tst_nil, (fun h => nomatch h), fun _ => ⟨d2, rfl, ev_name rfl (hp := by rw [(upTo_at hd2).2]; rfl)⟩⟩⟩⟩
          · unfold put
            rw [if_neg (fun q => by subst q; cases e)]; exact e
          · rw [if_pos h]
          · rw [if_neg (by rw [h]; decide)]
          · obtain ⟨z, _, rfl⟩ := List.mem_map.mp he; rfl
          · unfold keepR col intsD
            rw [decide_eq_true_iff]
            simp
          · unfold gRow; rw [rowOf_ints, h]; rfl
          · unfold col at hc; omega
          · unfold col at hc; omega
          · unfold gRow; rw [rowOf_ints, if_pos h]
            unfold spanR upTo intsD
            rw [List.map_map]
            simp
          · unfold put
            rw [if_neg (fun q => by subst q; cases e)]; exact e
      · refine xs_cons (x_ret (Ev.of_eq (ev_item_lst (ds := intsD (signsN (decide (m % 10 = 9)))) (Ev.of_eq (ev_name rfl) (by rw [gRow_all])) (ev_modN (signsN (decide (m % 10 = 9))).length (ev_name (d := .int ((m / 10 : Nat) : Int)) rfl) (Ev.of_eq (ev_fn T R (fn_b T (callIs_len (ds := intsD (signsN (decide (m % 10 = 9)))) hsl)) (evl_cons (Ev.of_eq (ev_name rfl) (by rw [gRow_all])) evl_nil)) (by rw [intsD_length])) rfl (by omega)) (atI_ints (ns := signsN (decide (m % 10 = 9))) (i := m / 10 % (signsN (decide (m % 10 = 9))).length) (Nat.mod_lt _ s2)) hsl) ?_) rfl)
        unfold codeZ; rw [if_neg n3, if_neg n4, if_neg n5, if_neg n7, if_neg n8])
    (fun _ _ _ _ _ _ _ _ vs hv => by
      obtain ⟨v, rfl⟩ := len1 hv
      rfl) (hloc := by intro x hx; exact .inl (by rw [List.mem_singleton.mp hx]; rfl)) (hcn := fun L => by simp)
end

structure Part where
  tab : Int
  parts : Nat
  deed : Int
  num : Nat
  text : Str
noncomputable def partD (u : Part) : D := .tup [.int u.tab, .int u.parts, .int u.deed, .int u.num, .str u.text]
structure Quad where
  place : Nat
  parts : Nat
  deed : Int
  num : Nat
noncomputable def quadD (q : Quad) : D := .tup [.int q.place, .int q.parts, .int q.deed, .int q.num]
noncomputable def ring0 (us : List Part) : List Quad := us.mapIdx fun i u => ⟨i, u.parts, u.deed, u.num⟩
/-- the digits turned round -/
noncomputable def turned (n r : Nat) : Nat := if h : r = 0 then n else turned (n * 16 + r % 16) (r / 16)
termination_by r
decreasing_by exact Nat.div_lt_self (Nat.pos_of_ne_zero h) (by decide)
/-- the first power of sixteen above v -/
noncomputable def powAbove (s v : Nat) : Nat := if h : s ≤ v ∧ 0 < s then powAbove (s * 16) v else s
termination_by v + 1 - s
decreasing_by omega
noncomputable def joined (n : Nat) (vs : List Nat) : Nat := vs.foldl (fun a v => a * powAbove 1 v + v) n
noncomputable def opVal (deed : Int) (number : Nat) (vs : List Nat) : Nat :=
  let n0 := if deed = 0 ∨ deed = 2 ∨ deed = 12 then 0 else (plainZ deed number (vs.map fun (v : Nat) => (v : Int))).natAbs
  let n1 := if deed = 12 then turned n0 (vs.getD 0 0) else n0
  if deed = 0 ∨ deed = 2 then joined n1 vs else n1
noncomputable def valsOfQ (l : List Quad) : List Nat := (l.filter fun q => q.parts == 0).map (·.num)
noncomputable def strike : List Quad → List Quad
  | [] => []
  | q :: tl =>
    let vs := valsOfQ (tl.take q.parts)
    if 0 < q.parts ∧ vs.length = q.parts then ⟨q.place, 0, 14, opVal q.deed q.num vs⟩ :: tl.drop q.parts else q :: tl
noncomputable def rot {α : Type} (l : List α) : List α := l.drop 1 ++ l.take 1
noncomputable def stepR (l : List Quad) : List Quad := rot (strike l)
noncomputable def iter {α : Type} (f : α → α) : Nat → α → α
  | 0, x => x
  | n + 1, x => f (iter f n x)

theorem cut_nat {α : Type} (l : List α) (a b : Nat) (h : a ≤ b) : cut l (some (a : Int)) (some (b : Int)) = (l.drop a).take (b - a) := by
  unfold cut kms_lo kms_hi
  simp only [show ¬ ((a : Int) < 0) by omega, show ¬ ((b : Int) < 0) by omega, if_false, Int.toNat_natCast]
  rw [kmk_drop_min]
  by_cases h1 : b ≤ l.length
  · rw [Nat.min_eq_left h1, Nat.min_eq_left (by omega)]
  · rw [Nat.min_eq_right (by omega)]
    rw [List.take_of_length_le (i := b - a) (by rw [List.length_drop]; omega)]
    apply List.take_of_length_le
    rw [List.length_drop]
    omega
theorem cut_from {α : Type} (l : List α) (a : Nat) : cut l (some (a : Int)) none = l.drop a := by
  unfold cut kms_lo kms_hi
  simp only [show ¬ ((a : Int) < 0) by omega, if_false, Int.toNat_natCast]
  rw [kmk_drop_min]
  apply List.take_of_length_le
  rw [List.length_drop]; omega
theorem cut_to {α : Type} (l : List α) (b : Nat) : cut l none (some (b : Int)) = l.take b := by
  unfold cut kms_lo kms_hi
  simp only [show ¬ ((b : Int) < 0) by omega, if_false, Int.toNat_natCast, List.drop_zero, Nat.sub_zero]
  rw [kmk_take_min]
theorem cut_last {α : Type} (l : List α) : cut l none (some (-1)) = l.take (l.length - 1) := by
  unfold cut kms_lo kms_hi
  simp only [show ((-1 : Int) < 0) by decide, if_true, List.drop_zero, Nat.sub_zero]
  rfl

noncomputable def partQ : D → D
  | .tup [i, .tup [_, pa, de, nu, _]] => .tup [i, pa, de, nu]
  | d => d
theorem enum_parts (us : List Part) : (enumD (us.map partD)).filterMap (fun d => some (partQ d)) = (ring0 us).map quadD := by
  have e : (fun d => some (partQ d)) = some ∘ partQ := rfl
  rw [e, List.filterMap_eq_map]
  apply List.ext_getElem?
  intro i
  unfold enumD ring0
  rw [List.getElem?_map, List.getElem?_mapIdx, List.getElem?_map, List.getElem?_map, List.getElem?_mapIdx]
  cases us[i]? <;> rfl
noncomputable def valQ : D → Option D
  | .tup [_, .int pa, _, nu] => if pa = 0 then some nu else none
  | _ => none
theorem vals_quads (l : List Quad) : (l.map quadD).filterMap valQ = intsD ((valsOfQ l).map fun (v : Nat) => (v : Int)) := by
  unfold valsOfQ
  induction l with
  | nil => rfl
  | cons q l ih =>
    rw [List.map_cons, List.filterMap_cons, List.filter_cons]
    have e : valQ (quadD q) = if ((q.parts : Nat) : Int) = 0 then some (.int q.num) else none := rfl
    rw [e]
    by_cases h : q.parts = 0
    · rw [if_pos (by omega)]
      simp only [h, beq_self_eq_true, if_true, List.map_cons]
      rw [ih]; rfl
    · rw [if_neg (by omega)]
      have h' : (q.parts == 0) = false := by simpa using h
      simp only [h', Bool.false_eq_true, if_false]
      exact ih

/-- all that a turn needs of the ring -/
structure RingOk (l : List Quad) : Prop where
  fit : ∀ q ∈ l, q.num < 2 ^ 4000
  one : ∀ q ∈ l, q.parts = 1 → q.deed = 12 ∨ q.deed = 13
  short : l.length ≤ 63
  parts : ∀ q ∈ l, q.parts ≤ 63
  pos : 0 < l.length
theorem quads_len (l : List Quad) : (l.map quadD).length = l.length := List.length_map ..
theorem sl63 {n : Nat} (h : n ≤ 63) : n ≤ sizeLine := Nat.le_trans h (by decide)
theorem bits_small {n : Nat} (h : n ≤ 63) : Builtin.Int.intBits (n : Int) ≤ 64 := by
  unfold Builtin.Int.intBits
  split
  · decide
  · rw [Int.natAbs_natCast]
    have := Nat.log2_le_self n
    omega
theorem bits_fit {n k : Nat} (h : n < 2 ^ k) (hk : 1 ≤ k) : Builtin.Int.intBits (n : Int) ≤ k := by
  unfold Builtin.Int.intBits
  split
  · omega
  · rename_i h0
    rw [Int.natAbs_natCast]
    have hn : n ≠ 0 := by intro e; subst e; exact h0 (by decide)
    have := (Nat.log2_lt hn).mpr h
    omega
theorem strike_len (l : List Quad) : (strike l).length ≤ l.length := by
  cases l with
  | nil => exact Nat.le_refl _
  | cons q tl =>
    unfold strike
    dsimp only
    split
    · rw [List.length_cons, List.length_cons, List.length_drop]; omega
    · exact Nat.le_refl _
theorem powAbove_le : ∀ (f s v : Nat), v + 1 - s ≤ f → 0 < s → powAbove s v ≤ max s (16 * v)
  | 0, s, v, hf, hs => by
    rw [powAbove, dif_neg (by omega)]
    exact Nat.le_max_left _ _
  | f + 1, s, v, hf, hs => by
    rw [powAbove]
    by_cases h : s ≤ v ∧ 0 < s
    · rw [dif_pos h]
      have := powAbove_le f (s * 16) v (by omega) (by omega)
      omega
    · rw [dif_neg h]
      exact Nat.le_max_left _ _
theorem joined_mono : ∀ (vs : List Nat) (n m : Nat), m ≤ n → m ≤ joined n vs
  | [], n, m, h => h
  | v :: vs, n, m, h => by
    unfold joined
    rw [List.foldl_cons]
    refine joined_mono vs _ m ?_
    have h1 : 1 ≤ powAbove 1 v := by
      rw [powAbove]
      by_cases q : 1 ≤ v ∧ 0 < 1
      · rw [dif_pos q]
        have key : ∀ (f s : Nat), v + 1 - s ≤ f → 0 < s → 1 ≤ powAbove s v := by
          intro f
          induction f with
          | zero => intro s hf hs; rw [powAbove, dif_neg (by omega)]; exact hs
          | succ f ih =>
            intro s hf hs
            rw [powAbove]
            by_cases q : s ≤ v ∧ 0 < s
            · rw [dif_pos q]; exact ih (s * 16) (by omega) (by omega)
            · rw [dif_neg q]; exact hs
        exact key (v + 1) _ (by omega) (by decide)
      · rw [dif_neg q]; decide
    have : n * 1 ≤ n * powAbove 1 v := Nat.mul_le_mul_left n h1
    omega
noncomputable def numQ : D → Option D
  | .tup [_, _, _, nu] => some nu
  | d => some d
section
variable {P : Program} {w : World} {h₀ : Heap} {mg mb : Str → Option Value} {A : Around} {c : Cx} {σ : Str → Option D} {Φ : Out → Prop} {pos p : Pos}
/-- a name that an inner statement leaves as it was -/
theorem fn_struck {us : List Part} (T : Top h₀ mg mb) (hlen : us.length ≤ 63) (hok : us.length ≠ 0 → ∀ j, j ≤ us.length * us.length → RingOk (iter stepR j (ring0 us)))
    (l' : List Quad) (hl' : l'.length ≤ 63) (hsort : CallIs P w h₀ 0 (.builtin "sorted") [.lst ((iter stepR (us.length * us.length) (ring0 us)).map quadD)] (.lst (l'.map quadD))) :
    Fn P w h₀ mg mb ("_law_struck" : Str) 2 [.lst (us.map partD)] (.lst (intsD (l'.map fun q => (q.num : Int)))) :=
  fn_def (names := [("due" : Str)]) (fun _ => []) T rfl (fun A L q a code R => by
      have hu : A.units ≤ 5000 := by have := R.units; omega
      have hr0 : (ring0 us).length = us.length := by unfold ring0; simp
      refine xs_cons (x_comp (b := false) (σc := only (fun x => List.lookup x ([("due" : Str)].zip [D.lst (us.map partD)])) []) (fun d => some (partQ d)) (comp_ok [] []) (evI_enum (ds := us.map partD) T.names R.handled (T.blt _ _ rfl) (ev_name rfl)) (fun C i d hd => ?_) (by rw [show (enumD (us.map partD)).length = us.length by simp [enumD]]; exact sl63 hlen) ?_)
      · unfold enumD at hd
        rw [List.getElem?_mapIdx, List.getElem?_map] at hd
        cases hr : us[i]? with
        | none => rw [hr] at hd; cases hd
        | some u =>
          rw [hr] at hd; cases hd
          refine turn_tup (xs := [(("place" : Str), _), (("part" : Str), _)]) R.handled rfl (fun x hx => ?_) (fun x hx => ?_) rfl tst_nil (fun e he => ?_)
          · rfl
          · simp only [List.mem_cons, List.not_mem_nil, or_false] at hx
            rcases hx with rfl | rfl <;> exact .inl ⟨rfl, rfl⟩
          · cases he
            have it := fun (j : Nat) (d : D) (hj : [D.int u.tab, .int u.parts, .int u.deed, .int u.num, .str u.text][j]? = some d) => (show AtI [D.int u.tab, .int u.parts, .int u.deed, .int u.num, .str u.text] (j : Nat) d from .inl ⟨Int.natCast_nonneg j, by rw [Int.toNat_natCast]; exact hj⟩)
            exact ev_tuple (evl_cons (ev_name rfl) (evl_cons (ev_item_tup (ev_name rfl) (ev_int _) (it 1 _ rfl) (show 5 ≤ sizeLine by decide)) (evl_cons (ev_item_tup (ev_name rfl) (ev_int _) (it 2 _ rfl) (show 5 ≤ sizeLine by decide)) (evl_cons (ev_item_tup (ev_name rfl) (ev_int _) (it 3 _ rfl) (show 5 ≤ sizeLine by decide)) evl_nil))))
      rw [enum_parts]
      have hlenR : Fn P w h₀ mg mb ("len" : Str) 0 [.lst ((ring0 us).map quadD)] (.int (us.length : Nat)) := by
        have := fn_b (x := "len") T (callIs_len (P := P) (w := w) (h₀ := h₀) (ds := (ring0 us).map quadD) (by rw [quads_len, hr0]; exact sl63 hlen))
        rw [quads_len, hr0] at this
        exact this
      have hnn : us.length * us.length ≤ 63 * 63 := Nat.mul_le_mul hlen hlen
      refine xs_cons (x_for (b := true) (ds := upTo 0 (us.length * us.length)) (fun i σ => σ ("ring" : Str) = some (.lst ((iter stepR i (ring0 us)).map quadD)))
        (evI_range1 (n := ((us.length * us.length : Nat) : Int)) T.names R.handled (T.blt _ _ rfl) (Ev.of_eq (ev_mul (IntMulOk.of_left (bits_small hlen)) (ev_fn T R hlenR (evl_cons (ev_name rfl) evl_nil)) (ev_fn T R hlenR (evl_cons (ev_name rfl) evl_nil))) (by rw [Int.natCast_mul])) (by omega)) rfl ?_ ?_)
      · intro i d σ hd hJ
        have hi : i < us.length * us.length := (upTo_at hd).1
        have h0 : us.length ≠ 0 := by intro e; rw [e] at hi; exact absurd hi (Nat.not_lt_zero _)
        have ok := hok h0 i (Nat.le_of_lt hi)
        have ok' := hok h0 (i + 1) hi
        have hit : iter stepR (i + 1) (ring0 us) = stepR (iter stepR i (ring0 us)) := rfl
        rw [hit] at ok'
        rw [hit]
        generalize iter stepR i (ring0 us) = ring at ok ok' hJ
        cases ring with
        | nil => exact absurd ok.pos (Nat.lt_irrefl _)
        | cons q tl =>
        refine ⟨_, asg_name, ?_⟩
        have hring : (put σ ("turn" : Str) d) ("ring" : Str) = some (.lst ((q :: tl).map quadD)) := hJ
        generalize put σ ("turn" : Str) d = σ at hring
        have hsz : ((q :: tl).map quadD).length ≤ sizeLine := by rw [quads_len]; exact sl63 ok.short
        refine xs_cons (x_asgt (xs := [(("place" : Str), _), (("parts" : Str), _), (("deed" : Str), _), (("number" : Str), _)]) R.handled (ev_item_lst (ds := (q :: tl).map quadD) (d := quadD q) (ev_name hring) (ev_int _) (.inl ⟨by decide, rfl⟩) hsz) ?_ rfl ?_)
        rotate_left
        · intro x hx
          simp only [List.mem_cons, List.not_mem_nil, or_false] at hx
          rcases hx with rfl | rfl | rfl | rfl <;> exact .inl ⟨rfl, rfl⟩
        show Xs _ _ _ _ _ _ _ _
        have hq : ∀ {σ' : Str → Option D}, σ' = putAll σ [("place" : Str), ("parts" : Str), ("deed" : Str), ("number" : Str)] [.int q.place, .int q.parts, .int q.deed, .int q.num] → σ' ("place" : Str) = some (.int q.place) ∧ σ' ("parts" : Str) = some (.int q.parts) ∧ σ' ("deed" : Str) = some (.int q.deed) ∧ σ' ("number" : Str) = some (.int q.num) ∧ σ' ("ring" : Str) = some (.lst ((q :: tl).map quadD)) := by
          rintro σ' rfl
          exact ⟨rfl, rfl, rfl, rfl, hring⟩
        obtain ⟨hplace, hparts, hdeed, hnum, hring⟩ := hq rfl
        show Xs _ _ _ _ _ (putAll σ [("place" : Str), ("parts" : Str), ("deed" : Str), ("number" : Str)] [.int q.place, .int q.parts, .int q.deed, .int q.num]) _ _
        generalize putAll σ [("place" : Str), ("parts" : Str), ("deed" : Str), ("number" : Str)] [.int q.place, .int q.parts, .int q.deed, .int q.num] = σ at hplace hparts hdeed hnum hring
        have hsz2 : ((tl.take q.parts).map quadD).length ≤ sizeLine := by
          have := ok.short
          rw [List.length_cons] at this
          rw [quads_len, List.length_take]
          exact sl63 (by omega)
        refine xs_cons (x_compN [] [] valQ (evI_list R.handled (Ev.of_eq (ev_cut (ds := (q :: tl).map quadD) (ev_name hring) (.some (ev_int 1)) (.some (Ev.of_eq (d' := .int ((q.parts + 1 : Nat) : Int)) (ev_add (ev_name hparts) (ev_int 1)) rfl)) hsz) (d' := .lst ((tl.take q.parts).map quadD)) ?_)) (comp_ok [] []) (fun C i d hd => ?_) hsz2 ?_)
        · show D.lst (cut _ (some ((1 : Nat) : Int)) (some ((q.parts + 1 : Nat) : Int))) = _
          rw [cut_nat _ 1 (q.parts + 1) (by omega), List.map_take]
          rfl
        · rw [List.getElem?_map] at hd
          cases hr : (tl.take q.parts)[i]? with
          | none => rw [hr] at hd; cases hd
          | some u =>
            rw [hr] at hd; cases hd
            have it := fun (j : Nat) (d : D) (hj : [D.int u.place, .int u.parts, .int u.deed, .int u.num][j]? = some d) => (show AtI [D.int u.place, .int u.parts, .int u.deed, .int u.num] (j : Nat) d from .inl ⟨Int.natCast_nonneg j, by rw [Int.toNat_natCast]; exact hj⟩)
            have e : valQ (quadD u) = if ((u.parts : Nat) : Int) = 0 then some (.int u.num) else none := rfl
            rw [e]
            refine ⟨tst_one (EvT.of_eq (evt_cmp (ev_item_tup (ds := [D.int u.place, .int u.parts, .int u.deed, .int u.num]) (ev_name rfl) (ev_int _) (it 1 _ rfl) (show 4 ≤ sizeLine by decide)) (ev_int _) cmp_eq) ?_), fun e he => ?_⟩
            · by_cases h : u.parts = 0 <;> simp [h]
            · split at he
              · cases he
                exact ev_item_tup (ds := [D.int u.place, .int u.parts, .int u.deed, .int u.num]) (ev_name rfl) (ev_int _) (it 3 _ rfl) (show 4 ≤ sizeLine by decide)
              · cases he
        rw [vals_quads]
        have hvs : ∀ v ∈ valsOfQ (tl.take q.parts), v < 2 ^ 4000 := by
          intro v hv
          obtain ⟨u, hu1, rfl⟩ := List.mem_map.mp hv
          exact ok.fit u (List.mem_cons_of_mem _ (List.mem_of_mem_take (List.mem_filter.mp hu1).1))
        have hst : strike (q :: tl) = if 0 < q.parts ∧ (valsOfQ (tl.take q.parts)).length = q.parts then ⟨q.place, 0, 14, opVal q.deed q.num (valsOfQ (tl.take q.parts))⟩ :: tl.drop q.parts else q :: tl := rfl
        have hvl : (valsOfQ (tl.take q.parts)).length ≤ 63 := by
          have h1 := List.length_filter_le (fun q => q.parts == 0) (tl.take q.parts)
          have h2 := ok.short
          rw [List.length_cons] at h2
          rw [List.length_take] at h1
          unfold valsOfQ
          rw [List.length_map]
          omega
        generalize valsOfQ (tl.take q.parts) = vs at hvs hst hvl
        have hvals : (put σ ("values" : Str) (.lst (intsD (vs.map fun (v : Nat) => (v : Int))))) ("values" : Str) = some (.lst (intsD (vs.map fun (v : Nat) => (v : Int)))) := rfl
        replace hplace : (put σ ("values" : Str) (.lst (intsD (vs.map fun (v : Nat) => (v : Int))))) ("place" : Str) = some (.int q.place) := hplace
        replace hparts : (put σ ("values" : Str) (.lst (intsD (vs.map fun (v : Nat) => (v : Int))))) ("parts" : Str) = some (.int q.parts) := hparts
        replace hdeed : (put σ ("values" : Str) (.lst (intsD (vs.map fun (v : Nat) => (v : Int))))) ("deed" : Str) = some (.int q.deed) := hdeed
        replace hnum : (put σ ("values" : Str) (.lst (intsD (vs.map fun (v : Nat) => (v : Int))))) ("number" : Str) = some (.int q.num) := hnum
        replace hring : (put σ ("values" : Str) (.lst (intsD (vs.map fun (v : Nat) => (v : Int))))) ("ring" : Str) = some (.lst ((q :: tl).map quadD)) := hring
        show Xs _ _ _ _ _ (put σ ("values" : Str) (.lst (intsD (vs.map fun (v : Nat) => (v : Int))))) _ _
        generalize put σ ("values" : Str) (.lst (intsD (vs.map fun (v : Nat) => (v : Int)))) = σ at hplace hparts hdeed hnum hring hvals
        have hvI : (intsD (vs.map fun (v : Nat) => (v : Int))).length ≤ sizeLine := by rw [intsD_length, List.length_map]; exact sl63 hvl
        refine xs_cons (x_ifJ (fun σ => σ ("ring" : Str) = some (.lst ((strike (q :: tl)).map quadD))) (b := decide (0 < q.parts) && decide (vs.length = q.parts))
          (evt_and2 (EvT.of_eq (evt_cmp (ev_name hparts) (ev_int _) cmp_gt) (decide_eq_decide.mpr (by omega))) (fun _ => EvT.of_eq (evt_cmp (ev_fn T R (fn_b T (callIs_len hvI)) (evl_cons (ev_name hvals) evl_nil)) (ev_name hparts) cmp_eq) ?_)) (fun hb => ?_) (fun hb => ?_) ?_)
        · rw [intsD_length, List.length_map]
          by_cases h : vs.length = q.parts <;> simp [h]; omega
        · rw [Bool.and_eq_true, decide_eq_true_iff, decide_eq_true_iff] at hb
          have hstr : strike (q :: tl) = ⟨q.place, 0, 14, opVal q.deed q.num vs⟩ :: tl.drop q.parts := by rw [hst, if_pos hb]
          have hnew : opVal q.deed q.num vs < 2 ^ 4000 := ok'.fit ⟨q.place, 0, 14, opVal q.deed q.num vs⟩ (by unfold stepR rot; rw [hstr]; simp)
          have hone : q.parts = 1 → q.deed = 12 ∨ q.deed = 13 := ok.one q List.mem_cons_self
          have hv1 : 1 ≤ (vs.map fun (v : Nat) => (v : Int)).length := by rw [List.length_map]; omega
          have hget : (vs.map fun (v : Nat) => (v : Int)).getD 0 0 = ((vs.getD 0 0 : Nat) : Int) := by
            cases vs with
            | nil => rfl
            | cons v vs => rfl
          refine xs_cons (x_assign (d := .int (vs.getD 0 0 : Nat)) (Ev.of_eq (ev_item_lst (ds := intsD (vs.map fun (v : Nat) => (v : Int))) (ev_name hvals) (ev_int _) (atI_ints (i := 0) hv1) hvI) (by rw [hget])) ?_)
          refine xs_cons (x_assign (d := .int ((if q.deed = 0 ∨ q.deed = 2 ∨ q.deed = 12 then 0 else (plainZ q.deed q.num (vs.map fun (v : Nat) => (v : Int))).natAbs : Nat) : Int)) (ev_if (x := decide (¬ (q.deed = 0 ∨ q.deed = 2 ∨ q.deed = 12)))
            (evt_cmp (d' := .tup [.int 0, .int 2, .int 12]) (ev_name hdeed) (ev_tuple (evl_cons (ev_int _) (evl_cons (ev_int _) (evl_cons (ev_int _) evl_nil)))) (cmp_nin_tup false rfl (by intro e he; simp at he; rcases he with rfl | rfl | rfl <;> rfl) (by rw [decide_eq_false_iff_not, Classical.not_not]; simp) hu))
            (fun h => ?_) (fun h => Ev.of_eq (ev_int _) ?_)) ?_)
          · have h' := of_decide_eq_true h
            refine Ev.of_eq (ev_fn T R (fn_b T (callIs_abs (i := plainZ q.deed q.num (vs.map fun (v : Nat) => (v : Int))))) (evl_cons (ev_fn T R (fn_plain (vs := vs.map fun (v : Nat) => (v : Int)) T hv1 ?_ (sl63 (by rw [List.length_map]; exact hvl))) (evl_cons (ev_name hdeed) (evl_cons (ev_name hnum) (evl_cons (ev_name hvals) evl_nil)))) evl_nil)) ?_
            · rw [List.length_map]
              by_cases h2 : 2 ≤ vs.length
              · exact .inr h2
              · have := hone (by omega)
                omega
            · rw [if_neg h']
          · have h' : q.deed = 0 ∨ q.deed = 2 ∨ q.deed = 12 := Classical.not_not.mp (of_decide_eq_false h)
            rw [if_pos h']; rfl
          have hop : opVal q.deed q.num vs = if q.deed = 0 ∨ q.deed = 2 then joined (if q.deed = 12 then turned (if q.deed = 0 ∨ q.deed = 2 ∨ q.deed = 12 then 0 else (plainZ q.deed q.num (vs.map fun (v : Nat) => (v : Int))).natAbs) (vs.getD 0 0) else (if q.deed = 0 ∨ q.deed = 2 ∨ q.deed = 12 then 0 else (plainZ q.deed q.num (vs.map fun (v : Nat) => (v : Int))).natAbs)) vs else (if q.deed = 12 then turned (if q.deed = 0 ∨ q.deed = 2 ∨ q.deed = 12 then 0 else (plainZ q.deed q.num (vs.map fun (v : Nat) => (v : Int))).natAbs) (vs.getD 0 0) else (if q.deed = 0 ∨ q.deed = 2 ∨ q.deed = 12 then 0 else (plainZ q.deed q.num (vs.map fun (v : Nat) => (v : Int))).natAbs)) := rfl
          generalize (if q.deed = 0 ∨ q.deed = 2 ∨ q.deed = 12 then 0 else (plainZ q.deed q.num (vs.map fun (v : Nat) => (v : Int))).natAbs : Nat) = n0 at hop
          generalize hn1 : (if q.deed = 12 then turned n0 (vs.getD 0 0) else n0) = n1 at hop
          refine xs_cons (x_while (fun m σ => ∃ n : Nat, σ ("number" : Str) = some (.int n) ∧ σ ("rest" : Str) = some (.int m) ∧ σ ("place" : Str) = some (.int q.place) ∧ σ ("parts" : Str) = some (.int q.parts) ∧ σ ("deed" : Str) = some (.int q.deed) ∧ σ ("ring" : Str) = some (.lst ((q :: tl).map quadD)) ∧ σ ("values" : Str) = some (.lst (intsD (vs.map fun (v : Nat) => (v : Int)))) ∧
            (if q.deed = 12 then turned n m else n) = n1) (vs.getD 0 0) ⟨n0, rfl, rfl, hplace, hparts, hdeed, hring, hvals, hn1⟩ ?_)
          rintro m σ' ⟨n, e1, e2, e3, e4, e5, e6, e7, e8⟩
          refine ⟨_, evt_and2 (EvT.of_eq (evt_cmp (ev_name e5) (ev_int _) cmp_eq) (show _ = decide (q.deed = 12) by by_cases h : q.deed = 12 <;> simp [h])) (fun _ => EvT.of_eq (evt_cmp (ev_name e2) (ev_int _) cmp_gt) (show _ = decide (0 < m) from decide_eq_decide.mpr (by omega))), fun hb2 => ?_, fun hb2 => ?_⟩
          · rw [Bool.and_eq_true, decide_eq_true_iff, decide_eq_true_iff] at hb2
            refine xs_cons (x_swap (names := [("number" : Str), ("rest" : Str)]) (ds := [.int ((n * 16 + m % 16 : Nat) : Int), .int ((m / 16 : Nat) : Int)]) R.handled (ev_tuple (evl_cons (Ev.of_eq (ev_add (ev_mul (IntMulOk.of_right (by decide)) (ev_name e1) (ev_int _)) (ev_modN 16 (ev_name e2) (ev_int _))) ?_) (evl_cons (ev_divN 16 (ev_name e2) (ev_int _)) evl_nil))) (xs_nil ⟨m / 16, Nat.div_lt_self hb2.2 (by decide), n * 16 + m % 16, rfl, rfl, e3, e4, e5, e6, e7, ?_⟩) rfl ?_)
            · congr 1
            · rw [if_pos hb2.1]
              rw [if_pos hb2.1, turned, dif_neg (by omega)] at e8
              exact e8
            · intro x hx
              simp only [List.mem_cons, List.not_mem_nil, or_false] at hx
              rcases hx with rfl | rfl <;> exact .inl ⟨rfl, rfl⟩
          have hn : n = n1 := by
            rw [Bool.and_eq_false_iff, decide_eq_false_iff_not, decide_eq_false_iff_not] at hb2
            by_cases h : q.deed = 12
            · rw [if_pos h] at e8
              have hm : m = 0 := by rcases hb2 with h2 | h2 <;> omega
              rw [hm, turned, dif_pos rfl] at e8
              exact e8
            · rw [if_neg h] at e8; exact e8
          subst hn
          have hop2 : opVal q.deed q.num vs = joined n (if q.deed = 0 ∨ q.deed = 2 then vs else []) := by
            rw [hop]
            by_cases h : q.deed = 0 ∨ q.deed = 2
            · rw [if_pos h, if_pos h]
            · rw [if_neg h, if_neg h]; rfl
          have hvs2 : ∀ v ∈ (if q.deed = 0 ∨ q.deed = 2 then vs else []), v < 2 ^ 4000 := by
            split
            · exact hvs
            · intro v hv; cases hv
          rw [hop2] at hstr hnew
          obtain ⟨ws, hws⟩ : ∃ ws : List Nat, ws = if q.deed = 0 ∨ q.deed = 2 then vs else [] := ⟨_, rfl⟩
          rw [← hws] at hstr hnew hvs2
          refine xs_cons (x_for (b := true) (fun i σ => σ ("number" : Str) = some (.int (joined n (ws.take i) : Nat)) ∧ σ ("place" : Str) = some (.int q.place) ∧ σ ("parts" : Str) = some (.int q.parts) ∧ σ ("ring" : Str) = some (.lst ((q :: tl).map quadD))) (evI_list (ds := intsD (ws.map fun (v : Nat) => (v : Int))) R.handled (ev_if (x := decide (q.deed = 0 ∨ q.deed = 2)) (evt_cmp (d' := .tup [.int 0, .int 2]) (ev_name e5) (ev_tuple (evl_cons (ev_int _) (evl_cons (ev_int _) evl_nil))) (cmp_in_tup false rfl (by intro e he; simp at he; rcases he with rfl | rfl <;> rfl) (by simp) hu))
            (fun h => Ev.of_eq (ev_name e7) (by rw [hws, if_pos (of_decide_eq_true h)])) (fun h => Ev.of_eq (ev_list evl_nil) (by rw [hws, if_neg (of_decide_eq_false h)]; rfl)))) ⟨e1, e3, e4, e6⟩ ?_ ?_)
          · rintro k d τ hd ⟨g1, g2, g3, g4⟩
            obtain ⟨vi, hvi, rfl⟩ := intsD_at hd
            rw [List.getElem?_map] at hvi
            cases hw : ws[k]? with
            | none => rw [hw] at hvi; cases hvi
            | some v =>
            rw [hw] at hvi
            cases hvi
            have hvm := hvs2 v (List.mem_of_getElem? hw)
            refine ⟨_, asg_name, xs_cons (x_assign (ev_int 1) ?_)⟩
            refine xs_cons (x_while (fun m σ => ∃ z : Nat, 0 < z ∧ m = v + 1 - z ∧ σ ("size" : Str) = some (.int z) ∧ σ ("value" : Str) = some (.int v) ∧ σ ("number" : Str) = some (.int (joined n (ws.take k) : Nat)) ∧ σ ("place" : Str) = some (.int q.place) ∧ σ ("parts" : Str) = some (.int q.parts) ∧ σ ("ring" : Str) = some (.lst ((q :: tl).map quadD)) ∧ powAbove z v = powAbove 1 v)
              v ⟨1, by decide, by omega, rfl, rfl, g1, g2, g3, g4, rfl⟩ ?_)
            rintro m τ' ⟨z, z0, rfl, f1, f2, f3, f4, f5, f6, f7⟩
            refine ⟨_, EvT.of_eq (evt_cmp (ev_name f1) (ev_name f2) cmp_le) (show _ = decide (z ≤ v) from decide_eq_decide.mpr (by omega)), fun hz => ?_, fun hz => ?_⟩
            · have hz' := of_decide_eq_true hz
              refine xs_cons (x_assign (d := .int ((z * 16 : Nat) : Int)) (Ev.of_eq (ev_mul (IntMulOk.of_right (by decide)) (ev_name f1) (ev_int _)) rfl) (xs_nil ⟨v + 1 - z * 16, by omega, z * 16, by omega, rfl, rfl, f2, f3, f4, f5, f6, ?_⟩))
              rw [powAbove, dif_pos ⟨hz', z0⟩] at f7
              exact f7
            · have hz' := of_decide_eq_false hz
              rw [powAbove, dif_neg (by omega)] at f7
              have htk : joined n (ws.take (k + 1)) = joined n (ws.take k) * powAbove 1 v + v := by
                rw [List.take_add_one, hw]
                unfold joined
                rw [List.foldl_append]
                rfl
              have hjl : joined n (ws.take k) < 2 ^ 4000 := by
                have : joined n ws = joined (joined n (ws.take k)) (ws.drop k) := by
                  unfold joined
                  rw [← List.foldl_append, List.take_append_drop]
                have h2 := joined_mono (ws.drop k) _ _ (Nat.le_refl (joined n (ws.take k)))
                omega
              have hpz : powAbove 1 v < 2 ^ (4 + 4000) := by
                have h2 := powAbove_le (v + 1) 1 v (by omega) (by decide)
                have h4 : (0 : Nat) < 2 ^ 4000 := Nat.pow_pos (by decide)
                rw [Nat.pow_add]
                generalize (2 : Nat) ^ 4000 = B at hvm h4
                omega
              refine xs_cons (x_assign (d := .int (joined n (ws.take (k + 1)) : Nat)) (Ev.of_eq (ev_add (ev_mul (IntMulOk.of_bits (Nat.le_trans (bits_fit hjl (by decide)) (by decide)) (by rw [f7]; exact Nat.le_trans (bits_fit hpz (by decide)) (by decide))) (ev_name f3) (ev_name f1)) (ev_name f2)) ?_) (xs_nil ⟨rfl, f4, f5, f6⟩))
              rw [htk, f7]; rfl
          · rintro τ ⟨g1, g2, g3, g4⟩
            rw [intsD_length, List.length_map, List.take_length] at g1
            refine xs_cons (x_assign (Ev.of_eq (ev_addl (ev_list (evl_cons (ev_tuple (evl_cons (ev_name g2) (evl_cons (ev_int _) (evl_cons (ev_int _) (evl_cons (ev_name g1) evl_nil))))) evl_nil)) (Ev.of_eq (ev_cut (ds := (q :: tl).map quadD) (ev_name g4) (.some (Ev.of_eq (d' := .int ((q.parts + 1 : Nat) : Int)) (ev_add (ev_name g3) (ev_int 1)) rfl)) .none hsz) (d' := .lst ((tl.drop q.parts).map quadD)) ?_) ?_) (d' := .lst ((strike (q :: tl)).map quadD)) ?_) (xs_nil rfl))
            · rw [cut_from, List.map_cons, List.drop_succ_cons, List.map_drop]
            · rw [List.length_cons, List.length_nil, quads_len, List.length_drop]
              have := ok.short
              rw [List.length_cons] at this
              exact sl63 (by omega)
            · rw [hstr]; rfl
        · have h : ¬ (0 < q.parts ∧ vs.length = q.parts) := by
            intro h
            rw [decide_eq_true h.1, decide_eq_true h.2] at hb; cases hb
          exact xs_nil (by rw [hst, if_neg h]; exact hring)
        intro σ' hr
        refine xs_cons (x_assign (Ev.of_eq (ev_addl (Ev.of_eq (ev_cut (ds := (strike (q :: tl)).map quadD) (ev_name hr) (.some (ev_int ((1 : Nat) : Int))) .none ?_) (d' := .lst (((strike (q :: tl)).map quadD).drop 1)) ?_) (Ev.of_eq (ev_cut (ds := (strike (q :: tl)).map quadD) (ev_name hr) .none (.some (ev_int ((1 : Nat) : Int))) ?_) (d' := .lst (((strike (q :: tl)).map quadD).take 1)) ?_) ?_) (d' := .lst ((stepR (q :: tl)).map quadD)) ?_) (xs_nil rfl))
        · rw [quads_len]; exact sl63 (Nat.le_trans (strike_len _) ok.short)
        · show D.lst (cut _ (some ((1 : Nat) : Int)) none) = _
          rw [cut_from]
        · rw [quads_len]; exact sl63 (Nat.le_trans (strike_len _) ok.short)
        · show D.lst (cut _ none (some ((1 : Nat) : Int))) = _
          rw [cut_to]
        · rw [List.length_drop, List.length_take, quads_len]
          have h1 := Nat.le_trans (strike_len (q :: tl)) ok.short
          exact Nat.le_trans (show _ ≤ 64 by omega) (by decide)
        · unfold stepR rot
          rw [List.map_append, List.map_drop, List.map_take]
      · intro σ hJ
        rw [upTo_length] at hJ
        refine xs_cons (x_ret (Ev.of_eq (ev_compN [] [] numQ (evI_list (ds := l'.map quadD) R.handled (ev_fn T R (fn_b T hsort) (evl_cons (ev_name hJ) evl_nil))) (comp_ok [] []) (fun C i d hd => ?_) (by rw [quads_len]; exact sl63 hl')) ?_) rfl)
        · rw [List.getElem?_map] at hd
          cases hr : l'[i]? with
          | none => rw [hr] at hd; cases hd
          | some u =>
            rw [hr] at hd; cases hd
            refine ⟨tst_nil, fun e he => ?_⟩
            cases he
            exact ev_item_tup (ds := [D.int u.place, .int u.parts, .int u.deed, .int u.num]) (ev_name rfl) (ev_int _) (.inl ⟨by decide, rfl⟩) (show 4 ≤ sizeLine by decide)
        · have e : ∀ l : List Quad, (l.map quadD).filterMap numQ = intsD (l.map fun q => (q.num : Int)) := by
            intro l
            unfold intsD
            rw [List.filterMap_map, List.map_map, ← List.filterMap_eq_map]
            rfl
          rw [e])
    (fun _ _ _ _ _ _ _ _ vs hv => by
      obtain ⟨v, rfl⟩ := len1 hv
      rfl) (hloc := by intro x hx; exact .inl (by rw [List.mem_singleton.mp hx]; rfl))
end

noncomputable def goT {α : Type} (n : Nat) (f : Nat → Nat → Bool) : KasT α → Option α
  | .ret a => some a
  | .ask i j k => if i < n ∧ j < n ∧ i ≠ j then goT n f (k (f i j)) else none
theorem goT_wp {α : Type} {n : Nat} {f : Nat → Nat → Bool} {cmp : Nat → Nat → (Bool → Shared → Prop) → Shared → Prop} {s : Shared} {Q : α → Shared → Prop} (hc : ∀ i j (C : Bool → Shared → Prop), i < n → j < n → i ≠ j → C (f i j) s → cmp i j C s) {a : α} (hQ : Q a s) :
    ∀ (t : KasT α), goT n f t = some a → t.kasWp cmp Q s
  | .ret b, h => by cases h; exact hQ
  | .ask i j k, h => by
    rw [goT] at h
    split at h
    · rename_i hij
      exact hc i j _ hij.1 hij.2.1 hij.2.2 (goT_wp hc hQ (k (f i j)) h)
    · cases h
noncomputable def rotLt (n r : Nat) (i j : Nat) : Bool := decide ((i + r) % n < (j + r) % n)
theorem sort_rot : ∀ n, n < 10 → 2 ≤ n → ∀ r, r < n → (goT n (rotLt n r) (kas_sort n)).map Array.toList = some ((List.range n).map fun t => (t + (n - r)) % n) := by decide +kernel
section
variable {P : Program} {w : World} {h₀ : Heap} {A : Around} {E : Value → Shared → Prop} {s : Shared} {K : Know}
theorem quad_at {h : Heap} (kin : KIn K h) {v : Value} {q : Quad} (r : Rep K v (quadD q)) : ∃ a n t rest, v = .ref a ∧ h.get? a = some (seqObj "tuple" (.int q.place t :: rest).toArray n) := by
  obtain ⟨_, _, _, rfl, e, r⟩ := r.inv
  obtain ⟨_, _, rfl, r1, rr⟩ := r.inv
  (first | obtain ⟨_, rfl⟩ := r1.inv | obtain rfl := r1.inv | cases r1)
  exact ⟨_, _, _, _, rfl, kin _ _ e⟩
theorem tups_of {h : Heap} (kin : KIn K h) : ∀ {l : List Quad} {vs : List Value}, RepAll K vs (l.map quadD) → ∃ fs, KatTups h vs fs ∧ fs.length = vs.length ∧ ∀ v ∈ fs, ∃ i t, v = Value.int i t
  | [], vs, r => by (first | obtain ⟨_, rfl⟩ := r.inv | obtain rfl := r.inv | cases r); exact ⟨[], KatTups.nil, rfl, fun v hv => by cases hv⟩
  | q :: l, vs, r => by
    obtain ⟨_, _, rfl, r, rr⟩ := r.inv
    obtain ⟨fs, h1, h2, h3⟩ := tups_of kin rr
    obtain ⟨a, n, t, rest, rfl, ho⟩ := quad_at kin r
    refine ⟨.int q.place t :: fs, KatTups.cons ho rfl rfl rfl h1, by simp [h2], fun v hv => ?_⟩
    rcases List.mem_cons.mp hv with rfl | hv
    · exact ⟨_, _, rfl⟩
    · exact h3 v hv
theorem ask_quads {vs : List Value} {l : List Quad} (kin : KIn K s.heap) (r : RepAll K vs (l.map quadD)) {i j : Nat} {C : Bool → Shared → Prop} (hi : i < l.length) (hj : j < l.length) (hne : (l.getD i ⟨0, 0, 0, 0⟩).place ≠ (l.getD j ⟨0, 0, 0, 0⟩).place)
    (hC : C (decide ((l.getD i ⟨0, 0, 0, 0⟩).place < (l.getD j ⟨0, 0, 0, 0⟩).place)) s) : kas_ask P w A (tuples' true) vs i j C s := by
  have at' : ∀ k, k < l.length → ∃ a n t rest, vs.getD k Value.none = .ref a ∧ s.heap.get? a = some (seqObj "tuple" (.int (l.getD k ⟨0, 0, 0, 0⟩).place t :: rest).toArray n) := fun k hk => by
    obtain ⟨v, hv, rv⟩ := r.get? (k := k) (d := quadD l[k]) (by simp [hk])
    have e1 : vs.getD k Value.none = v := by rw [List.getD_eq_getElem?_getD, hv]; rfl
    have e2 : l.getD k ⟨0, 0, 0, 0⟩ = l[k] := by simp [hk]
    rw [e1, e2]
    exact quad_at kin rv
  obtain ⟨a, n, t, rest, e1, o1⟩ := at' i hi
  obtain ⟨b, m, u, rest', e2, o2⟩ := at' j hj
  unfold kas_ask
  rw [e1, e2]
  refine wpAny_mono (kat_lt (E := fun _ _ => False) o1 rfl o2 rfl (kat_cons (wpAny_eqBool_int ?_))) (fun _ _ h => h) fun _ _ e => e
  rw [show ((((l.getD i ⟨0, 0, 0, 0⟩).place : Nat) : Int) == (((l.getD j ⟨0, 0, 0, 0⟩).place : Nat) : Int)) = false from beq_eq_false_iff_ne.mpr fun e => hne (Int.ofNat.inj e)]
  refine kat_no (oneLt_int ?_)
  rw [show decide (((l.getD i ⟨0, 0, 0, 0⟩).place : Int) < ((l.getD j ⟨0, 0, 0, 0⟩).place : Int)) = decide ((l.getD i ⟨0, 0, 0, 0⟩).place < (l.getD j ⟨0, 0, 0, 0⟩).place) from decide_eq_decide.mpr (by omega)]
  exact hC
theorem rep_getD : ∀ {vs : List Value} {ds : List D}, RepAll K vs ds → ∀ {ixs : List Nat}, (∀ i ∈ ixs, i < ds.length) → RepAll K (ixs.map fun i => vs.getD i Value.none) (ixs.map fun i => ds.getD i .none)
  | vs, ds, r, [], h => .nil
  | vs, ds, r, i :: ixs, h => by
    have hi := h i (.head _)
    obtain ⟨v, hv, rv⟩ := r.get? (k := i) (d := ds[i]) (by simp [hi])
    have e1 : vs.getD i Value.none = v := by rw [List.getD_eq_getElem?_getD, hv]; rfl
    have e2 : ds.getD i .none = ds[i] := by simp [hi]
    rw [List.map_cons, List.map_cons, e1, e2]
    exact .cons rv (rep_getD r fun j hj => h j (.tail _ hj))
/-- a rotation of a list whose places rise -/
noncomputable def Rises (m : List Quad) : Prop := m.Pairwise fun a b => a.place < b.place
theorem rises_lt {m : List Quad} (hm : Rises m) {i j : Nat} (hi : i < m.length) (hj : j < m.length) : (m.getD i ⟨0, 0, 0, 0⟩).place < (m.getD j ⟨0, 0, 0, 0⟩).place ↔ i < j := by
  have e1 : m.getD i ⟨0, 0, 0, 0⟩ = m[i] := by simp [hi]
  have e2 : m.getD j ⟨0, 0, 0, 0⟩ = m[j] := by simp [hj]
  rw [e1, e2]
  have up : ∀ i j (hi : i < m.length) (hj : j < m.length), i < j → m[i].place < m[j].place := fun i j hi hj h => List.pairwise_iff_getElem.mp hm i j hi hj h
  constructor
  · intro h
    rcases Nat.lt_trichotomy i j with h1 | h1 | h1
    · exact h1
    · subst h1; omega
    · have := up j i hj hi h1; omega
  · exact up i j hi hj
theorem mod_add {n r x : Nat} (hr : r ≤ n) (hx : x < n) : ((x + r) % n = x + r ∧ x + r < n) ∨ ((x + r) % n + n = x + r) := by
  rcases Nat.lt_or_ge (x + r) n with h | h
  · exact .inl ⟨Nat.mod_eq_of_lt h, h⟩
  · right; rw [Nat.mod_eq_sub_mod h, Nat.mod_eq_of_lt (Nat.sub_lt_left_of_lt_add h (Nat.add_lt_add_of_lt_of_le hx hr)), Nat.sub_add_cancel h]
theorem mod_ne {n r i j : Nat} (hr : r ≤ n) (hi : i < n) (hj : j < n) (h : i ≠ j) : (i + r) % n ≠ (j + r) % n := fun e => by
  have a := mod_add hr hi
  have b := mod_add hr hj
  rw [e] at a
  generalize (j + r) % n = t at a b
  rcases a with a | a <;> rcases b with b | b <;> omega
theorem rot_getD {α : Type} (m : List α) (d : α) {r i : Nat} (hr : r ≤ m.length) (hi : i < m.length) : (m.drop r ++ m.take r).getD i d = m.getD ((i + r) % m.length) d := by
  rw [List.getD_eq_getElem?_getD, List.getD_eq_getElem?_getD]
  by_cases h : i < m.length - r
  · rw [List.getElem?_append_left (by rw [List.length_drop]; exact h), List.getElem?_drop, Nat.mod_eq_of_lt (by omega), Nat.add_comm]
  · have h1 := Nat.le_of_not_lt h
    have e : (i + r) % m.length = i - (m.length - r) := by
      generalize m.length = n at hr hi h1 ⊢
      rcases mod_add hr hi with e | e <;> omega
    rw [List.getElem?_append_right (by rw [List.length_drop]; exact h1), List.length_drop, List.getElem?_take_of_lt (by generalize m.length = n at hr hi h1 ⊢; omega), e]
theorem rot_all {α : Type} (m : List α) (d : α) {r : Nat} (hr : r < m.length) : ((List.range m.length).map fun t => (t + (m.length - r)) % m.length).map (fun i => (m.drop r ++ m.take r).getD i d) = m := by
  have h0 : 0 < m.length := by omega
  apply List.ext_getElem
  · simp
  · intro i h1 h2
    simp only [List.getElem_map, List.getElem_range]
    rw [rot_getD m d (by omega) (Nat.mod_lt _ h0), Nat.mod_add_mod, show i + (m.length - r) + r = i + m.length by omega, Nat.add_mod_right, Nat.mod_eq_of_lt h2]
    simp [h2]
theorem list_sort_quads {a : Addr} {vs : List Value} {m : List Quad} {r n : Nat} {F : Fin → Shared → Prop} (kin : KIn K s.heap) (ka : K a = none) (ho : s.heap.get? a = some (seqObj "list" vs.toArray n))
    (hR : RepAll K vs ((m.drop r ++ m.take r).map quadD)) (hm : Rises m) (h9 : m.length < 10) (hr : r < m.length ∨ m.length < 2) (hr' : r ≤ m.length)
    (h : ∀ out : Array Value, RepAll K out.toList (m.map quadD) → F (.done (.ret .none)) { s with heap := sortedHeap s.heap a vs out }) :
    wpAny (model P w) A (Builtin.«list.sort» ⟨[.ref a], []⟩) F E s := by
  rw [list_sort_plain]
  have ha : a < s.heap.objs.size := Heap.lt_size ho
  have hlen : vs.length = m.length := hR.length.trans (by rw [List.length_map, List.length_append, List.length_drop, List.length_take, Nat.min_eq_left hr', Nat.sub_add_cancel hr'])
  have hll : (m.drop r ++ m.take r).length = m.length := by rw [List.length_append, List.length_drop, List.length_take, Nat.min_eq_left hr', Nat.sub_add_cancel hr']
  have hsl : vs.length ≤ sizeLine := by rw [hlen]; exact Nat.le_trans (Nat.le_of_lt h9) (by decide)
  have hv9 : vs.length < 10 := by rw [hlen]; exact h9
  refine wpAny_bind (listItems_at ho rfl ?_)
  refine wpAny_bind (listUpdate_at ho rfl ?_ (by rw [List.size_toArray]; first | exact hsl | exact Nat.le_succ_of_le hsl) (Nat.zero_le _))
  obtain ⟨e1, ho1⟩ : ∃ e1, (s.heap.update a (Obj.mapSeq fun _ => #[])).get? a = some (seqObj "list" #[] e1) := ⟨_, get?_update_seq ho (fun _ => #[])⟩
  refine wpAny_bind (seqEpoch_at ho1 rfl ?_)
  refine wpAny_bind (wpAny_newTuple ?_ hsl)
  refine wpAny_bind (wpAny_newList ?_ (Nat.zero_le _))
  refine wpAny_holding ?_
  have ho6 : (((s.heap.update a (Obj.mapSeq fun _ => #[])).push (seqObj "tuple" vs.toArray 0)).push (seqObj "list" #[] 0)).get? a = some (seqObj "list" #[] e1) := by
    rw [Heap.get?_push_ne _ _ _ (by rw [size_push', Heap.size_update]; exact Nat.ne_of_lt (Nat.lt_succ_of_lt ha)), Heap.get?_push_ne _ _ _ (by rw [Heap.size_update]; exact Nat.ne_of_lt ha)]
    exact ho1
  have kin2 : KIn K (((s.heap.update a (Obj.mapSeq fun _ => #[])).push (seqObj "tuple" vs.toArray 0)).push (seqObj "list" #[] 0)) := fun b o e => by
    have hb := kin b o e
    have hne : b ≠ a := fun e' => by rw [e', ka] at e; cases e
    refine Heap.get?_push_of_some _ (Heap.get?_push_of_some _ ?_)
    rw [Heap.get?_update_ne _ _ _ _ hne]; exact hb
  show wpAny (model P w) A _ F E { s with heap := ((s.heap.update a (Obj.mapSeq fun _ => #[])).push (seqObj "tuple" vs.toArray 0)).push (seqObj "list" #[] 0) }
  dsimp only
  have hsz : vs.toArray.size = vs.length := by simp
  by_cases h2 : vs.toArray.size < 2
  · rw [if_pos h2, if_pos h2]
    refine wpAny_bind (wpAny_pure ?_)
    rw [StateT.run_pure]
    refine wpAny_bind (wpAny_pure ?_)
    dsimp only
    have hout : ((arrOf (SortSt.mk' general' (vs.toArray.zip vs.toArray) #[] 7 none)).map (·.2)) = vs.toArray := by
      show (vs.toArray.zip vs.toArray).map (·.2) = _
      apply Array.toList_inj.mp
      rw [Array.toList_map, Array.toList_zip]
      exact List.map_snd_zip (Nat.le_refl _)
    refine wpAny_bind (seqEpoch_at ho6 rfl ?_)
    rw [hout]
    refine wpAny_bind (listUpdate_at ho6 rfl ?_ (Nat.zero_le _) (by show vs.toArray.size ≤ _; rw [List.size_toArray]; first | exact hsl | exact Nat.le_succ_of_le hsl))
    simp only [bne_self_eq_false, Bool.false_eq_true, if_false]
    refine wpAny_pure (h vs.toArray ?_)
    have e : m.drop r ++ m.take r = m := by
      have : m.length < 2 := by rw [hsz, hlen] at h2; exact h2
      match m, this, hr' with
      | [], _, _ => simp
      | [x], _, hr' =>
        have : r = 0 ∨ r = 1 := by simp at hr'; omega
        rcases this with rfl | rfl <;> rfl
    rw [e] at hR
    exact hR
  · rw [if_neg h2, if_neg h2]
    have hm2 : 2 ≤ m.length := by rw [hsz, hlen] at h2; exact Nat.le_of_not_lt h2
    have hrl : r < m.length := hr.resolve_right (Nat.not_lt.mpr hm2)
    have hv2 : 2 ≤ vs.length := hlen.symm ▸ hm2
    obtain ⟨fs, t1, t2, t3⟩ := tups_of kin2 hR
    refine wpAny_bind (kat_kind t1 (by rw [t2]; first | exact hv2 | exact Nat.lt_of_lt_of_le (by decide) hv2 | exact Nat.pos_of_ne_zero (Nat.ne_of_gt (Nat.lt_of_lt_of_le (by decide) hv2)) | omega) (T := .type "int") (fun v hv => ?_) rfl ?_)
    · obtain ⟨i, t, rfl⟩ := t3 v hv
      exact Looks.of_pure rfl
    have hk : (tuples' ((Value.type "int") != Value.type "tuple")) = tuples' true := rfl
    rw [hk]
    have hcmp : (kas_sort vs.length).kasWp (kas_ask P w A (tuples' true) vs) (fun (p : Array Nat) s'' => p.toList = (List.range m.length).map (fun t => (t + (m.length - r)) % m.length) ∧ s'' = { s with heap := ((s.heap.update a (Obj.mapSeq fun _ => #[])).push (seqObj "tuple" vs.toArray 0)).push (seqObj "list" #[] 0) }) { s with heap := ((s.heap.update a (Obj.mapSeq fun _ => #[])).push (seqObj "tuple" vs.toArray 0)).push (seqObj "list" #[] 0) } := by
      rw [hlen]
      have hs := sort_rot m.length h9 hm2 r hrl
      cases hg : goT m.length (rotLt m.length r) (kas_sort m.length) with
      | none => rw [hg] at hs; cases hs
      | some p =>
        rw [hg] at hs
        refine goT_wp (fun i j C hi hj hne hC => ?_) (a := p) ⟨Option.some.inj hs, rfl⟩ _ hg
        have h0 : 0 < m.length := Nat.lt_of_le_of_lt (Nat.zero_le _) hrl
        have hlt : ∀ i j, i < m.length → j < m.length → (((m.drop r ++ m.take r).getD i ⟨0, 0, 0, 0⟩).place < ((m.drop r ++ m.take r).getD j ⟨0, 0, 0, 0⟩).place ↔ (i + r) % m.length < (j + r) % m.length) := fun i j hi hj => by
          rw [rot_getD m _ hr' hi, rot_getD m _ hr' hj]
          exact rises_lt hm (Nat.mod_lt _ h0) (Nat.mod_lt _ h0)
        have hmod : (i + r) % m.length ≠ (j + r) % m.length := mod_ne hr' hi hj hne
        refine ask_quads kin2 hR (hll.symm ▸ hi) (hll.symm ▸ hj) (fun e => ?_) ?_
        · have a1 := hlt i j hi hj
          have a2 := hlt j i hj hi
          exact (Nat.lt_or_gt_of_ne hmod).elim (fun q => Nat.ne_of_lt (a1.mpr q) e) (fun q => Nat.ne_of_lt (a2.mpr q) e.symm)
        · have e : decide (((m.drop r ++ m.take r).getD i ⟨0, 0, 0, 0⟩).place < ((m.drop r ++ m.take r).getD j ⟨0, 0, 0, 0⟩).place) = rotLt m.length r i j := decide_eq_decide.mpr (hlt i j hi hj)
          rw [e]; exact hC
    refine wpAny_bind (wpAny_mono (kat_run (Q := fun st' s' => ∃ p : Array Nat, p.size = vs.length ∧ arrOf st' = p.map (kas_item (vs.toArray.zip vs.toArray)) ∧ failedOf st' = none ∧ (p.toList = (List.range m.length).map (fun t => (t + (m.length - r)) % m.length) ∧ s' = { s with heap := ((s.heap.update a (Obj.mapSeq fun _ => #[])).push (seqObj "tuple" vs.toArray 0)).push (seqObj "list" #[] 0) }))
      rfl (by first | exact hv2 | exact hv9 | exact Nat.le_of_lt hv9 | exact Nat.le_trans (Nat.le_of_lt hv9) (by decide) | omega) (by first | exact hv2 | exact hv9 | exact Nat.lt_of_lt_of_le hv9 (by decide) | exact Nat.le_trans (Nat.le_of_lt hv9) (by decide) | omega) (fun p' st' s' a1 a2 a3 a4 => ⟨p', a1, a2, a3, a4⟩) hcmp) ?_ fun _ _ e => e)
    rintro ⟨⟨⟩, st'⟩ s' ⟨p, hp, har, hf, hpl, rfl⟩
    dsimp only
    have hout := kat_snds rfl har
    rw [hout]
    refine wpAny_bind (seqEpoch_at ho6 rfl ?_)
    refine wpAny_bind (listUpdate_at ho6 rfl ?_ (Nat.zero_le _) (by show (List.toArray _).size ≤ _; rw [List.size_toArray, List.length_map, Array.length_toList, hp]; first | exact hsl | exact Nat.le_succ_of_le hsl))
    rw [hf]
    simp only [bne_self_eq_false, Bool.false_eq_true, if_false]
    refine wpAny_pure (h _ ?_)
    rw [hpl]
    have := rep_getD hR (ixs := (List.range m.length).map fun t => (t + (m.length - r)) % m.length) (fun i hi => by
      obtain ⟨t, _, rfl⟩ := List.mem_map.mp hi
      rw [List.length_map, hll]
      exact Nat.mod_lt _ (Nat.lt_of_le_of_lt (Nat.zero_le _) hrl))
    have e : (((List.range m.length).map fun t => (t + (m.length - r)) % m.length).map fun i => ((m.drop r ++ m.take r).map quadD).getD i .none) = m.map quadD := by
      rw [List.map_append, List.map_drop, List.map_take]
      have := rot_all (m.map quadD) .none (r := r) (by rw [List.length_map]; exact hrl)
      rw [List.length_map] at this
      exact this
    rw [e] at this
    exact this
theorem callIs_sortq {m : List Quad} {r : Nat} (hm : Rises m) (h9 : m.length < 10) (hr : r < m.length ∨ m.length < 2) (hr' : r ≤ m.length) : CallIs P w h₀ 0 (.builtin "sorted") [.lst ((m.drop r ++ m.take r).map quadD)] (.lst (m.map quadD)) := fun A K s vs Q E hh hd hu hb hk hrr hq => by
  cases hrr with
  | cons rv rr =>
    obtain rfl := rr.inv
    obtain ⟨a, vs, n, rfl, e, rv⟩ := rv.inv
    have hl := isListOf hk e
    have hlen : vs.length = m.length := rv.length.trans (by rw [List.length_map, List.length_append, List.length_drop, List.length_take]; omega)
    refine Calls.call_function_entry kind_sorted plain_sorted entry_sorted (args_sorted1 _) ?_
    unfold Builtin.«sorted»
    refine wpAny_bind (m := checkCount "sorted" 1 1 _) (wpAny_pure ?_)
    refine wpAny_bind (collect_list hl ?_ (by rw [sizeLine_eq]; omega))
    refine wpAny_bind (wpAny_newList ?_ (by rw [sizeLine_eq]; omega))
    have hsz : ((s.heap.push (seqObj "list" #[] 0)).update s.heap.objs.size (Obj.mapSeq (· ++ vs.toArray))).objs.size = s.heap.objs.size + 1 := by
      rw [Heap.size_update, size_push']
    have hoL : (((s.heap.push (seqObj "list" #[] 0)).update s.heap.objs.size (Obj.mapSeq (· ++ vs.toArray))).push (seqObj "list" vs.toArray 0)).get? (s.heap.objs.size + 1) = some (seqObj "list" vs.toArray 0) := by
      rw [← hsz]; exact Heap.get?_push_size _ rfl
    have keep : ∀ b o, s.heap.get? b = some o → (((s.heap.push (seqObj "list" #[] 0)).update s.heap.objs.size (Obj.mapSeq (· ++ vs.toArray))).push (seqObj "list" vs.toArray 0)).get? b = some o := fun b o q => by
      have hlt : b < s.heap.objs.size := Heap.lt_size q
      rw [Heap.get?_push_ne _ _ _ (by rw [hsz]; exact Nat.ne_of_lt (Nat.lt_succ_of_lt hlt)), Heap.get?_update_ne _ _ _ _ (Nat.ne_of_lt hlt), Heap.get?_push_ne _ _ _ (Nat.ne_of_lt hlt)]
      exact q
    show wpAny _ _ _ _ _ { s with heap := ((s.heap.push (seqObj "list" #[] 0)).update s.heap.objs.size (Obj.mapSeq (· ++ vs.toArray))).push (seqObj "list" vs.toArray 0) }
    rw [hsz]
    refine wpAny_bind (wpAny_holding (wpAny_call_entry slot_list_sort ⟨_, hoL, rfl⟩ entry_list_sort (list_sort_quads (K := K) (fun b o e => keep b o (hk b o e)) ?_ hoL rv hm h9 hr hr' fun out hout => ⟨_, rfl, ?_⟩) (args_list_sort _)))
    · exact Option.eq_none_iff_forall_ne_some.mpr fun o e => Nat.lt_irrefl _ (Nat.lt_of_succ_lt (Heap.lt_size (hk _ _ e)))
    · refine wpAny_pure ⟨_, rfl, ?_⟩
      obtain ⟨e2, he2⟩ := sortedAll_at s.heap vs out
      have st := Step.one (t := s.toks) hk (fun b o e => sortedAll_old (vs := vs) (out := out) e) (none_of_size (Nat.le_succ _)) he2
      refine hq _ _ _ st (.lst (vs := out.toList) (n := e2) ?_ (hout.mono st.mono))
      rw [Array.toArray_toList]
      exact Know.put_same _ _ _
end

section
variable {P : Program} {w : World} {h₀ : Heap} {A : Around} {c : Cx} {σ : Str → Option D} {Φ : Out → Prop} {pos p : Pos} {K : Know} {s : Shared}

theorem plain_ne_ns {h : Heap} {a L : Addr} {vs : Array Value} {m : Str → Option Value} (h1 : h.PlainList a vs) (h2 : h.Ns L m) : L ≠ a := fun q => by
  obtain ⟨k, e⟩ := h1
  obtain ⟨o, es, ep, ho, hd, _⟩ := h2
  rw [q, e] at ho; cases ho; cases hd
theorem plain_ne_cell {h : Heap} {a b : Addr} {vs : Array Value} {v : Option Value} (h1 : h.PlainList a vs) {o : Obj} (ho : h.get? b = some o) (hd : o.data = .cell v) : b ≠ a := fun q => by
  obtain ⟨k, e⟩ := h1
  rw [q, e] at ho; cases ho; cases hd

/-- an owned list has been changed; all else that stood stands -/
theorem inv_turn {x : Str} {a : Addr} {ds es : List D} {us : List Value} {K' : Know} {s' : Shared} (I : Inv h₀ c σ K s) (hx : σ x = some (.own a ds)) (mono : KSub K K') (kin : KIn K' s'.heap) (new : ∀ b o, s.heap.get? b = some o → K' b = K b)
    (keep : ∀ b o, b ≠ a → s.heap.get? b = some o → s'.heap.get? b = some o) (pl : s'.heap.PlainList a us.toArray) (rep : RepAll K' us es) : Inv h₀ c (put σ x (.own a es)) K' s' := by
  obtain ⟨hat, hbd, vs, hpl, hrep⟩ := I.own x a ds hx
  have bnd : ∀ y v, Bound c.env s.heap y v → Bound c.env s'.heap y v := fun y v b => by
    rcases b with ⟨b1, m, b2, b3⟩ | ⟨b1, b', o, b2, b3, b4⟩
    · exact .inl ⟨b1, m, b2.at' fun o e => keep _ _ (plain_ne_ns hpl b2) e, b3⟩
    · exact .inr ⟨b1, b', o, b2, keep _ _ (plain_ne_cell hpl b3 b4) b3, b4⟩
  refine ⟨fun b o e => mono _ _ (I.base _ _ e), kin, fun b hb => ?_, fun b hb => ?_, ?_, I.loc, fun y b e => ?_, I.inj, fun y d e hp => ?_, fun y b fs e => ?_, fun y z b fs gs e e' => ?_⟩
  · obtain ⟨o, e⟩ := I.has b hb; rw [new _ _ e]; exact I.off b hb
  · obtain ⟨o, e⟩ := I.has b hb
    by_cases q : b = a
    · obtain ⟨k, e'⟩ := pl; exact ⟨_, q ▸ e'⟩
    · exact ⟨o, keep _ _ q e⟩
  · obtain ⟨m, hn⟩ := I.ns; exact ⟨m, hn.at' fun o e => keep _ _ (plain_ne_ns hpl hn) e⟩
  · obtain ⟨v, o, ho, hd⟩ := I.cell y b e; exact ⟨v, o, keep _ _ (plain_ne_cell hpl ho hd) ho, hd⟩
  · unfold put at e
    by_cases q : y = x
    · rw [if_pos q] at e; cases e; cases hp
    · rw [if_neg q] at e
      obtain ⟨v, b, r⟩ := I.vars y d e hp; exact ⟨v, bnd y v b, r.mono mono⟩
  · unfold put at e
    by_cases q : y = x
    · rw [if_pos q] at e; cases e
      exact ⟨hat, q ▸ bnd x _ hbd, us, pl, rep⟩
    · rw [if_neg q] at e
      obtain ⟨h1, h2, ws, h3, h4⟩ := I.own y b fs e
      have hne : b ≠ a := fun e' => q (I.own1 y x a fs ds (e' ▸ e) hx)
      exact ⟨h1, bnd y _ h2, ws, h3.at fun o e => keep _ _ hne e, h4.mono mono⟩
  · have key : ∀ y b fs, put σ x (.own a es) y = some (.own b fs) → ∃ fs', σ y = some (.own b fs') := fun y b fs e => by
      unfold put at e
      by_cases q : y = x
      · rw [if_pos q] at e; cases e; exact ⟨ds, q ▸ hx⟩
      · rw [if_neg q] at e; exact ⟨fs, e⟩
    obtain ⟨_, e1⟩ := key y b fs e
    obtain ⟨_, e2⟩ := key z b gs e'
    exact I.own1 y z b _ _ e1 e2

theorem own_name {x : Str} {a : Addr} {ds : List D} {Q : Value → Shared → Prop} {E : Value → Shared → Prop} (I : Inv h₀ c σ K s) (hx : σ x = some (.own a ds)) (hQ : Q (.ref a) s)
    (hk : c.env.scope.kind = .function := by rfl) (hd : (x == ("__debug__" : Str)) = false := by decide) (hc : (x == ("__classdict__" : Str)) = false := by decide) : wpAny (model P w) A (eval (.Name x p) c.env) Q E s := by
  obtain ⟨_, b, _⟩ := I.own x a ds hx
  rcases b with ⟨b1, m, b2, b3⟩ | ⟨b1, b', o, b2, b3, b4⟩
  · exact wpAny_Name (wpAny_loadName_local hk b1 b2 b3 hQ) hd
  · rcases b1 with b1 | b1
    · exact wpAny_Name (wpAny_loadName_cell hk b1 b2 ⟨o, b3, b4⟩ hQ) hd
    · exact wpAny_Name (wpAny_loadName_free hk b1 b2 ⟨o, b3, b4⟩ hQ hc) hd

/-- looked at as a list that does not change -/
theorem inv_freeze {x : Str} {a : Addr} {ds : List D} {t : List Addr} {env : Env} (I : Inv h₀ ⟨env, a :: t⟩ σ K s) (hx : σ x = some (.own a ds)) (hat : a ∉ t) (hL : env.locals ∈ t) (h1 : ∀ y b es, σ y = some (.own b es) → b = a) :
    ∃ o, s.heap.get? a = some o ∧ K a = none ∧ Inv h₀ ⟨env, t⟩ (put σ x (.lst ds)) (K.put a o) s := by
  obtain ⟨_, hbd, vs, ⟨n, hpl⟩, hrep⟩ := I.own x a ds hx
  have ka : K a = none := I.off a List.mem_cons_self
  have sub : KSub K (K.put a { cls := .type "list", data := .seq vs.toArray n }) := Know.put_sub ka
  refine ⟨_, hpl, ka, fun b o e => sub _ _ (I.base _ _ e), fun b o e => ?_, fun b hb => ?_, fun b hb => I.has b (.tail _ hb), I.ns, hL, I.cell, I.inj, fun y d e hp => ?_, fun y b es e => ?_, fun y z b es fs e e' => ?_⟩
  · by_cases q : b = a
    · subst q; rw [Know.put_same] at e; cases e; exact hpl
    · rw [Know.put_ne _ _ q] at e; exact I.kin _ _ e
  · have hne : b ≠ a := fun q => hat (by rw [← q]; exact hb)
    rw [Know.put_ne _ _ hne]; exact I.off b (.tail _ hb)
  · unfold put at e
    by_cases q : y = x
    · rw [if_pos q] at e; cases e
      exact ⟨_, q ▸ hbd, .lst (Know.put_same _ _ _) (hrep.mono sub)⟩
    · rw [if_neg q] at e
      obtain ⟨v, b, r⟩ := I.vars y d e hp; exact ⟨v, b, r.mono sub⟩
  · unfold put at e
    by_cases q : y = x
    · rw [if_pos q] at e; cases e
    · rw [if_neg q] at e
      have := h1 y b es e
      subst this
      exact absurd (I.own1 y x _ _ _ e hx) q
  · unfold put at e
    by_cases q : y = x
    · rw [if_pos q] at e; cases e
    · rw [if_neg q] at e
      have := h1 y b es e
      subst this
      exact absurd (I.own1 y x _ _ _ e hx) q
noncomputable def OwnOnly (σ : Str → Option D) (a : Addr) : Prop := ∀ y b es, σ y = some (.own b es) → b = a
theorem evt_thaw {e : Expr} {b : Bool} {x : Str} {a : Addr} {ds : List D} {t : List Addr} {env : Env} (hx : σ x = some (.own a ds)) (hat : a ∉ t) (hL : env.locals ∈ t) (h1 : OwnOnly σ a)
    (h : EvT P w h₀ A ⟨env, t⟩ (put σ x (.lst ds)) e b) : EvT P w h₀ A ⟨env, a :: t⟩ σ e b := .mk fun K s Q E I hq => by
  obtain ⟨o, ho, ka, I'⟩ := inv_freeze I hx hat hL h1
  refine h.run _ s Q E I' fun K' s' st => hq (fun b => if b = a then none else K' b) s' ⟨fun b o' e => ?_, fun b o' e => ?_, fun b o' e => ?_, st.keep, st.same⟩
  · have hne : b ≠ a := fun q => by rw [q, ka] at e; cases e
    simp only [if_neg hne]
    exact st.mono _ _ ((Know.put_ne _ _ hne).trans e)
  · by_cases q : b = a
    · rw [if_pos q] at e; cases e
    · rw [if_neg q] at e; exact st.kin _ _ e
  · by_cases q : b = a
    · rw [if_pos q, q]; exact ka.symm
    · simp only [if_neg q]
      exact (st.new _ _ e).trans (Know.put_ne _ _ q)

/-- a statement that only evaluates -/
theorem x_own_append {x : Str} {a : Addr} {ds : List D} {d : D} {e : Expr} {ap cp : Pos} (hx : σ x = some (.own a ds)) (h : Ev P w h₀ A c σ e d) (hΦ : Φ (.next (put σ x (.own a (ds ++ [d]))))) (hsz : ds.length ≤ sizeLine)
    (hk : c.env.scope.kind = .function := by rfl) (hd : (x == ("__debug__" : Str)) = false := by decide) (hc : (x == ("__classdict__" : Str)) = false := by decide)
    (hbase : attributeBase (.Name x p) ("append" : Str) c.env (eval (.Name x p) c.env) = eval (.Name x p) c.env := by rfl) (hline : (ap.endLine == cp.line) = true := by rfl) (hs : starEach [e] c.env = [(false, eval e c.env)] := by rfl)
    (hi : interactive c.env = false := by rfl) (hsw : swapsWith (.Call (.Attribute (.Name x p) ("append" : Str) ap) [e] [] cp) none pos.line c.env = pure false := by rfl) :
    X1 P w h₀ A c σ (.Expr (.Call (.Attribute (.Name x p) ("append" : Str) ap) [e] [] cp) pos) Φ := .mk fun K s Q E I hq => by
  refine wpAny_Expr_any (Call_method1 hbase hs hline (own_name I hx ?_ hk hd hc)) hi hsw
  obtain ⟨hat, hbd, vs, ⟨n, hpl⟩, hrep⟩ := I.own x a ds hx
  refine ⟨"list", "list.append", F.plainAttrs_list, F.slot_list_append, F.type_list_append, ⟨_, hpl, rfl⟩, fun b e => by cases e; exact ⟨_, hpl, rfl⟩, ?_⟩
  refine Calls.callWith_builtin rfl (Calls.evalArgs_plain (Calls.spliced_cons (h.run K s _ E I fun u K2 s2 st2 r2 => Calls.spliced_nil ?_)))
  have I2 := I.step st2
  have pl2 : s2.heap.PlainList a vs.toArray := ⟨n, st2.keep _ _ hpl⟩
  refine wpAny_list_append_plain (hsz := by rw [List.size_toArray, hrep.length]; exact hsz) pl2 fun h' hl' hs' => ?_
  have keep : ∀ b o, b ≠ a → s2.heap.get? b = some o → h'.get? b = some o := fun b o q e => (hs'.2 b q).trans e
  have ka : K2 a = none := I2.off a hat
  have kin' : KIn K2 h' := fun b o e => keep b o (fun q => by rw [q, ka] at e; cases e) (I2.kin _ _ e)
  have I3 : Inv h₀ c (put σ x (.own a (ds ++ [d]))) K2 { s2 with heap := h' } := inv_turn I2 hx (fun _ _ e => e) kin' (fun _ _ _ => rfl) keep (us := vs ++ [u]) (by simpa using hl') ((hrep.mono st2.mono).snoc r2)
  refine hq _ K2 _ _ ((SStep.of st2).trans ⟨fun _ _ e => e, fun _ _ _ => rfl, fun b o hb e => keep b o (fun q => hb (q ▸ hat)) e, fun b o e => ?_, h', s2.toks, rfl⟩) hΦ ⟨rfl, I3⟩
  by_cases q : b = a
  · obtain ⟨k, e'⟩ := hl'; exact ⟨_, q ▸ e'⟩
  · exact ⟨o, keep b o q e⟩

/-- a new list of the frame's own, a statement that changes it, and what follows with the list at rest -/
theorem xs_own {x : Str} {p p2 : Pos} {st : Stmt} {rest : List Stmt} (hx : Stores c x) (hno : ∀ y b es, σ y ≠ some (.own b es))
    (h : ∀ a, a ∉ c.turns → X1 P w h₀ A ⟨c.env, a :: c.turns⟩ (put σ x (.own a [])) st (fun o => match o with | .next σ' => OwnOnly σ' a ∧ ∃ ds, σ' x = some (.own a ds) ∧ Xs P w h₀ A c (put σ' x (.lst ds)) rest Φ | .ret d => Φ (.ret d) | _ => False))
    (hsw : swapsWith (.List [] p2) (some (.Name x p)) pos.line c.env = pure false := by rfl) : Xs P w h₀ A c σ (.Assign [.Name x p] (.List [] p2) pos :: st :: rest) Φ := .mk fun K s Q E I hq => by
  have hnew : s.heap.get? s.heap.objs.size = none := none_of_size (Nat.le_refl _)
  have hat : s.heap.objs.size ∉ c.turns := fun q => by obtain ⟨o, e⟩ := I.has _ q; rw [hnew] at e; cases e
  refine wpAny_execs_cons (wpAny_Assign_Name (wpAny_List (Calls.spliced_nil ⟨Nat.zero_le _, ?_⟩)) hsw)
  have ho : (s.heap.push { cls := .type "list", data := .seq ([] : List Value).toArray }).get? s.heap.objs.size = some { cls := .type "list", data := .seq ([] : List Value).toArray } := Heap.get?_push_size _ rfl
  have st1 : Step K s K { s with heap := s.heap.push { cls := .type "list", data := .seq ([] : List Value).toArray }, toks := s.toks } := Step.grow I.kin fun b o e => Heap.get?_push_of_some _ e
  have I1 : Inv h₀ ⟨c.env, s.heap.objs.size :: c.turns⟩ σ K { s with heap := s.heap.push { cls := .type "list", data := .seq ([] : List Value).toArray }, toks := s.toks } := by
    have I' := I.step st1
    refine ⟨I'.base, I'.kin, fun b hb => ?_, fun b hb => ?_, I'.ns, .tail _ I'.loc, I'.cell, I'.inj, I'.vars, fun y b es e => absurd e (hno y b es), I'.own1⟩
    · rcases List.mem_cons.mp hb with rfl | hb
      · exact kn_none I.kin hnew
      · exact I'.off b hb
    · rcases List.mem_cons.mp hb with rfl | hb
      · exact ⟨_, ho⟩
      · exact I'.has b hb
  refine storeV (c := ⟨c.env, s.heap.objs.size :: c.turns⟩) (d := .own s.heap.objs.size []) I1 (fun e => by cases e) (fun a ds e => ?_) ?_ fun s2 st2 I2 => ?_
  · cases e
    exact ⟨rfl, List.mem_cons_self, ⟨[], ⟨_, ho⟩, .nil⟩, fun y es => hno y _ es⟩
  · exact hx.imp id fun ⟨h1, h2, a, h3, h4⟩ => ⟨h1, h2, a, h3, .tail _ h4⟩
  have fin : ∀ {K' s'}, SStep ⟨c.env, s.heap.objs.size :: c.turns⟩ K { s with heap := s.heap.push { cls := .type "list", data := .seq ([] : List Value).toArray }, toks := s.toks } K' s' → SStep c K s K' s' := fun {K' s'} st => by
    have e := (SStep.of (c := ⟨c.env, s.heap.objs.size :: c.turns⟩) st1).trans st
    exact ⟨e.mono, e.new, fun b o hb eo => e.keep b o (fun q => by
      rcases List.mem_cons.mp q with rfl | q
      · rw [hnew] at eo; cases eo
      · exact hb q) eo, e.alive, e.same⟩
  show wpAny (model P w) A (execs (st :: rest) c.env) Q E s2
  refine wpAny_execs_cons ((h _ hat).run K s2 _ E I2 fun fl K3 s3 o st3 ho3 oi => ?_)
  cases o with
  | next σ' =>
    obtain ⟨rfl, I3⟩ := oi
    obtain ⟨h1, ds, hx', hrest⟩ := ho3
    obtain ⟨o3, ho3, ka3, I4⟩ := inv_freeze I3 hx' hat I.loc h1
    refine hrest.run _ s3 Q E I4 fun fl K5 s5 o5 st5 ho5 oi5 => hq fl K5 s5 o5 ?_ ho5 oi5
    have e := fin (st2.trans st3)
    refine ⟨fun b o eb => st5.mono _ _ (Know.put_sub ka3 _ _ (e.mono _ _ eb)), fun b o eb => ?_, fun b o hb eb => st5.keep b o hb (e.keep b o hb eb), fun b o eb => ?_, ?_⟩
    · obtain ⟨o', eb'⟩ := e.alive b o eb
      exact (st5.new b o' eb').trans ((Know.put_ne _ _ (fun q => by rw [q, hnew] at eb; cases eb)).trans (e.new b o eb))
    · obtain ⟨o', eb'⟩ := e.alive b o eb; exact st5.alive b o' eb'
    · obtain ⟨h, t, e1⟩ := e.same
      obtain ⟨h', t', e2⟩ := st5.same
      exact ⟨h', t', by rw [e2, e1]⟩
  | brk σ' => exact ho3.elim
  | cont σ' => exact ho3.elim
  | ret d => obtain ⟨k, v, rfl, r⟩ := oi; exact hq _ K3 s3 (.ret d) (fin (st2.trans st3)) ho3 ⟨k, v, rfl, r⟩
end

section
variable {P : Program} {w : World} {h₀ : Heap} {A : Around} {c : Cx} {σ : Str → Option D} {Φ : Out → Prop} {pos p : Pos} {K : Know} {s : Shared}

/-- the last item is taken off -/
theorem own_pop {x : Str} {a : Addr} {ds : List D} {d : D} {ap cp : Pos} {Q : Value → Shared → Prop} {E : Value → Shared → Prop} (I : Inv h₀ c σ K s) (hx : σ x = some (.own a (ds ++ [d]))) (hsz : ds.length + 1 ≤ sizeLine)
    (hQ : ∀ v h', Rep K v d → (∀ b o, b ≠ a → s.heap.get? b = some o → h'.get? b = some o) → (∃ o, h'.get? a = some o) → SStep c K s K { s with heap := h' } → Inv h₀ c (put σ x (.own a ds)) K { s with heap := h' } → Q v { s with heap := h' })
    (hk : c.env.scope.kind = .function := by rfl) (hd : (x == ("__debug__" : Str)) = false := by decide) (hc : (x == ("__classdict__" : Str)) = false := by decide)
    (hbase : attributeBase (.Name x p) ("pop" : Str) c.env (eval (.Name x p) c.env) = eval (.Name x p) c.env := by rfl) (hline : (ap.endLine == cp.line) = true := by rfl) :
    wpAny (model P w) A (eval (.Call (.Attribute (.Name x p) ("pop" : Str) ap) [] [] cp) c.env) Q E s := by
  refine Call_method0 hbase hline (own_name I hx ?_ hk hd hc)
  obtain ⟨hat, hbd, vs, ⟨n, hpl⟩, hrep⟩ := I.own x a _ hx
  refine ⟨"list", "list.pop", F.plainAttrs_list, F.slot_list_pop, F.type_list_pop, ⟨_, hpl, rfl⟩, fun b e => by cases e; exact ⟨_, hpl, rfl⟩, ?_⟩
  refine Calls.callWith_builtin rfl (evalArgs_of (pos := cp) (es := []) (env := c.env) rfl (Calls.spliced_nil ?_))
  have hlen : vs.length = ds.length + 1 := hrep.length.trans (by simp)
  obtain ⟨v, hv, rv⟩ := hrep.get? (k := ds.length) (d := d) (by simp)
  have hpop : vs.toArray.pop = (vs.take ds.length).toArray := by
    apply Array.toList_inj.mp
    rw [Array.toList_pop, List.dropLast_eq_take, hlen]
    rfl
  refine Copied.pop_at hpl (y := v) ?_ (fun h' hs' hl' => ?_) (by rw [List.size_toArray, hlen]; exact hsz)
  · rw [List.size_toArray, hlen, List.getElem?_toArray]; exact hv
  have keep : ∀ b o, b ≠ a → s.heap.get? b = some o → h'.get? b = some o := fun b o q e => (hs'.2 b q).trans e
  have ka : K a = none := I.off a hat
  have kin' : KIn K h' := fun b o e => keep b o (fun q => by rw [q, ka] at e; cases e) (I.kin _ _ e)
  rw [hpop] at hl'
  have rr := hrep.take ds.length
  rw [List.take_left] at rr
  refine hQ v h' rv keep ⟨_, hl'⟩ ⟨fun _ _ e => e, fun _ _ _ => rfl, fun b o hb e => keep b o (fun q => hb (q ▸ hat)) e, fun b o e => ?_, h', s.toks, rfl⟩ (inv_turn I hx (fun _ _ e => e) kin' (fun _ _ _ => rfl) keep (us := vs.take ds.length) ⟨_, hl'⟩ rr)
  by_cases q : b = a
  · exact ⟨_, q ▸ hl'⟩
  · exact ⟨o, keep b o q e⟩

/-- only the owned list is known in the frame of the comprehension -/
noncomputable def ownS (x : Str) (a : Addr) (ds : List D) : Str → Option D := fun y => if y = x then some (.own a ds) else none
theorem put_ownS (x : Str) (a : Addr) (ds es : List D) : put (ownS x a ds) x (.own a es) = ownS x a es := by
  funext y
  unfold put ownS
  split <;> rfl

/-- the loop of the comprehension that pops -/
theorem compPop {tgt iter : Expr} {x : Str} {ap cp : Pos} {a : Addr} {scope : Scope} {its ds : List D} {cx : Cx} {R : Result → Shared → Prop} {K K1 : Know} {s s1 : Shared} {I Dd : Addr} {fp wr : List Addr} {St : Nat → Heap → Prop} {Mid : Nat → Value → Heap → Prop} {b : Bool}
    (st1 : SStep cx K s K1 s1) (hL : cx.env.locals ∉ fp) (haf : a ∉ fp) (hturns : cx.turns = [cx.env.locals, a]) (hDs : s.heap.get? Dd = none) (hDL : Dd ≠ cx.env.locals) (hDa : Dd ≠ a) (hDf : Dd ∉ fp) (hcells : ∀ x a, cx.env.cells.lookup x = some a → ∃ o, s.heap.get? a = some o)
    (W : Itr P w A b tgt K1 I fp wr its St Mid) (hst : St 0 s1.heap) (hwr : ∀ a ∈ wr, K1 a = none ∧ s.heap.get? a = none) (hD1 : K1 Dd = none)
    (hacc : s1.heap.PlainList Dd #[]) (I1 : Inv h₀ cx (ownS x a ds) K1 s1) (hsz : ds.length ≤ sizeLine) (hn : its.length ≤ ds.length)
    (hasg : ∀ (i : Nat) (d : D) (es : List D), its[i]? = some d → ∃ σ', Asg P w h₀ A cx b (ownS x a es) tgt d σ' ∧ (∀ y e, ownS x a es y = some e → σ' y = some e) ∧ ∀ fs y e, ownS x a fs y = some e → put σ' x (.own a fs) y = some e)
    (hR : ∀ K' s', SStep cx K s K' s' → Inv h₀ cx (ownS x a (ds.take (ds.length - its.length))) K' s' → Rep K' (.ref Dd) (.lst (ds.reverse.take its.length)) → R (.ok .next) s')
    (hk : cx.env.scope.kind = .function) (hd : (x == ("__debug__" : Str)) = false) (hc : (x == ("__classdict__" : Str)) = false)
    (hbase : attributeBase (.Name x p) ("pop" : Str) cx.env (eval (.Name x p) cx.env) = eval (.Name x p) cx.env) (hline : (ap.endLine == cp.line) = true) :
    codeAny (model P w) A (.compLoop (.ListComp (.Call (.Attribute (.Name x p) ("pop" : Str) ap) [] [] cp) [⟨tgt, iter, [], 0⟩] scope pos) 0 (.ref I) (.ref Dd) cx.env) R s1 := by
  have tmem : ∀ b, b ∈ cx.turns ↔ b = cx.env.locals ∨ b = a := fun b => by rw [hturns]; simp
  have tn : ∀ b ∈ cx.turns, b ∉ wr := fun b hb q => by
    rcases (tmem b).mp hb with rfl | rfl
    · exact hL (W.sub _ q)
    · exact haf (W.sub _ q)
  have cn : ∀ x a, cx.env.cells.lookup x = some a → a ∉ wr := fun x a ha q => by obtain ⟨o, e⟩ := hcells x a ha; rw [(hwr a q).2] at e; cases e
  have hDw : Dd ∉ wr := fun q => hDf (W.sub _ q)
  have hDt : Dd ∉ cx.turns := fun q => by
    rcases (tmem _).mp q with q | q
    · exact hDL q
    · exact hDa q
  have fpt : ∀ b ∈ fp, b ∉ cx.turns := fun b hb q => by
    rcases (tmem _).mp q with rfl | rfl
    · exact hL hb
    · exact haf hb
  refine codeAny_loop rfl (fun k s' => ∃ i K' ys, i ≤ its.length ∧ k = its.length - i ∧ SStep cx K s K' s' ∧ KSub K1 K' ∧ Inv h₀ cx (ownS x a (ds.take (ds.length - i))) K' s' ∧ St i s'.heap ∧ (∀ a ∈ wr, K' a = none) ∧ K' Dd = none ∧ s'.heap.PlainList Dd (List.toArray ys) ∧ RepAll K' ys (ds.reverse.take i)) (fun k s' hI => ?_) its.length
    ⟨0, K1, [], Nat.zero_le _, rfl, st1, fun _ _ e => e, by rw [Nat.sub_zero, List.take_length]; exact I1, hst, fun a ha => (hwr a ha).1, hD1, hacc, by simpa using RepAll.nil⟩
  obtain ⟨i, K', ys, hi', rfl, st, hsub, I', hst', hwr', hD', hacc', hrep⟩ := hI
  have hw' : ∀ a ∈ wr, K' a = none ∧ s.heap.get? a = none := fun a ha => ⟨hwr' a ha, (hwr a ha).2⟩
  have kin1 : KIn K1 s'.heap := fun a o e => I'.kin _ _ (hsub _ _ e)
  show wpAny _ A ((compTurn (.ListComp (.Call (.Attribute (.Name x p) ("pop" : Str) ap) [] [] cp) [⟨tgt, iter, [], 0⟩] scope pos) 0 (.ref I) (.ref Dd) cx.env).onRaise (fun x => do noteFrame x cx.env; theTreesLotGoes x)) _ _ s'
  refine wpAny_noted ?_
  rw [compTurn_list]
  refine wpAny_bind (wpAny_standAt (wpAny_bind ?_))
  by_cases hlt : i < its.length
  · have hd' : its[i]? = some its[i] := List.getElem?_eq_getElem hlt
    refine W.item i _ s' _ _ hd' hst' kin1 fun v h2 tk2 hv hmid hk2 => ?_
    obtain ⟨st2, I2⟩ := butWr (tk := tk2) st tn cn I' hw' hk2
    have kin2 : KIn K1 h2 := fun a o e => I2.kin _ _ (hsub _ _ e)
    refine wpAny_bind (W.go i _ v _ _ _ hv hmid kin2 fun h3 hv3 hst3 hk3 => ?_)
    obtain ⟨st3, I3⟩ := butWr (tk := tk2) st2 tn cn I2 hw' hk3
    have acc3 : h3.PlainList Dd ys.toArray := hacc'.at fun o e => hk3 _ _ hDw (hk2 _ _ hDw e)
    obtain ⟨σ', hasg', hσ, hσ2⟩ := hasg i _ (ds.take (ds.length - i)) hd'
    refine wpAny_bind (hasg'.run K' _ v _ _ I3 (hv3.mono hsub) fun s4 st4 I4 => ?_)
    have hst4 : St (i + 1) s4.heap := W.frame _ _ _ hst3 fun a ha o e => st4.keep _ _ (fpt a ha) e
    have acc4 : s4.heap.PlainList Dd ys.toArray := acc3.at fun o e => st4.keep _ _ hDt e
    refine wpAny_bind (wpAny_tests_nil ?_)
    simp only [if_true]
    have hil : i < ds.length := by omega
    have hsplit : ds.take (ds.length - i) = ds.take (ds.length - (i + 1)) ++ [ds[ds.length - (i + 1)]] := by
      have e : ds.length - i = (ds.length - (i + 1)) + 1 := by omega
      rw [e, List.take_add_one, List.getElem?_eq_getElem (by omega)]; rfl
    have hx4 : σ' x = some (.own a (ds.take (ds.length - (i + 1)) ++ [ds[ds.length - (i + 1)]])) := by
      rw [← hsplit]; exact hσ x _ (if_pos rfl)
    have htake : ds.reverse.take (i + 1) = ds.reverse.take i ++ [ds[ds.length - (i + 1)]] := by
      rw [List.take_add_one, List.getElem?_eq_getElem (by rw [List.length_reverse]; exact hil), List.getElem_reverse]
      have e : ds.length - 1 - i = ds.length - (i + 1) := by omega
      simp only [e]; rfl
    have hat : a ∈ cx.turns := (tmem a).mpr (.inr rfl)
    refine wpAny_bind (wpAny_bind (own_pop I4 hx4 (by rw [List.length_take]; omega) (fun y h6 ry keep6 alive6 st6 I6 => ?_) hk hd hc hbase hline))
    have hst6 : St (i + 1) h6 := W.frame _ _ _ hst4 fun b hb o e => keep6 b o (fun q => haf (q ▸ hb)) e
    have acc6 : h6.PlainList Dd ys.toArray := acc4.at fun o e => keep6 _ _ hDa e
    have I6' : Inv h₀ cx (ownS x a (ds.take (ds.length - (i + 1)))) K' { s4 with heap := h6 } := I6.sub (hσ2 _)
    have hlen : ys.length ≤ its.length := by
      have e1 := hrep.length
      rw [List.length_take] at e1
      omega
    refine wpAny_bind (wpAny_list_append_plain (hsz := by rw [List.size_toArray]; omega) acc6 fun h7 hl7 hs7 => ?_)
    obtain ⟨st7, I7⟩ := butWr (wr := [Dd]) (tk := s4.toks) (h' := h7) ((st3.trans st4).trans st6) (fun a ha q => hDt (by rw [List.mem_singleton] at q; rw [← q]; exact ha))
      (fun x a ha q => by obtain ⟨o, e⟩ := hcells x a ha; rw [List.mem_singleton] at q; rw [q, hDs] at e; cases e) I6' (fun a ha => by rw [List.mem_singleton] at ha; subst ha; exact ⟨hD', hDs⟩)
      (fun a o ha e => (hs7.2 a (fun q => ha (by rw [q]; exact List.mem_singleton.mpr rfl))).trans e)
    refine wpAny_pure (wpAny_pure ⟨rfl, its.length - (i + 1), by omega, i + 1, K', ys ++ [y], hlt, rfl, st7, hsub, I7, ?_, hwr', hD', by simpa using hl7, ?_⟩)
    · exact W.frame _ _ _ hst6 fun a ha o e => (hs7.2 a (fun q => hDf (q ▸ ha))).trans e
    · rw [htake]
      exact hrep.snoc ry
  · have hin : i = its.length := by omega
    subst hin
    refine W.done _ _ _ hst' fun h2 tk2 hk2 => ?_
    obtain ⟨st2, I2⟩ := butWr (tk := tk2) st tn cn I' hw' hk2
    obtain ⟨n, acc2⟩ : h2.PlainList Dd ys.toArray := hacc'.at fun o e => hk2 _ _ hDw e
    have hne : ∀ a o, s.heap.get? a = some o → a ≠ Dd := fun a o e q => by rw [q, hDs] at e; cases e
    have hsubp : KSub K' (K'.put Dd (seqObj "list" ys.toArray n)) := Know.put_sub hD'
    refine wpAny_pure (hR (K'.put Dd (seqObj "list" ys.toArray n)) _ ⟨fun a o e => hsubp _ _ (st2.mono _ _ e), fun a o e => (Know.put_ne _ _ (hne a o e)).trans (st2.new a o e), st2.keep, st2.alive, st2.same⟩ (I2.put hD' acc2 hDt) (.lst (Know.put_same _ _ _) (hrep.mono hsubp)))

theorem pop_inv {x : Str} {a : Addr} {ds : List D} {scope : Scope} {cl : List (Str × Addr)} {σc : Str → Option D} {C : Addr} {h' : Heap} {tk : Nat} {m : Str → Option Value} (ok : CompOk c scope cl σ σc) (I : Inv h₀ c σ K s) (hx : σ x = some (.own a ds))
    (hv : c.env.kindOf x = some .cell ∧ (ownScope scope c.env).names.lookup x = some .cell ∧ ∃ a, cl.lookup x = some a) (hC : K C = none) (hn : h'.Ns C m)
    (hk : ∀ a o, s.heap.get? a = some o → h'.get? a = some o) : Inv h₀ ⟨compEnvOf scope c.env cl C, [C, a]⟩ (ownS x a ds) K { s with heap := h', toks := tk } := by
  obtain ⟨hat, hbd, vs, hpl, hrep⟩ := I.own x a ds hx
  have key : ∀ y d, ownS x a ds y = some d → y = x ∧ d = .own a ds := fun y d e => by
    unfold ownS at e
    split at e
    · cases e; exact ⟨‹_›, rfl⟩
    · cases e
  refine ⟨I.base, fun a o e => hk _ _ (I.kin _ _ e), fun b hb => ?_, fun b hb => ?_, ⟨m, hn⟩, List.mem_cons_self, fun x a e => ?_, fun x y a e e' => I.inj x y a (ok.cells x a e) (ok.cells y a e'), fun y d e hp => ?_, fun y b es e => ?_, fun y z b es fs e e' => (key y _ e).1.trans (key z _ e').1.symm⟩
  · simp only [List.mem_cons, List.not_mem_nil, or_false] at hb
    rcases hb with rfl | rfl
    · exact hC
    · exact I.off _ hat
  · simp only [List.mem_cons, List.not_mem_nil, or_false] at hb
    rcases hb with rfl | rfl
    · obtain ⟨o, _, _, ho, _⟩ := hn; exact ⟨o, ho⟩
    · obtain ⟨o, e⟩ := I.has _ hat; exact ⟨o, hk _ _ e⟩
  · obtain ⟨v, o, ho, hd⟩ := I.cell x a (ok.cells x a e); exact ⟨v, o, hk _ _ ho, hd⟩
  · rw [(key y d e).2] at hp; cases hp
  · obtain ⟨rfl, e2⟩ := key y _ e
    cases e2
    refine ⟨by simp, ?_, vs, hpl.at fun o e => hk _ _ e, hrep⟩
    obtain ⟨e2, e3, a', e4⟩ := hv
    rcases hbd with ⟨b1, _⟩ | ⟨_, a'', o, b2, b3, b4⟩
    · rw [e2] at b1; cases b1
    · have : a'' = a' := by have := ok.cells y a' e4; rw [b2] at this; exact Option.some.inj this
      subst this
      exact .inr ⟨.inl e3, a'', o, e4, hk _ _ b3, b4⟩

theorem pop_start {x kn : Str} {pk : Pos} {iter : Expr} {ap cp : Pos} {a : Addr} {scope : Scope} {its ds : List D} {cl : List (Str × Addr)} {σc : Str → Option D} {K K1 : Know} {s s1 : Shared} {it : Value} {E : Value → Shared → Prop}
    {R : Value → Env → Result → Shared → Prop} (ok : CompOk c scope cl σ σc) (I : Inv h₀ c σ K s) (hx : σ x = some (.own a ds)) (hv : c.env.kindOf x = some .cell ∧ (ownScope scope c.env).names.lookup x = some .cell ∧ ∃ a, cl.lookup x = some a)
    (hkn : (kn = x) = False) (hst' : (ownScope scope c.env).names.lookup kn = some .local) (st1 : Step K s K1 s1) (hit : IterAt P w A true (.Name kn pk) s K1 s1 it its) (hsz : ds.length ≤ sizeLine) (hn : its.length ≤ ds.length)
    (hR : ∀ Dd C K' s', KSub K K' → KIn K' s'.heap → (∀ b o, s.heap.get? b = some o → K' b = K b) → (∀ b o, b ≠ a → s.heap.get? b = some o → s'.heap.get? b = some o) → (∃ us : List Value, s'.heap.PlainList a us.toArray ∧ RepAll K' us (ds.take (ds.length - its.length))) → (∃ h t, s' = { s with heap := h, toks := t }) →
      Rep K' (.ref Dd) (.lst (ds.reverse.take its.length)) → s.heap.get? C = none → K' C = none → (∃ m, s'.heap.Ns C m) → R (.ref Dd) (compEnvOf scope c.env cl C) (.ok .next) s')
    (hd : (x == ("__debug__" : Str)) = false) (hc : (x == ("__classdict__" : Str)) = false)
    (hbase : ∀ C, attributeBase (.Name x p) ("pop" : Str) (compEnvOf scope c.env cl C) (eval (.Name x p) (compEnvOf scope c.env cl C)) = eval (.Name x p) (compEnvOf scope c.env cl C)) (hline : (ap.endLine == cp.line) = true) :
    wpAny (model P w) A (newList []) (fun acc s₃ => wpAny (model P w) A (newFunctionEnv scope c.env.globals cl [] c.env.qual none .none (some c.env)) (fun cenv s₄ =>
      codeAny (model P w) A (.compStart (.ListComp (.Call (.Attribute (.Name x p) ("pop" : Str) ap) [] [] cp) [⟨.Name kn pk, iter, [], 0⟩] scope pos) 0 it acc { cenv with scope := ownScope scope c.env }) (R acc { cenv with scope := ownScope scope c.env }) s₄) E s₃) E s1 := by
  obtain ⟨Ia, fp, wr, St, Mid, rfl, W, hst, hfk, hwr⟩ := hit.ex
  have hat : a ∈ c.turns := (I.own x a ds hx).1
  refine wpAny_newObj_type (wpAny_newFunctionEnv ok.cell (by intro y hy; simp at hy) (fun h₁ hns₁ hsb₁ => ?_) ok.kind)
  dsimp only at hns₁ hsb₁ ⊢
  generalize hH2 : s1.heap.push { cls := .type "list", dict := none, data := .seq ([] : List Value).toArray } = H2 at hns₁ hsb₁ ⊢
  have hCs : H2.objs.size = s1.heap.objs.size + 1 := by rw [← hH2, Heap.size_push]
  have hDC : s1.heap.objs.size ≠ H2.objs.size := by rw [hCs]; exact Nat.ne_of_lt (Nat.lt_succ_self _)
  have hD : s1.heap.get? s1.heap.objs.size = none := none_of_size (Nat.le_refl _)
  have hC : s1.heap.get? H2.objs.size = none := none_of_size (by rw [hCs]; exact Nat.le_succ _)
  have ne : ∀ a o, s1.heap.get? a = some o → a ≠ H2.objs.size ∧ a ≠ s1.heap.objs.size := fun a o e => ⟨fun q => (by rw [q, hC] at e; cases e), fun q => (by rw [q, hD] at e; cases e)⟩
  have old : ∀ a o, s1.heap.get? a = some o → h₁.get? a = some o := fun a o e => hsb₁.extBut a o (ne a o e).1 (Heap.get?_push_of_some _ (hH2 ▸ Heap.get?_push_of_some _ e))
  have hacc : h₁.PlainList s1.heap.objs.size #[] := ⟨_, hsb₁.extBut _ _ hDC (Heap.get?_push_of_some _ (hH2 ▸ Heap.get?_push_size _ rfl))⟩
  have I1 : Inv h₀ c σ K1 s1 := I.step st1
  have kn' : ∀ a, s1.heap.get? a = none → K1 a = none := fun a e => by
    cases q : K1 a with
    | none => rfl
    | some o => rw [st1.kin _ _ q] at e; cases e
  have sn : ∀ a, s1.heap.get? a = none → s.heap.get? a = none := fun a e => by
    cases q : s.heap.get? a with
    | none => rfl
    | some o => rw [st1.keep _ _ q] at e; cases e
  have hta : ∃ o, s1.heap.get? a = some o := I1.has a hat
  obtain ⟨oa, hoa⟩ := hta
  have Ic : Inv h₀ ⟨compEnvOf scope c.env cl H2.objs.size, [H2.objs.size, a]⟩ (ownS x a ds) K1 { s1 with heap := h₁, toks := s1.toks + ([] : List (Str × Value)).length } := pop_inv ok I1 hx hv (kn' _ hC) hns₁ old
  have stS : SStep ⟨compEnvOf scope c.env cl H2.objs.size, [H2.objs.size, a]⟩ K s K1 { s1 with heap := h₁, toks := s1.toks + ([] : List (Str × Value)).length } :=
    (SStep.of st1).trans (SStep.of (Step.grow I1.kin old))
  have fpne : ∀ a ∈ fp, a ≠ H2.objs.size ∧ a ≠ s1.heap.objs.size := fun a ha => by obtain ⟨o, e⟩ := W.alive _ _ hst a ha; exact ne a o e
  have haf : a ∉ fp := fun q => by
    rcases hfk a q with h | ⟨o', h⟩
    · obtain ⟨o'', e''⟩ := I.has a hat; rw [(hwr a h).2] at e''; cases e''
    · rw [I1.off a hat] at h; cases h
  have hst₁ : St 0 h₁ := W.frame _ _ _ hst fun a _ o e => old a o e
  have hkind : (compEnvOf scope c.env cl H2.objs.size).scope.kind = .function := ok.kind
  have loop : codeAny (model P w) A (.compLoop (.ListComp (.Call (.Attribute (.Name x p) ("pop" : Str) ap) [] [] cp) [⟨.Name kn pk, iter, [], 0⟩] scope pos) 0 (.ref Ia) (.ref s1.heap.objs.size) (compEnvOf scope c.env cl H2.objs.size))
      (R (.ref s1.heap.objs.size) (compEnvOf scope c.env cl H2.objs.size)) { s1 with heap := h₁, toks := s1.toks + ([] : List (Str × Value)).length } :=
    compPop (cx := ⟨compEnvOf scope c.env cl H2.objs.size, [H2.objs.size, a]⟩) (ds := ds) stS (fun q => (fpne _ q).1 rfl) haf rfl (sn _ hD) hDC (fun q => (ne a oa hoa).2 q.symm) (fun q => (fpne _ q).2 rfl) (fun x a e => by obtain ⟨v, o, e', _⟩ := I.cell x a (ok.cells x a e); exact ⟨o, e'⟩)
      W hst₁ hwr (kn' _ hD) hacc Ic hsz hn
      (fun i d es hd => ⟨put (ownS x a es) kn d, asg_name (.inl ⟨hst', by show (scope.kind == .class || (scope.kind == .module && _)) = false; rw [ok.kind]; rfl⟩), (fun y e he => by
          unfold ownS at he
          split at he
          · rename_i q
            unfold put ownS; rw [if_neg (fun q' => of_eq_false hkn (q'.symm.trans q)), if_pos q]; exact he
          · cases he), (fun fs y e he => by
          unfold ownS at he
          split at he
          · rename_i q
            unfold put; rw [if_pos q]; exact he
          · cases he)⟩)
      (fun K' s' st' I' r' => by
        refine hR _ _ K' s' st'.mono I'.kin st'.new (fun b o hb e => st'.keep b o (fun q => ?_) e) ?_ st'.same r' (sn _ hC) (I'.off _ List.mem_cons_self) I'.ns
        · simp only [List.mem_cons, List.not_mem_nil, or_false] at q
          rcases q with rfl | rfl
          · rw [sn _ hC] at e; cases e
          · exact hb rfl
        · obtain ⟨_, _, us, h1, h2⟩ := I'.own x a _ (if_pos rfl)
          exact ⟨us, h1, h2⟩)
      hkind hd hc (hbase _) hline
  exact codeAny_compStart_list loop (W.self 0 _ _ _ hst₁ loop)

/-- x = [y.pop() for k in ...] -/
theorem x_popcomp {x y kn : Str} {px pk : Pos} {iter : Expr} {ap cp : Pos} {a : Addr} {scope : Scope} {its ds : List D} (cl : List (Str × Addr)) (ok : CompOk c scope cl σ (only σ [])) (hy : σ y = some (.own a ds))
    (hi : EvI P w h₀ A c σ true (.Name kn pk) iter its) (hsz : ds.length ≤ sizeLine) (hn : its.length ≤ ds.length)
    (hΦ : Φ (.next (put (put σ y (.own a (ds.take (ds.length - its.length)))) x (.lst (ds.reverse.take its.length)))))
    (hv : c.env.kindOf y = some .cell ∧ (ownScope scope c.env).names.lookup y = some .cell ∧ ∃ a, cl.lookup y = some a := by exact ⟨rfl, rfl, _, rfl⟩) (hkn : (kn = y) = False := by decide) (hkl : (ownScope scope c.env).names.lookup kn = some .local := by rfl)
    (hx : Stores c x := by first | exact .inl ⟨rfl, rfl⟩ | exact .inr ⟨rfl, rfl, _, rfl, by simp⟩)
    (hd : (y == ("__debug__" : Str)) = false := by decide) (hc : (y == ("__classdict__" : Str)) = false := by decide)
    (hbase : ∀ C, attributeBase (.Name y p) ("pop" : Str) (compEnvOf scope c.env cl C) (eval (.Name y p) (compEnvOf scope c.env cl C)) = eval (.Name y p) (compEnvOf scope c.env cl C) := by intro _; rfl) (hline : (ap.endLine == cp.line) = true := by rfl) {pc : Pos}
    (hsw : swapsWith (.ListComp (.Call (.Attribute (.Name y p) ("pop" : Str) ap) [] [] cp) [⟨.Name kn pk, iter, [], 0⟩] scope pc) (some (.Name x px)) pos.line c.env = pure true := by rfl) (hf : ∀ x, foldedSetIterable iter c.env x = pure x := by intro _; rfl) :
    X1 P w h₀ A c σ (.Assign [.Name x px] (.ListComp (.Call (.Attribute (.Name y p) ("pop" : Str) ap) [] [] cp) [⟨.Name kn pk, iter, [], 0⟩] scope pc) pos) Φ := .mk fun K s Q E I hq => by
  rw [exec_Assign_Name_used _ _ _ _ hsw]
  refine wpAny_bind (wpAny_standAt (wpAny_bind ?_))
  show wpAny _ A (do let _ ← comprehension (.ListComp (.Call (.Attribute (.Name y p) ("pop" : Str) ap) [] [] cp) [⟨.Name kn pk, iter, [], 0⟩] scope pc) scope c.env _ (newList []) false (eval iter c.env) (some (assign (.Name x px) c.env))) _ _ s
  refine wpAny_bind (wpAny_mono (comp_some (M := model P w) (A := A) (E := E) (Q := fun _ s' => Q .next s') rfl hf ok.clo ok.kind ok.names ?_) (fun _ s' hq => wpAny_pure (wpAny_pure hq)) fun _ _ e => e)
  refine hi.run K s _ E I fun it K1 s1 st1 hit => ?_
  refine pop_start (R := fun acc cenv r s' => match r with
    | .ok _ => wpAny (model P w) A (assign (.Name x px) c.env acc) (fun _ s'' => ∃ m, s''.heap.Ns cenv.locals m ∧ ∀ h', Heap.SameBut cenv.locals s''.heap h' → Q .next { s'' with heap := h' }) E s'
    | .error _ => False) ok I hy hv hkn hkl st1 hit hsz hn ?_ hd hc hbase hline
  intro Dd C K' s' mono kin new keep ⟨us, pl, rep⟩ same r hC hKC hn'
  obtain ⟨m, hn'⟩ := hn'
  have hat : a ∈ c.turns := (I.own y a ds hy).1
  have I' : Inv h₀ c (put σ y (.own a (ds.take (ds.length - its.length)))) K' s' := inv_turn I hy mono kin new keep pl rep
  have st' : SStep c K s K' s' := ⟨mono, new, fun b o hb e => keep b o (fun q => hb (q ▸ hat)) e, fun b o e => by
    by_cases q : b = a
    · obtain ⟨k, e'⟩ := pl; exact ⟨_, q ▸ e'⟩
    · exact ⟨o, keep b o q e⟩, same⟩
  have tn : C ∉ c.turns := fun q => by obtain ⟨o, e⟩ := I.has _ q; rw [hC] at e; cases e
  refine wpAny_assign_Name (store I' r hx fun s2 st2 I2 => ?_)
  refine ⟨m, hn'.at' fun o e => st2.keep _ _ tn e, fun h' hs => ?_⟩
  obtain ⟨st3, I3⟩ := butWr (wr := [C]) (tk := s2.toks) (h' := h') (st'.trans st2) (fun a ha q => tn (by rw [List.mem_singleton] at q; rw [← q]; exact ha))
    (fun y a ha q => by obtain ⟨v, o, e, _⟩ := I.cell y a ha; rw [List.mem_singleton] at q; rw [q, hC] at e; cases e) I2 (fun a ha => by rw [List.mem_singleton] at ha; subst ha; exact ⟨hKC, hC⟩)
    (fun a o ha e => (hs.2 a (fun q => ha (by rw [q]; exact List.mem_singleton.mpr rfl))).trans e)
  exact hq _ _ _ _ st3 hΦ ⟨rfl, I3⟩
end

theorem slot_bytes_join : Slot "bytes" "join" "bytes.join" :=
  .of (owner := "bytes") (n := "join") (by rw [typeLookup_type, builtinLookup_eq_fast]; kernel_rfl) (by decide +kernel) (by decide +kernel) (by decide +kernel)
    (by first | exact .inl (by decide +kernel) | exact .inr (by decide +kernel)) (by rw [isSubtype_type]; kernel_rfl)
theorem type_bytes_join : typeOf (.builtin "bytes.join") = pure (.type "method_descriptor") := by show builtinType _ = _; rw [builtinType_eq_fast]; kernel_rfl
theorem entry_bytes_join : entryFor table "bytes.join" = some Builtin.«bytes.join» := entryFor_of_tree (by kernel_rfl)
theorem args_bytes_join (a b : Value) : argsOk "bytes.join" ⟨[a, b], []⟩ := by
  unfold argsOk; rw [signature?_of (id := "bytes.join") (n := ['n', 'i', 'o', 'j']) (o := ['s', 'e', 't', 'y', 'b']) (by kernel_rfl) FB.owner_bytes]; kernel_rfl
section
variable {P : Program} {w : World} {h₀ : Heap} {A : Around} {c : Cx} {σ : Str → Option D} {Φ : Out → Prop} {pos p : Pos} {K : Know} {s : Shared}
theorem take_eq {id : String} {b : Array UInt8} {t : Tok} : Builtin.Bytes.takeBufferQuiet? id (.bytes b t) 0 = (do
    match ← (Builtin.Bytes.takeBuffer? id (.bytes b t) 0).attempt with
    | .ok r => pure r
    | .error _ => rule "memoryview.buffer.refusal-replaced"; pure none) := rfl
theorem take_wp {id : String} {b : Array UInt8} {t : Tok} {Q : Option (Array UInt8 × Option Value) → Shared → Prop} {E : Value → Shared → Prop} (h : Q (some (b, none)) s) : wpAny (model P w) A (Builtin.Bytes.takeBufferQuiet? id (.bytes b t) 0) Q E s := by
  have e : Builtin.Bytes.takeBuffer? id (.bytes b t) 0 = pure (some (b, none)) := by
    unfold Builtin.Bytes.takeBuffer?
    have e2 : ((0 : Int) == Builtin.Bytes.fullReadOnly) = false := by decide +kernel
    rw [KBy.special_eq KBy.look_buffer, KBy.own_buffer, e2, KBy.buffer_eq]
    kernel_rfl
  rw [take_eq, e]
  exact wpAny_bind (wpAny_attempt (wpAny_pure (wpAny_pure h)))
theorem forIn_fix {M : Model} {E : Value → Shared → Prop} {α β : Type} {f : α → β → Sem (ForInStep β)} {Q : β → Shared → Prop} :
    ∀ (l : List α) (J : Nat → β → Prop) (b : β), J 0 b → (∀ i x b, l[i]? = some x → J i b → ∀ (C : ForInStep β → Shared → Prop), (∀ b', J (i + 1) b' → C (.yield b') s) → wpAny M A (f x b) C E s) → (∀ b, J l.length b → Q b s) → wpAny M A (forIn l b f) Q E s
  | [], J, b, h0, step, hQ => wpAny_pure (hQ b h0)
  | x :: l, J, b, h0, step, hQ => by
    rw [List.forIn_cons]
    refine wpAny_bind (step 0 x b rfl h0 _ fun b' hJ => ?_)
    exact forIn_fix l (fun i => J (i + 1)) b' hJ (fun i y b'' hy hj C hC => step (i + 1) y b'' hy hj C hC) hQ
theorem letGo_none {M : Model} {E : Value → Shared → Prop} {Q : Unit → Shared → Prop} (hQ : Q () s) : ∀ (l : List (Value × Option Value)) (keep : List Value), (∀ x ∈ l, x.2 = none) → wpAny M A (Builtin.Bytes.joinLetGo l keep) Q E s
  | [], keep, _ => wpAny_pure hQ
  | (x, w) :: rest, keep, h => by
    have hw := h _ (.head _)
    cases hw
    unfold Builtin.Bytes.joinLetGo
    dsimp only
    exact wpAny_bind (wpAny_letGo (letGo_none hQ rest keep fun y hy => h y (.tail _ hy)))
theorem joined_nil (bs : List (Array UInt8)) : Builtin.Bytes.joined #[] bs = (bs.map Array.toList).flatten.toArray := by
  unfold Builtin.Bytes.joined
  have key : ∀ (l : List (Array UInt8)) (n : Nat) (out : Array UInt8), (l.zipIdx n).foldl (fun out (p, i) => (if i > 0 then out ++ #[] else out) ++ p) out = out ++ (l.map Array.toList).flatten.toArray := by
    intro l
    induction l with
    | nil => intro n out; simp
    | cons b l ih =>
      intro n out
      rw [List.zipIdx_cons, List.foldl_cons, ih]
      apply Array.toList_inj.mp
      by_cases h : n > 0 <;> simp [h]
  rw [key]
  simp
theorem bytes_at {vs : List Value} {bs : List (Array UInt8)} (r : RepAll K vs (bs.map .bytes)) {i : Nat} {b : Array UInt8} (h : bs[i]? = some b) : ∃ t, vs.getD i .none = .bytes b t ∧ i < vs.length := by
  obtain ⟨v, hv, rv⟩ := r.get? (k := i) (d := .bytes b) (by rw [List.getElem?_map, h]; rfl)
  obtain ⟨t, rfl⟩ := rv.inv
  exact ⟨t, by rw [List.getD_eq_getElem?_getD, hv]; rfl, (List.getElem?_eq_some_iff.mp hv).1⟩
theorem seqItems_at {a : Addr} {xs : Array Value} {n : Nat} {E : Value → Shared → Prop} {Q : Option (Array Value) → Shared → Prop} (ho : s.heap.get? a = some (seqObj "list" xs n)) (h : Q (some xs) s) : wpAny (model P w) A (seqItems? (.ref a)) Q E s := by
  unfold seqItems?
  exact wpAny_bind (wpAny_load ho (wpAny_pure h))
theorem join_wp {a : Addr} {vs : List Value} {n : Nat} {bs : List (Array UInt8)} {t : Tok} {E : Value → Shared → Prop} {F : PySem.Fin → Shared → Prop} (ho : s.heap.get? a = some (seqObj "list" vs.toArray n)) (r : RepAll K vs (bs.map .bytes))
    (h2 : bs.length ≠ 1) (hsz : (bs.map Array.size).sum ≤ 16777216) (h : ∀ t' k, F (.done (.ret (.bytes (bs.map Array.toList).flatten.toArray t'))) { s with toks := k }) :
    wpAny (model P w) A (Builtin.«bytes.join» ⟨[.bytes #[] t, .ref a], []⟩) F E s := by
  show wpAny _ _ (Builtin.Bytes.joinM .bytes _) F E s
  unfold Builtin.Bytes.joinM
  refine wpAny_bind (m := selfAndOne _ _) (wpAny_pure ?_)
  dsimp only
  refine wpAny_bind (m := Builtin.Bytes.joinItems _) ?_
  unfold Builtin.Bytes.joinItems
  refine wpAny_bind (wpAny_typeOf (T := "list") ⟨_, ho, rfl⟩ ?_)
  rw [if_pos (by simp)]
  refine wpAny_pure ?_
  refine wpAny_bind (seqItems_at ho ?_)
  dsimp only
  have hlen : vs.length = bs.length := r.length.trans (by simp)
  rw [if_pos (show (Builtin.Bytes.Kind.bytes == Builtin.Bytes.Kind.bytes) = true from rfl)]
  have go : ∀ (m1 : Value → Sem PySem.Fin) (m2 : Sem PySem.Fin), wpAny (model P w) A m2 F E s → wpAny (model P w) A (match vs.toArray with | #[x] => m1 x | _ => m2) F E s := fun m1 m2 h => by
    match vs, hlen with
    | [], _ => exact h
    | [x], hl => exact absurd hl.symm h2
    | x :: y :: l, _ => exact h
  refine go _ _ ?_
  · rw [Std.Legacy.Range.forIn_eq_forIn_range']
    refine wpAny_bind (forIn_fix _ (fun i st => st.1.toList = bs.take i ∧ ∀ x ∈ st.2, x.2 = none ∧ x.1.onHeap = false) _ ⟨by simp, by simp⟩ (fun i x st hx hJ C hC => ?_) (fun st hJ => ?_))
    · have hx' : x = i ∧ i < bs.length := by
        have hsz : ([:vs.toArray.size] : Std.Legacy.Range).size = vs.length := by simp [Std.Legacy.Range.size]
        change (List.range' 0 ([:vs.toArray.size] : Std.Legacy.Range).size 1)[i]? = some x at hx
        rw [hsz] at hx
        obtain ⟨h1, h2⟩ := List.getElem?_eq_some_iff.mp hx
        rw [List.length_range'] at h1
        rw [List.getElem_range'] at h2
        omega
      obtain ⟨rfl, hib⟩ := hx'
      obtain ⟨u, hu, hlt⟩ := bytes_at r (List.getElem?_eq_getElem hib)
      have hget : vs.toArray.getD x Value.none = .bytes bs[x] u := by rw [← hu]; simp [Array.getD, hlt]
      refine wpAny_bind (seqItems_at ho ?_)
      dsimp only
      have hany : (st.2.any fun x => x.1.onHeap) = false := by
        rw [List.any_eq_false]
        intro y hy
        rw [(hJ.2 y hy).2]; decide
      rw [if_neg (by rw [hany]; decide)]
      refine wpAny_bind (wpAny_holding ?_)
      rw [hget]
      refine take_wp ?_
      dsimp only
      refine wpAny_bind (seqItems_at ho ?_)
      dsimp only
      rw [if_neg (by simp)]
      refine wpAny_pure (hC _ ⟨?_, ?_⟩)
      · rw [Array.toList_push, hJ.1, List.take_add_one, List.getElem?_eq_getElem hib]; rfl
      · intro y hy
        rcases List.mem_append.mp hy with hy | hy
        · exact hJ.2 y hy
        · rw [List.mem_singleton.mp hy]; exact ⟨rfl, rfl⟩
    · have hst : st.1 = bs.toArray := by
        apply Array.toList_inj.mp
        rw [hJ.1, List.toList_toArray]
        have hsz : (List.range' ([:vs.toArray.size] : Std.Legacy.Range).start ([:vs.toArray.size] : Std.Legacy.Range).size ([:vs.toArray.size] : Std.Legacy.Range).step).length = vs.length := by simp [Std.Legacy.Range.size]
        rw [hsz, hlen, List.take_length]
      rw [hst]
      refine wpAny_bind (m := Builtin.Bytes.payload _) (wpAny_pure ?_)
      have hfold : Builtin.Bytes.tooLong (Array.foldl (fun x1 x2 => x1 + x2.size) ((#[] : Array UInt8).size * (bs.toArray.size - 1)) bs.toArray) = false := by
        refine KBy.tooLong_not ?_
        have key : ∀ (l : List (Array UInt8)) (n : Nat), l.foldl (fun x1 x2 => x1 + x2.size) n = n + (l.map Array.size).sum := by
          intro l
          induction l with
          | nil => intro n; simp
          | cons b l ih => intro n; rw [List.foldl_cons, ih, List.map_cons, List.sum_cons]; omega
        have e : Array.foldl (fun (x1 : Nat) (x2 : Array UInt8) => x1 + x2.size) ((#[] : Array UInt8).size * (bs.toArray.size - 1)) bs.toArray = (bs.map Array.size).sum := by
          rw [List.foldl_toArray, key]; simp
        rw [e]; exact hsz
      rw [if_neg (by rw [hfold]; decide)]
      refine wpAny_bind (m := mkBytes _) (wpAny_mkBytes (hb := by rw [List.toList_toArray, joined_nil, List.size_toArray, List.length_flatten, List.map_map]; exact hsz) ?_)
      refine wpAny_bind (wpAny_holding (wpAny_point ?_))
      refine wpAny_bind (letGo_none ?_ _ _ fun x hx => (hJ.2 x hx).1)
      rw [List.toList_toArray, joined_nil]
      exact wpAny_pure (h _ _)
theorem bytes_map (bs : List (Array UInt8)) : (bs.map D.bytes).length = bs.length := List.length_map ..
/-- b''.join(words) -/
theorem ev_bjoin {o e : Expr} {apos : Pos} {bs : List (Array UInt8)} (ho : Ev P w h₀ A c σ o (.bytes #[])) (h : Ev P w h₀ A c σ e (.lst (bs.map .bytes))) (h2 : bs.length ≠ 1) (hsz : (bs.map Array.size).sum ≤ 16777216)
    (hbase : attributeBase o ("join" : Str) c.env (eval o c.env) = eval o c.env := by rfl) (hline : (apos.endLine == pos.line) = true := by rfl) (hs : starEach [e] c.env = [(false, eval e c.env)] := by rfl) :
    Ev P w h₀ A c σ (.Call (.Attribute o ("join" : Str) apos) [e] [] pos) (.bytes (bs.map Array.toList).flatten.toArray) := .mk fun K s Q E I hq =>
  Call_method1 hbase hs hline (ho.run K s _ E I fun v K1 s1 st1 r1 => by
    cases r1 with
    | bytes _ t =>
    refine ⟨"bytes", "bytes.join", FB.plainAttrs_bytes, slot_bytes_join, type_bytes_join, typeIs_bytes _ _ _, (fun _ e => nomatch e), ?_⟩
    refine Calls.callWith_builtin rfl (Calls.evalArgs_plain (Calls.spliced_cons (h.run K1 s1 _ E (I.step st1) fun u K2 s2 st2 r2 => Calls.spliced_nil ?_)))
    obtain ⟨a, vs, n, rfl, e2, r2⟩ := r2.inv
    exact wpAny_call_entry slot_bytes_join (typeIs_bytes _ _ _) entry_bytes_join (join_wp (st2.kin _ _ e2) r2 h2 hsz fun t' k => ⟨_, rfl, hq _ K2 _ ((st1.trans st2).trans (Step.toks st2.kin _)) (.bytes _ _)⟩) (args_bytes_join _ _))
end

noncomputable def stackStep (q : Quad) (p : List Nat) : Option (List Nat) := if p.length < q.parts then none else some ((if q.deed = 14 then q.num else opVal q.deed q.num (p.take q.parts)) :: p.drop q.parts)
noncomputable def readR : List Quad → Option (List Nat)
  | [] => some []
  | q :: tl => (readR tl).bind (stackStep q)
noncomputable def wordD (n : Nat) : D := .bytes (apL n).toArray
noncomputable def telD (q : Quad) : D := .tup [.int q.parts, .int q.deed, wordD q.num]
noncomputable def natsD (l : List Nat) : D := .lst (intsD (l.map fun (n : Nat) => (n : Int)))
noncomputable def readD (row : List Quad) : D := match readR row with | none => .none | some p => natsD p
structure ReadOk (row : List Quad) : Prop where
  kind : ∀ q ∈ row, (q.deed = 14 ∧ q.parts = 0) ∨ (q.deed = 12 ∧ q.parts = 1) ∨ (q.deed = 13 ∧ q.parts = 1) ∨ (q.deed ≠ 12 ∧ q.deed ≠ 13 ∧ q.deed ≠ 14 ∧ 2 ≤ q.parts ∧ q.parts ≤ 3)
  fit : ∀ q ∈ row, q.num < 2 ^ 4000
  fits : ∀ j p, readR (row.drop j) = some p → ∀ v ∈ p, v < 2 ^ 4000
  short : row.length ≤ 63

theorem readR_drop : ∀ (l : List Quad) (j : Nat), readR (l.drop j) = none → readR l = none
  | l, 0, h => h
  | [], j + 1, h => h
  | q :: l, j + 1, h => by
    rw [readR, readR_drop l j h]; rfl
theorem readR_len : ∀ (l : List Quad) (p : List Nat), readR l = some p → p.length ≤ l.length
  | [], p, h => by cases h; exact Nat.le_refl _
  | q :: l, p, h => by
    rw [readR] at h
    cases e : readR l with
    | none => rw [e] at h; cases h
    | some p' =>
      rw [e] at h
      have ih := readR_len l p' e
      have h' : stackStep q p' = some p := h
      unfold stackStep at h'
      split at h'
      · cases h'
      · cases h'
        simp only [List.length_cons, List.length_drop]
        omega
theorem len4000 {n : Nat} (h : n < 2 ^ 4000) : (apL n).length ≤ 1000 := apL_len 1000 n (by
  have e : (16 : Nat) = 2 ^ 4 := rfl
  rw [e, ← Nat.pow_mul]; exact h)
theorem digit (m : Nat) : ((UInt8.ofNat (65 + m % 16)).toNat : Int) - 65 = ((m % 16 : Nat) : Int) := by rw [letter]; omega
theorem sum16_from (l : List Int) (a : Int) : l.foldl (fun a b => a * 16 + b) a = a * 16 ^ l.length + sum16 l := by
  induction l generalizing a with
  | nil => simp [sum16]
  | cons x l ih =>
    unfold sum16
    rw [List.foldl_cons, List.foldl_cons, ih, ih (0 * 16 + x), List.length_cons, Int.pow_succ]
    have e : (0 : Int) * 16 + x = x := by omega
    rw [e, Int.add_mul, Int.mul_assoc a, Int.mul_comm (16 : Int)]
    omega
/-- the digits turned round -/
theorem sum_turned : ∀ (r n : Nat), ((apL r).reverse.map fun x => (x.toNat : Int) - 65).foldl (fun a b => a * 16 + b) (n : Int) = (turned n r : Nat) := by
  intro r
  induction r using Nat.strongRecOn with
  | _ r ih =>
    intro n
    by_cases h : r = 0
    · subst h; rw [apL_zero, turned, dif_pos rfl]; rfl
    · rw [apL_pos h, List.reverse_append, List.reverse_singleton, List.singleton_append, List.map_cons, List.foldl_cons, digit, turned, dif_neg h, ← ih (r / 16) (Nat.div_lt_self (Nat.pos_of_ne_zero h) (by decide)) (n * 16 + r % 16)]
      congr 1
/-- sixteen to the number of digits -/
theorem powAbove_step : ∀ (f s v : Nat), v + 1 - s ≤ f → 0 < s → powAbove (s * 16) v = powAbove s (v / 16) * 16
  | 0, s, v, hf, hs => by
    rw [powAbove, dif_neg (by omega), powAbove, dif_neg (by omega)]
  | f + 1, s, v, hf, hs => by
    rw [powAbove]
    by_cases h : s * 16 ≤ v ∧ 0 < s * 16
    · rw [dif_pos h, powAbove_step f (s * 16) v (by omega) (by omega)]
      rw [powAbove.eq_def s, dif_pos ⟨by omega, hs⟩]
    · rw [dif_neg h, powAbove, dif_neg (by omega)]
theorem powAbove_len : ∀ v : Nat, powAbove 1 v = 16 ^ (apL v).length := by
  intro v
  induction v using Nat.strongRecOn with
  | _ v ih =>
    by_cases h : v = 0
    · subst h; rw [apL_zero, powAbove, dif_neg (by omega)]; rfl
    · rw [apL_pos h, List.length_append, List.length_singleton, Nat.pow_succ, ← ih (v / 16) (Nat.div_lt_self (Nat.pos_of_ne_zero h) (by decide)), ← powAbove_step (v + 1) 1 v (by omega) (by decide)]
      rw [powAbove.eq_def 1, dif_pos ⟨by omega, by decide⟩]
theorem sum_joined : ∀ (vs : List Nat) (n : Nat), (((vs.map apL).flatten).map fun x => (x.toNat : Int) - 65).foldl (fun a b => a * 16 + b) (n : Int) = (joined n vs : Nat)
  | [], n => rfl
  | v :: vs, n => by
    rw [List.map_cons, List.flatten_cons, List.map_append, List.foldl_append, sum16_from ((apL v).map fun x => (x.toNat : Int) - 65), List.length_map, apL_sum]
    have e : (n : Int) * 16 ^ (apL v).length + (v : Int) = ((n * powAbove 1 v + v : Nat) : Int) := by
      rw [powAbove_len, Int.natCast_add, Int.natCast_mul, Int.natCast_pow]; rfl
    rw [e, sum_joined vs]
    rfl

theorem ownOnly_put {σ : Str → Option D} {a : Addr} {x : Str} {d : D} (h : OwnOnly σ a) (hd : ∀ b es, d = .own b es → b = a) : OwnOnly (put σ x d) a := fun y b es e => by
  unfold put at e
  by_cases q : y = x
  · rw [if_pos q] at e; exact hd b es (Option.some.inj e)
  · rw [if_neg q] at e; exact h y b es e
theorem words_rev (p : List Nat) (k : Nat) : (p.reverse.map wordD).reverse.take k = (p.take k).map wordD := by
  rw [← List.map_reverse, List.reverse_reverse, List.map_take]
theorem words_left (p : List Nat) (k : Nat) : (p.reverse.map wordD).take ((p.reverse.map wordD).length - k) = (p.drop k).reverse.map wordD := by
  rw [List.length_map, List.length_reverse, ← List.map_take, List.take_reverse]
  congr 2
  by_cases h : k ≤ p.length
  · congr 1; omega
  · rw [List.drop_of_length_le (by omega), List.drop_of_length_le (by omega)]
theorem sum_len : ∀ (l : List Nat), (∀ v ∈ l, (apL v).length ≤ 1000) → ((l.map fun v => (apL v).toArray).map Array.size).sum ≤ l.length * 1000
  | [], _ => by simp
  | v :: l, h => by
    have ih := sum_len l fun x hx => h x (List.mem_cons_of_mem _ hx)
    have h1 := h v List.mem_cons_self
    simp only [List.map_cons, List.sum_cons, List.length_cons, List.size_toArray]
    omega
theorem flat_len : ∀ (l : List Nat), (∀ v ∈ l, (apL v).length ≤ 1000) → (l.map apL).flatten.length ≤ l.length * 1000
  | [], _ => by simp
  | v :: l, h => by
    have ih := flat_len l fun x hx => h x (List.mem_cons_of_mem _ hx)
    have h1 := h v List.mem_cons_self
    simp only [List.map_cons, List.flatten_cons, List.length_append, List.length_cons]
    omega
section
variable {P : Program} {w : World} {h₀ : Heap} {mg mb : Str → Option Value} {A : Around} {c : Cx} {σ : Str → Option D} {Φ : Out → Prop} {pos p : Pos}
noncomputable def readOne : D → Option D
  | .bytes b => some (.int (sum16 (b.toList.map fun x => (x.toNat : Int) - 65)))
  | d => some d
theorem readOne_word (n : Nat) : readOne (wordD n) = some (.int n) := by
  show some (D.int (sum16 ((apL n).map fun x => (x.toNat : Int) - 65))) = _
  rw [apL_sum]
theorem readOne_words (l : List Nat) : (l.map wordD).filterMap readOne = intsD (l.map fun (n : Nat) => (n : Int)) := by
  unfold intsD
  induction l with
  | nil => rfl
  | cons n l ih => rw [List.map_cons, List.filterMap_cons, readOne_word, ih]; rfl
theorem words_at {l : List Nat} {i : Nat} {d : D} (h : (l.map wordD)[i]? = some d) : ∃ n ∈ l, d = wordD n := by
  rw [List.getElem?_map] at h
  cases e : l[i]? with
  | none => rw [e] at h; cases h
  | some n => rw [e] at h; cases h; exact ⟨n, List.mem_of_getElem? e, rfl⟩

theorem fn_reading {row : List Quad} (T : Top h₀ mg mb) (ok : ReadOk row) : Fn P w h₀ mg mb ("_law_reading" : Str) 3 [.lst (row.map telD)] (readD row) :=
  fn_def (names := [("row" : Str)]) (fun L => [(("pile" : Str), L + 1)]) T rfl (fun A L q a code R => by
      have hu : A.units ≤ 5000 := by have := R.units; omega
      have hfitR : (row.map telD).length ≤ sizeLine := by rw [List.length_map]; exact sl63 ok.short
      refine xs_own (.inr ⟨rfl, rfl, _, rfl, by simp⟩) (fun y b es e => by
        rw [List.zip_cons_cons, List.zip_nil_right, List.lookup_cons] at e
        split at e
        · cases e
        · cases e) (fun o ho => ?_)
      refine x_for (b := true) (ds := (row.map telD).reverse) (fun i σ => ∃ p, readR (row.drop (row.length - i)) = some p ∧ σ ("pile" : Str) = some (.own o (p.reverse.map wordD)) ∧ OwnOnly σ o)
        (evI_list R.handled (ev_rev (ds := row.map telD) (ev_name rfl) (ev_neg (ev_int 1)) hfitR) (.inr ⟨⟨_, _, _, rfl⟩, fun d hd => ?_⟩)) ⟨[], by rw [Nat.sub_zero, List.drop_length]; rfl, rfl, ?_⟩ ?_ ?_
      · obtain ⟨q, _, rfl⟩ := List.mem_map.mp (List.mem_reverse.mp hd)
        exact ⟨_, rfl⟩
      · refine ownOnly_put (fun y b es e => ?_) (fun b es e => by cases e; rfl)
        rw [List.zip_cons_cons, List.zip_nil_right, List.lookup_cons] at e
        split at e
        · cases e
        · cases e
      · rintro i d σ' hd ⟨p, hp, hpile, hown⟩
        have hin : i < row.length := by
          have := (List.getElem?_eq_some_iff.mp hd).1
          simpa using this
        have hq : ∃ q ∈ row, d = telD q ∧ row.drop (row.length - (i + 1)) = q :: row.drop (row.length - i) := by
          rw [List.getElem?_reverse (by rw [List.length_map]; exact hin), List.length_map, List.getElem?_map] at hd
          have hl : row.length - 1 - i < row.length := by omega
          rw [List.getElem?_eq_getElem hl] at hd
          refine ⟨row[row.length - 1 - i], List.getElem_mem hl, (Option.some.inj hd).symm, ?_⟩
          have e1 : row.length - (i + 1) = row.length - 1 - i := by omega
          have e2 : row.length - i = row.length - 1 - i + 1 := by omega
          rw [e1, e2]
          exact List.drop_eq_getElem_cons hl
        obtain ⟨q, hqm, rfl, hdrop⟩ := hq
        have hstep : readR (row.drop (row.length - (i + 1))) = stackStep q p := by rw [hdrop, readR, hp]; rfl
        have hplen : p.length ≤ 63 := Nat.le_trans (readR_len _ _ hp) (Nat.le_trans (by rw [List.length_drop]; omega) ok.short)
        have hpfit := ok.fits _ _ hp
        have hqfit := ok.fit q hqm
        have hkind := ok.kind q hqm
        refine ⟨_, asg_tuple (xs := [(("parts" : Str), _), (("deed" : Str), _), (("word" : Str), _)]) R.handled rfl (fun x hx => ?_) rfl, ?_⟩
        · simp only [List.mem_cons, List.not_mem_nil, or_false] at hx
          rcases hx with rfl | rfl | rfl <;> exact .inl ⟨rfl, rfl⟩
        have hσ : ∀ {σ₂ : Str → Option D}, σ₂ = putAll σ' [("parts" : Str), ("deed" : Str), ("word" : Str)] [.int q.parts, .int q.deed, wordD q.num] → σ₂ ("parts" : Str) = some (.int q.parts) ∧ σ₂ ("deed" : Str) = some (.int q.deed) ∧ σ₂ ("word" : Str) = some (wordD q.num) ∧ σ₂ ("pile" : Str) = some (.own o (p.reverse.map wordD)) ∧ OwnOnly σ₂ o := by
          rintro σ₂ rfl
          exact ⟨rfl, rfl, rfl, hpile, ownOnly_put (ownOnly_put (ownOnly_put hown (fun b es e => by cases e)) (fun b es e => by cases e)) (fun b es e => by cases e)⟩
        obtain ⟨hparts, hdeed, hword, hpile, hown⟩ := hσ rfl
        show Xs _ _ _ _ _ (putAll σ' [("parts" : Str), ("deed" : Str), ("word" : Str)] [.int q.parts, .int q.deed, wordD q.num]) _ _
        generalize putAll σ' [("parts" : Str), ("deed" : Str), ("word" : Str)] [.int q.parts, .int q.deed, wordD q.num] = σ at hparts hdeed hword hpile hown
        have hwl : (p.reverse.map wordD).length = p.length := by rw [List.length_map, List.length_reverse]
        refine xs_cons (x_if (b := decide (p.length < q.parts)) (evt_thaw hpile ho (by exact List.mem_cons_self) hown (EvT.of_eq (evt_cmp (ev_fn T R (fn_b T (callIs_len (ds := p.reverse.map wordD) (by rw [hwl]; exact sl63 hplen))) (evl_cons (ev_name rfl) evl_nil)) (ev_name (d := .int q.parts) hparts) cmp_lt) ?_)) (fun hb => ?_) (fun hb => xs_nil ?_))
        · rw [hwl]; exact decide_eq_decide.mpr (by omega)
        · have hlt := of_decide_eq_true hb
          have hnone : readR row = none := readR_drop row _ (hstep.trans (by unfold stackStep; rw [if_pos hlt]))
          refine xs_cons (x_ret ev_none ?_)
          have e : readD row = .none := by unfold readD; rw [hnone]
          exact congrArg Out.ret e.symm
        have hge : q.parts ≤ p.length := Nat.le_of_not_lt (of_decide_eq_false hb)
        have hnew : readR (row.drop (row.length - (i + 1))) = some ((if q.deed = 14 then q.num else opVal q.deed q.num (p.take q.parts)) :: p.drop q.parts) := by
          rw [hstep]; unfold stackStep; rw [if_neg (Nat.not_lt.mpr hge)]
        have hvfit := ok.fits _ _ hnew
        have htl : (p.take q.parts).length = q.parts := by rw [List.length_take]; omega
        have htfit : ∀ v ∈ p.take q.parts, v < 2 ^ 4000 := fun v hv => hpfit v (List.mem_of_mem_take hv)
        refine xs_cons (x_popcomp (y := ("pile" : Str)) [(("pile" : Str), L + 1)] (comp_ok [] [(("pile" : Str), L + 1)]) hpile (evI_range1 (n := (q.parts : Int)) T.names R.handled (T.blt _ _ rfl) (ev_name hparts) (by omega)) (by rw [hwl]; exact sl63 hplen) (by rw [upTo_length, hwl]; omega) ?_)
        rw [upTo_length, show ((q.parts : Int)).toNat = q.parts from Int.toNat_natCast _, words_left, words_rev]
        have hσ2 : ∀ {σ₂ : Str → Option D}, σ₂ = put (put σ ("pile" : Str) (.own o ((p.drop q.parts).reverse.map wordD))) ("words" : Str) (.lst ((p.take q.parts).map wordD)) →
            σ₂ ("parts" : Str) = some (.int q.parts) ∧ σ₂ ("deed" : Str) = some (.int q.deed) ∧ σ₂ ("word" : Str) = some (wordD q.num) ∧ σ₂ ("pile" : Str) = some (.own o ((p.drop q.parts).reverse.map wordD)) ∧ σ₂ ("words" : Str) = some (.lst ((p.take q.parts).map wordD)) ∧ OwnOnly σ₂ o := by
          rintro σ₂ rfl
          exact ⟨hparts, hdeed, hword, rfl, rfl, ownOnly_put (ownOnly_put hown (fun b es e => by cases e; rfl)) (fun b es e => by cases e)⟩
        obtain ⟨hparts2, hdeed2, hword2, hpile2, hwords2, hown2⟩ := hσ2 rfl
        show Xs _ _ _ _ _ (put (put σ ("pile" : Str) (.own o ((p.drop q.parts).reverse.map wordD))) ("words" : Str) (.lst ((p.take q.parts).map wordD))) _ _
        generalize put (put σ ("pile" : Str) (.own o ((p.drop q.parts).reverse.map wordD))) ("words" : Str) (.lst ((p.take q.parts).map wordD)) = σ₂ at hparts2 hdeed2 hword2 hpile2 hwords2 hown2
        generalize hN : (if q.deed = 14 then q.num else opVal q.deed q.num (p.take q.parts)) = N at hnew hvfit
        have hNfit : N < 2 ^ 4000 := hvfit N List.mem_cons_self
        generalize hvs : p.take q.parts = vs at htl htfit hwords2 hN
        have hvl : vs.length ≤ 63 := by rw [← hvs, List.length_take]; omega
        have hN1000 := len4000 hNfit
        refine xs_cons (x_ifJ (fun τ => τ ("word" : Str) = some (wordD N) ∧ τ ("pile" : Str) = some (.own o ((p.drop q.parts).reverse.map wordD)) ∧ OwnOnly τ o) (b := decide (q.deed = 0 ∨ q.deed = 2 ∨ q.deed = 12))
          (evt_cmp (d' := .tup [.int 0, .int 2, .int 12]) (ev_name hdeed2) (ev_tuple (evl_cons (ev_int _) (evl_cons (ev_int _) (evl_cons (ev_int _) evl_nil)))) (cmp_in_tup false rfl (by intro e he; simp at he; rcases he with rfl | rfl | rfl <;> rfl) (by simp) hu)) (fun hb2 => ?_) (fun hb2 => ?_) ?_)
        · have hd3 := of_decide_eq_true hb2
          have hv1 : 1 ≤ vs.length := by rcases hkind with h | h | h | h <;> omega
          have hv0 : vs.getD 0 0 ∈ vs := by
            cases vs with
            | nil => simp at hv1
            | cons v l => exact List.mem_cons_self
          have hopN : opVal q.deed q.num vs = N := by rw [← hN, if_neg (by omega)]
          have hlen1 : ∀ v ∈ vs, (apL v).length ≤ 1000 := fun v hv => len4000 (htfit v hv)
          obtain ⟨bs, hbs⟩ : ∃ bs : List UInt8, bs = if q.deed = 12 then (apL (vs.getD 0 0)).reverse else (vs.map apL).flatten := ⟨_, rfl⟩
          have hbl : bs.length ≤ 63000 := by
            rw [hbs]
            split
            · rw [List.length_reverse]; exact Nat.le_trans (hlen1 _ hv0) (by decide)
            · exact Nat.le_trans (flat_len vs hlen1) (by omega)
          have hsum : sum16 (bs.map fun x => (x.toNat : Int) - 65) = (N : Int) := by
            rw [hbs, ← hopN]
            unfold opVal sum16
            by_cases h12 : q.deed = 12
            · have h02 : ¬ (q.deed = 0 ∨ q.deed = 2) := by omega
              simp only [if_pos hd3, if_pos h12, if_neg h02]
              exact sum_turned (vs.getD 0 0) 0
            · have h02 : q.deed = 0 ∨ q.deed = 2 := by omega
              simp only [if_pos hd3, if_neg h12, if_pos h02]
              exact sum_joined vs 0
          refine xs_cons (x_assign (d := wordD N) (ev_fn T R (fn_ap (i := (N : Int)) T (Nat.le_trans hN1000 (by decide))) (evl_cons (Ev.of_eq (ev_fn T R (fn_sum (ns := bs.map fun x => (x.toNat : Int) - 65) T) (evl_cons (Ev.of_eq (ev_compN [] [] (onInt (· - 65)) (evI_bytes (b := bs.toArray) R.handled (ev_if (x := decide (q.deed = 12)) (EvT.of_eq (evt_cmp (ev_name hdeed2) (ev_int _) cmp_eq) ?_) (fun h => ?_) (fun h => ?_))) (comp_ok [] []) (fun C i d hd => ?_) ?_) ?_) evl_nil)) (by rw [hsum])) evl_nil)) (xs_nil ⟨rfl, hpile2, ownOnly_put hown2 (fun b es e => by cases e)⟩))
          · by_cases h : q.deed = 12 <;> simp [h]
          · have h12 := of_decide_eq_true h
            refine Ev.of_eq (ev_rev_bytes (b := (apL (vs.getD 0 0)).toArray) (ev_item_lst (ds := vs.map wordD) (d := wordD (vs.getD 0 0)) (ev_name hwords2) (ev_int _) (.inl ⟨by decide, ?_⟩) (by rw [List.length_map]; exact sl63 hvl)) (ev_neg (ev_int 1)) ?_) ?_
            · cases vs with
              | nil => simp at hv1
              | cons v l => rfl
            · rw [List.size_toArray]; exact Nat.le_trans (hlen1 _ hv0) (by decide)
            · rw [hbs, if_pos h12]
          · have h12 := of_decide_eq_false h
            refine Ev.of_eq (ev_bjoin (bs := vs.map fun v => (apL v).toArray) (ev_bytes []) (Ev.of_eq (ev_name hwords2) ?_) ?_ ?_) ?_
            · rw [List.map_map]; rfl
            · rw [List.length_map]; rcases hkind with h | h | h | h <;> omega
            · exact Nat.le_trans (sum_len vs hlen1) (by omega)
            · rw [hbs, if_neg h12, List.map_map]; rfl
          · obtain ⟨x, hx, rfl⟩ := byteInts_at hd
            exact ⟨tst_nil, fun e h => by cases h; exact ev_sub (ev_name rfl) (ev_int _)⟩
          · have : sizeLine = 16777216 := rfl
            simp only [byteInts, List.length_map]; omega
          · rw [byteInts_eq, filterMap_onInt, List.map_map]; rfl
        · have hd3 := of_decide_eq_false hb2
          refine xs_cons (x_ifJ (fun τ => τ ("word" : Str) = some (wordD N) ∧ τ ("pile" : Str) = some (.own o ((p.drop q.parts).reverse.map wordD)) ∧ OwnOnly τ o) (b := decide (q.deed ≠ 14))
            (EvT.of_eq (evt_cmp (ev_name hdeed2) (ev_int _) cmp_ne) (by by_cases h : q.deed = 14 <;> simp [h])) (fun h14 => ?_) (fun h14 => ?_) (fun τ hτ => xs_nil hτ))
          · have h14' : q.deed ≠ 14 := of_decide_eq_true h14
            have hopN : opVal q.deed q.num vs = N := by rw [← hN, if_neg h14']
            have hNv : (plainZ q.deed q.num (vs.map fun (v : Nat) => (v : Int))).natAbs = N := by
              rw [← hopN]; unfold opVal
              simp only [if_neg hd3, if_neg (show ¬ q.deed = 12 by omega), if_neg (show ¬ (q.deed = 0 ∨ q.deed = 2) by omega)]
            have hv1 : 1 ≤ (vs.map fun (v : Nat) => (v : Int)).length := by rw [List.length_map]; rcases hkind with h | h | h | h <;> omega
            refine xs_cons (x_assign (d := wordD N) (Ev.of_eq (ev_fn T R (fn_ap (i := plainZ q.deed q.num (vs.map fun (v : Nat) => (v : Int))) T (by rw [hNv]; exact Nat.le_trans hN1000 (by decide))) (evl_cons (ev_fn T R (fn_plain (vs := vs.map fun (v : Nat) => (v : Int)) T hv1 ?_ (sl63 (by rw [List.length_map]; exact hvl))) (evl_cons (ev_name hdeed2) (evl_cons (ev_fn T R (fn_read (n := q.num) T (Nat.le_trans (len4000 hqfit) (by decide))) (evl_cons (ev_name hword2) evl_nil)) (evl_cons (Ev.of_eq (ev_compN [] [] readOne (evI_list (ds := vs.map wordD) R.handled (ev_name hwords2)) (comp_ok [] []) (fun C i d hd => ?_) (by rw [List.length_map]; exact sl63 hvl)) ?_) evl_nil)))) evl_nil)) ?_) (xs_nil ⟨rfl, hpile2, ownOnly_put hown2 (fun b es e => by cases e)⟩))
            · rw [List.length_map]; rcases hkind with h | h | h | h <;> omega
            · obtain ⟨n, hn, rfl⟩ := words_at hd
              refine ⟨tst_nil (by rw [readOne_word]; rfl), fun e he => ?_⟩
              rw [readOne_word] at he
              cases he
              exact ev_fn T R (fn_read (n := n) T (Nat.le_trans (len4000 (htfit n hn)) (by decide))) (evl_cons (ev_name rfl) evl_nil)
            · rw [readOne_words]
            · rw [hNv]; rfl
          · have h14' : q.deed = 14 := Classical.not_not.mp (of_decide_eq_false h14)
            have hN' : q.num = N := by rw [← hN, if_pos h14']
            exact xs_nil ⟨by rw [← hN']; exact hword2, hpile2, hown2⟩
        rintro τ ⟨t1, t2, t3⟩
        refine xs_cons (x_own_append t2 (ev_name t1) ?_ (by rw [List.length_map, List.length_reverse, List.length_drop]; exact sl63 (by omega)))
        refine xs_nil ⟨_, hnew, ?_, ownOnly_put t3 (fun b es e => by cases e; rfl)⟩
        show some _ = some _
        rw [List.reverse_cons, List.map_append]
        rfl
      · rintro τ ⟨p, hp, hpile, hown⟩
        rw [List.length_reverse, List.length_map, Nat.sub_self, List.drop_zero] at hp
        refine ⟨hown, _, hpile, ?_⟩
        have hplen : p.length ≤ 63 := Nat.le_trans (readR_len _ _ hp) ok.short
        have hpfit := ok.fits 0 p hp
        refine xs_cons (x_ret (d := readD row) (Ev.of_eq (ev_compN [] [] readOne (evI_list (ds := p.map wordD) R.handled (Ev.of_eq (ev_rev (ds := p.reverse.map wordD) (ev_name rfl) (ev_neg (ev_int 1)) (by rw [List.length_map, List.length_reverse]; exact sl63 hplen)) ?_)) (comp_ok [] []) (fun C i d hd => ?_) (by rw [List.length_map]; exact sl63 hplen)) ?_) rfl)
        · rw [← List.map_reverse, List.reverse_reverse]
        · obtain ⟨n, hn, rfl⟩ := words_at hd
          refine ⟨tst_nil (by rw [readOne_word]; rfl), fun e he => ?_⟩
          rw [readOne_word] at he
          cases he
          exact ev_fn T R (fn_read (n := n) T (Nat.le_trans (len4000 (hpfit n hn)) (by decide))) (evl_cons (ev_name rfl) evl_nil)
        · rw [readOne_words]
          unfold readD; rw [hp]; rfl)
    (fun _ _ _ _ _ _ _ _ vs hv => by
      obtain ⟨v, rfl⟩ := len1 hv
      rfl) (hloc := by intro x hx; exact .inl (by rw [List.mem_singleton.mp hx]; rfl)) (hcn := fun L => by simp)
end

noncomputable def tabFrom (k : Nat) : List (List Int) → Int
  | [] => if k % 65536 > 65533 then 5 else 6
  | r :: rs => if hit k r then col 0 r else tabFrom k rs
theorem tabZ_from (k : Nat) : tabZ k = tabFrom k runsN := by
  unfold tabZ
  induction runsN with
  | nil => rfl
  | cons r rs ih =>
    rw [tabFrom, List.filter_cons]
    cases h : hit k r with
    | true => rfl
    | false => simp only [Bool.false_eq_true, if_false]; exact ih
noncomputable def runsL : List (List Int) := [[0, 173, 173], [0, 847, 847], [0, 6150, 6150], [0, 6155, 6157], [0, 8203, 8205], [0, 8288, 8288], [0, 65024, 65039], [0, 65279, 65279], [1, 12272, 12283], [2, 832, 833], [2, 8206, 8207], [2, 8234, 8238], [2, 8298, 8303], [3, 917505, 917505], [3, 917536, 917631], [4, 65529, 65533], [5, 64976, 65007]]
theorem runs_eq : runsN = runsL := by kernel_rfl
theorem mem_from (a : Int) (n : Nat) (k : Int) : k ∈ runFrom a n ↔ a ≤ k ∧ k < a + n := by
  unfold runFrom
  simp only [List.mem_map, List.mem_range]
  constructor
  · rintro ⟨j, h1, rfl⟩; omega
  · rintro ⟨h1, h2⟩; exact ⟨(k - a).toNat, by omega, by omega⟩
/-- a row of the tables holds k, and tells t -/
noncomputable def inR (t : Int) (k : Nat) (rs : List (List Int)) : Bool := rs.any fun r => (col 0 r == t) && hit k r
noncomputable def apart (r q : List Int) : Bool := decide (col 2 r < col 1 q) || decide (col 2 q < col 1 r)
noncomputable def lowRow (r : List Int) : Bool := decide (col 1 r / 65536 = col 2 r / 65536) && decide (col 2 r % 65536 ≤ 65533)
theorem hit_apart {k : Nat} {r q : List Int} (h : apart r q = true) (h1 : hit k r = true) : hit k q = false := by
  unfold apart at h
  unfold hit at h1 ⊢
  rw [Bool.and_eq_true, decide_eq_true_iff, decide_eq_true_iff] at h1
  rw [Bool.or_eq_true, decide_eq_true_iff, decide_eq_true_iff] at h
  rw [Bool.and_eq_false_iff, decide_eq_false_iff_not, decide_eq_false_iff_not, Int.not_le, Int.not_le]
  exact h.imp (fun e => Int.lt_of_le_of_lt h1.2 e) (fun e => Int.lt_of_lt_of_le e h1.1)
theorem hit_low {k : Nat} {r : List Int} (h : lowRow r = true) (h1 : hit k r = true) : ¬ k % 65536 > 65533 := by
  unfold lowRow at h
  unfold hit at h1
  rw [Bool.and_eq_true, decide_eq_true_iff, decide_eq_true_iff] at h1 h
  generalize col 1 r = a at h h1
  generalize col 2 r = b at h h1
  omega
theorem from_hits (k : Nat) {t : Int} (ht : 6 ≠ t) : ∀ rs : List (List Int), rs.Pairwise (fun r q => apart r q = true) → (∀ r ∈ rs, lowRow r = true) → decide (tabFrom k rs = t) = (inR t k rs || (decide (5 = t) && decide (k % 65536 > 65533)))
  | [], _, _ => by
    show decide ((if k % 65536 > 65533 then (5 : Int) else 6) = t) = (false || (decide (5 = t) && decide (k % 65536 > 65533)))
    by_cases h : k % 65536 > 65533
    · rw [if_pos h, decide_eq_true h, Bool.and_true, Bool.false_or]
    · rw [if_neg h, decide_eq_false h, Bool.and_false, Bool.or_false, decide_eq_false ht]
  | r :: rs, hp, hl => by
    have hp' := List.pairwise_cons.mp hp
    have ih := from_hits k ht rs hp'.2 fun q hq => hl q (.tail _ hq)
    rw [tabFrom]
    unfold inR at ih ⊢
    rw [List.any_cons]
    cases h : hit k r with
    | true =>
      have e1 : (rs.any fun q => (col 0 q == t) && hit k q) = false := List.any_eq_false.mpr fun q hq => by rw [hit_apart (hp'.1 q hq) h, Bool.and_false]; exact Bool.false_ne_true
      rw [if_pos rfl, e1, decide_eq_false (hit_low (hl r (.head _)) h), Bool.and_true, Bool.and_false, Bool.or_false, Bool.or_false]
      rfl
    | false => rw [if_neg Bool.false_ne_true, ih, Bool.and_false, Bool.false_or]
theorem tab_range (k : Nat) : 0 ≤ tabZ k ∧ tabZ k ≤ 6 := by
  rw [tabZ_from, runs_eq]
  have key : ∀ rs : List (List Int), rs.all (fun r => decide (0 ≤ col 0 r ∧ col 0 r ≤ 6)) = true → 0 ≤ tabFrom k rs ∧ tabFrom k rs ≤ 6 := by
    intro rs
    induction rs with
    | nil => intro _; unfold tabFrom; split <;> decide
    | cons r rs ih =>
      intro h
      rw [List.all_cons, Bool.and_eq_true, decide_eq_true_iff] at h
      rw [tabFrom]
      split
      · exact h.1
      · exact ih h.2
  exact key runsL (by decide +kernel)
theorem tab_in (k : Nat) (ns : List Int) (t : Int) (h1 : (ns.all fun x => runsL.any fun r => (col 0 r == t) && (decide (col 1 r ≤ x) && decide (x ≤ col 2 r))) = true) (h2 : (runsL.all fun r => !(col 0 r == t) || (spanR r).all fun x => ns.contains x) = true) : inB ns k = inR t k runsL := by
  rw [Bool.eq_iff_iff]
  unfold inB inR
  rw [decide_eq_true_iff, List.any_eq_true]
  constructor
  · intro h
    exact List.any_eq_true.mp (List.all_eq_true.mp h1 _ h)
  · rintro ⟨r, hr, h⟩
    rw [Bool.and_eq_true] at h
    have q := List.all_eq_true.mp h2 r hr
    rw [h.1] at q
    refine List.contains_iff_mem.mp (List.all_eq_true.mp q _ ?_)
    have e := h.2
    unfold hit at e
    rw [Bool.and_eq_true, decide_eq_true_iff, decide_eq_true_iff] at e
    unfold spanR
    refine List.mem_map.mpr ⟨((k : Int) - col 1 r).toNat, List.mem_range.mpr ?_, ?_⟩ <;> generalize col 1 r = a at e ⊢ <;> generalize col 2 r = b at e ⊢ <;> omega
theorem tab_dec (k : Nat) {t : Int} (ht : 6 ≠ t) : decide (tabZ k = t) = (inR t k runsL || (decide (5 = t) && decide (k % 65536 > 65533))) := by
  rw [tabZ_from, runs_eq]
  exact from_hits k ht runsL (by decide +kernel) (by decide +kernel)
theorem tab_dec' (k : Nat) {ns : List Int} {t : Int} (ht : 6 ≠ t) (h5 : 5 ≠ t) (h : inB ns k = inR t k runsL) : inB ns k = decide (tabZ k = t) := by rw [tab_dec k ht, decide_eq_false h5, Bool.false_and, Bool.or_false, h]
/-- what the six tables say -/
theorem asked (k : Nat) : inB b1N k = decide (tabZ k = 0) ∧ inB c7N k = decide (tabZ k = 1) ∧ inB c8N k = decide (tabZ k = 2) ∧ inB c9N k = decide (tabZ k = 3) ∧ inB c6N k = decide (tabZ k = 4) ∧ in4B k = decide (tabZ k = 5) := by
  refine ⟨tab_dec' k (by decide) (by decide) (tab_in k _ _ ?_ ?_), tab_dec' k (by decide) (by decide) (tab_in k _ _ ?_ ?_), tab_dec' k (by decide) (by decide) (tab_in k _ _ ?_ ?_), tab_dec' k (by decide) (by decide) (tab_in k _ _ ?_ ?_), tab_dec' k (by decide) (by decide) (tab_in k _ _ ?_ ?_), ?_⟩
  iterate 10 decide +kernel
  rw [tab_dec k (by decide)]
  show decide (¬ k < 64976 ∧ (k < 65008 ∨ (k % 65536 = 65534 ∨ k % 65536 = 65535))) = ((decide ((64976 : Int) ≤ (k : Int)) && decide ((k : Int) ≤ 65007) || false) || decide (k % 65536 > 65533))
  rw [Bool.eq_iff_iff, Bool.or_false, Bool.or_eq_true, Bool.and_eq_true, decide_eq_true_iff, decide_eq_true_iff, decide_eq_true_iff, decide_eq_true_iff]
  omega

noncomputable def low (k : Nat) : Nat := (Unicode.shifted UnicodeData.oneLower k).getD k
theorem lower_one {k : Nat} (h : k ≠ 304) : Txt.lower (chrS k) = chrS (low k) := by
  unfold Txt.lower placed chrS
  have e1 : Unicode.lowerAt #[k] 0 = [low k] := by
    unfold Unicode.lowerAt
    have e2 : Unicode.endsWord #[k] 0 = false := rfl
    show (if (k == 0x3A3 && Unicode.endsWord #[k] 0) = true then [0x3C2] else Unicode.lowerOf k) = _
    rw [e2, Bool.and_false, if_neg (by decide)]
    unfold Unicode.lowerOf Unicode.image UnicodeData.severalLower UnicodeData.severalLower0
    rw [List.lookup_cons, show (k == 0x130) = false by simpa using h]
    rfl
  simp [e1]
theorem lower_rows : UnicodeData.oneLower.all (fun x => (x.1 == 65 && x.2.1 == 90 && x.2.2 == 97) || (x.1 == 8490 && x.2.1 == 8490 && x.2.2 == 107) || decide (112 < x.2.2)) = true := by kernel_rfl
theorem shifted_ok : ∀ (l : List (Nat × Nat × Nat)) (k t : Nat), l.all (fun x => (x.1 == 65 && x.2.1 == 90 && x.2.2 == 97) || (x.1 == 8490 && x.2.1 == 8490 && x.2.2 == 107) || decide (112 < x.2.2)) = true → Unicode.shifted l k = some t →
    (65 ≤ k ∧ k ≤ 90 ∧ t = k + 32) ∨ k = 8490 ∨ 112 < t
  | [], k, t, _, h => by cases h
  | (a, b, u) :: l, k, t, ha, h => by
    rw [List.all_cons, Bool.and_eq_true] at ha
    rw [Unicode.shifted] at h
    by_cases h1 : k < a
    · rw [if_pos h1] at h; cases h
    · rw [if_neg h1] at h
      by_cases h2 : k ≤ b
      · rw [if_pos h2] at h
        have e := (Option.some.inj h).symm
        simp only [Bool.or_eq_true, Bool.and_eq_true, beq_iff_eq, decide_eq_true_iff] at ha
        rcases ha.1 with ((⟨⟨e1, e2⟩, e3⟩ | ⟨⟨e1, e2⟩, e3⟩) | e1)
        · left; omega
        · right; left; omega
        · right; right; omega
      · rw [if_neg h2] at h
        exact shifted_ok l k t ha.2 h
/-- a code point that is lowered to a letter a to p -/
theorem low_letter {k : Nat} (h1 : 97 ≤ low k) (h2 : low k ≤ 112) : (65 ≤ k ∧ k < 81) ∨ (97 ≤ k ∧ k < 113) ∨ k = 8490 := by
  unfold low at h1 h2
  cases e : Unicode.shifted UnicodeData.oneLower k with
  | none => rw [e] at h1 h2; simp only [Option.getD_none] at h1 h2; omega
  | some t =>
    rw [e] at h1 h2
    simp only [Option.getD_some] at h1 h2
    rcases shifted_ok _ k t lower_rows e with h | h | h <;> omega

noncomputable def subl : List (Int × Str) → List (Int × Str) → Bool
  | [], _ => true
  | _ :: _, [] => false
  | x :: xs, y :: ys => if x.1 = y.1 ∧ x.2 = y.2 then subl xs ys else subl (x :: xs) ys
theorem subl_mem : ∀ {ys xs : List (Int × Str)}, subl xs ys = true → ∀ x ∈ xs, x ∈ ys
  | _, [], _, x, hx => by cases hx
  | [], _ :: _, h, x, hx => by cases h
  | y :: ys, x' :: xs, h, x, hx => by
    unfold subl at h
    by_cases q : x'.1 = y.1 ∧ x'.2 = y.2
    · rw [if_pos q] at h
      have e : x' = y := Prod.ext q.1 q.2
      rcases List.mem_cons.mp hx with rfl | hx
      · rw [e]; exact List.mem_cons_self
      · exact List.mem_cons_of_mem _ (subl_mem h x hx)
    · rw [if_neg q] at h
      exact List.mem_cons_of_mem _ (subl_mem h x hx)
theorem lookup_of_mem : ∀ {l : List (Int × Str)} {k : Int} {x : Str}, (l.map (·.1)).Nodup → (k, x) ∈ l → l.lookup k = some x
  | (i, y) :: l, k, x, hn, h => by
    rw [List.map_cons, List.nodup_cons] at hn
    rw [List.lookup_cons]
    rcases List.mem_cons.mp h with e | h
    · cases e; simp
    · have hne : (k == i) = false := by
        rw [beq_eq_false_iff_ne]
        intro e
        exact hn.1 (e ▸ List.mem_map.mpr ⟨_, h, rfl⟩)
      rw [hne]
      exact lookup_of_mem hn.2 h
theorem b3_nodup' : (b3D.map (·.1)).Nodup := rising_nodup (by kernel_rfl)
noncomputable def mathB (j : Nat) : Bool := decide (j % 52 < 16) && !(holesN.contains ((119808 + j : Nat) : Int))
noncomputable def mathL : List (Int × Str) := (List.range 676).filterMap fun j => if mathB j then some (((119808 + j : Nat) : Int), chrS (97 + j % 52)) else none
theorem math_check : subl mathL b3D = true := by kernel_rfl
theorem ascii_check : (List.range 128).all (fun k => !((decide (65 ≤ k) && decide (k < 81)) || (decide (97 ≤ k) && decide (k < 113))) || decide (mapB3 (chrS k) = chrS (97 + (k - 65) % 32))) = true := by kernel_rfl
theorem spell_check : spellD.all (fun y => decide (0 ≤ y.1) && decide (mapB3 (chrS y.1.toNat) = y.2) && !strangeB y.2 && decide (y.2 ≠ ("" : Str))) = true := by kernel_rfl
theorem b3_tabs : b3D.all (fun y => decide (tabZ y.1.toNat = 6)) = true := by kernel_rfl
theorem low_runs : UnicodeData.oneLower.all (fun x => runsL.all fun r => decide ((x.2.1 : Int) < col 1 r) || decide (col 2 r < (x.1 : Int))) = true := by kernel_rfl
theorem low_planes : UnicodeData.oneLower.all (fun x => decide (x.2.1 % 65536 ≤ 65533) && decide (x.2.1 / 65536 = x.1 / 65536)) = true := by kernel_rfl
theorem b3_check : b3D.all (fun y => decide (0 ≤ y.1) && (decide (text2 y.1.toNat = y.2) || (decide (text2 y.1.toNat = ("" : Str)) && strangeB y.2))) = true := by kernel_rfl
theorem b3_nonempty : b3D.all (fun y => decide (y.2 ≠ ("" : Str))) = true := by kernel_rfl
theorem b3_304 : (b3D.lookup 304).isSome = true := by kernel_rfl
theorem spell_8490 : (spellD.lookup 8490).isSome = true := by kernel_rfl
theorem shifted_none : ∀ (l : List (Nat × Nat × Nat)) (k : Nat), (∀ x ∈ l, k < x.1 ∨ x.2.1 < k) → Unicode.shifted l k = none
  | [], k, _ => rfl
  | (a, b, u) :: l, k, h => by
    rw [Unicode.shifted]
    have h1 : k < a ∨ b < k := h (a, b, u) List.mem_cons_self
    by_cases q : k < a
    · rw [if_pos q]
    · rw [if_neg q, if_neg (by omega)]
      exact shifted_none l k fun x hx => h x (List.mem_cons_of_mem _ hx)
theorem in_run {k : Nat} (h : tabZ k ≠ 6) : (∃ r ∈ runsL, col 1 r ≤ (k : Int) ∧ (k : Int) ≤ col 2 r) ∨ k % 65536 > 65533 := by
  rw [tabZ_from, runs_eq] at h
  have key : ∀ l : List (List Int), tabFrom k l ≠ 6 → (∃ r ∈ l, col 1 r ≤ (k : Int) ∧ (k : Int) ≤ col 2 r) ∨ k % 65536 > 65533 := by
    intro l
    induction l with
    | nil =>
      intro h
      rw [tabFrom] at h
      by_cases q : k % 65536 > 65533
      · exact .inr q
      · rw [if_neg q] at h; exact absurd rfl h
    | cons r l ih =>
      intro h
      rw [tabFrom] at h
      by_cases q : hit k r = true
      · unfold hit at q
        rw [Bool.and_eq_true, decide_eq_true_iff, decide_eq_true_iff] at q
        exact .inl ⟨r, List.mem_cons_self, q.1, q.2⟩
      · rw [if_neg q] at h
        rcases ih h with ⟨r', h1, h2⟩ | h'
        · exact .inl ⟨r', List.mem_cons_of_mem _ h1, h2⟩
        · exact .inr h'
  exact key _ h
/-- a sign of the tables is given back as it is -/
theorem map_table {k : Nat} (h : tabZ k ≠ 6) : mapB3 (chrS k) = chrS k := by
  have hl : b3D.lookup (k : Int) = none := by
    cases e : b3D.lookup (k : Int) with
    | none => rfl
    | some y =>
      have := of_decide_eq_true (List.all_eq_true.mp b3_tabs _ (lookup_memI e))
      rw [Int.toNat_natCast] at this
      exact absurd this h
  have h304 : k ≠ 304 := by
    rintro rfl
    have := b3_304
    rw [show ((304 : Nat) : Int) = 304 from rfl] at hl
    rw [hl] at this; cases this
  have hlow : low k = k := by
    unfold low
    rw [shifted_none]
    · rfl
    intro x hx
    rcases in_run h with ⟨r, hr, h1, h2⟩ | hp
    · have := List.all_eq_true.mp (List.all_eq_true.mp low_runs x hx) r hr
      rw [Bool.or_eq_true, decide_eq_true_iff, decide_eq_true_iff] at this
      omega
    · have := List.all_eq_true.mp low_planes x hx
      rw [Bool.and_eq_true, decide_eq_true_iff, decide_eq_true_iff] at this
      omega
  unfold mapB3
  rw [sgn_chr, hl, ← hlow]
  show Txt.lower (chrS (low k)) = _
  rw [hlow, lower_one h304, hlow]
theorem text_strange : ∀ {j : Nat}, j < 16 → strangeB (chrS (97 + j)) = false := by
  intro j hj
  show ([97 + j].any fun c => decide (c < 97) || decide (112 < c)) = false
  rw [List.any_cons, List.any_nil, Bool.or_false, Bool.or_eq_false_iff, decide_eq_false_iff_not, decide_eq_false_iff_not]
  omega
theorem chrS_ne (k : Nat) : chrS k ≠ ("" : Str) := by
  intro e
  have := congrArg (fun x : Str => x.cps.size) e
  cases this
/-- a sign that stands for letters a to p -/
theorem text_some {k : Nat} (h : text2 k ≠ ("" : Str)) : mapB3 (chrS k) = text2 k ∧ strangeB (text2 k) = false := by
  unfold text2 at h ⊢
  by_cases h1 : (119808 ≤ k ∧ k < 120484) ∧ ((k - 119808) % 52 < 16 ∧ (k : Int) ∉ holesN)
  · rw [if_pos h1]
    refine ⟨?_, text_strange h1.2.1⟩
    have hm : ((k : Int), chrS (97 + (k - 119808) % 52)) ∈ mathL := by
      unfold mathL
      rw [List.mem_filterMap]
      refine ⟨k - 119808, List.mem_range.mpr (by omega), ?_⟩
      have hk : 119808 + (k - 119808) = k := by omega
      have hb : mathB (k - 119808) = true := by
        unfold mathB
        rw [hk, Bool.and_eq_true, decide_eq_true_iff, Bool.not_eq_true']
        refine ⟨h1.2.1, ?_⟩
        cases q : holesN.contains (k : Int) with
        | false => rfl
        | true => exact absurd (List.contains_iff_mem.mp q) h1.2.2
      rw [if_pos hb, hk]
    have hl := lookup_of_mem b3_nodup' (subl_mem math_check _ hm)
    unfold mapB3
    rw [sgn_chr, hl]
  · rw [if_neg h1] at h ⊢
    unfold text1 at h ⊢
    by_cases h2 : (65 ≤ k ∧ k < 81) ∨ (97 ≤ k ∧ k < 113)
    · rw [if_pos h2]
      have := List.all_eq_true.mp ascii_check k (List.mem_range.mpr (by omega))
      have hb : ((decide (65 ≤ k) && decide (k < 81)) || (decide (97 ≤ k) && decide (k < 113))) = true := by
        rw [Bool.or_eq_true, Bool.and_eq_true, Bool.and_eq_true, decide_eq_true_iff, decide_eq_true_iff, decide_eq_true_iff, decide_eq_true_iff]; exact h2
      rw [hb, Bool.not_true, Bool.false_or, decide_eq_true_iff] at this
      exact ⟨this, text_strange (by omega)⟩
    · rw [if_neg h2] at h ⊢
      unfold text0 at h ⊢
      cases e : spellD.lookup (k : Int) with
      | none => rw [e] at h; exact absurd rfl h
      | some x =>
        have := List.all_eq_true.mp spell_check _ (lookup_memI e)
        simp only [Bool.and_eq_true, decide_eq_true_iff, Bool.not_eq_true', Int.toNat_natCast] at this
        exact ⟨this.1.1.2, this.1.2⟩
/-- any other one -/
theorem text_none {k : Nat} (h : text2 k = ("" : Str)) : strangeB (mapB3 (chrS k)) = true := by
  unfold mapB3
  rw [sgn_chr]
  cases e : b3D.lookup (k : Int) with
  | some y =>
    have := List.all_eq_true.mp b3_check _ (lookup_memI e)
    simp only [Bool.and_eq_true, Bool.or_eq_true, decide_eq_true_iff, Int.toNat_natCast] at this
    rcases this.2 with q | q
    · rw [h] at q
      have h2 := List.all_eq_true.mp b3_nonempty _ (lookup_memI e)
      rw [decide_eq_true_iff] at h2
      exact absurd q.symm h2
    · exact q.2
  | none =>
    show strangeB (Txt.lower (chrS k)) = true
    have h304 : k ≠ 304 := by
      rintro rfl
      have := b3_304
      rw [show ((304 : Nat) : Int) = 304 from rfl] at e
      rw [e] at this; cases this
    rw [lower_one h304]
    show ([low k].any fun c => decide (c < 97) || decide (112 < c)) = true
    rw [List.any_cons, List.any_nil, Bool.or_false, Bool.or_eq_true, decide_eq_true_iff, decide_eq_true_iff]
    refine Classical.byContradiction fun q => ?_
    have hl := low_letter (k := k) (by omega) (by omega)
    unfold text2 at h
    by_cases h1 : (119808 ≤ k ∧ k < 120484) ∧ ((k - 119808) % 52 < 16 ∧ (k : Int) ∉ holesN)
    · rw [if_pos h1] at h; exact chrS_ne _ h
    · rw [if_neg h1] at h
      unfold text1 at h
      by_cases h2 : (65 ≤ k ∧ k < 81) ∨ (97 ≤ k ∧ k < 113)
      · rw [if_pos h2] at h; exact chrS_ne _ h
      · rw [if_neg h2] at h
        have hk : k = 8490 := by clear h1; omega
        subst hk
        unfold text0 at h
        cases e2 : spellD.lookup ((8490 : Nat) : Int) with
        | none =>
          have := spell_8490
          rw [show ((8490 : Nat) : Int) = 8490 from rfl] at e2
          rw [e2] at this; cases this
        | some x =>
          rw [e2] at h
          have := List.all_eq_true.mp spell_check _ (lookup_memI e2)
          simp only [Bool.and_eq_true, decide_eq_true_iff] at this
          exact this.2 h
theorem text_word (k : Nat) : dText k = ("" : Str) ∨ dText k = mapB3 (chrS k) := by
  unfold dText
  by_cases h : tabZ k = 6
  · rw [if_pos h]
    by_cases h2 : text2 k = ("" : Str)
    · exact .inl h2
    · exact .inr (text_some h2).1.symm
  · rw [if_neg h]; exact .inr (map_table h).symm

theorem strange_big {k : Nat} (h : 112 < k) : strangeB (chrS k) = true := by
  show ([k].any fun c => decide (c < 97) || decide (112 < c)) = true
  rw [List.any_cons, List.any_nil, Bool.or_false, Bool.or_eq_true, decide_eq_true_iff, decide_eq_true_iff]
  exact .inr h
theorem dec_tt {p : Prop} [Decidable p] (h : p) : decide p = true := decide_eq_true h
/-- what is told of a sign is what is due -/
theorem told_due {k : Nat} (h0 : tabZ k ≠ 0) : toldP k = dParts k ∧ toldDd k = dDeed k ∧ ((toldN k : Nat) : Int) = dNum k := by
  obtain ⟨a0, a1, a2, a3, a4, a5⟩ := asked k
  unfold toldP toldDd toldN dParts dDeed dNum
  rw [a1, a2, a3, a4, a5]
  by_cases h1 : tabZ k = 1
  · rw [if_pos h1, if_pos h1, if_pos h1, decide_eq_true h1]; exact ⟨rfl, rfl, rfl⟩
  · by_cases h2 : tabZ k = 2
    · rw [decide_eq_false h1, decide_eq_true h2, if_neg h1, if_neg h1, if_neg h1, if_pos (Or.inl h2 : tabZ k = 2 ∨ tabZ k = 3), if_pos (Or.inl h2 : tabZ k = 2 ∨ tabZ k = 3), if_pos (Or.inl h2 : tabZ k = 2 ∨ tabZ k = 3)]
      exact ⟨rfl, by rw [h2]; rfl, by rw [h2]; rfl⟩
    · by_cases h3 : tabZ k = 3
      · rw [decide_eq_false h1, decide_eq_false h2, decide_eq_true h3, if_neg h1, if_neg h1, if_neg h1, if_pos (Or.inr h3 : tabZ k = 2 ∨ tabZ k = 3), if_pos (Or.inr h3 : tabZ k = 2 ∨ tabZ k = 3), if_pos (Or.inr h3 : tabZ k = 2 ∨ tabZ k = 3)]
        exact ⟨rfl, by rw [h3]; rfl, by rw [if_pos h3]; rfl⟩
      · have e1 : decide (tabZ k = 1) = false := decide_eq_false h1
        have e2 : decide (tabZ k = 2) = false := decide_eq_false h2
        have e3 : decide (tabZ k = 3) = false := decide_eq_false h3
        have hn : ¬ (tabZ k = 2 ∨ tabZ k = 3) := by omega
        rw [e1, e2, e3, if_neg h1, if_neg h1, if_neg h1, if_neg hn, if_neg hn, if_neg hn]
        refine ⟨rfl, rfl, ?_⟩
        simp only [Bool.false_eq_true, if_false, Bool.or_self]
        by_cases h6 : tabZ k = 6
        · have e4 : decide (tabZ k = 4) = false := decide_eq_false (by omega)
          have e5 : decide (tabZ k = 5) = false := decide_eq_false (by omega)
          rw [e4, e5, if_neg (show ¬ tabZ k ≠ 6 from fun q => q h6)]
          by_cases ht : text2 k = ("" : Str)
          · rw [if_pos ht, if_pos (text_none ht)]; rfl
          · obtain ⟨t1, t2⟩ := text_some ht
            rw [if_neg ht, t1, if_neg (show ¬ strangeB (text2 k) = true by rw [t2]; decide)]
            have := (sum16_lt (letters_16 t2)).1
            omega
        · have h45 : tabZ k = 4 ∨ tabZ k = 5 := by
            have := tab_range k
            omega
          have hbig : 112 < k := by
            rcases h45 with e | e
            · rw [decide_eq_true e] at a4
              have := ((mem_from _ _ _).mp (of_decide_eq_true a4)).1
              omega
            · rw [decide_eq_true e] at a5
              have := (of_decide_eq_true a5).1
              omega
          rw [map_table h6, if_pos (strange_big hbig), if_pos h6]
          rcases h45 with e | e
          · rw [decide_eq_true e]; rfl
          · rw [decide_eq_true e, Bool.or_true]; rfl
theorem told_is {k : Nat} (h0 : tabZ k ≠ 0) : 0 ≤ dParts k ∧ 0 ≤ dNum k ∧ toldD k = .tup [.int (dParts k), .int (dDeed k), .bytes (apL (dNum k).toNat).toArray] := by
  obtain ⟨h1, h2, h3⟩ := told_due h0
  refine ⟨?_, by omega, ?_⟩
  · unfold dParts
    split
    · split <;> decide
    · split <;> decide
  · unfold toldD
    rw [h1, h2, ← h3, Int.toNat_natCast]
/-- the kinds of a thing -/
theorem kinds {k : Nat} (h0 : tabZ k ≠ 0) : (dDeed k = 14 ∧ dParts k = 0) ∨ (dDeed k = 12 ∧ dParts k = 1 ∧ dNum k = 0) ∨ (dDeed k = 13 ∧ dParts k = 1 ∧ dNum k < 16) ∨ (0 ≤ dDeed k ∧ dDeed k < 12 ∧ (dParts k = 2 ∨ dParts k = 3) ∧ dNum k = 0) := by
  unfold dDeed dParts dNum
  have hr := tab_range k
  by_cases e : tabZ k = 1
  · have h := (asked k).2.1
    rw [decide_eq_true e] at h
    have h' := (mem_from _ _ _).mp (of_decide_eq_true h)
    right; right; right
    rw [if_pos e, if_pos e, if_pos e]
    refine ⟨by omega, by omega, ?_, rfl⟩
    split
    · exact .inr rfl
    · exact .inl rfl
  · rw [if_neg e, if_neg e, if_neg e]
    by_cases e2 : tabZ k = 2
    · right; left
      rw [if_pos (.inl e2), if_pos (.inl e2), if_pos (.inl e2), if_neg (show ¬ tabZ k = 3 by omega), e2]
      exact ⟨rfl, rfl, rfl⟩
    · by_cases e3 : tabZ k = 3
      · right; right; left
        rw [if_pos (.inr e3), if_pos (.inr e3), if_pos (.inr e3), if_pos e3, e3]
        exact ⟨rfl, rfl, by omega⟩
      · left
        have hn : ¬ (tabZ k = 2 ∨ tabZ k = 3) := fun h => h.elim e2 e3
        rw [if_neg hn, if_neg hn]
        exact ⟨rfl, rfl⟩
theorem num_small {k : Nat} (h0 : tabZ k ≠ 0) (hk : k ≤ 1114111) : dNum k < 2097152 := by
  obtain ⟨_, _, h3⟩ := told_due h0
  rw [← h3]
  have key : toldN k < 2097152 := by
    unfold toldN
    split
    · decide
    · split
      · split
        · decide
        · omega
      · split
        · split <;> omega
        · rename_i h1 h2 h4
          have hb := sum16_lt (letters_16 (by simpa using h4))
          have hl : (lettersZ (mapB3 (chrS k))).length ≤ 5 := by rw [lettersZ, List.length_map, Array.length_toList]; exact mapB3_short k
          have h5 : (16 : Int) ^ (lettersZ (mapB3 (chrS k))).length = ((16 ^ (lettersZ (mapB3 (chrS k))).length : Nat) : Int) := by rw [Int.natCast_pow]; rfl
          have h6 : 16 ^ (lettersZ (mapB3 (chrS k))).length ≤ 16 ^ 5 := Nat.pow_le_pow_right (by decide) hl
          have h7 : 16 ^ 5 = 1048576 := by decide
          omega
  omega

/-- the value of a thing at its parts' values -/
noncomputable def valOf (q : Quad) (vs : List Nat) : Nat := if q.deed = 14 then q.num else opVal q.deed q.num vs
/-- the reading, with the places of the things' heads -/
noncomputable def readP : List Quad → Option (List (Nat × Nat))
  | [] => some []
  | q :: tl => (readP tl).bind fun p => if p.length < q.parts then none else some ((q.place, valOf q ((p.take q.parts).map (·.2))) :: p.drop q.parts)
theorem readP_R : ∀ l : List Quad, readR l = (readP l).map (List.map (·.2))
  | [] => rfl
  | q :: tl => by
    rw [readR, readP, readP_R tl]
    cases readP tl with
    | none => rfl
    | some p =>
      simp only [Option.map_some, Option.bind_some]
      unfold stackStep
      rw [List.length_map]
      by_cases h : p.length < q.parts
      · rw [if_pos h, if_pos h]; rfl
      · rw [if_neg h, if_neg h]
        simp only [Option.map_some, List.map_cons, List.map_drop, List.map_take]
        rfl
noncomputable def hsum (l : List Quad) : Int := (l.map fun q => (q.parts : Int) - 1).sum
theorem hsum_cons (q : Quad) (l : List Quad) : hsum (q :: l) = (q.parts : Int) - 1 + hsum l := by unfold hsum; rw [List.map_cons, List.sum_cons]
theorem hsum_append (a b : List Quad) : hsum (a ++ b) = hsum a + hsum b := by unfold hsum; rw [List.map_append, List.sum_append]
theorem readP_len : ∀ {l : List Quad} {p : List (Nat × Nat)}, readP l = some p → (p.length : Int) = -hsum l
  | [], p, h => by cases h; rfl
  | q :: tl, p, h => by
    rw [readP] at h
    cases e : readP tl with
    | none => rw [e] at h; cases h
    | some p' =>
      rw [e] at h
      simp only [Option.bind_some] at h
      have ih := readP_len e
      by_cases q1 : p'.length < q.parts
      · rw [if_pos q1] at h; cases h
      · rw [if_neg q1] at h; cases h
        rw [hsum_cons, List.length_cons, List.length_drop]
        omega
/-- when nothing is lacking -/
theorem readP_some : ∀ {l : List Quad}, (readP l).isSome = true ↔ ∀ j, j < l.length → hsum (l.drop j) < 0
  | [] => ⟨fun _ j hj => absurd hj (Nat.not_lt_zero _), fun _ => rfl⟩
  | q :: tl => by
    rw [readP]
    constructor
    · intro h j hj
      cases e : readP tl with
      | none => rw [e] at h; cases h
      | some p =>
        rw [e] at h
        simp only [Option.bind_some] at h
        have hl := readP_len e
        cases j with
        | zero =>
          rw [List.drop_zero, hsum_cons]
          by_cases q1 : p.length < q.parts
          · rw [if_pos q1] at h; cases h
          · omega
        | succ j =>
          rw [List.drop_succ_cons]
          exact (readP_some (l := tl)).mp (by rw [e]; rfl) j (Nat.lt_of_succ_lt_succ hj)
    · intro h
      have ht : (readP tl).isSome = true := readP_some.mpr fun j hj => by
        have := h (j + 1) (Nat.succ_lt_succ hj)
        rwa [List.drop_succ_cons] at this
      obtain ⟨p, e⟩ := Option.isSome_iff_exists.mp ht
      rw [e]
      simp only [Option.bind_some]
      have hl := readP_len e
      have h0 := h 0 (Nat.succ_pos _)
      rw [List.drop_zero, hsum_cons] at h0
      rw [if_neg (by omega)]; rfl
theorem readP_congr {x y : List Quad} (h : readP x = readP y) : ∀ a : List Quad, readP (a ++ x) = readP (a ++ y)
  | [] => h
  | q :: a => by rw [List.cons_append, List.cons_append, readP, readP, readP_congr h a]
theorem readP_tail {x : List Quad} (h : readP x = none) : ∀ a : List Quad, readP (a ++ x) = none
  | [] => h
  | q :: a => by rw [List.cons_append, readP, readP_tail h a]; rfl
/-- the kinds of a thing on the ring -/
noncomputable def KindOk (q : Quad) : Prop := (q.deed = 14 ∧ q.parts = 0) ∨ (q.deed = 12 ∧ q.parts = 1) ∨ (q.deed = 13 ∧ q.parts = 1) ∨ (q.deed ≠ 12 ∧ q.deed ≠ 13 ∧ q.deed ≠ 14 ∧ 2 ≤ q.parts ∧ q.parts ≤ 3)
noncomputable def pv (q : Quad) : Nat × Nat := (q.place, q.num)
/-- plain values go onto the pile -/
theorem readP_vals : ∀ {vs : List Quad} {b : List Quad} {p : List (Nat × Nat)}, (∀ q ∈ vs, q.parts = 0 ∧ q.deed = 14) → readP b = some p → readP (vs ++ b) = some (vs.map pv ++ p)
  | [], b, p, _, h => h
  | q :: vs, b, p, hv, h => by
    obtain ⟨h1, h2⟩ := hv q List.mem_cons_self
    rw [List.cons_append, readP, readP_vals (fun x hx => hv x (List.mem_cons_of_mem _ hx)) h]
    simp only [Option.bind_some]
    rw [h1, if_neg (Nat.not_lt_zero _)]
    unfold valOf
    rw [if_pos h2]
    rfl
theorem vals_all {l : List Quad} {n : Nat} (h : (valsOfQ l).length = n) (hn : l.length ≤ n) : (∀ q ∈ l, q.parts = 0) ∧ valsOfQ l = l.map (·.num) ∧ l.length = n := by
  unfold valsOfQ at h ⊢
  rw [List.length_map] at h
  have h1 := List.length_filter_le (fun q : Quad => q.parts == 0) l
  have h2 : (l.filter fun q => q.parts == 0).length = l.length := by omega
  have h3 : ∀ q ∈ l, (q.parts == 0) = true := List.length_filter_eq_length_iff.mp h2
  refine ⟨fun q hq => by simpa using h3 q hq, ?_, by omega⟩
  rw [List.filter_eq_self.mpr h3]
/-- what a strike does -/
theorem strike_cases (q : Quad) (tl : List Quad) : (strike (q :: tl) = q :: tl ∧ ¬ (0 < q.parts ∧ (valsOfQ (tl.take q.parts)).length = q.parts)) ∨
    (0 < q.parts ∧ (tl.take q.parts).length = q.parts ∧ (∀ x ∈ tl.take q.parts, x.parts = 0) ∧ strike (q :: tl) = ⟨q.place, 0, 14, opVal q.deed q.num ((tl.take q.parts).map (·.num))⟩ :: tl.drop q.parts) := by
  by_cases h : 0 < q.parts ∧ (valsOfQ (tl.take q.parts)).length = q.parts
  · right
    obtain ⟨h1, h2, h3⟩ := vals_all h.2 (by rw [List.length_take]; exact Nat.min_le_left _ _)
    refine ⟨h.1, h3, h1, ?_⟩
    unfold strike
    dsimp only
    rw [if_pos h, h2]
  · left
    refine ⟨?_, h⟩
    unfold strike
    dsimp only
    rw [if_neg h]
/-- a strike leaves the reading as it is -/
theorem read_struck {q : Quad} {vs b : List Quad} (hk : KindOk q) (h0 : 0 < q.parts) (hl : vs.length = q.parts) (hv : ∀ x ∈ vs, x.parts = 0 ∧ x.deed = 14) :
    readP (q :: (vs ++ b)) = readP (⟨q.place, 0, 14, opVal q.deed q.num (vs.map (·.num))⟩ :: b) := by
  rw [readP, readP]
  cases e : readP b with
  | none => rw [readP_tail e vs]; rfl
  | some p =>
    rw [readP_vals hv e]
    simp only [Option.bind_some]
    rw [if_neg (by rw [List.length_append, List.length_map]; omega), if_neg (Nat.not_lt_zero _)]
    have h14 : q.deed ≠ 14 := by rcases hk with h | h | h | h <;> omega
    have e1 : (vs.map pv ++ p).take q.parts = vs.map pv := by
      rw [List.take_append_of_le_length (by rw [List.length_map]; omega), List.take_of_length_le (by rw [List.length_map]; omega)]
    have e2 : (vs.map pv ++ p).drop q.parts = p := by
      rw [← hl, ← List.length_map (as := vs) pv, List.drop_left]
    rw [e1, e2]
    unfold valOf
    rw [if_neg h14, if_pos rfl, List.map_map]
    rfl
/-- some rotation of the ring reads so -/
noncomputable def Good (l : List Quad) (res : List (Nat × Nat)) : Prop := ∃ u v, l = u ++ v ∧ readP (v ++ u) = some res
theorem good_rot {l : List Quad} {res : List (Nat × Nat)} (h : Good l res) : Good (rot l) res := by
  obtain ⟨u, v, rfl, h⟩ := h
  cases u with
  | nil =>
    cases v with
    | nil => exact ⟨[], [], rfl, h⟩
    | cons x v => exact ⟨v, [x], rfl, by simpa using h⟩
  | cons x u => exact ⟨u, v ++ [x], by unfold rot; simp, by simpa using h⟩
theorem good_strike {l : List Quad} {res : List (Nat × Nat)} (hk : ∀ q ∈ l, KindOk q) (h : Good l res) : Good (strike l) res := by
  cases l with
  | nil => exact h
  | cons q tl =>
    rcases strike_cases q tl with ⟨e, _⟩ | ⟨h0, hl, hz, e⟩
    · rw [e]; exact h
    · rw [e]
      have hv : ∀ x ∈ tl.take q.parts, x.parts = 0 ∧ x.deed = 14 := fun x hx => by
        have h1 := hz x hx
        have h2 := hk x (List.mem_cons_of_mem _ (List.mem_of_mem_take hx))
        refine ⟨h1, ?_⟩
        rcases h2 with h | h | h | h <;> omega
      have hq := hk q List.mem_cons_self
      have htl : tl = tl.take q.parts ++ tl.drop q.parts := (List.take_append_drop _ _).symm
      obtain ⟨u, v, e2, h⟩ := h
      cases u with
      | nil =>
        rw [List.nil_append] at e2
        subst e2
        refine ⟨[], _, rfl, ?_⟩
        rw [List.append_nil] at h ⊢
        rw [htl] at h
        rw [← read_struck hq h0 hl hv]; exact h
      | cons x u =>
        rw [List.cons_append] at e2
        injection e2 with e3 e4
        subst e3
        by_cases hu : q.parts ≤ u.length
        · have eu : u = tl.take q.parts ++ u.drop q.parts := by
            rw [e4, List.take_append_of_le_length hu, List.take_append_drop]
          have ed : tl.drop q.parts = u.drop q.parts ++ v := by rw [e4, List.drop_append_of_le_length hu]
          refine ⟨_ :: u.drop q.parts, v, by rw [ed]; rfl, ?_⟩
          rw [← h]
          refine readP_congr ?_ v
          rw [← read_struck hq h0 hl hv, ← eu]
        · exfalso
          have hu' : u.length < q.parts := Nat.lt_of_not_le hu
          have hzu : ∀ x ∈ u, x.parts = 0 ∧ x.deed = 14 := fun x hx => hv x (by
            rw [e4, List.take_append]
            exact List.mem_append.mpr (.inl (by rw [List.take_of_length_le (by omega)]; exact hx)))
          have hr : readP u = some (u.map pv) := by
            have := readP_vals (vs := u) (b := []) (p := []) hzu rfl
            simpa using this
          have hn : readP (q :: u) = none := by
            rw [readP, hr]
            simp only [Option.bind_some, List.length_map]
            rw [if_pos hu']
          rw [readP_tail hn v] at h
          cases h

noncomputable def ops (l : List Quad) : Nat := (l.filter fun q => q.parts != 0).length
theorem ops_append (a b : List Quad) : ops (a ++ b) = ops a + ops b := by unfold ops; rw [List.filter_append, List.length_append]
theorem ops_le (l : List Quad) : ops l ≤ l.length := List.length_filter_le _ _
theorem ops_rot (l : List Quad) : ops (rot l) = ops l := by
  unfold rot
  rw [ops_append, Nat.add_comm, ← ops_append, List.take_append_drop]
theorem len_rot (l : List Quad) : (rot l).length = l.length := by
  unfold rot
  rw [List.length_append, Nat.add_comm, ← List.length_append, List.take_append_drop]
theorem ops_struck {q : Quad} {l : List Quad} (h0 : 0 < q.parts) (n : Nat) (z : Quad) (hz : z.parts = 0) : ops (z :: l.drop n) < ops (q :: l) := by
  have h1 : ops (l.drop n) ≤ ops l := by
    have := ops_append (l.take n) (l.drop n)
    rw [List.take_append_drop] at this
    omega
  unfold ops at h1 ⊢
  rw [List.filter_cons, List.filter_cons]
  have e1 : (z.parts != 0) = false := by rw [hz]; rfl
  have e2 : (q.parts != 0) = true := by rw [bne_iff_ne]; omega
  rw [e1, e2]
  simp only [Bool.false_eq_true, if_false, if_true, List.length_cons]
  omega
theorem ops_strike (l : List Quad) : ops (strike l) ≤ ops l := by
  cases l with
  | nil => exact Nat.le_refl _
  | cons q tl =>
    rcases strike_cases q tl with ⟨e, _⟩ | ⟨h0, _, _, e⟩
    · rw [e]; exact Nat.le_refl _
    · rw [e]; exact Nat.le_of_lt (ops_struck h0 _ _ rfl)
theorem ops_step (l : List Quad) : ops (stepR l) ≤ ops l := by unfold stepR; rw [ops_rot]; exact ops_strike l
theorem step_eq (l : List Quad) : stepR l = rot (strike l) := rfl
theorem ops_step_eq (l : List Quad) : ops (stepR l) = ops (strike l) := by rw [step_eq, ops_rot]
theorem len_step (l : List Quad) : (stepR l).length ≤ l.length := by unfold stepR; rw [len_rot]; exact strike_len l
theorem mem_rot {l : List Quad} {q : Quad} : q ∈ rot l ↔ q ∈ l := by
  unfold rot
  constructor
  · intro h
    rcases List.mem_append.mp h with h | h
    · exact List.mem_of_mem_drop h
    · exact List.mem_of_mem_take h
  · intro h
    rw [← List.take_append_drop 1 l] at h
    exact List.mem_append.mpr ((List.mem_append.mp h).symm)
theorem kind_strike {l : List Quad} (h : ∀ q ∈ l, KindOk q) : ∀ q ∈ strike l, KindOk q := by
  cases l with
  | nil => exact h
  | cons q tl =>
    rcases strike_cases q tl with ⟨e, _⟩ | ⟨h0, _, _, e⟩
    · rw [e]; exact h
    · rw [e]
      intro x hx
      rcases List.mem_cons.mp hx with rfl | hx
      · exact .inl ⟨rfl, rfl⟩
      · exact h x (List.mem_cons_of_mem _ (List.mem_of_mem_drop hx))
theorem kind_step {l : List Quad} (h : ∀ q ∈ l, KindOk q) : ∀ q ∈ stepR l, KindOk q := fun q hq => kind_strike h q (mem_rot.mp hq)
theorem good_step {l : List Quad} {res : List (Nat × Nat)} (hk : ∀ q ∈ l, KindOk q) (h : Good l res) : Good (stepR l) res := good_rot (good_strike hk h)
theorem iter_add {α : Type} (f : α → α) (a : Nat) : ∀ (b : Nat) (x : α), iter f (b + a) x = iter f b (iter f a x)
  | 0, x => by rw [Nat.zero_add]; rfl
  | b + 1, x => by
    rw [show b + 1 + a = (b + a) + 1 by omega]
    show f (iter f (b + a) x) = f (iter f b (iter f a x))
    rw [iter_add f a b x]
theorem kind_iter {l : List Quad} (h : ∀ q ∈ l, KindOk q) : ∀ n, ∀ q ∈ iter stepR n l, KindOk q
  | 0 => h
  | n + 1 => kind_step (kind_iter h n)
theorem good_iter {l : List Quad} {res : List (Nat × Nat)} (hk : ∀ q ∈ l, KindOk q) (h : Good l res) : ∀ n, Good (iter stepR n l) res
  | 0 => h
  | n + 1 => good_step (kind_iter hk n) (good_iter hk h n)
theorem len_iter (l : List Quad) : ∀ n, (iter stepR n l).length ≤ l.length
  | 0 => Nat.le_refl _
  | n + 1 => Nat.le_trans (len_step _) (len_iter l n)
theorem ops_mono (l : List Quad) : ∀ {n m : Nat}, n ≤ m → ops (iter stepR m l) ≤ ops (iter stepR n l) := fun {n m} h => by
  obtain ⟨k, rfl⟩ := Nat.exists_eq_add_of_le h
  rw [Nat.add_comm, iter_add]
  clear h
  generalize iter stepR n l = x
  induction k with
  | zero => exact Nat.le_refl _
  | succ k ih => exact Nat.le_trans (ops_step _) ih
theorem rot_split {α : Type} (u v : List α) : iter rot u.length (u ++ v) = v ++ u := by
  induction u generalizing v with
  | nil => simp [iter]
  | cons x u ih =>
    rw [List.length_cons, iter_add rot 1 u.length]
    have e : iter rot 1 (x :: u ++ v) = u ++ (v ++ [x]) := by
      show rot (x :: u ++ v) = _
      unfold rot
      simp
    rw [e, ih]
    simp
/-- the last thing that asks for parts -/
theorem last_op : ∀ {l : List Quad}, 0 < ops l → ∃ a q b, l = a ++ q :: b ∧ 0 < q.parts ∧ ∀ x ∈ b, x.parts = 0
  | [], h => absurd h (Nat.lt_irrefl _)
  | x :: l, h => by
    by_cases h1 : 0 < ops l
    · obtain ⟨a, q, b, e, h2, h3⟩ := last_op h1
      exact ⟨x :: a, q, b, by rw [e]; rfl, h2, h3⟩
    · have hz : ∀ y ∈ l, y.parts = 0 := fun y hy => by
        have h4 : (l.filter fun q => q.parts != 0) = [] := List.length_eq_zero_iff.mp (by unfold ops at h1; omega)
        have := List.filter_eq_nil_iff.mp h4 y hy
        simpa using this
      refine ⟨[], x, l, rfl, ?_, hz⟩
      refine Nat.pos_of_ne_zero fun e => ?_
      unfold ops at h h1
      rw [List.filter_cons, show (x.parts != 0) = false by rw [e]; rfl] at h
      simp only [Bool.false_eq_true, if_false] at h
      exact h1 h
/-- somewhere on the ring something can be struck -/
theorem can_strike {l : List Quad} {res : List (Nat × Nat)} (hk : ∀ q ∈ l, KindOk q) (hg : Good l res) (ho : 0 < ops l) :
    ∃ j, j < l.length ∧ ops (strike (iter rot j l)) < ops l := by
  obtain ⟨u, v, rfl, hr⟩ := hg
  have ho' : 0 < ops (v ++ u) := by rw [ops_append, Nat.add_comm, ← ops_append]; exact ho
  obtain ⟨a, q, b, e, h0, hz⟩ := last_op ho'
  have hkv : ∀ x ∈ b, x.parts = 0 ∧ x.deed = 14 := fun x hx => by
    have h1 := hz x hx
    have hm : x ∈ v ++ u := by rw [e]; simp [hx]
    have h2 := hk x (by rcases List.mem_append.mp hm with h | h <;> simp [h])
    refine ⟨h1, ?_⟩
    rcases h2 with h | h | h | h <;> omega
  have hb : q.parts ≤ b.length := by
    refine Nat.le_of_not_lt fun hlt => ?_
    have hrb : readP b = some (b.map pv) := by
      have := readP_vals (vs := b) (b := []) (p := []) hkv rfl
      simpa using this
    have hn : readP (q :: b) = none := by
      rw [readP, hrb]
      simp only [Option.bind_some, List.length_map]
      rw [if_pos hlt]
    rw [e, readP_tail hn a] at hr
    cases hr
  have struck : ∀ tl : List Quad, ops (strike (q :: (b ++ tl))) < ops (q :: (b ++ tl)) := fun tl => by
    rcases strike_cases q (b ++ tl) with ⟨_, hno⟩ | ⟨h1, _, _, e1⟩
    · exfalso
      apply hno
      refine ⟨h0, ?_⟩
      rw [List.take_append_of_le_length hb]
      have : ∀ x ∈ b.take q.parts, (x.parts == 0) = true := fun x hx => by simpa using hz x (List.mem_of_mem_take hx)
      unfold valsOfQ
      rw [List.filter_eq_self.mpr this, List.length_map, List.length_take]
      omega
    · rw [e1]; exact ops_struck h1 _ _ rfl
  have opsEq : ∀ {x y : List Quad}, ops (x ++ y) = ops (y ++ x) := fun {x y} => by rw [ops_append, ops_append, Nat.add_comm]
  rcases List.append_eq_append_iff.mp e with ⟨a', e1, e2⟩ | ⟨b', e1, e2⟩
  · have el : u ++ v = a' ++ (q :: (b ++ v)) := by rw [e2]; simp
    have er : iter rot a'.length (u ++ v) = q :: (b ++ (v ++ a')) := by rw [el, rot_split]; simp
    refine ⟨a'.length, by rw [el]; simp only [List.length_append, List.length_cons]; omega, ?_⟩
    rw [er]
    refine Nat.lt_of_lt_of_eq (struck _) ?_
    rw [el, opsEq (x := a')]
    congr 1
    simp
  · cases b' with
    | nil =>
      rw [List.append_nil] at e1
      rw [List.nil_append] at e2
      subst e1
      have el : u ++ v = q :: (b ++ v) := by rw [← e2]; rfl
      refine ⟨0, by rw [el]; simp only [List.length_append, List.length_cons]; omega, ?_⟩
      show ops (strike (u ++ v)) < _
      rw [el]
      exact struck _
    | cons x b' =>
      rw [List.cons_append] at e2
      injection e2 with e3 e4
      subst e3
      have el : u ++ v = (u ++ a) ++ (q :: b') := by rw [e1]; simp
      have er : iter rot (u ++ a).length (u ++ v) = q :: (b ++ a) := by rw [el, rot_split, e4]; simp
      refine ⟨(u ++ a).length, by rw [el]; simp only [List.length_append, List.length_cons]; omega, ?_⟩
      rw [er]
      refine Nat.lt_of_lt_of_eq (struck _) ?_
      rw [el, opsEq (x := u ++ a), e4]
      congr 1
      simp
theorem struck_iter {l : List Quad} : ∀ j, (∀ i, i < j → strike (iter rot i l) = iter rot i l) → iter stepR j l = iter rot j l
  | 0, _ => rfl
  | j + 1, h => by
    show stepR (iter stepR j l) = rot (iter rot j l)
    rw [struck_iter j fun i hi => h i (Nat.lt_succ_of_lt hi)]
    unfold stepR
    rw [h j (Nat.lt_succ_self j)]
theorem same_of_ops {l : List Quad} (h : ops (strike l) = ops l) : strike l = l := by
  cases l with
  | nil => rfl
  | cons q tl =>
    rcases strike_cases q tl with ⟨e, _⟩ | ⟨h0, _, _, e⟩
    · exact e
    · rw [e] at h
      exact absurd h (Nat.ne_of_lt (ops_struck h0 _ _ rfl))
/-- a whole round strikes -/
theorem round_strikes {l : List Quad} {res : List (Nat × Nat)} (hk : ∀ q ∈ l, KindOk q) (hg : Good l res) (ho : 0 < ops l) {N : Nat} (hN : l.length ≤ N) : ops (iter stepR N l) < ops l := by
  obtain ⟨j, hj, hs⟩ := can_strike hk hg ho
  refine Nat.lt_of_le_of_lt (ops_mono l (show j + 1 ≤ N by omega)) ?_
  refine Nat.lt_of_le_of_ne (ops_mono l (Nat.zero_le _)) fun e => ?_
  have heq : ∀ i, i ≤ j + 1 → ops (iter stepR i l) = ops l := fun i hi => by
    have h1 := ops_mono l hi
    have h2 := ops_mono l (Nat.zero_le i)
    show _ = ops (iter stepR 0 l)
    have h3 : ops (iter stepR 0 l) = ops l := rfl
    omega
  have key : ∀ i, i ≤ j → iter stepR i l = iter rot i l := by
    intro i
    induction i with
    | zero => intro _; rfl
    | succ i ih =>
      intro hi
      have e1 := ih (by omega)
      show stepR (iter stepR i l) = rot (iter rot i l)
      have h1 := heq (i + 1) (by omega)
      have h2 := heq i (by omega)
      have h3 : ops (strike (iter stepR i l)) = ops (iter stepR i l) := by
        have : ops (stepR (iter stepR i l)) = ops l := h1
        rw [ops_step_eq] at this
        rw [this, h2]
      rw [step_eq, same_of_ops h3, e1]
  have h4 : ops (stepR (iter stepR j l)) = ops l := heq (j + 1) (Nat.le_refl _)
  rw [ops_step_eq, key j (Nat.le_refl _)] at h4
  omega
theorem rounds {n : Nat} : ∀ (k : Nat) {l : List Quad} {res : List (Nat × Nat)}, (∀ q ∈ l, KindOk q) → Good l res → l.length ≤ n → ops (iter stepR (n * k) l) ≤ ops l - k
  | 0, l, res, _, _, _ => Nat.le_refl _
  | k + 1, l, res, hk, hg, hn => by
    have ih := rounds k hk hg hn
    rw [Nat.mul_succ, Nat.add_comm, iter_add]
    by_cases h0 : 0 < ops (iter stepR (n * k) l)
    · have := round_strikes (kind_iter hk (n * k)) (good_iter hk hg (n * k)) h0 (N := n) (Nat.le_trans (len_iter l _) hn)
      omega
    · have := ops_mono (iter stepR (n * k) l) (Nat.zero_le n)
      have h1 : ops (iter stepR 0 (iter stepR (n * k) l)) = ops (iter stepR (n * k) l) := rfl
      omega
/-- n times n turns strike all -/
theorem all_struck {l : List Quad} {res : List (Nat × Nat)} (hk : ∀ q ∈ l, KindOk q) (hg : Good l res) : ∀ q ∈ iter stepR (l.length * l.length) l, q.parts = 0 ∧ q.deed = 14 := fun q hq => by
  have h := rounds (n := l.length) l.length hk hg (Nat.le_refl _)
  have h1 := ops_le l
  have h2 : (iter stepR (l.length * l.length) l).filter (fun q => q.parts != 0) = [] := List.length_eq_zero_iff.mp (by unfold ops at h h1; omega)
  have h3 := List.filter_eq_nil_iff.mp h2 q hq
  have h4 : q.parts = 0 := by simpa using h3
  refine ⟨h4, ?_⟩
  have := kind_iter hk (l.length * l.length) q hq
  rcases this with h | h | h | h <;> omega

set_option exponentiation.threshold 5000
/-- a rotation of a ring in the order of the places -/
noncomputable def CycS (l : List Quad) : Prop := ∃ a b, l = b ++ a ∧ ((a ++ b).map (·.place)).Pairwise (· < ·)
theorem cyc_rot {l : List Quad} (h : CycS l) : CycS (rot l) := by
  obtain ⟨a, b, rfl, h⟩ := h
  cases b with
  | nil =>
    cases a with
    | nil => exact ⟨[], [], rfl, h⟩
    | cons x a => exact ⟨[x], a, by unfold rot; simp, by simpa using h⟩
  | cons x b => exact ⟨a ++ [x], b, by unfold rot; simp, by simpa using h⟩
theorem cyc_strike {l : List Quad} (h : CycS l) : CycS (strike l) := by
  cases l with
  | nil => exact h
  | cons q tl =>
    rcases strike_cases q tl with ⟨e, _⟩ | ⟨h0, _, _, e⟩
    · rw [e]; exact h
    · rw [e]
      obtain ⟨a, b, e2, h⟩ := h
      cases b with
      | nil =>
        rw [List.nil_append] at e2
        subst e2
        refine ⟨_, [], rfl, ?_⟩
        rw [List.append_nil] at h ⊢
        refine h.sublist ?_
        rw [List.map_cons, List.map_cons]
        exact (((List.drop_sublist q.parts tl).map _)).cons_cons _
      | cons x b =>
        rw [List.cons_append] at e2
        injection e2 with e3 e4
        subst e3
        rw [e4, List.drop_append]
        refine ⟨a.drop (q.parts - b.length), _ :: b.drop q.parts, rfl, ?_⟩
        refine h.sublist ?_
        rw [List.map_append, List.map_append, List.map_cons, List.map_cons]
        exact (((List.drop_sublist _ a).map _)).append ((((List.drop_sublist q.parts b).map _)).cons_cons _)
theorem cyc_iter {l : List Quad} (h : CycS l) : ∀ n, CycS (iter stepR n l)
  | 0 => h
  | n + 1 => cyc_rot (cyc_strike (cyc_iter h n))

noncomputable def potN : List Nat → Nat
  | [] => 1
  | v :: l => 16 * (v + 1) * potN l
noncomputable def pot (l : List Quad) : Nat := potN (l.map (·.num))
theorem potN_pos : ∀ l, 1 ≤ potN l
  | [] => Nat.le_refl _
  | v :: l => by
    rw [potN]
    exact Nat.mul_le_mul (show 1 ≤ 16 * (v + 1) by omega) (potN_pos l)
theorem potN_append : ∀ a b, potN (a ++ b) = potN a * potN b
  | [], b => by rw [List.nil_append, potN, Nat.one_mul]
  | v :: a, b => by rw [List.cons_append, potN, potN, potN_append a b]; simp only [Nat.mul_assoc]
theorem potN_mem : ∀ {l : List Nat} {v : Nat}, v ∈ l → 16 * (v + 1) ≤ potN l
  | x :: l, v, h => by
    rw [potN]
    rcases List.mem_cons.mp h with rfl | h
    · exact Nat.le_mul_of_pos_right _ (potN_pos l)
    · exact Nat.le_trans (potN_mem h) (Nat.le_mul_of_pos_left _ (by omega))
theorem joined_bound : ∀ (vs : List Nat) (n : Nat), joined n vs + 1 ≤ (n + 1) * potN vs
  | [], n => by
    rw [potN, Nat.mul_one]; exact Nat.le_refl _
  | v :: vs, n => by
    have e : joined n (v :: vs) = joined (n * powAbove 1 v + v) vs := rfl
    rw [e, potN]
    refine Nat.le_trans (joined_bound vs _) ?_
    rw [← Nat.mul_assoc]
    refine Nat.mul_le_mul_right _ ?_
    have hp := powAbove_le (v + 1) 1 v (by omega) (by decide)
    have hp' : powAbove 1 v ≤ 16 * (v + 1) := by omega
    have h1 : n * powAbove 1 v ≤ n * (16 * (v + 1)) := Nat.mul_le_mul_left n hp'
    have h2 : (n + 1) * (16 * (v + 1)) = n * (16 * (v + 1)) + 16 * (v + 1) := by rw [Nat.add_mul, Nat.one_mul]
    omega
theorem turned_bound : ∀ (r n : Nat), turned n r + 1 ≤ (n + 1) * powAbove 1 r := by
  intro r
  induction r using Nat.strongRecOn with
  | _ r ih =>
    intro n
    by_cases h : r = 0
    · subst h
      rw [turned, dif_pos rfl, powAbove, dif_neg (by omega), Nat.mul_one]
      exact Nat.le_refl _
    · rw [turned, dif_neg h]
      refine Nat.le_trans (ih (r / 16) (Nat.div_lt_self (Nat.pos_of_ne_zero h) (by decide)) _) ?_
      have e : powAbove 1 r = powAbove 1 (r / 16) * 16 := by
        rw [powAbove.eq_def 1 r, dif_pos ⟨by omega, by decide⟩, powAbove_step (r + 1) 1 r (by omega) (by decide)]
      rw [e, Nat.mul_comm (powAbove 1 (r / 16)) 16, ← Nat.mul_assoc]
      refine Nat.mul_le_mul_right _ ?_
      omega
theorem sum_bound : ∀ vs : List Nat, vs.sum + 1 ≤ potN vs
  | [] => Nat.le_refl _
  | v :: vs => by
    have ih := sum_bound vs
    have hp := potN_pos vs
    rw [List.sum_cons, potN]
    have h1 : (v + 1) * potN vs = v * potN vs + potN vs := by rw [Nat.add_mul, Nat.one_mul]
    have h2 : v * 1 ≤ v * potN vs := Nat.mul_le_mul_left v hp
    have h3 : 16 * (v + 1) * potN vs = 16 * ((v + 1) * potN vs) := Nat.mul_assoc ..
    omega
theorem sum_cast (vs : List Nat) : (vs.map fun (v : Nat) => (v : Int)).sum = (vs.sum : Int) := by
  induction vs with
  | nil => rfl
  | cons v vs ih => rw [List.map_cons, List.sum_cons, List.sum_cons, ih]; omega
/-- no deed makes more than its parts -/
theorem op_bound {deed : Int} {num : Nat} {vs : List Nat} (h : (deed = 12 ∧ vs.length = 1) ∨ (deed = 13 ∧ vs.length = 1) ∨ (deed ≠ 12 ∧ deed ≠ 13 ∧ 2 ≤ vs.length)) : opVal deed num vs + 1 ≤ (num + 1) * potN vs := by
  have hp := potN_pos vs
  have hmul : potN vs ≤ (num + 1) * potN vs := Nat.le_mul_of_pos_left _ (by omega)
  unfold opVal
  rcases h with ⟨hd, hl⟩ | ⟨hd, hl⟩ | ⟨h12, h13, hl⟩
  · match vs, hl with
    | [v], _ =>
      simp only [if_pos (show deed = 0 ∨ deed = 2 ∨ deed = 12 from .inr (.inr hd)), if_pos hd, if_neg (show ¬ (deed = 0 ∨ deed = 2) by omega), List.getD_cons_zero]
      have h1 := turned_bound v 0
      have hp2 := powAbove_le (v + 1) 1 v (by omega) (by decide)
      rw [potN, potN] at hmul ⊢
      omega
  · match vs, hl with
    | [v], _ =>
      simp only [if_neg (show ¬ (deed = 0 ∨ deed = 2 ∨ deed = 12) by omega), if_neg (show ¬ deed = 12 by omega), if_neg (show ¬ (deed = 0 ∨ deed = 2) by omega)]
      unfold plainZ
      rw [if_pos hd]
      simp only [List.map_cons, List.map_nil, List.getD_cons_zero]
      have e : ((v : Int) * 16 + (num : Int)).natAbs = v * 16 + num := by omega
      rw [e, potN, potN, Nat.mul_one]
      have h2 : (num + 1) * (16 * (v + 1)) = num * (16 * (v + 1)) + 16 * (v + 1) := by rw [Nat.add_mul, Nat.one_mul]
      have h3 : num * 1 ≤ num * (16 * (v + 1)) := Nat.mul_le_mul_left _ (by omega)
      omega
  · by_cases h02 : deed = 0 ∨ deed = 2
    · have h3 : deed = 0 ∨ deed = 2 ∨ deed = 12 := by omega
      simp only [if_pos h3, if_pos h02, if_neg h12]
      have := joined_bound vs 0
      omega
    · have h3 : ¬ (deed = 0 ∨ deed = 2 ∨ deed = 12) := by omega
      simp only [if_neg h3, if_neg h02, if_neg h12]
      refine Nat.le_trans ?_ hmul
      unfold plainZ
      rw [if_neg h13]
      by_cases hs : deed = 1 ∨ deed = 3
      · rw [if_pos hs, sum_cast, Int.natAbs_natCast]
        exact sum_bound vs
      · rw [if_neg hs]
        match vs, hl with
        | v :: u :: l, _ =>
          simp only [List.map_cons, List.getD_cons_zero, List.getD_cons_succ]
          have h1 := sum_bound (v :: u :: l)
          rw [List.sum_cons, List.sum_cons] at h1
          omega
theorem kind_bound {q : Quad} {vs : List Nat} (hk : KindOk q) (h0 : 0 < q.parts) (hl : vs.length = q.parts) : opVal q.deed q.num vs + 1 ≤ (q.num + 1) * potN vs := by
  apply op_bound
  rcases hk with h | h | h | h
  · omega
  · exact .inl ⟨h.1, by omega⟩
  · exact .inr (.inl ⟨h.1, by omega⟩)
  · exact .inr (.inr ⟨h.1, h.2.1, by omega⟩)
theorem pot_rot (l : List Quad) : pot (rot l) = pot l := by
  unfold pot rot
  rw [List.map_append, potN_append, Nat.mul_comm, ← potN_append, ← List.map_append, List.take_append_drop]
theorem pot_strike {l : List Quad} (hk : ∀ q ∈ l, KindOk q) : pot (strike l) ≤ pot l := by
  cases l with
  | nil => exact Nat.le_refl _
  | cons q tl =>
    rcases strike_cases q tl with ⟨e, _⟩ | ⟨h0, hl, _, e⟩
    · rw [e]; exact Nat.le_refl _
    · rw [e]
      unfold pot
      have htl : tl.map (·.num) = (tl.take q.parts).map (·.num) ++ (tl.drop q.parts).map (·.num) := by rw [← List.map_append, List.take_append_drop]
      rw [List.map_cons, List.map_cons, potN, potN, htl, potN_append, ← Nat.mul_assoc]
      refine Nat.mul_le_mul_right _ ?_
      rw [Nat.mul_assoc]
      exact Nat.mul_le_mul_left _ (kind_bound (hk q List.mem_cons_self) h0 (by rw [List.length_map]; exact hl))
theorem pot_iter {l : List Quad} (hk : ∀ q ∈ l, KindOk q) : ∀ n, pot (iter stepR n l) ≤ pot l
  | 0 => Nat.le_refl _
  | n + 1 => by
    show pot (stepR _) ≤ _
    rw [step_eq, pot_rot]
    exact Nat.le_trans (pot_strike (kind_iter hk n)) (pot_iter hk n)
theorem read_pot : ∀ {l : List Quad} {p : List (Nat × Nat)}, (∀ q ∈ l, KindOk q) → readP l = some p → potN (p.map (·.2)) ≤ pot l
  | [], p, _, h => by cases h; exact Nat.le_refl _
  | q :: tl, p, hk, h => by
    rw [readP] at h
    cases e : readP tl with
    | none => rw [e] at h; cases h
    | some p' =>
      rw [e] at h
      simp only [Option.bind_some] at h
      have ih := read_pot (fun x hx => hk x (List.mem_cons_of_mem _ hx)) e
      by_cases q1 : p'.length < q.parts
      · rw [if_pos q1] at h; cases h
      · rw [if_neg q1] at h; cases h
        have hsp : p'.map (·.2) = (p'.take q.parts).map (·.2) ++ (p'.drop q.parts).map (·.2) := by rw [← List.map_append, List.take_append_drop]
        rw [hsp, potN_append] at ih
        unfold pot at ih ⊢
        rw [List.map_cons, List.map_cons, potN, potN]
        have hv : valOf q ((p'.take q.parts).map (·.2)) + 1 ≤ (q.num + 1) * potN ((p'.take q.parts).map (·.2)) := by
          unfold valOf
          have hkq := hk q List.mem_cons_self
          by_cases h14 : q.deed = 14
          · rw [if_pos h14]
            exact Nat.le_mul_of_pos_right _ (potN_pos _)
          · rw [if_neg h14]
            refine kind_bound hkq ?_ (by rw [List.length_map, List.length_take]; omega)
            rcases hkq with h | h | h | h <;> omega
        refine Nat.le_trans (Nat.mul_le_mul_right _ (Nat.mul_le_mul_left 16 hv)) ?_
        simp only [Nat.mul_assoc]
        exact Nat.mul_le_mul_left 16 (Nat.mul_le_mul_left _ ih)
theorem pot_small : ∀ (l : List Quad) (n : Nat), (∀ q ∈ l, q.num < 2097152) → l.length ≤ n → pot l ≤ 33554432 ^ n
  | [], n, _, _ => by
    unfold pot
    exact Nat.one_le_pow _ _ (by decide)
  | q :: l, n, h, hn => by
    cases n with
    | zero => simp at hn
    | succ n =>
      have ih := pot_small l n (fun x hx => h x (List.mem_cons_of_mem _ hx)) (by simpa using hn)
      have h1 := h q List.mem_cons_self
      unfold pot at ih ⊢
      rw [List.map_cons, potN, Nat.pow_succ, Nat.mul_comm]
      exact Nat.mul_le_mul ih (by omega)
theorem pow_4000 : 33554432 ^ 9 < 2 ^ 4000 := by
  have e : (33554432 : Nat) = 2 ^ 25 := by decide
  rw [e, ← Nat.pow_mul]
  exact Nat.pow_lt_pow_right (by decide) (by decide)
theorem num_of_pot {l : List Quad} {q : Quad} (h : pot l < 2 ^ 4000) (hq : q ∈ l) : q.num < 2 ^ 4000 := by
  have := potN_mem (l := l.map (·.num)) (v := q.num) (List.mem_map.mpr ⟨q, hq, rfl⟩)
  unfold pot at h
  generalize (2 : Nat) ^ 4000 = B at h ⊢
  omega

noncomputable def hAt (l : List Quad) (j : Nat) : Int := hsum (l.take j)
noncomputable def heightsL (l : List Quad) : List Int := (List.range (l.length + 1)).map (hAt l)
theorem hAt_zero (l : List Quad) : hAt l 0 = 0 := rfl
theorem hAt_all (l : List Quad) : hAt l l.length = hsum l := by unfold hAt; rw [List.take_length]
theorem hAt_step (l : List Quad) (j : Nat) : hAt l j - 1 ≤ hAt l (j + 1) := by
  unfold hAt
  rw [List.take_add_one, hsum_append]
  cases l[j]? with
  | none => simp only [Option.toList_none, hsum, List.map_nil, List.sum_nil]; omega
  | some q => simp only [Option.toList_some, hsum, List.map_cons, List.map_nil, List.sum_cons, List.sum_nil]; omega
theorem hsum_drop (l : List Quad) (j : Nat) : hsum (l.drop j) = hsum l - hAt l j := by
  have := hsum_append (l.take j) (l.drop j)
  rw [List.take_append_drop] at this
  unfold hAt; omega
/-- going down, each height is met -/
theorem met {l : List Quad} {v : Int} (hv : v ≤ 0) : ∀ i, hAt l i < v → ∃ j, j < i ∧ hAt l j = v
  | 0, h => by rw [hAt_zero] at h; omega
  | i + 1, h => by
    have h1 := hAt_step l i
    by_cases q : hAt l i < v
    · obtain ⟨j, h2, h3⟩ := met hv i q
      exact ⟨j, by omega, h3⟩
    · exact ⟨i, Nat.lt_succ_self i, by omega⟩
theorem heights_len (l : List Quad) : (heightsL l).length = l.length + 1 := by unfold heightsL; rw [List.length_map, List.length_range]
theorem heights_at {l : List Quad} {j : Nat} (h : j < (heightsL l).length) : (heightsL l)[j] = hAt l j := by
  simp only [heightsL, List.getElem_map, List.getElem_range]
theorem mem_heights {l : List Quad} {v : Int} : v ∈ heightsL l ↔ ∃ j, j ≤ l.length ∧ hAt l j = v := by
  unfold heightsL
  rw [List.mem_map]
  constructor
  · rintro ⟨j, hj, e⟩; exact ⟨j, by have := List.mem_range.mp hj; omega, e⟩
  · rintro ⟨j, hj, e⟩; exact ⟨j, List.mem_range.mpr (by omega), e⟩
/-- the first place of a height -/
theorem first_at {l : List Quad} {v : Int} (h : v ∈ heightsL l) : (heightsL l).idxOf v ≤ l.length ∧ hAt l ((heightsL l).idxOf v) = v ∧ ∀ i, i < (heightsL l).idxOf v → hAt l i ≠ v := by
  have hl := List.idxOf_lt_length_of_mem h
  have h1 : (heightsL l)[(heightsL l).idxOf v] = v := List.getElem_idxOf hl
  refine ⟨by rw [heights_len] at hl; omega, by rw [← heights_at hl]; exact h1, fun i hi e => ?_⟩
  have hi' : i < (heightsL l).length := Nat.lt_trans hi hl
  have h2 : (heightsL l)[i] = v := by rw [heights_at hi']; exact e
  have := List.not_of_lt_findIdx (p := (· == v)) (xs := heightsL l) hi
  rw [h2] at this
  simp at this
theorem idx_of_first {l : List Quad} {c : Nat} (hc : c ≤ l.length) (h : ∀ i, i < c → hAt l i ≠ hAt l c) : (heightsL l).idxOf (hAt l c) = c := by
  have hm : hAt l c ∈ heightsL l := mem_heights.mpr ⟨c, hc, rfl⟩
  obtain ⟨h1, h2, h3⟩ := first_at hm
  rcases Nat.lt_trichotomy ((heightsL l).idxOf (hAt l c)) c with q | q | q
  · exact absurd h2 (h _ q)
  · exact q
  · exact absurd rfl (h3 c q)

/-- from here the ring can be read -/
noncomputable def Valid (l : List Quad) (c : Nat) : Prop := c < l.length ∧ (∀ i, i < c → hAt l c < hAt l i) ∧ (∀ i, c ≤ i → i < l.length → hAt l c + hsum l < hAt l i)
noncomputable def turnedAt {α : Type} (l : List α) (c : Nat) : List α := l.drop c ++ l.take c
theorem turned_len {α : Type} (l : List α) (c : Nat) : (turnedAt l c).length = l.length := by
  unfold turnedAt
  rw [List.length_append, List.length_drop, List.length_take]; omega
theorem valid_iff {l : List Quad} {c : Nat} (hc : c < l.length) : (readP (turnedAt l c)).isSome = true ↔ Valid l c := by
  rw [readP_some]
  have early : ∀ j, c + j ≤ l.length → hsum ((turnedAt l c).drop j) = hsum l - hAt l (c + j) + hAt l c := fun j hj => by
    unfold turnedAt
    rw [List.drop_append_of_le_length (by rw [List.length_drop]; omega), hsum_append, List.drop_drop, hsum_drop]
    rfl
  have late : ∀ j, j ≤ c → hsum ((turnedAt l c).drop ((l.length - c) + j)) = hAt l c - hAt l j := fun j hj => by
    unfold turnedAt
    have e : l.length - c = (l.drop c).length := by rw [List.length_drop]
    rw [e, List.drop_length_add_append, hsum_drop]
    unfold hAt
    rw [List.take_take, Nat.min_eq_left hj]
  rw [turned_len]
  constructor
  · intro h
    refine ⟨hc, fun i hi => ?_, fun i hi hl => ?_⟩
    · have := h ((l.length - c) + i) (by omega)
      rw [late i (Nat.le_of_lt hi)] at this
      omega
    · have := h (i - c) (by omega)
      rw [early (i - c) (by omega), show c + (i - c) = i by omega] at this
      omega
  · rintro ⟨_, h1, h2⟩ j hj
    by_cases q : j < l.length - c
    · rw [early j (by omega)]
      have := h2 (c + j) (by omega) (by omega)
      omega
    · have e : j = (l.length - c) + (j - (l.length - c)) := by omega
      rw [e, late _ (by omega)]
      have := h1 (j - (l.length - c)) (by omega)
      omega
/-- the lowest height -/
structure Lowest (l : List Quad) (mu : Int) : Prop where
  at' : ∃ i, i < l.length ∧ hAt l i = mu
  le : ∀ i, i < l.length → mu ≤ hAt l i
theorem cut_valid {l : List Quad} {mu : Int} (hm : Lowest l mu) {k : Nat} (hk : (k : Int) < -hsum l) : mu + k ∈ heightsL l ∧ Valid l ((heightsL l).idxOf (mu + k)) ∧ hAt l ((heightsL l).idxOf (mu + k)) = mu + k := by
  obtain ⟨i0, hi0, e0⟩ := hm.at'
  have hn : 0 < l.length := by omega
  have hlast := hm.le (l.length - 1) (by omega)
  have hst := hAt_step l (l.length - 1)
  rw [show l.length - 1 + 1 = l.length by omega, hAt_all] at hst
  have hv : mu + k ≤ 0 := by omega
  have hex : ∃ j, j < l.length ∧ hAt l j = mu + k := by
    by_cases q : k = 0
    · subst q; exact ⟨i0, hi0, by omega⟩
    · have hlt : hAt l i0 < mu + (k : Int) := by omega
      obtain ⟨j, h1, h2⟩ := met hv i0 hlt
      exact ⟨j, by omega, h2⟩
  obtain ⟨j, hj, ej⟩ := hex
  have hmem : mu + k ∈ heightsL l := mem_heights.mpr ⟨j, by omega, ej⟩
  obtain ⟨h1, h2, h3⟩ := first_at hmem
  have hcj : (heightsL l).idxOf (mu + k) ≤ j := Nat.le_of_not_lt fun q => h3 j q ej
  refine ⟨hmem, ⟨by omega, fun i hi => ?_, fun i hi hl => ?_⟩, h2⟩
  · rw [h2]
    refine Int.lt_of_not_ge fun q => ?_
    have hne := h3 i hi
    have hlt : hAt l i < mu + (k : Int) := by
      rcases Int.lt_or_eq_of_le q with q | q
      · exact q
      · exact absurd q hne
    obtain ⟨j2, q1, q2⟩ := met hv i hlt
    exact h3 j2 (Nat.lt_trans q1 hi) q2
  · rw [h2]
    have := hm.le i hl
    omega
theorem valid_cut {l : List Quad} {mu : Int} (hm : Lowest l mu) {c : Nat} (h : Valid l c) : ∃ k : Nat, (k : Int) < -hsum l ∧ (heightsL l).idxOf (mu + k) = c := by
  obtain ⟨hc, h1, h2⟩ := h
  obtain ⟨i0, hi0, e0⟩ := hm.at'
  have h3 := hm.le c hc
  have h4 : hAt l c + hsum l < mu := by
    rw [← e0]
    by_cases q : i0 < c
    · have := h1 i0 q; omega
    · exact h2 i0 (by omega) hi0
  refine ⟨(hAt l c - mu).toNat, by omega, ?_⟩
  have e : mu + ((hAt l c - mu).toNat : Int) = hAt l c := by omega
  rw [e]
  exact idx_of_first (by omega) fun i hi => by have := h1 i hi; omega
/-- the places from which the ring can be read -/
noncomputable def cutsN (l : List Quad) : List Nat := (List.range l.length).filter fun c => (readP (turnedAt l c)).isSome
theorem mem_cuts {l : List Quad} {c : Nat} : c ∈ cutsN l ↔ Valid l c := by
  unfold cutsN
  rw [List.mem_filter, List.mem_range]
  constructor
  · rintro ⟨h1, h2⟩; exact (valid_iff h1).mp h2
  · intro h; exact ⟨h.1, (valid_iff h.1).mpr h⟩
theorem range_rises (n : Nat) : (List.range n).Pairwise (· < ·) := List.pairwise_lt_range
theorem cuts_rise (l : List Quad) : (cutsN l).Pairwise (· < ·) := List.Pairwise.sublist List.filter_sublist (range_rises _)
/-- the law's own list of them -/
theorem cuts_perm {l : List Quad} {mu : Int} (hm : Lowest l mu) : ((List.range (-hsum l).toNat).map fun (k : Nat) => (heightsL l).idxOf (mu + (k : Int))).Perm (cutsN l) := by
  have hk : ∀ k, k < (-hsum l).toNat → (k : Int) < -hsum l := fun k h => by omega
  refine (List.perm_ext_iff_of_nodup ?_ ?_).mpr fun c => ?_
  · rw [List.Nodup, List.pairwise_map]
    refine List.Pairwise.imp_of_mem (R := (· < ·)) (fun {a b} ha hb hab e => ?_) (range_rises _)
    have h1 := (cut_valid hm (hk a (List.mem_range.mp ha))).2.2
    have h2 := (cut_valid hm (hk b (List.mem_range.mp hb))).2.2
    rw [e] at h1
    omega
  · exact (cuts_rise l).imp fun h => Nat.ne_of_lt h
  · rw [List.mem_map, mem_cuts]
    constructor
    · rintro ⟨k, h1, rfl⟩
      exact (cut_valid hm (hk k (List.mem_range.mp h1))).2.1
    · intro h
      obtain ⟨k, h1, h2⟩ := valid_cut hm h
      exact ⟨k, List.mem_range.mpr (by omega), h2⟩
theorem cuts_none {l : List Quad} (h : 0 ≤ hsum l) : cutsN l = [] := by
  cases e : cutsN l with
  | nil => rfl
  | cons c r =>
    exfalso
    have hv : Valid l c := mem_cuts.mp (by rw [e]; exact List.mem_cons_self)
    have := hv.2.2 c (Nat.le_refl _) hv.1
    omega

set_option exponentiation.threshold 5000
theorem turned_append {α : Type} (a b : List α) : turnedAt (a ++ b) a.length = b ++ a := by
  unfold turnedAt
  rw [List.drop_left, List.take_left]
/-- a rotation of a rotation -/
theorem turn_turn {α : Type} {u v a b : List α} (h : u ++ v = b ++ a) (hne : a ++ b ≠ []) : ∃ t, t < (a ++ b).length ∧ v ++ u = turnedAt (a ++ b) t := by
  have fix : ∀ t, t ≤ (a ++ b).length → v ++ u = turnedAt (a ++ b) t → ∃ t, t < (a ++ b).length ∧ v ++ u = turnedAt (a ++ b) t := fun t ht e => by
    by_cases q : t < (a ++ b).length
    · exact ⟨t, q, e⟩
    · have : t = (a ++ b).length := by omega
      refine ⟨0, List.length_pos_iff.mpr hne, ?_⟩
      rw [e, this]
      unfold turnedAt
      rw [List.drop_length, List.take_length, List.drop_zero, List.take_zero, List.nil_append, List.append_nil]
  rcases List.append_eq_append_iff.mp h with ⟨a', e1, e2⟩ | ⟨b', e1, e2⟩
  · refine fix (a ++ u).length (by rw [e1]; simp only [List.length_append]; omega) ?_
    rw [e1, e2, show a ++ (u ++ a') = (a ++ u) ++ a' by simp, turned_append]
    simp
  · refine fix b'.length (by rw [e2]; simp only [List.length_append]; omega) ?_
    rw [e1, e2, show b' ++ v ++ b = b' ++ (v ++ b) by simp, turned_append]
    simp
theorem rise_ext : ∀ {a b : List Nat}, a.Pairwise (· < ·) → b.Pairwise (· < ·) → (∀ x, x ∈ a ↔ x ∈ b) → a = b
  | [], [], _, _, _ => rfl
  | [], y :: b, _, _, h => by have := (h y).mpr List.mem_cons_self; cases this
  | x :: a, [], _, _, h => by have := (h x).mp List.mem_cons_self; cases this
  | x :: a, y :: b, ha, hb, h => by
    rw [List.pairwise_cons] at ha hb
    have exy : x = y := by
      rcases List.mem_cons.mp ((h x).mp List.mem_cons_self) with e | e
      · exact e
      · rcases List.mem_cons.mp ((h y).mpr List.mem_cons_self) with e2 | e2
        · exact e2.symm
        · have h1 := hb.1 x e
          have h2 := ha.1 y e2
          omega
    subst exy
    rw [rise_ext ha.2 hb.2 fun z => ?_]
    constructor
    · intro hz
      rcases List.mem_cons.mp ((h z).mp (List.mem_cons_of_mem _ hz)) with e | e
      · have := ha.1 z hz; omega
      · exact e
    · intro hz
      rcases List.mem_cons.mp ((h z).mpr (List.mem_cons_of_mem _ hz)) with e | e
      · have := hb.1 z hz; omega
      · exact e
theorem turned_map {α β : Type} (f : α → β) (l : List α) (t : Nat) : (turnedAt l t).map f = turnedAt (l.map f) t := by
  unfold turnedAt
  rw [List.map_append, List.map_drop, List.map_take]
theorem turned_head {α : Type} {l : List α} {t : Nat} (h : t < l.length) : (turnedAt l t)[0]? = l[t]? := by
  unfold turnedAt
  rw [List.getElem?_append_left (by rw [List.length_drop]; omega), List.getElem?_drop]
  rfl
theorem readP_head {q : Quad} {tl : List Quad} {p : List (Nat × Nat)} (h : readP (q :: tl) = some p) : p[0]?.map (·.1) = some q.place := by
  rw [readP] at h
  cases e : readP tl with
  | none => rw [e] at h; cases h
  | some p' =>
    rw [e] at h
    simp only [Option.bind_some] at h
    by_cases q1 : p'.length < q.parts
    · rw [if_pos q1] at h; cases h
    · rw [if_neg q1] at h; cases h; rfl
theorem idx_of_getElem : ∀ {l : List Nat}, l.Pairwise (· < ·) → ∀ {t c : Nat}, l[t]? = some c → l.idxOf c = t
  | [], _, t, c, h => by simp at h
  | x :: l, hp, 0, c, h => by
    simp only [List.getElem?_cons_zero, Option.some.injEq] at h
    subst h; simp
  | x :: l, hp, t + 1, c, h => by
    rw [List.pairwise_cons] at hp
    rw [List.getElem?_cons_succ] at h
    have hm := List.mem_of_getElem? h
    have hne : x ≠ c := Nat.ne_of_lt (hp.1 c hm)
    rw [List.idxOf_cons, idx_of_getElem hp.2 h, show (x == c) = false by simpa using hne]
    rfl
theorem sub_all : ∀ {a b : List Nat}, a.Nodup → (∀ x ∈ a, x ∈ b) → b.length ≤ a.length → ∀ x ∈ b, x ∈ a
  | [], b, _, _, h, x, hx => by
    rw [List.length_nil, Nat.le_zero, List.length_eq_zero_iff] at h
    rw [h] at hx; cases hx
  | y :: a, b, hn, hs, h, x, hx => by
    rw [List.nodup_cons] at hn
    by_cases q : x = y
    · rw [q]; exact List.mem_cons_self
    · refine List.mem_cons_of_mem _ (sub_all hn.2 (b := b.erase y) (fun z hz => ?_) ?_ x ((List.mem_erase_of_ne q).mpr hx))
      · exact (List.mem_erase_of_ne (fun e => hn.1 (by rw [← e]; exact hz))).mpr (hs z (List.mem_cons_of_mem _ hz))
      · rw [List.length_erase_of_mem (hs y List.mem_cons_self)]
        rw [List.length_cons] at h
        omega
/-- what is read is what is left by striking -/
theorem main_read {l a b : List Quad} (hk : ∀ q ∈ l, KindOk q) (hplace : l.map (·.place) = List.range l.length) (hfin : iter stepR (l.length * l.length) l = b ++ a) (hrise : ((a ++ b).map (·.place)).Pairwise (· < ·)) {c : Nat} (hc : c < l.length) :
    readR (turnedAt l c) = if c ∈ cutsN l then some (turnedAt ((a ++ b).map (·.num)) ((cutsN l).idxOf c)) else none := by
  have place_at : ∀ {i : Nat} (hi : i < l.length), l[i].place = i := fun {i} hi => by
    have h1 : (l.map (·.place))[i]? = some l[i].place := by rw [List.getElem?_map, List.getElem?_eq_getElem hi]; rfl
    rw [hplace, List.getElem?_range hi] at h1
    exact (Option.some.inj h1).symm
  -- one reading, turned
  have one : ∀ {c : Nat} {p : List (Nat × Nat)}, c < l.length → readP (turnedAt l c) = some p → ∃ t, t < (a ++ b).length ∧ p = turnedAt ((a ++ b).map pv) t ∧ ((a ++ b).map (·.place))[t]? = some c := fun {c p} hc hp => by
    have hg : Good l p := ⟨l.take c, l.drop c, (List.take_append_drop _ _).symm, hp⟩
    have hg' := good_iter hk hg (l.length * l.length)
    have hz := all_struck hk hg
    rw [hfin] at hg' hz
    obtain ⟨u, v, e, hr⟩ := hg'
    have hpv : p = (v ++ u).map pv := by
      have := readP_vals (vs := v ++ u) (b := []) (p := []) (fun q hq => hz q (by rw [e]; rcases List.mem_append.mp hq with h | h <;> simp [h])) rfl
      rw [List.append_nil, hr, List.append_nil] at this
      exact Option.some.inj this
    have hhead : p[0]?.map (·.1) = some c := by
      have hd : turnedAt l c = l[c] :: (l.drop (c + 1) ++ l.take c) := by
        unfold turnedAt
        rw [List.drop_eq_getElem_cons hc]; rfl
      rw [hd] at hp
      have := readP_head hp
      rw [place_at hc] at this
      exact this
    have hne : a ++ b ≠ [] := by
      intro e0
      have h1 : u ++ v = [] := by
        rw [← e]
        rw [List.append_eq_nil_iff] at e0 ⊢
        exact e0.symm
      rw [List.append_eq_nil_iff] at h1
      rw [hpv, h1.1, h1.2] at hhead
      cases hhead
    obtain ⟨t, ht, et⟩ := turn_turn e.symm hne
    refine ⟨t, ht, by rw [hpv, et, turned_map], ?_⟩
    rw [hpv, et, turned_map, turned_head (by rw [List.length_map]; exact ht), List.getElem?_map] at hhead
    rw [List.getElem?_map]
    cases q : (a ++ b)[t]? with
    | none => rw [q] at hhead; cases hhead
    | some x => rw [q] at hhead; exact hhead
  rw [readP_R]
  by_cases hcut : c ∈ cutsN l
  · rw [if_pos hcut]
    have hv := mem_cuts.mp hcut
    obtain ⟨p, hp⟩ := Option.isSome_iff_exists.mp ((valid_iff hc).mpr hv)
    obtain ⟨t, ht, ep, et⟩ := one hc hp
    -- the places that are left are the cuts
    have hsub : ∀ x, x ∈ cutsN l → x ∈ (a ++ b).map (·.place) := fun x hx => by
      have hv := mem_cuts.mp hx
      obtain ⟨p, hp⟩ := Option.isSome_iff_exists.mp ((valid_iff hv.1).mpr hv)
      obtain ⟨t, _, _, et⟩ := one hv.1 hp
      exact List.mem_of_getElem? et
    have hlen : ((a ++ b).map (·.place)).length = (cutsN l).length := by
      have h1 := readP_len hp
      have h2 : p.length = (a ++ b).length := by rw [ep, turned_len, List.length_map]
      have h3 : hsum (turnedAt l c) = hsum l := by
        unfold turnedAt
        rw [hsum_append, Int.add_comm, ← hsum_append, List.take_append_drop]
      have hlow : ∃ mu, Lowest l mu := by
        have key : ∀ n, 0 < n → ∃ mu, (∃ i, i < n ∧ hAt l i = mu) ∧ ∀ i, i < n → mu ≤ hAt l i := by
          intro n
          induction n with
          | zero => intro h; exact absurd h (Nat.lt_irrefl _)
          | succ n ih =>
            intro _
            by_cases h0 : n = 0
            · subst h0
              exact ⟨hAt l 0, ⟨0, by omega, rfl⟩, fun i hi => by rw [show i = 0 by omega]; exact Int.le_refl _⟩
            · obtain ⟨mu, ⟨i, hi, e⟩, hle⟩ := ih (by omega)
              by_cases hq : hAt l n < mu
              · refine ⟨hAt l n, ⟨n, by omega, rfl⟩, fun j hj => ?_⟩
                by_cases hjn : j = n
                · rw [hjn]; exact Int.le_refl _
                · have := hle j (by omega); omega
              · refine ⟨mu, ⟨i, by omega, e⟩, fun j hj => ?_⟩
                by_cases hjn : j = n
                · rw [hjn]; omega
                · exact hle j (by omega)
        obtain ⟨mu, h1, h2⟩ := key l.length (by omega)
        exact ⟨mu, h1, h2⟩
      obtain ⟨mu, hmu⟩ := hlow
      have h4 := (cuts_perm hmu).length_eq
      rw [List.length_map, List.length_range] at h4
      rw [List.length_map]
      omega
    have hnodup : (cutsN l).Nodup := (cuts_rise l).imp fun h => Nat.ne_of_lt h
    have heq : (a ++ b).map (·.place) = cutsN l := rise_ext hrise (cuts_rise l) fun x => ⟨sub_all hnodup hsub (Nat.le_of_eq hlen) x, hsub x⟩
    rw [heq] at et
    have hidx := idx_of_getElem (cuts_rise l) et
    rw [hp, hidx, ep]
    simp only [Option.map_some]
    rw [turned_map, List.map_map]
    rfl
  · rw [if_neg hcut]
    have : readP (turnedAt l c) = none := by
      cases e : readP (turnedAt l c) with
      | none => rfl
      | some p => exact absurd (mem_cuts.mpr ((valid_iff hc).mp (by rw [e]; rfl))) hcut
    rw [this]; rfl

set_option exponentiation.threshold 5000
noncomputable def padL : List Nat := [15, 283, 359, 183, 330, 83, 5]
noncomputable def numsN (ns : List Int) : List Nat := (ns.take 9).map fun x => (x.fmod 1000000000).toNat
noncomputable def codesN (ns : List Int) : List Nat := (numsN ns ++ padL.drop (numsN ns).length).map fun m => (codeZ m).toNat
noncomputable def duesN (ns : List Int) : List Nat := (codesN ns).filter fun k => decide (tabZ k ≠ 0)
noncomputable def partOf (k : Nat) : Part := ⟨tabZ k, (dParts k).toNat, dDeed k, (dNum k).toNat, dText k⟩
noncomputable def lawL (ns : List Int) : List Quad := ring0 ((duesN ns).map partOf)
theorem codes_ok {ns : List Int} {k : Nat} (h : k ∈ codesN ns) : k ≤ 1114111 := by
  obtain ⟨m, _, rfl⟩ := List.mem_map.mp h
  have := codeZ_ok m
  omega
theorem nums_len (ns : List Int) : (numsN ns).length ≤ 9 := by
  unfold numsN
  rw [List.length_map, List.length_take]
  exact Nat.min_le_left _ _
theorem codes_len (ns : List Int) : (codesN ns).length ≤ 9 := by
  unfold codesN
  have h := nums_len ns
  rw [List.length_map, List.length_append, List.length_drop]
  have : padL.length = 7 := rfl
  omega
theorem dues_mem {ns : List Int} {k : Nat} (h : k ∈ duesN ns) : k ≤ 1114111 ∧ tabZ k ≠ 0 := by
  have := List.mem_filter.mp h
  exact ⟨codes_ok this.1, of_decide_eq_true this.2⟩
theorem law_len (ns : List Int) : (lawL ns).length = (duesN ns).length := by
  unfold lawL ring0
  rw [List.length_mapIdx, List.length_map]
theorem law_len9 (ns : List Int) : (lawL ns).length ≤ 9 := by
  rw [law_len]
  exact Nat.le_trans (List.length_filter_le _ _) (codes_len ns)
theorem law_at {ns : List Int} {q : Quad} (h : q ∈ lawL ns) : ∃ i k, k ∈ duesN ns ∧ q = ⟨i, (dParts k).toNat, dDeed k, (dNum k).toNat⟩ := by
  obtain ⟨i, hi⟩ := List.mem_iff_getElem?.mp h
  unfold lawL ring0 at hi
  rw [List.getElem?_mapIdx, List.getElem?_map] at hi
  cases e : (duesN ns)[i]? with
  | none => rw [e] at hi; cases hi
  | some k =>
    rw [e] at hi
    cases hi
    exact ⟨i, k, List.mem_of_getElem? e, rfl⟩
theorem law_kind (ns : List Int) : ∀ q ∈ lawL ns, KindOk q := fun q hq => by
  obtain ⟨i, k, hk, rfl⟩ := law_at hq
  obtain ⟨_, h0⟩ := dues_mem hk
  unfold KindOk
  rcases kinds h0 with h | h | h | h
  · left; simp only; omega
  · right; left; simp only; omega
  · right; right; left; simp only; omega
  · right; right; right; simp only; omega
theorem law_num (ns : List Int) : ∀ q ∈ lawL ns, q.num < 2097152 := fun q hq => by
  obtain ⟨i, k, hk, rfl⟩ := law_at hq
  obtain ⟨h1, h0⟩ := dues_mem hk
  have := num_small h0 h1
  have h2 := (told_is h0).2.1
  simp only; omega
theorem law_pot (ns : List Int) : pot (lawL ns) < 2 ^ 4000 := Nat.lt_of_le_of_lt (pot_small _ 9 (law_num ns) (law_len9 ns)) pow_4000
theorem law_place (ns : List Int) : (lawL ns).map (·.place) = List.range (lawL ns).length := by
  apply List.ext_getElem?
  intro i
  rw [List.getElem?_map]
  by_cases hi : i < (lawL ns).length
  · rw [List.getElem?_range hi]
    unfold lawL ring0
    rw [List.getElem?_mapIdx, List.getElem?_map]
    have : i < (duesN ns).length := by rw [← law_len]; exact hi
    rw [List.getElem?_eq_getElem this]
    rfl
  · rw [List.getElem?_eq_none (by omega), List.getElem?_eq_none (by rw [List.length_range]; omega)]; rfl
theorem law_cyc (ns : List Int) : CycS (lawL ns) := ⟨lawL ns, [], rfl, by rw [List.append_nil, law_place]; exact range_rises _⟩
theorem pos_step {l : List Quad} (h : 0 < l.length) : 0 < (stepR l).length := by
  rw [step_eq, len_rot]
  cases l with
  | nil => exact absurd h (Nat.lt_irrefl _)
  | cons q tl =>
    rcases strike_cases q tl with ⟨e, _⟩ | ⟨_, _, _, e⟩
    · rw [e]; exact h
    · rw [e]; exact Nat.succ_pos _
theorem law_ring (ns : List Int) (h : (lawL ns).length ≠ 0) (j : Nat) : RingOk (iter stepR j (lawL ns)) where
  fit := fun q hq => num_of_pot (Nat.lt_of_le_of_lt (pot_iter (law_kind ns) j) (law_pot ns)) hq
  one := fun q hq h1 => by
    have := kind_iter (law_kind ns) j q hq
    rcases this with h | h | h | h <;> omega
  short := Nat.le_trans (len_iter _ j) (Nat.le_trans (law_len9 ns) (by decide))
  parts := fun q hq => by
    have := kind_iter (law_kind ns) j q hq
    rcases this with h | h | h | h <;> omega
  pos := by
    induction j with
    | zero => exact Nat.pos_of_ne_zero h
    | succ j ih => exact pos_step ih
theorem drop_pot (l : List Quad) (j : Nat) : pot (l.drop j) ≤ pot l := by
  unfold pot
  have e : l.map (·.num) = (l.take j).map (·.num) ++ (l.drop j).map (·.num) := by rw [← List.map_append, List.take_append_drop]
  rw [e, potN_append]
  exact Nat.le_mul_of_pos_left _ (potN_pos _)
theorem pot_turned (l : List Quad) (c : Nat) : pot (turnedAt l c) = pot l := by
  unfold pot turnedAt
  rw [List.map_append, potN_append, Nat.mul_comm, ← potN_append, ← List.map_append, List.take_append_drop]
theorem mem_turned {l : List Quad} {c : Nat} {q : Quad} (h : q ∈ turnedAt l c) : q ∈ l := by
  unfold turnedAt at h
  rcases List.mem_append.mp h with h | h
  · exact List.mem_of_mem_drop h
  · exact List.mem_of_mem_take h
theorem law_read (ns : List Int) (c : Nat) : ReadOk (turnedAt (lawL ns) c) where
  kind := fun q hq => law_kind ns q (mem_turned hq)
  fit := fun q hq => num_of_pot (law_pot ns) (mem_turned hq)
  fits := fun j p hp v hv => by
    rw [readP_R] at hp
    cases e : readP ((turnedAt (lawL ns) c).drop j) with
    | none => rw [e] at hp; cases hp
    | some p' =>
      rw [e] at hp
      cases hp
      have h1 := read_pot (fun q hq => law_kind ns q (mem_turned (List.mem_of_mem_drop hq))) e
      have h2 := drop_pot (turnedAt (lawL ns) c) j
      rw [pot_turned] at h2
      have h3 := law_pot ns
      have h4 := potN_mem hv
      generalize (2 : Nat) ^ 4000 = B at h3 ⊢
      omega
  short := by rw [turned_len]; exact Nat.le_trans (law_len9 ns) (by decide)
/-- the ring at its end -/
theorem law_end (ns : List Int) : ∃ m r, iter stepR ((lawL ns).length * (lawL ns).length) (lawL ns) = m.drop r ++ m.take r ∧ Rises m ∧ m.length < 10 ∧ (r < m.length ∨ m.length < 2) ∧ r ≤ m.length ∧
    ∀ c, c < (lawL ns).length → readR (turnedAt (lawL ns) c) = if c ∈ cutsN (lawL ns) then some (turnedAt (m.map (·.num)) ((cutsN (lawL ns)).idxOf c)) else none := by
  obtain ⟨a, b, e, h⟩ := cyc_iter (law_cyc ns) ((lawL ns).length * (lawL ns).length)
  have hlen := len_iter (lawL ns) ((lawL ns).length * (lawL ns).length)
  rw [e] at hlen
  have h9 := law_len9 ns
  have main : ∀ c, c < (lawL ns).length → readR (turnedAt (lawL ns) c) = if c ∈ cutsN (lawL ns) then some (turnedAt ((a ++ b).map (·.num)) ((cutsN (lawL ns)).idxOf c)) else none := fun c hc =>
    main_read (law_kind ns) (law_place ns) e h hc
  have hr : Rises (a ++ b) := by
    unfold Rises
    rw [List.pairwise_map] at h
    exact h
  have hl : (a ++ b).length < 10 := by rw [List.length_append] at hlen ⊢; omega
  cases b with
  | nil =>
    refine ⟨a ++ [], 0, by rw [e]; simp, hr, hl, ?_, Nat.zero_le _, main⟩
    by_cases q : 0 < (a ++ ([] : List Quad)).length
    · exact .inl q
    · exact .inr (by omega)
  | cons x b =>
    refine ⟨a ++ x :: b, a.length, by rw [e, List.drop_left, List.take_left], hr, hl, .inl ?_, ?_, main⟩
    · rw [List.length_append, List.length_cons]; omega
    · rw [List.length_append]; omega

theorem can_ints : ∀ ns : List Int, PyData.canLayAll0 (ns.map PyData.int) = true ∧ PyData.depthAll (ns.map PyData.int) = 0
  | [] => ⟨rfl, rfl⟩
  | n :: ns => by
    obtain ⟨h1, h2⟩ := can_ints ns
    constructor
    · simp [PyData.canLayAll0, PyData.canLay0, h1]
    · simp [PyData.depthAll, PyData.depth, h2]
theorem weight_ints : ∀ ns : List Int, (∀ n ∈ ns, n.natAbs < 2 ^ 32) → PyData.weightAll (ns.map PyData.int) ≤ 33 * ns.length
  | [], _ => Nat.le_refl _
  | n :: ns, h => by
    have ih := weight_ints ns fun x hx => h x (List.mem_cons_of_mem _ hx)
    have h1 := h n List.mem_cons_self
    have hw : PyData.weight (PyData.int n) ≤ 32 := by
      unfold PyData.weight
      split
      · decide
      · rename_i h0
        have hn : n.natAbs ≠ 0 := by
          intro e
          have : n = 0 := by omega
          subst this
          exact h0 (by decide)
        have := (Nat.log2_lt hn).mpr h1
        omega
    rw [List.map_cons, PyData.weightAll, List.length_cons]
    omega
theorem lay_small {ns : List Int} (hl : ns.length ≤ 64) (h : ∀ n ∈ ns, n.natAbs < 2 ^ 32) : PyData.layable0 (.list (ns.map .int)) = true := by
  obtain ⟨h1, h2⟩ := can_ints ns
  have h3 := weight_ints ns h
  unfold PyData.layable0
  rw [Bool.and_eq_true, Bool.and_eq_true, decide_eq_true_iff, decide_eq_true_iff]
  refine ⟨⟨?_, ?_⟩, ?_⟩
  · rw [PyData.canLay0]; exact h1
  · rw [PyData.depth, h2]; decide
  · rw [PyData.weight]; omega
theorem hsum_bound {l : List Quad} (hk : ∀ q ∈ l, KindOk q) : -(l.length : Int) ≤ hsum l ∧ hsum l ≤ 2 * (l.length : Int) := by
  induction l with
  | nil => exact ⟨Int.le_refl _, Int.le_refl _⟩
  | cons q l ih =>
    obtain ⟨h1, h2⟩ := ih fun x hx => hk x (List.mem_cons_of_mem _ hx)
    have hq := hk q List.mem_cons_self
    rw [hsum_cons, List.length_cons]
    have : q.parts ≤ 3 := by rcases hq with h | h | h | h <;> omega
    omega
theorem hAt_bound {l : List Quad} (hk : ∀ q ∈ l, KindOk q) (j : Nat) : -(l.length : Int) ≤ hAt l j ∧ hAt l j ≤ 2 * (l.length : Int) := by
  obtain ⟨h1, h2⟩ := hsum_bound (l := l.take j) fun q hq => hk q (List.mem_of_mem_take hq)
  unfold hAt
  rw [List.length_take] at h1 h2
  omega
theorem low_ex (l : List Quad) : ∃ mu, 0 < l.length → Lowest l mu := by
  have key : ∀ n, 0 < n → ∃ mu, (∃ i, i < n ∧ hAt l i = mu) ∧ ∀ i, i < n → mu ≤ hAt l i := by
    intro n
    induction n with
    | zero => intro h; exact absurd h (Nat.lt_irrefl _)
    | succ n ih =>
      intro _
      by_cases h0 : n = 0
      · subst h0
        exact ⟨hAt l 0, ⟨0, by omega, rfl⟩, fun i hi => by rw [show i = 0 by omega]; exact Int.le_refl _⟩
      · obtain ⟨mu, ⟨i, hi, e⟩, hle⟩ := ih (by omega)
        by_cases hq : hAt l n < mu
        · refine ⟨hAt l n, ⟨n, by omega, rfl⟩, fun j hj => ?_⟩
          by_cases hjn : j = n
          · rw [hjn]; exact Int.le_refl _
          · have := hle j (by omega); omega
        · refine ⟨mu, ⟨i, by omega, e⟩, fun j hj => ?_⟩
          by_cases hjn : j = n
          · rw [hjn]; omega
          · exact hle j (by omega)
  by_cases h : 0 < l.length
  · obtain ⟨mu, h1, h2⟩ := key l.length h
    exact ⟨mu, fun _ => ⟨h1, h2⟩⟩
  · exact ⟨0, fun q => absurd q h⟩
/-- the cuts as the law finds them -/
noncomputable def cutsU (l : List Quad) (mu : Int) : List Nat := (List.range (-hsum l).toNat).map fun (k : Nat) => (heightsL l).idxOf (mu + (k : Int))
theorem cutsU_perm {l : List Quad} {mu : Int} (h : 0 < l.length → Lowest l mu) : (cutsN l).Perm (cutsU l mu) := by
  by_cases h0 : 0 ≤ hsum l
  · rw [cuts_none h0]
    unfold cutsU
    rw [show (-hsum l).toNat = 0 by omega]
    exact .refl _
  · refine (cuts_perm (h ?_)).symm
    cases l with
    | nil => exact absurd (Int.le_refl 0) h0
    | cons q l => exact Nat.succ_pos _
theorem cutsN_len (l : List Quad) : (cutsN l).length ≤ l.length := by
  unfold cutsN
  exact Nat.le_trans (List.length_filter_le _ _) (Nat.le_of_eq List.length_range)
theorem cutsN_lt {l : List Quad} {c : Nat} (h : c ∈ cutsN l) : c < l.length := (mem_cuts.mp h).1
theorem idx_cast : ∀ (l : List Nat) (c : Nat), (l.map fun (n : Nat) => (n : Int)).idxOf (c : Int) = l.idxOf c
  | [], c => rfl
  | x :: l, c => by
    rw [List.map_cons, List.idxOf_cons, List.idxOf_cons, idx_cast l c]
    have : ((x : Int) == (c : Int)) = (x == c) := by
      rw [Bool.eq_iff_iff, beq_iff_eq, beq_iff_eq]; omega
    rw [this]

noncomputable def natsI (l : List Nat) : List D := intsD (l.map fun (n : Nat) => (n : Int))
theorem natsI_len (l : List Nat) : (natsI l).length = l.length := by unfold natsI; rw [intsD_length, List.length_map]
theorem natsI_at {l : List Nat} {i : Nat} {d : D} (h : (natsI l)[i]? = some d) : ∃ n, l[i]? = some n ∧ d = .int n := by
  obtain ⟨k, h1, rfl⟩ := intsD_at h
  rw [List.getElem?_map] at h1
  cases e : l[i]? with
  | none => rw [e] at h1; cases h1
  | some n => rw [e] at h1; cases h1; exact ⟨n, rfl, rfl⟩
/-- f of an int that is a natural number -/
noncomputable def onNat (f : Nat → Option D) : D → Option D
  | .int i => f i.toNat
  | d => some d
theorem fm_nats (f : Nat → Option D) (l : List Nat) : (natsI l).filterMap (onNat f) = l.filterMap f := by
  unfold natsI intsD
  rw [List.filterMap_map, List.filterMap_map]
  rfl
theorem onNat_at (f : Nat → Option D) (n : Nat) : onNat f (.int n) = f n := rfl
theorem fm_map {α β : Type} (f : α → β) (l : List α) : l.filterMap (fun x => some (f x)) = l.map f := by rw [← List.filterMap_eq_map]; rfl
noncomputable def dueF : D → Option D
  | .tup (.int t :: r) => if t = 0 then none else some (.tup (.int t :: r))
  | d => some d
theorem dueF_at (k : Nat) : dueF (dueD k) = if tabZ k = 0 then none else some (dueD k) := rfl
noncomputable def toldF (k : Nat) : Option D := if tabZ k = 0 then none else some (toldD k)
theorem dues_fm (ks : List Nat) : (ks.map dueD).filterMap dueF = (ks.filter fun k => decide (tabZ k ≠ 0)).map dueD := by
  rw [List.filterMap_map]
  induction ks with
  | nil => rfl
  | cons k ks ih =>
    rw [List.filterMap_cons, List.filter_cons]
    rw [show (dueF ∘ dueD) k = dueF (dueD k) from rfl, dueF_at]
    by_cases h : tabZ k = 0
    · rw [if_pos h]
      simp only [h, ne_eq, not_true_eq_false, decide_false, Bool.false_eq_true, if_false]
      exact ih
    · rw [if_neg h]
      simp only [h, ne_eq, not_false_eq_true, decide_true, if_true, List.map_cons]
      rw [ih]
theorem told_fm (ks : List Nat) : ks.filterMap toldF = (ks.filter fun k => decide (tabZ k ≠ 0)).map toldD := by
  induction ks with
  | nil => rfl
  | cons k ks ih =>
    rw [List.filterMap_cons, List.filter_cons]
    unfold toldF
    by_cases h : tabZ k = 0
    · rw [if_pos h]
      simp only [h, ne_eq, not_true_eq_false, decide_false, Bool.false_eq_true, if_false]
      exact ih
    · rw [if_neg h]
      simp only [h, ne_eq, not_false_eq_true, decide_true, if_true, List.map_cons]
      rw [← ih]; rfl
theorem part_due {k : Nat} (h : tabZ k ≠ 0) : dueD k = partD (partOf k) := by
  have h1 := (told_is h).1
  have h2 := (told_is h).2.1
  unfold dueD partD partOf
  simp only
  rw [Int.toNat_of_nonneg h1, Int.toNat_of_nonneg h2]
theorem map_congr' {α β : Type} {f g : α → β} {l : List α} (h : ∀ x ∈ l, f x = g x) : l.map f = l.map g := List.map_congr_left h
theorem dues_parts (ns : List Int) : (duesN ns).map dueD = ((duesN ns).map partOf).map partD := by
  rw [List.map_map]
  exact map_congr' fun k hk => part_due (dues_mem hk).2
theorem told_tel (ns : List Int) : (duesN ns).map toldD = (lawL ns).map telD := by
  apply List.ext_getElem?
  intro i
  unfold lawL ring0
  rw [List.getElem?_map, List.getElem?_map, List.getElem?_mapIdx, List.getElem?_map]
  cases e : (duesN ns)[i]? with
  | none => rfl
  | some k =>
    have h := told_is (dues_mem (List.mem_of_getElem? e)).2
    simp only [Option.map_some]
    rw [h.2.2]
    unfold telD wordD partOf
    simp only
    rw [Int.toNat_of_nonneg h.1]
/-- heights, by the dues -/
noncomputable def upD : D → Int
  | .tup (_ :: .int p :: _) => p - 1
  | _ => 0
theorem up_part (k : Nat) : upD (dueD k) = dParts k - 1 := rfl
theorem hAt_dues (ns : List Int) (j : Nat) : ((((duesN ns).map dueD).take j).map upD).sum = hAt (lawL ns) j := by
  have e : (lawL ns).map (fun q => (q.parts : Int) - 1) = (duesN ns).map fun k => dParts k - 1 := by
    apply List.ext_getElem?
    intro i
    unfold lawL ring0
    rw [List.getElem?_map, List.getElem?_mapIdx, List.getElem?_map, List.getElem?_map]
    cases e : (duesN ns)[i]? with
    | none => rfl
    | some k =>
      have h := told_is (dues_mem (List.mem_of_getElem? e)).2
      simp only [Option.map_some, partOf]
      rw [Int.toNat_of_nonneg h.1]
  unfold hAt hsum
  rw [List.map_take (f := fun q : Quad => (q.parts : Int) - 1), e, List.map_take (f := upD), List.map_map]
  rfl
theorem b3_strs : b3D.all (fun y => PyData.strOk y.2) = true := by kernel_rfl
theorem low_rows : UnicodeData.oneLower.all (fun x => decide (x.2.2 + (x.2.1 - x.1) < 1114112)) = true := by kernel_rfl
theorem shifted_lt : ∀ (l : List (Nat × Nat × Nat)) (k t : Nat), l.all (fun x => decide (x.2.2 + (x.2.1 - x.1) < 1114112)) = true → Unicode.shifted l k = some t → t < 1114112
  | [], k, t, _, h => by cases h
  | (a, b, u) :: l, k, t, ha, h => by
    rw [List.all_cons, Bool.and_eq_true, decide_eq_true_iff] at ha
    rw [Unicode.shifted] at h
    by_cases h1 : k < a
    · rw [if_pos h1] at h; cases h
    · rw [if_neg h1] at h
      by_cases h2 : k ≤ b
      · rw [if_pos h2] at h
        have e := (Option.some.inj h).symm
        have := ha.1
        simp only at this
        omega
      · rw [if_neg h2] at h
        exact shifted_lt l k t ha.2 h
theorem chr_ok {k : Nat} (h : k < 1114112) : PyData.strOk (chrS k) = true := by
  show (#[k].all fun c => decide (c < 0x110000)) = true
  simp; omega
theorem map_ok {k : Nat} (hk : k ≤ 1114111) : PyData.strOk (mapB3 (chrS k)) = true := by
  unfold mapB3
  rw [sgn_chr]
  cases e : b3D.lookup (k : Int) with
  | some y => exact List.all_eq_true.mp b3_strs _ (lookup_memI e)
  | none =>
    show PyData.strOk (Txt.lower (chrS k)) = true
    have h304 : k ≠ 304 := by
      rintro rfl
      have := b3_304
      rw [show ((304 : Nat) : Int) = 304 from rfl] at e
      rw [e] at this; cases this
    rw [lower_one h304]
    apply chr_ok
    unfold low
    cases e2 : Unicode.shifted UnicodeData.oneLower k with
    | none => simp only [Option.getD_none]; omega
    | some t => simp only [Option.getD_some]; exact shifted_lt _ k t low_rows e2
theorem word_ok {k : Nat} (hk : k ≤ 1114111) : PyData.strOk (dText k) = true := by
  rcases text_word k with h | h
  · rw [h]; decide +kernel
  · rw [h]; exact map_ok hk
noncomputable def isF : D → Option D
  | .bool b => some (.tup [.bool (b == true), .bool (b == false)])
  | d => some d
noncomputable def eqF (t : Int) : D → Option D
  | .int i => some (.tup [.bool (i == t), .bool (i != t)])
  | d => some d
noncomputable def askL (k : Nat) : List D := [.bool (inB b1N k), .bool (inB c7N k), .bool (inB c8N k), .bool (inB c9N k), .bool (inB c6N k), .bool (in4B k)]
theorem ask_one (t j : Int) : isF (.bool (decide (t = j))) = eqF t (.int j) := by
  unfold isF eqF
  by_cases h : t = j
  · subst h; simp
  · have h' : ¬ j = t := fun e => h e.symm
    simp [h, h']
theorem ask_all (k : Nat) : (askL k).filterMap isF = (upTo 0 6).filterMap (eqF (tabZ k)) := by
  obtain ⟨a0, a1, a2, a3, a4, a5⟩ := asked k
  have e : upTo 0 6 = [.int 0, .int 1, .int 2, .int 3, .int 4, .int 5] := rfl
  unfold askL
  rw [a0, a1, a2, a3, a4, a5, e]
  simp only [List.filterMap_cons, List.filterMap_nil, ask_one]
theorem ask_pln (t : Int) : ∀ d ∈ (upTo 0 6).filterMap (eqF t), Pln true 7 d = true := by
  intro d hd
  obtain ⟨x, hx, e⟩ := List.mem_filterMap.mp hd
  obtain ⟨i, hi⟩ := List.mem_iff_getElem?.mp hx
  obtain ⟨_, rfl⟩ := upTo_at hi
  cases e
  rfl
theorem nums_eq (ns : List Int) : intsD ((ns.take 9).map fun x => x.fmod 1000000000) = natsI (numsN ns) := by
  unfold natsI numsN
  congr 1
  rw [List.map_map]
  refine map_congr' fun x _ => ?_
  have : 0 ≤ x.fmod 1000000000 := Int.fmod_nonneg_of_pos x (by decide)
  simp only [Function.comp]
  rw [Int.toNat_of_nonneg this]
noncomputable def readT : D → Option D
  | .tup [p, dd, .bytes b] => some (.tup [p, dd, .int (sum16 (b.toList.map fun x => (x.toNat : Int) - 65))])
  | d => some d
theorem readT_tel (q : Quad) : readT (telD q) = some (.tup [.int q.parts, .int q.deed, .int q.num]) := by
  show some (D.tup [.int q.parts, .int q.deed, .int (sum16 ((apL q.num).map fun x => (x.toNat : Int) - 65))]) = _
  rw [apL_sum]
noncomputable def cut14 : D → Option D
  | .tup ds => some (.tup ((ds.drop 1).take 3))
  | d => some d
theorem cut14_due (k : Nat) : cut14 (dueD k) = some (.tup [.int (dParts k), .int (dDeed k), .int (dNum k)]) := rfl
theorem three_same (ns : List Int) : ((lawL ns).map telD).filterMap readT = ((duesN ns).map dueD).filterMap cut14 := by
  rw [List.filterMap_map, List.filterMap_map]
  have e1 : (readT ∘ telD) = fun q => some (.tup [.int q.parts, .int q.deed, .int q.num]) := funext readT_tel
  have e2 : (cut14 ∘ dueD) = fun k => some (.tup [.int (dParts k), .int (dDeed k), .int (dNum k)]) := funext cut14_due
  rw [e1, e2, fm_map (fun q : Quad => D.tup [.int q.parts, .int q.deed, .int q.num]), fm_map (fun k => D.tup [.int (dParts k), .int (dDeed k), .int (dNum k)])]
  apply List.ext_getElem?
  intro i
  unfold lawL ring0
  rw [List.getElem?_map, List.getElem?_mapIdx, List.getElem?_map, List.getElem?_map]
  cases e : (duesN ns)[i]? with
  | none => rfl
  | some k =>
    have h := told_is (dues_mem (List.mem_of_getElem? e)).2
    simp only [Option.map_some, partOf]
    rw [Int.toNat_of_nonneg h.1, Int.toNat_of_nonneg h.2.1]
theorem three_pln (ns : List Int) : ∀ d ∈ ((duesN ns).map dueD).filterMap cut14, Pln false 7 d = true := by
  intro d hd
  rw [List.filterMap_map] at hd
  obtain ⟨k, _, e⟩ := List.mem_filterMap.mp hd
  rw [show (cut14 ∘ dueD) k = cut14 (dueD k) from rfl, cut14_due] at e
  cases e
  rfl
noncomputable def upF (d : D) : Option D := some (.int (upD d))
theorem up_list (l : List D) : l.filterMap upF = intsD (l.map upD) := by
  unfold intsD
  rw [List.map_map]
  exact fm_map (fun d => D.int (upD d)) l
theorem upTo_nats (n : Nat) : upTo 0 n = natsI (List.range n) := by
  unfold upTo natsI intsD
  rw [List.map_map]
  refine map_congr' fun k _ => ?_
  show D.int (0 + (k : Int)) = D.int (k : Int)
  rw [Int.zero_add]
theorem ints_pln (l : List Int) : Pln false 8 (.lst (intsD l)) = true := by
  show (intsD l).all (Pln false 7) = true
  rw [List.all_eq_true]
  intro d hd
  obtain ⟨k, _, rfl⟩ := List.mem_map.mp hd
  rfl
theorem read_pln (row : List Quad) : Pln false 8 (readD row) = true := by
  unfold readD
  cases readR row with
  | none => rfl
  | some p => exact ints_pln _
section
variable {P : Program} {w : World} {h₀ : Heap} {mg mb : Str → Option Value} {A : Around} {c : Cx} {σ : Str → Option D} {Φ : Out → Prop} {pos p : Pos} {l r : Expr} {a n : Int}
theorem ev_pow (hn : 0 ≤ n) (hsz : (Builtin.Int.intBits a : Int) * n ≤ 2 ^ 27) (h1 : Ev P w h₀ A c σ l (.int a)) (h2 : Ev P w h₀ A c σ r (.int n)) : Ev P w h₀ A c σ (.BinOp l .Pow r pos) (.int (a ^ n.toNat)) := .mk fun K s Q E I hq =>
  wpAny_BinOp (h1.run K s _ E I fun v K1 s1 st1 r1 => h2.run K1 s1 _ E (I.step st1) fun u K2 s2 st2 r2 => by
    (first | obtain ⟨_, rfl⟩ := r1.inv | obtain rfl := r1.inv | cases r1); (first | obtain ⟨_, rfl⟩ := r2.inv | obtain rfl := r2.inv | cases r2); exact pow_int hn hsz (hq _ _ _ ((st1.trans st2).trans (Step.toks st2.kin _)) (.int _ _)))
theorem only_at {τ : Str → Option D} {caps : List Str} {x : Str} {d : D} (h : τ x = some d) (hx : x ∈ caps := by simp) (hp : d.plain = true := by rfl) : only τ caps x = some d := by
  unfold only
  rw [if_pos hx, h]
  simp [hp]
theorem sl9 {n : Nat} (h : n ≤ 9) : n ≤ sizeLine := Nat.le_trans h (by decide)
theorem chrF {k : Nat} (T : Top h₀ mg mb) (hk : k ≤ 1114111) : Fn P w h₀ mg mb ("chr" : Str) 0 [.int k] (.str (chrS k)) :=
  fn_b (x := "chr") T (callIs_chr (P := P) (w := w) (h₀ := h₀) (i := (k : Nat)) (Int.natCast_nonneg k) (by omega))
theorem fn_law {ns : List Int} (T : Top h₀ mg mb) (hns : ns.length ≤ 63) : Fn P w h₀ mg mb ("law" : Str) 5 [.lst (intsD ns)] (.bool true) :=
  fn_def (names := [("script" : Str)]) (fun L => [(("heights" : Str), L + 3), (("due" : Str), L + 2), (("part" : Str), L + 1)]) T rfl (fun A L q a code R => by
      have hu : A.units ≤ 5000 := by have := R.units; omega
      have hscr : (intsD ns).length ≤ sizeLine := by rw [intsD_length]; exact sl63 hns
      refine xs_cons (x_compN [] [] (onInt fun x => x.fmod 1000000000) (evI_list (ds := intsD (ns.take 9)) R.handled (Ev.of_eq (ev_cut (ds := intsD ns) (ev_name rfl) .none (.some (ev_int ((9 : Nat) : Int))) hscr) ?_)) (comp_ok [] []) (fun C i d hd => ?_) ?_ ?_)
      · rw [cut_to]; unfold intsD; rw [List.map_take]
      · obtain ⟨k, hk, rfl⟩ := intsD_at hd
        exact ⟨tst_nil, fun e he => by cases he; exact ev_mod (by decide) (ev_name rfl) (ev_pow (by decide) (by decide) (ev_int 10) (ev_int 9))⟩
      · rw [intsD_length, List.length_take]; exact sl9 (Nat.min_le_left _ _)
      rw [filterMap_onInt, nums_eq]
      have s1 : ∀ {τ : Str → Option D}, τ = put (fun x => List.lookup x ([("script" : Str)].zip [D.lst (intsD ns)])) ("numbers" : Str) (.lst (natsI (numsN ns))) → τ ("numbers" : Str) = some (.lst (natsI (numsN ns))) := by
        rintro τ rfl; rfl
      have hnums := s1 rfl
      show Xs _ _ _ _ _ (put (fun x => List.lookup x ([("script" : Str)].zip [D.lst (intsD ns)])) ("numbers" : Str) (.lst (natsI (numsN ns)))) _ _
      generalize put (fun x => List.lookup x ([("script" : Str)].zip [D.lst (intsD ns)])) ("numbers" : Str) (.lst (natsI (numsN ns))) = σ at hnums
      have hn9 := nums_len ns
      have hc9 := codes_len ns
      have hcl : (numsN ns ++ padL.drop (numsN ns).length).length ≤ 9 := by
        have := codes_len ns
        unfold codesN at this
        rwa [List.length_map] at this
      refine xs_cons (x_compN [] [] (onNat fun m => some (.int (((codeZ m).toNat : Nat) : Int))) (evI_list (ds := natsI (numsN ns ++ padL.drop (numsN ns).length)) R.handled (Ev.of_eq (ev_addl (ev_name (d := .lst (natsI (numsN ns))) hnums)
          (Ev.of_eq (ev_cut (ds := natsI padL) (ev_list (ds := natsI padL) (evl_ints (ns := padL.map fun (n : Nat) => (n : Int)) rfl) (by decide)) (.some (Ev.of_eq (ev_fn T R (fn_b T (callIs_len (ds := natsI (numsN ns)) (by rw [natsI_len]; exact sl9 hn9))) (evl_cons (ev_name hnums) evl_nil)) (d' := .int (((numsN ns).length : Nat) : Int)) (by rw [natsI_len]))) .none (by decide)) (d' := .lst (natsI (padL.drop (numsN ns).length))) ?_) ?_) ?_)) (comp_ok [] []) (fun C i d hd => ?_) ?_ ?_)
      · rw [cut_from]; unfold natsI intsD; rw [List.map_drop, List.map_drop]
      · rw [natsI_len, natsI_len]; rw [List.length_append] at hcl; exact sl9 hcl
      · unfold natsI intsD; rw [List.map_append, List.map_append]
      · obtain ⟨m, hm, rfl⟩ := natsI_at hd
        refine ⟨tst_nil, fun e he => ?_⟩
        cases he
        refine Ev.of_eq (ev_fn T R (fn_codeZ (m := m) T) (evl_cons (ev_name rfl) evl_nil)) ?_
        rw [Int.toNat_natCast, Int.toNat_of_nonneg (codeZ_ok m).1]
      · rw [natsI_len]; exact sl9 hcl
      rw [fm_nats, fm_map (fun m => D.int (((codeZ m).toNat : Nat) : Int)), show ((numsN ns ++ padL.drop (numsN ns).length).map fun m => D.int (((codeZ m).toNat : Nat) : Int)) = natsI (codesN ns) by unfold codesN natsI intsD; rw [List.map_map, List.map_map]; rfl]
      have hcodes : (put σ ("codes" : Str) (.lst (natsI (codesN ns)))) ("codes" : Str) = some (.lst (natsI (codesN ns))) := rfl
      show Xs _ _ _ _ _ (put σ ("codes" : Str) (.lst (natsI (codesN ns)))) _ _
      generalize put σ ("codes" : Str) (.lst (natsI (codesN ns))) = σ at hcodes
      have hcok : ∀ k ∈ codesN ns, k ≤ 1114111 := fun k hk => codes_ok hk
      have hszc : (natsI (codesN ns)).length ≤ sizeLine := by rw [natsI_len]; exact sl9 hc9
      refine xs_cons (x_compN [] [] (onNat fun k => some (dueD k)) (evI_list (ds := natsI (codesN ns)) R.handled (ev_name hcodes)) (comp_ok [] []) (fun C i d hd => ?_) hszc ?_)
      · obtain ⟨k, hk, rfl⟩ := natsI_at hd
        refine ⟨tst_nil, fun e he => ?_⟩
        cases he
        refine Ev.of_eq (ev_fn T R (fn_due (k := k) T (hcok k (List.mem_of_getElem? hk))) (evl_cons (ev_name rfl) evl_nil)) ?_
        rw [Int.toNat_natCast]
      rw [fm_nats, fm_map]
      have hcodes2 : (put σ ("meant" : Str) (.lst ((codesN ns).map dueD))) ("codes" : Str) = some (.lst (natsI (codesN ns))) := hcodes
      have hmeant : (put σ ("meant" : Str) (.lst ((codesN ns).map dueD))) ("meant" : Str) = some (.lst ((codesN ns).map dueD)) := rfl
      show Xs _ _ _ _ _ (put σ ("meant" : Str) (.lst ((codesN ns).map dueD))) _ _
      generalize put σ ("meant" : Str) (.lst ((codesN ns).map dueD)) = σ at hcodes2 hmeant
      clear hcodes
      refine xs_cons (x_for (b := false) (ds := zipD (natsI (codesN ns)) ((codesN ns).map dueD)) (fun i σ => σ ("codes" : Str) = some (.lst (natsI (codesN ns))) ∧ σ ("meant" : Str) = some (.lst ((codesN ns).map dueD)))
        (evI_zip T.names R.handled (T.blt _ _ rfl) (ev_name hcodes2) (ev_name hmeant)) ⟨hcodes2, hmeant⟩ ?_ ?_)
      · rintro i d τ hd ⟨t1, t2⟩
        have hdk : ∃ k ∈ codesN ns, d = .tup [.int k, dueD k] := by
          unfold zipD at hd
          rw [List.getElem?_zipWith] at hd
          unfold natsI intsD at hd
          rw [List.getElem?_map, List.getElem?_map, List.getElem?_map] at hd
          cases e : (codesN ns)[i]? with
          | none => rw [e] at hd; cases hd
          | some k => rw [e] at hd; cases hd; exact ⟨k, List.mem_of_getElem? e, rfl⟩
        obtain ⟨k, hk, rfl⟩ := hdk
        have hk1 := hcok k hk
        refine ⟨_, asg_tuple (xs := [(("code" : Str), _), (("part" : Str), _)]) R.handled rfl (fun x hx => ?_) rfl, ?_⟩
        · simp only [List.mem_cons, List.not_mem_nil, or_false] at hx
          rcases hx with rfl | rfl
          · exact .inl ⟨rfl, rfl⟩
          · exact .inr ⟨rfl, rfl, _, rfl, by simp⟩
        have s2 : ∀ {τ₂ : Str → Option D}, τ₂ = putAll τ [("code" : Str), ("part" : Str)] [.int k, dueD k] → τ₂ ("code" : Str) = some (.int k) ∧ τ₂ ("part" : Str) = some (dueD k) ∧ τ₂ ("codes" : Str) = some (.lst (natsI (codesN ns))) ∧ τ₂ ("meant" : Str) = some (.lst ((codesN ns).map dueD)) := by
          rintro τ₂ rfl; exact ⟨rfl, rfl, t1, t2⟩
        obtain ⟨hcode, hpart, t1, t2⟩ := s2 rfl
        show Xs _ _ _ _ _ (putAll τ [("code" : Str), ("part" : Str)] [.int k, dueD k]) _ _
        generalize putAll τ [("code" : Str), ("part" : Str)] [.int k, dueD k] = τ at hcode hpart t1 t2
        refine xs_cons (x_assign (ev_fn T R (chrF T hk1) (evl_cons (ev_name hcode) evl_nil)) ?_)
        have hsign : (put τ ("sign" : Str) (.str (chrS k))) ("sign" : Str) = some (.str (chrS k)) := rfl
        replace hpart : (put τ ("sign" : Str) (.str (chrS k))) ("part" : Str) = some (dueD k) := hpart
        replace t1 : (put τ ("sign" : Str) (.str (chrS k))) ("codes" : Str) = some (.lst (natsI (codesN ns))) := t1
        replace t2 : (put τ ("sign" : Str) (.str (chrS k))) ("meant" : Str) = some (.lst ((codesN ns).map dueD)) := t2
        show Xs _ _ _ _ _ (put τ ("sign" : Str) (.str (chrS k))) _ _
        generalize put τ ("sign" : Str) (.str (chrS k)) = τ at hsign hpart t1 t2
        have b1 := fn_b1 (P := P) (w := w) (x := chrS k) (r := inB b1N k) T rfl (by rw [show (((chrS k).cps.getD 0 0 : Nat) : Int) = (k : Int) from rfl]; exact decide_eq_true_iff)
        have c7 := fn_c7 (P := P) (w := w) (x := chrS k) (r := inB c7N k) T rfl (by rw [sgn_chr]; exact decide_eq_true_iff)
        have c8 := fn_c8 (P := P) (w := w) (x := chrS k) (r := inB c8N k) T rfl (by rw [sgn_chr]; exact decide_eq_true_iff)
        have c9 := fn_c9 (P := P) (w := w) (x := chrS k) (r := inB c9N k) T rfl (by rw [sgn_chr]; exact decide_eq_true_iff)
        have c6 := fn_c6 (P := P) (w := w) (x := chrS k) (r := inB c6N k) T rfl (by rw [sgn_chr]; exact decide_eq_true_iff)
        have c4 := fn_c4 (P := P) (w := w) (x := chrS k) (r := in4B k) T rfl (by rw [sgn_chr]; exact in4B_iff k)
        refine xs_cons (x_assign (d := .lst (askL k)) (ev_list (evl_cons (ev_fn T R b1 (evl_cons (ev_name hsign) evl_nil)) (evl_cons (ev_fn T R c7 (evl_cons (ev_name hsign) evl_nil)) (evl_cons (ev_fn T R c8 (evl_cons (ev_name hsign) evl_nil)) (evl_cons (ev_fn T R c9 (evl_cons (ev_name hsign) evl_nil)) (evl_cons (ev_fn T R c6 (evl_cons (ev_name hsign) evl_nil)) (evl_cons (ev_fn T R c4 (evl_cons (ev_name hsign) evl_nil)) evl_nil)))))) (show 6 ≤ sizeLine by decide)) ?_)
        have hasked : (put τ ("asked" : Str) (.lst (askL k))) ("asked" : Str) = some (.lst (askL k)) := rfl
        replace hsign : (put τ ("asked" : Str) (.lst (askL k))) ("sign" : Str) = some (.str (chrS k)) := hsign
        replace hpart : (put τ ("asked" : Str) (.lst (askL k))) ("part" : Str) = some (dueD k) := hpart
        replace t1 : (put τ ("asked" : Str) (.lst (askL k))) ("codes" : Str) = some (.lst (natsI (codesN ns))) := t1
        replace t2 : (put τ ("asked" : Str) (.lst (askL k))) ("meant" : Str) = some (.lst ((codesN ns).map dueD)) := t2
        show Xs _ _ _ _ _ (put τ ("asked" : Str) (.lst (askL k))) _ _
        generalize put τ ("asked" : Str) (.lst (askL k)) = τ at hasked hsign hpart t1 t2
        have p0 : AtI [.int (tabZ k), .int (dParts k), .int (dDeed k), .int (dNum k), .str (dText k)] 0 (.int (tabZ k)) := .inl ⟨by decide, rfl⟩
        have p4 : AtI [.int (tabZ k), .int (dParts k), .int (dDeed k), .int (dNum k), .str (dText k)] 4 (.str (dText k)) := .inl ⟨by decide, rfl⟩
        refine xs_cons (x_if (b := false) (evt_cmp (ev_compN [] [] isF (evI_list (ds := askL k) R.handled (ev_name hasked)) (comp_ok [] []) (fun C i d hd => ?_) (show 6 ≤ sizeLine by decide))
          (ev_compN [("part" : Str)] [(("part" : Str), L + 1)] (eqF (tabZ k)) (evI_range1 (n := 6) T.names R.handled (T.blt _ _ rfl) (ev_int 6) (by decide)) (comp_ok [("part" : Str)] [(("part" : Str), L + 1)]) (fun C i d hd => ?_) (show 6 ≤ sizeLine by decide))
          (cmp_Ne true (by rw [ask_all]; exact List.all_eq_true.mpr (ask_pln _)) (List.all_eq_true.mpr (ask_pln _)) (by rw [ask_all]; simp) hu)) (fun h => nomatch h) (fun _ => xs_nil ?_))
        · have hb : ∃ b, d = .bool b := by
            have := List.mem_of_getElem? hd
            simp only [askL, List.mem_cons, List.not_mem_nil, or_false] at this
            rcases this with h | h | h | h | h | h <;> exact ⟨_, h⟩
          obtain ⟨b, rfl⟩ := hb
          exact ⟨tst_nil, fun e he => by cases he; exact ev_tuple (evl_cons (ev_cmp (ev_name rfl) (ev_bool _) cmp_is_bool) (evl_cons (ev_cmp (ev_name rfl) (ev_bool _) cmp_is_bool) evl_nil))⟩
        · obtain ⟨_, rfl⟩ := upTo_at hd
          have hp0 : only τ [("part" : Str)] ("part" : Str) = some (dueD k) := only_at hpart (by simp) rfl
          have hp' : (put (only τ [("part" : Str)]) ("k" : Str) (.int (0 + (i : Int)))) ("part" : Str) = some (dueD k) := hp0
          exact ⟨tst_nil, fun e he => by
            cases he
            exact ev_tuple (evl_cons (ev_cmp (ev_name rfl) (ev_item_tup (ev_name hp') (ev_int _) p0 (show 5 ≤ sizeLine by decide)) cmp_eq) (evl_cons (ev_cmp (ev_name rfl) (ev_item_tup (ev_name hp') (ev_int _) p0 (show 5 ≤ sizeLine by decide)) cmp_ne) evl_nil))⟩
        refine xs_cons (x_if (b := false) (evt_cmp (d := .str (dText k)) (d' := .tup [.str ("" : Str), .str (mapB3 (chrS k))]) (ev_item_tup (ev_name hpart) (ev_int _) p4 (show 5 ≤ sizeLine by decide)) (ev_tuple (evl_cons (ev_str _) (evl_cons (ev_fn T R (fn_map (x := chrS k) T rfl) (evl_cons (ev_name hsign) evl_nil)) evl_nil)))
          (cmp_nin_tup false (word_ok hk1) (by
            intro e he
            simp only [List.mem_cons, List.not_mem_nil, or_false] at he
            rcases he with rfl | rfl
            · show PyData.strOk ("" : Str) = true
              decide +kernel
            · exact map_ok hk1) (by
            simp only [List.mem_cons, List.not_mem_nil, or_false, D.str.injEq, true_iff]
            exact text_word k) hu)) (fun h => nomatch h) (fun _ => xs_nil (xs_nil ⟨t1, t2⟩)))
      · rintro τ ⟨t1, t2⟩
        have hd9 : (duesN ns).length ≤ 9 := by rw [← law_len]; exact law_len9 ns
        refine xs_cons (x_assign (ev_compN [] [] dueF (evI_list (ds := (codesN ns).map dueD) R.handled (ev_name t2)) (comp_ok [] []) (fun C i d hd => ?_) (by rw [List.length_map]; exact sl9 hc9)) ?_)
        · rw [List.getElem?_map] at hd
          cases e : (codesN ns)[i]? with
          | none => rw [e] at hd; cases hd
          | some k =>
            rw [e] at hd; cases hd
            rw [dueF_at]
            refine ⟨tst_one (EvT.of_eq (evt_cmp (ev_item_tup (ds := [.int (tabZ k), .int (dParts k), .int (dDeed k), .int (dNum k), .str (dText k)]) (ev_name rfl) (ev_int _) (.inl ⟨by decide, rfl⟩) (show 5 ≤ sizeLine by decide)) (ev_int _) cmp_ne) ?_), fun e he => ?_⟩
            · by_cases h : tabZ k = 0 <;> simp [h]
            · split at he
              · cases he
              · cases he; exact ev_name rfl
        rw [dues_fm]
        have hdue : (put τ ("due" : Str) (.lst ((duesN ns).map dueD))) ("due" : Str) = some (.lst ((duesN ns).map dueD)) := rfl
        replace t1 : (put τ ("due" : Str) (.lst ((duesN ns).map dueD))) ("codes" : Str) = some (.lst (natsI (codesN ns))) := t1
        show Xs _ _ _ _ _ (put τ ("due" : Str) (.lst ((duesN ns).map dueD))) _ _
        generalize put τ ("due" : Str) (.lst ((duesN ns).map dueD)) = τ at hdue t1
        clear t2
        refine xs_cons (x_compN [] [] (onNat toldF) (evI_list (ds := natsI (codesN ns)) R.handled (ev_name t1)) (comp_ok [] []) (fun C i d hd => ?_) hszc ?_)
        · obtain ⟨k, hk, rfl⟩ := natsI_at hd
          have hk1 := hcok k (List.mem_of_getElem? hk)
          have b1 := fn_b1 (P := P) (w := w) (x := chrS k) (r := inB b1N k) T rfl (by rw [show (((chrS k).cps.getD 0 0 : Nat) : Int) = (k : Int) from rfl]; exact decide_eq_true_iff)
          rw [onNat_at]
          unfold toldF
          refine ⟨tst_one (EvT.of_eq (evt_not (evt_bool (ev_fn T R b1 (evl_cons (ev_fn T R (chrF T hk1) (evl_cons (ev_name rfl) evl_nil)) evl_nil)))) ?_), fun e he => ?_⟩
          · rw [(asked k).1]
            by_cases h : tabZ k = 0 <;> simp [h]
          · split at he
            · cases he
            · cases he
              exact ev_fn T R (fn_told (k := k) T hk1) (evl_cons (ev_fn T R (chrF T hk1) (evl_cons (ev_name rfl) evl_nil)) evl_nil)
        rw [fm_nats, told_fm]
        rw [show ((codesN ns).filter fun k => decide (tabZ k ≠ 0)) = duesN ns from rfl, told_tel]
        have htold : (put τ ("told" : Str) (.lst ((lawL ns).map telD))) ("told" : Str) = some (.lst ((lawL ns).map telD)) := rfl
        replace hdue : (put τ ("told" : Str) (.lst ((lawL ns).map telD))) ("due" : Str) = some (.lst ((duesN ns).map dueD)) := hdue
        show Xs _ _ _ _ _ (put τ ("told" : Str) (.lst ((lawL ns).map telD))) _ _
        generalize put τ ("told" : Str) (.lst ((lawL ns).map telD)) = τ at hdue htold
        clear t1
        have hl9 := law_len9 ns
        have hszl : ((lawL ns).map telD).length ≤ sizeLine := by rw [List.length_map]; exact sl9 hl9
        have hszd : ((duesN ns).map dueD).length ≤ sizeLine := by rw [List.length_map]; exact sl9 hd9
        refine xs_cons (x_if (b := false) (evt_cmp (ev_comp (b := true) (σc := only τ []) readT (comp_ok [] []) (evI_list (ds := (lawL ns).map telD) R.handled (ev_name htold) (.inr ⟨⟨_, _, _, rfl⟩, fun d hd => by obtain ⟨q, _, rfl⟩ := List.mem_map.mp hd; exact ⟨_, rfl⟩⟩)) (fun C i d hd => ?_) hszl)
          (ev_compN [] [] cut14 (evI_list (ds := (duesN ns).map dueD) R.handled (ev_name hdue)) (comp_ok [] []) (fun C i d hd => ?_) hszd)
          (cmp_Ne false (by rw [three_same]; exact List.all_eq_true.mpr (three_pln ns)) (List.all_eq_true.mpr (three_pln ns)) (by rw [three_same]; simp) hu)) (fun h => nomatch h) (fun _ => xs_nil ?_))
        · rw [List.getElem?_map] at hd
          cases e : (lawL ns)[i]? with
          | none => rw [e] at hd; cases hd
          | some q =>
            rw [e] at hd; cases hd
            have hq := law_num ns q (List.mem_of_getElem? e)
            have hread := fn_read (P := P) (w := w) (n := q.num) T (Nat.le_trans (apL_len 6 q.num (by omega)) (by decide))
            refine turn_tup (xs := [(("parts" : Str), _), (("deed" : Str), _), (("word" : Str), _)]) R.handled rfl (fun x hx => ?_) (fun x hx => ?_) rfl (tst_nil (by show (readT (telD q)).isSome = true; rw [readT_tel]; rfl)) (fun e he => ?_)
            · unfold only; rw [if_neg (by simp)]
            · simp only [List.mem_cons, List.not_mem_nil, or_false] at hx
              rcases hx with rfl | rfl | rfl <;> exact .inl ⟨rfl, rfl⟩
            · have he' : readT (telD q) = some e := he
              rw [readT_tel] at he'
              cases he'
              exact ev_tuple (evl_cons (ev_name rfl) (evl_cons (ev_name rfl) (evl_cons (ev_fn T R hread (evl_cons (ev_name rfl) evl_nil)) evl_nil)))
        · rw [List.getElem?_map] at hd
          cases e : (duesN ns)[i]? with
          | none => rw [e] at hd; cases hd
          | some k =>
            rw [e] at hd; cases hd
            refine ⟨tst_nil, fun e he => ?_⟩
            cases he
            exact ev_cut_tup (ds := [.int (tabZ k), .int (dParts k), .int (dDeed k), .int (dNum k), .str (dText k)]) (a := 1) (b := 4) (ev_name rfl) (ev_int _) (ev_int _) (by decide) (by decide) (show 4 ≤ 5 by decide) (show 5 ≤ sizeLine by decide)
        have hlenD : Fn P w h₀ mg mb ("len" : Str) 0 [.lst ((duesN ns).map dueD)] (.int ((lawL ns).length : Nat)) := by
          have := fn_b (x := "len") T (callIs_len (P := P) (w := w) (h₀ := h₀) (ds := (duesN ns).map dueD) hszd)
          rw [List.length_map, ← law_len] at this
          exact this
        refine xs_cons (x_assign (d := .lst (intsD (heightsL (lawL ns)))) (Ev.of_eq (ev_compN [("due" : Str)] [(("due" : Str), L + 2)] (onNat fun j => some (.int (hAt (lawL ns) j))) (evI_range1 (n := (((lawL ns).length + 1 : Nat) : Int)) T.names R.handled (T.blt _ _ rfl) (Ev.of_eq (ev_add (ev_fn T R hlenD (evl_cons (ev_name hdue) evl_nil)) (ev_int 1)) rfl) (by omega)) (comp_ok [("due" : Str)] [(("due" : Str), L + 2)]) (fun C i d hd => ?_) ?_) ?_) ?_)
        · obtain ⟨hi, rfl⟩ := upTo_at hd
          rw [Int.toNat_natCast] at hi
          refine ⟨tst_nil, fun e he => ?_⟩
          have he' : some (D.int (hAt (lawL ns) (0 + (i : Int)).toNat)) = some e := he
          cases he'
          have hi0 : (0 + (i : Int)).toNat = i := by omega
          rw [hi0]
          have hp0 : only τ [("due" : Str)] ("due" : Str) = some (.lst ((duesN ns).map dueD)) := only_at hdue (by simp) rfl
          have hp' : (put (only τ [("due" : Str)]) ("place" : Str) (.int (0 + (i : Int)))) ("due" : Str) = some (.lst ((duesN ns).map dueD)) := hp0
          refine Ev.of_eq (ev_fn T R (fn_b T (callIs_sum (ns := (((duesN ns).map dueD).take i).map upD) (by rw [List.length_map, List.length_take, List.length_map]; exact sl9 (by omega)))) (evl_cons (Ev.of_eq (ev_compN [] [] upF (evI_list (ds := ((duesN ns).map dueD).take i) R.handled (Ev.of_eq (ev_cut (ds := (duesN ns).map dueD) (ev_name hp') .none (.some (Ev.of_eq (ev_name (d := .int (0 + (i : Int))) rfl) (d' := .int (i : Int)) (by rw [Int.zero_add]))) hszd) ?_)) (comp_ok [] []) (fun C2 i2 d2 hd2 => ?_) ?_) ?_) evl_nil)) ?_
          · rw [cut_to]
          · have hm := List.mem_of_mem_take (List.mem_of_getElem? hd2)
            obtain ⟨k, _, rfl⟩ := List.mem_map.mp hm
            refine ⟨tst_nil, fun e he => ?_⟩
            cases he
            exact ev_sub (ev_item_tup (ds := [.int (tabZ k), .int (dParts k), .int (dDeed k), .int (dNum k), .str (dText k)]) (d := .int (dParts k)) (ev_name rfl) (ev_int _) (.inl ⟨by decide, rfl⟩) (show 5 ≤ sizeLine by decide)) (ev_int _)
          · rw [List.length_take, List.length_map]; exact sl9 (by omega)
          · rw [up_list]
          · rw [hAt_dues]
        · rw [upTo_length, Int.toNat_natCast]; exact Nat.le_trans (show _ ≤ 10 by omega) (by decide)
        · rw [Int.toNat_natCast, upTo_nats, fm_nats, fm_map (fun j => D.int (hAt (lawL ns) j))]
          unfold heightsL intsD
          rw [List.map_map]; rfl
        have hheights : (put τ ("heights" : Str) (.lst (intsD (heightsL (lawL ns))))) ("heights" : Str) = some (.lst (intsD (heightsL (lawL ns)))) := rfl
        replace hdue : (put τ ("heights" : Str) (.lst (intsD (heightsL (lawL ns))))) ("due" : Str) = some (.lst ((duesN ns).map dueD)) := hdue
        replace htold : (put τ ("heights" : Str) (.lst (intsD (heightsL (lawL ns))))) ("told" : Str) = some (.lst ((lawL ns).map telD)) := htold
        show Xs _ _ _ _ _ (put τ ("heights" : Str) (.lst (intsD (heightsL (lawL ns))))) _ _
        generalize put τ ("heights" : Str) (.lst (intsD (heightsL (lawL ns)))) = τ at hdue htold hheights
        obtain ⟨mu, hmu⟩ := low_ex (lawL ns)
        have hhl : (intsD (heightsL (lawL ns))).length = (lawL ns).length + 1 := by rw [intsD_length, heights_len]
        have hsb := hsum_bound (law_kind ns)
        have hszh : (intsD (heightsL (lawL ns))).length ≤ sizeLine := by rw [hhl]; exact Nat.le_trans (show _ ≤ 10 by omega) (by decide)
        have hlast : AtI (intsD (heightsL (lawL ns))) (-1) (.int (hsum (lawL ns))) := by
          refine .inr ⟨by decide, by rw [hhl]; omega, ?_⟩
          rw [hhl, show ((-1 : Int) + (((lawL ns).length + 1 : Nat) : Int)).toNat = (lawL ns).length by omega]
          unfold intsD
          rw [List.getElem?_map, List.getElem?_eq_getElem (by rw [heights_len]; omega), heights_at, hAt_all]
          rfl
        refine xs_cons (x_assign (d := .lst (natsI (cutsN (lawL ns)))) (ev_fn T R (fn_b T (callIs_sorted (ns := (cutsU (lawL ns) mu).map fun (n : Nat) => (n : Int)) (ms := (cutsN (lawL ns)).map fun (n : Nat) => (n : Int)) ?_ ((cutsU_perm hmu).map _) ?_)) (evl_cons (Ev.of_eq (ev_compN [("heights" : Str)] [(("heights" : Str), L + 3)] (onNat fun k => some (.int (((heightsL (lawL ns)).idxOf (mu + (k : Int)) : Nat) : Int))) (evI_range1 (n := -hsum (lawL ns)) T.names R.handled (T.blt _ _ rfl) (ev_neg (ev_item_lst (ds := intsD (heightsL (lawL ns))) (ev_name hheights) (ev_neg (ev_int 1)) hlast hszh)) (by omega)) (comp_ok [("heights" : Str)] [(("heights" : Str), L + 3)]) (fun C i d hd => ?_) ?_) ?_) evl_nil)) ?_)
        · rw [List.length_map, ← (cutsU_perm hmu).length_eq]
          exact Nat.lt_of_le_of_lt (Nat.le_trans (cutsN_len _) hl9) (by decide)
        · rw [List.pairwise_map]
          exact (cuts_rise _).imp fun h => by omega
        · obtain ⟨hi, rfl⟩ := upTo_at hd
          have hk : (i : Int) < -hsum (lawL ns) := by omega
          have hpos : 0 < (lawL ns).length := by omega
          have hlow := hmu hpos
          obtain ⟨c1, c2, c3⟩ := cut_valid hlow hk
          refine ⟨tst_nil, fun e he => ?_⟩
          have hi0 : (0 + (i : Int)).toNat = i := by omega
          have he' : some (D.int (((heightsL (lawL ns)).idxOf (mu + (((0 + (i : Int)).toNat : Nat) : Int)) : Nat) : Int)) = some e := he
          cases he'
          rw [hi0]
          have hp0 : only τ [("heights" : Str)] ("heights" : Str) = some (.lst (intsD (heightsL (lawL ns)))) := only_at hheights (by simp) rfl
          have hp' : (put (only τ [("heights" : Str)]) ("k" : Str) (.int (0 + (i : Int)))) ("heights" : Str) = some (.lst (intsD (heightsL (lawL ns)))) := hp0
          refine ev_index (ns := heightsL (lawL ns)) (k := mu + (i : Int)) (ev_name hp') (Ev.of_eq (ev_add (ev_fn T R (fn_b T (callIs_min (ns := (heightsL (lawL ns)).take (lawL ns).length) (m := mu) ?_ ?_)) (evl_cons (Ev.of_eq (ev_cut (ds := intsD (heightsL (lawL ns))) (ev_name hp') .none (.some (ev_neg (ev_int 1))) hszh) ?_) evl_nil)) (ev_name (d := .int (0 + (i : Int))) rfl)) (by rw [Int.zero_add])) c1 (lay_small (by rw [heights_len]; omega) fun x hx => ?_)
          · obtain ⟨i0, h1, h2⟩ := hlow.at'
            refine List.mem_iff_getElem?.mpr ⟨i0, ?_⟩
            rw [List.getElem?_take_of_lt h1, List.getElem?_eq_getElem (by rw [heights_len]; omega), heights_at, h2]
          · intro x hx
            obtain ⟨i0, h1⟩ := List.mem_iff_getElem?.mp hx
            have hlt : i0 < (lawL ns).length := by
              have := (List.getElem?_eq_some_iff.mp h1).1
              rw [List.length_take] at this
              omega
            rw [List.getElem?_take_of_lt hlt, List.getElem?_eq_getElem (by rw [heights_len]; omega), heights_at] at h1
            have := hlow.le i0 hlt
            rw [← Option.some.inj h1]; exact this
          · rw [cut_last, hhl]
            unfold intsD
            rw [List.map_take, Nat.add_sub_cancel]
          · obtain ⟨j, _, rfl⟩ := mem_heights.mp hx
            have := hAt_bound (law_kind ns) j
            omega
        · rw [upTo_length]; exact Nat.le_trans (show _ ≤ 9 by omega) (by decide)
        · rw [upTo_nats, fm_nats, fm_map (fun k => D.int (((heightsL (lawL ns)).idxOf (mu + ((k : Nat) : Int)) : Nat) : Int))]
          unfold cutsU intsD
          rw [List.map_map, List.map_map]; rfl
        have hcuts : (put τ ("cuts" : Str) (.lst (natsI (cutsN (lawL ns))))) ("cuts" : Str) = some (.lst (natsI (cutsN (lawL ns)))) := rfl
        replace hdue : (put τ ("cuts" : Str) (.lst (natsI (cutsN (lawL ns))))) ("due" : Str) = some (.lst ((duesN ns).map dueD)) := hdue
        replace htold : (put τ ("cuts" : Str) (.lst (natsI (cutsN (lawL ns))))) ("told" : Str) = some (.lst ((lawL ns).map telD)) := htold
        show Xs _ _ _ _ _ (put τ ("cuts" : Str) (.lst (natsI (cutsN (lawL ns))))) _ _
        generalize put τ ("cuts" : Str) (.lst (natsI (cutsN (lawL ns)))) = τ at hdue htold hcuts
        clear hheights
        obtain ⟨m, r, em, m1, m2, m3, m4, main⟩ := law_end ns
        have hul : ((duesN ns).map partOf).length = (lawL ns).length := by rw [law_len, List.length_map]
        have hsort : CallIs P w h₀ 0 (.builtin "sorted") [.lst ((iter stepR (((duesN ns).map partOf).length * ((duesN ns).map partOf).length) (ring0 ((duesN ns).map partOf))).map quadD)] (.lst (m.map quadD)) := by
          rw [hul]
          show CallIs P w h₀ 0 (.builtin "sorted") [.lst ((iter stepR ((lawL ns).length * (lawL ns).length) (lawL ns)).map quadD)] (.lst (m.map quadD))
          rw [em]
          exact callIs_sortq m1 m2 m3 m4
        have hstr := fn_struck (P := P) (w := w) (us := (duesN ns).map partOf) T (by rw [hul]; exact Nat.le_trans hl9 (by decide)) (fun h0 j _ => law_ring ns (by rw [← hul]; exact h0) j) m (by omega) hsort
        rw [← dues_parts] at hstr
        refine xs_cons (x_assign (d := natsD (m.map (·.num))) (Ev.of_eq (ev_fn T R hstr (evl_cons (ev_name hdue) evl_nil)) (by unfold natsD; rw [List.map_map]; rfl)) ?_)
        have hleft : (put τ ("left" : Str) (natsD (m.map (·.num)))) ("left" : Str) = some (natsD (m.map (·.num))) := rfl
        replace hcuts : (put τ ("left" : Str) (natsD (m.map (·.num)))) ("cuts" : Str) = some (.lst (natsI (cutsN (lawL ns)))) := hcuts
        replace htold : (put τ ("left" : Str) (natsD (m.map (·.num)))) ("told" : Str) = some (.lst ((lawL ns).map telD)) := htold
        show Xs _ _ _ _ _ (put τ ("left" : Str) (natsD (m.map (·.num)))) _ _
        generalize put τ ("left" : Str) (natsD (m.map (·.num))) = τ at hleft htold hcuts
        clear hdue
        have hlenT : Fn P w h₀ mg mb ("len" : Str) 0 [.lst ((lawL ns).map telD)] (.int ((lawL ns).length : Nat)) := by
          have := fn_b (x := "len") T (callIs_len (P := P) (w := w) (h₀ := h₀) (ds := (lawL ns).map telD) hszl)
          rw [List.length_map] at this
          exact this
        refine xs_cons (x_for (b := true) (ds := upTo 0 (lawL ns).length) (fun i σ => σ ("told" : Str) = some (.lst ((lawL ns).map telD)) ∧ σ ("cuts" : Str) = some (.lst (natsI (cutsN (lawL ns)))) ∧ σ ("left" : Str) = some (natsD (m.map (·.num))))
          (evI_range1 (n := (((lawL ns).length : Nat) : Int)) T.names R.handled (T.blt _ _ rfl) (ev_fn T R hlenT (evl_cons (ev_name htold) evl_nil)) (by omega)) ⟨htold, hcuts, hleft⟩ ?_ ?_)
        · rintro i d ρ hd ⟨r1, r2, r3⟩
          obtain ⟨hi, rfl⟩ := upTo_at hd
          rw [Int.zero_add]
          refine ⟨_, asg_name, ?_⟩
          have hplace : (put ρ ("place" : Str) (.int (i : Int))) ("place" : Str) = some (.int (i : Int)) := rfl
          replace r1 : (put ρ ("place" : Str) (.int (i : Int))) ("told" : Str) = some (.lst ((lawL ns).map telD)) := r1
          replace r2 : (put ρ ("place" : Str) (.int (i : Int))) ("cuts" : Str) = some (.lst (natsI (cutsN (lawL ns)))) := r2
          replace r3 : (put ρ ("place" : Str) (.int (i : Int))) ("left" : Str) = some (natsD (m.map (·.num))) := r3
          show Xs _ _ _ _ _ (put ρ ("place" : Str) (.int (i : Int))) _ _
          generalize put ρ ("place" : Str) (.int (i : Int)) = ρ at hplace r1 r2 r3
          have hszc2 : (natsI (cutsN (lawL ns))).length ≤ sizeLine := by rw [natsI_len]; exact sl9 (Nat.le_trans (cutsN_len _) hl9)
          refine xs_cons (x_assign (d := readD (turnedAt (lawL ns) i)) (ev_fn T R (fn_reading T (law_read ns i)) (evl_cons (Ev.of_eq (ev_addl (Ev.of_eq (ev_cut (ds := (lawL ns).map telD) (ev_name r1) (.some (ev_name hplace)) .none hszl) (d' := .lst (((lawL ns).map telD).drop i)) ?_) (Ev.of_eq (ev_cut (ds := (lawL ns).map telD) (ev_name r1) .none (.some (ev_name hplace)) hszl) (d' := .lst (((lawL ns).map telD).take i)) ?_) ?_) ?_) evl_nil)) ?_)
          · rw [cut_from]
          · rw [cut_to]
          · rw [List.length_drop, List.length_take, List.length_map]; exact Nat.le_trans (show _ ≤ 9 by omega) (by decide)
          · unfold turnedAt; rw [List.map_append, List.map_drop, List.map_take]
          have hread : (put ρ ("read" : Str) (readD (turnedAt (lawL ns) i))) ("read" : Str) = some (readD (turnedAt (lawL ns) i)) := rfl
          replace hplace : (put ρ ("read" : Str) (readD (turnedAt (lawL ns) i))) ("place" : Str) = some (.int (i : Int)) := hplace
          replace r1 : (put ρ ("read" : Str) (readD (turnedAt (lawL ns) i))) ("told" : Str) = some (.lst ((lawL ns).map telD)) := r1
          replace r2 : (put ρ ("read" : Str) (readD (turnedAt (lawL ns) i))) ("cuts" : Str) = some (.lst (natsI (cutsN (lawL ns)))) := r2
          replace r3 : (put ρ ("read" : Str) (readD (turnedAt (lawL ns) i))) ("left" : Str) = some (natsD (m.map (·.num))) := r3
          show Xs _ _ _ _ _ (put ρ ("read" : Str) (readD (turnedAt (lawL ns) i))) _ _
          generalize put ρ ("read" : Str) (readD (turnedAt (lawL ns) i)) = ρ at hread hplace r1 r2 r3
          have hcp : ∀ e ∈ natsI (cutsN (lawL ns)), Pln false 7 e = true := fun e he => by
            obtain ⟨z, _, rfl⟩ := List.mem_map.mp he; rfl
          have hmem : (decide (i ∈ cutsN (lawL ns))) = true ↔ (D.int (i : Int)) ∈ natsI (cutsN (lawL ns)) := by
            rw [decide_eq_true_iff]
            unfold natsI intsD
            rw [List.map_map, List.mem_map]
            constructor
            · intro h; exact ⟨i, h, rfl⟩
            · rintro ⟨n, h, e⟩
              have e' : D.int (n : Int) = D.int (i : Int) := e
              injection e' with e'
              have : n = i := by omega
              rw [← this]; exact h
          have hlay : PyData.layable0 (.list (((cutsN (lawL ns)).map fun (n : Nat) => (n : Int)).map .int)) = true := lay_small (by rw [List.length_map]; exact Nat.le_trans (Nat.le_trans (cutsN_len _) hl9) (by decide)) fun x hx => by
            obtain ⟨n, hn, rfl⟩ := List.mem_map.mp hx
            have := cutsN_lt hn
            have h32 : (2 : Nat) ^ 32 = 4294967296 := by decide
            omega
          have hm9 : (natsI (m.map fun q : Quad => q.num)).length ≤ sizeLine := by rw [natsI_len, List.length_map]; exact sl9 (by omega)
          refine xs_cons (x_assign (d := .int ((if i ∈ cutsN (lawL ns) then (cutsN (lawL ns)).idxOf i else 0 : Nat) : Int)) (ev_if (x := decide (i ∈ cutsN (lawL ns))) (evt_cmp (ev_name hplace) (ev_name r2) (cmp_in_lst false rfl hcp hmem hu)) (fun h => ?_) (fun h => ?_)) ?_)
          · have h' := of_decide_eq_true h
            refine Ev.of_eq (ev_index (ns := (cutsN (lawL ns)).map fun (n : Nat) => (n : Int)) (k := (i : Int)) (ev_name r2) (ev_name hplace) (List.mem_map.mpr ⟨i, h', rfl⟩) hlay) ?_
            rw [idx_cast, if_pos h']
          · have h' := of_decide_eq_false h
            refine Ev.of_eq (ev_int 0) ?_
            rw [if_neg h']; rfl
          obtain ⟨t, ht⟩ : ∃ t : Nat, t = if i ∈ cutsN (lawL ns) then (cutsN (lawL ns)).idxOf i else 0 := ⟨_, rfl⟩
          rw [← ht]
          have hturn : (put ρ ("turn" : Str) (.int (t : Int))) ("turn" : Str) = some (.int (t : Int)) := rfl
          replace hread : (put ρ ("turn" : Str) (.int (t : Int))) ("read" : Str) = some (readD (turnedAt (lawL ns) i)) := hread
          replace hplace : (put ρ ("turn" : Str) (.int (t : Int))) ("place" : Str) = some (.int (i : Int)) := hplace
          replace r1 : (put ρ ("turn" : Str) (.int (t : Int))) ("told" : Str) = some (.lst ((lawL ns).map telD)) := r1
          replace r2 : (put ρ ("turn" : Str) (.int (t : Int))) ("cuts" : Str) = some (.lst (natsI (cutsN (lawL ns)))) := r2
          replace r3 : (put ρ ("turn" : Str) (.int (t : Int))) ("left" : Str) = some (natsD (m.map (·.num))) := r3
          show Xs _ _ _ _ _ (put ρ ("turn" : Str) (.int (t : Int))) _ _
          generalize put ρ ("turn" : Str) (.int (t : Int)) = ρ at hturn hread hplace r1 r2 r3
          have hmain := main i hi
          refine xs_cons (x_if (b := false) (evt_cmp (d' := readD (turnedAt (lawL ns) i)) (ev_name hread (hp := by unfold readD; cases readR (turnedAt (lawL ns) i) <;> rfl)) (ev_if (x := decide (i ∈ cutsN (lawL ns))) (evt_cmp (ev_name hplace) (ev_name r2) (cmp_in_lst false rfl hcp hmem hu)) (fun h => ?_) (fun h => ?_)) (cmp_Ne false (read_pln _) (read_pln _) (by simp) hu)) (fun h => nomatch h) (fun _ => xs_nil (xs_nil ⟨r1, r2, r3⟩)))
          · have h' := of_decide_eq_true h
            rw [if_pos h'] at hmain ht
            have r4 : ρ ("left" : Str) = some (.lst (natsI (m.map fun q : Quad => q.num))) := r3
            refine Ev.of_eq (ev_addl (Ev.of_eq (ev_cut (ds := natsI (m.map fun q : Quad => q.num)) (ev_name r4) (.some (ev_name hturn)) .none hm9) (d' := .lst ((natsI (m.map fun q : Quad => q.num)).drop t)) ?_) (Ev.of_eq (ev_cut (ds := natsI (m.map fun q : Quad => q.num)) (ev_name r4) .none (.some (ev_name hturn)) hm9) (d' := .lst ((natsI (m.map fun q : Quad => q.num)).take t)) ?_) ?_) ?_
            · rw [cut_from]
            · rw [cut_to]
            · rw [List.length_drop, List.length_take, natsI_len, List.length_map]; exact Nat.le_trans (show _ ≤ 9 by omega) (by decide)
            · unfold readD
              rw [hmain, ← ht]
              unfold turnedAt natsD natsI intsD
              simp only [List.map_append, List.map_drop, List.map_take]
          · have h' := of_decide_eq_false h
            rw [if_neg h'] at hmain
            refine Ev.of_eq ev_none ?_
            unfold readD
            rw [hmain]
        · rintro ρ _
          exact xs_cons (x_ret (ev_bool _) rfl))
    (fun _ _ _ _ _ _ _ _ vs hv => by
      obtain ⟨v, rfl⟩ := len1 hv
      rfl) (hloc := by intro x hx; exact .inl (by rw [List.mem_singleton.mp hx]; rfl)) (hcn := fun L => (by decide : ([("heights" : Str), ("due" : Str), ("part" : Str)] : List Str).Nodup))
end


theorem go_halt {s s' : Shared} {t : Thread} {o : Outcome} (h : Step.go s t = .halt o s') : False := Step.noConfusion h
theorem halt_done {s s' : Shared} {o : Outcome} {f : Flow} (h : Step.halt o s = .halt (.done f) s') (hn : ∀ g, o ≠ .done g) : False := Step.noConfusion h fun e _ => hn f e
theorem finish_ne {s s' : Shared} {o : Outcome} {f : Flow} (h : finish o s = .halt (.done f) s') (hn : ∀ g, o ≠ .done g) : False := by
  unfold finish at h
  by_cases q : leftWithCleanup s.gens = true
  · rw [if_pos q] at h; exact halt_done h fun g e => Outcome.noConfusion e
  · rw [if_neg q] at h; exact halt_done h hn
theorem step_done {den : Code → Sem PySem.Fin} {p : Program} {w : World} {s s' : Shared} {t : Thread} {f : Flow} (h : step den p w s t = .halt (.done f) s') : through t = true ∧ s' = s := by
  refine ⟨?_, step_halt_same den p w s s' t _ h⟩
  obtain ⟨heap, gens, drawn, toks, os⟩ := s
  obtain ⟨cur, code, pos, stack⟩ := t
  cases cur with
  | pure fin =>
    cases fin with
    | done g =>
      cases stack with
      | nil => rfl
      | cons fr r => cases fr <;> exact (go_halt h).elim
    | again c => exact (go_halt h).elim
  | raise e =>
    cases stack with
    | nil => exact (finish_ne h fun g e => Outcome.noConfusion e).elim
    | cons fr r => cases fr <;> exact (go_halt h).elim
  | unsupported x => exact (halt_done h fun g e => Outcome.noConfusion e).elim
  | register x k => exact (halt_done h fun g e => Outcome.noConfusion e).elim
  | fork x k => exact (halt_done h fun g e => Outcome.noConfusion e).elim
  | await x k => exact (halt_done h fun g e => Outcome.noConfusion e).elim
  | rule x k => exact (go_halt h).elim
  | «at» x k => exact (go_halt h).elim
  | alloc x k => exact (go_halt h).elim
  | loadIfAlive x k => exact (go_halt h).elim
  | point x k => exact (go_halt h).elim
  | fresh k => exact (go_halt h).elim
  | ask k => exact (go_halt h).elim
  | call c h' g l k => exact (go_halt h).elim
  | handled o k => exact (go_halt h).elim
  | stack k => exact (go_halt h).elim
  | newGen c k => exact (go_halt h).elim
  | thread k => exact (go_halt h).elim
  | _ => simp only [step] at h <;> (repeat' split at h) <;> first | exact (go_halt h).elim | exact (halt_done h fun g e => Outcome.noConfusion e).elim
theorem runN_through {den : Code → Sem PySem.Fin} {p : Program} {w : World} : ∀ (n : Nat) {s s' : Shared} {t : Thread} {f : Flow}, runN den p w n s t = .halted (.done f) s' →
    ∃ m t₁, runN den p w m s t = .running s' t₁ ∧ through t₁ = true
  | 0, _, _, _, _, h => by cases h
  | n + 1, s, s', t, f, h => by
    simp only [runN] at h
    cases hs : step den p w s t with
    | go s₂ t₂ =>
      simp only [hs] at h
      obtain ⟨m, t₁, h1, h2⟩ := runN_through n h
      exact ⟨m + 1, t₁, by simp only [runN, hs]; exact h1, h2⟩
    | halt o s₂ =>
      simp only [hs] at h
      injection h with h1 h2
      subst h1 h2
      obtain ⟨h3, rfl⟩ := step_done hs
      exact ⟨0, t, rfl, h3⟩

theorem ran_of_wp {P : Program} {w : World} {t : Sem PySem.Fin} {s : Shared} {R : Shared → Prop} (hz : s.asleep)
    (h : wpAny (model P w) callerA t (fun fin s' => ∃ f, fin = .done f ∧ (R s' ∧ s'.gens = #[])) (fun _ _ => False) s) :
    ∃ n t₁ s₁, schedN (denote table) P w n (.single s ⟨t, .builtin "claim.caller" {}, default, []⟩) = .running (.single s₁ t₁) ∧ through t₁ = true ∧ R s₁ ∧ s₁.heap.life = s.heap.life ∧ s₁.gens = #[] := by
  have hw := wp_of_wpAny_done (M := model P w) (R := fun r s' => ((∃ f, r = .ok f) ∧ R s' ∧ s'.gens = #[]) ∧ leftWithCleanup s'.gens = false) caller_in (wpAny_mono h (by
    rintro fin s' ⟨f, rfl, h1, h2⟩
    exact ⟨f, rfl, ⟨⟨_, rfl⟩, h1, h2⟩, leftWithCleanup_false_of_bare (by rw [h2]; exact fun x hx => by simp at hx)⟩) (fun _ _ x => x.elim)) default
  obtain ⟨n, r, s', hn, ⟨f, rfl⟩, hR, hg⟩ := (wp_iff_halts (M := model P w) t (fun r s' => (∃ f, r = .ok f) ∧ R s' ∧ s'.gens = #[]) default s).mp hw
  obtain ⟨s'', hr, hf, hc⟩ := runNI_real (denote table) P w hn (outcomeOf_ends _)
  obtain rfl := Shared.eq_of_forget_eq hf hg
  have hne : ∀ k s₂, runN (denote table) P w k s ⟨t, .builtin "claim.caller" {}, default, []⟩ ≠ .halted (.unsupported "lifetime:generator-with-cleanup-left-suspended") s₂ := by
    intro k s₂ hk
    have a := runN_mono (denote table) P w n k s _ _ _ hr
    have b := runN_mono (denote table) P w k n s _ _ s₂ hk
    rw [Nat.add_comm, b] at a
    injection a with a1 _
    cases a1
  obtain ⟨m, t₁, h1, h2⟩ := runN_through n hr
  refine ⟨m, t₁, s'', (schedN_eq_runN (denote table) P w s _ hz ⟨hc, hne⟩ m).trans (congrArg Run.lift h1), h2, hR, runN_life (denote table) P w hr, hg⟩

theorem rset1 : isSubtype (.type "range") (.type "set") = pure false := by rw [isSubtype_type]; kernel_rfl
theorem rset2 : isSubtype (.type "range") (.type "frozenset") = pure false := by rw [isSubtype_type]; kernel_rfl
section
variable {P : Program} {w : World} {A : Around} {E : Value → Shared → Prop} {s : Shared}

set_option maxHeartbeats 3200000 in
/-- set(range(a, b)) -/
theorem set_range {r : Addr} {a b : Int} {t u v : Tok} {Q : Value → Shared → Prop} (hh : A.handled = none) (hr : s.heap.get? r = some { cls := .type "range", data := .fields #[.int a t, .int b u, .int 1 v] })
    (hs : Builtin.Range.small a b 1 = true) (hb : (b - a).toNat + 1 < scanBound)
    (h : ∀ (h' : Heap) (tk : Nat), h'.SetOf (intKind P w) s.heap.objs.size (fun k' => (firstMet (fun i => a + (i : Int) * 1) (b - a).toNat).any (· == k')) (firstMet (fun i => a + (i : Int) * 1) (b - a).toNat).length →
      (∀ b o, b < s.heap.objs.size → s.heap.get? b = some o → h'.get? b = some o) → Q (.ref s.heap.objs.size) { s with heap := h', toks := tk }) :
    wpAny (model P w) A (call (.type "set") [.ref r]) Q E s := by
  obtain ⟨c, tl, hmro⟩ := PySem.F.called_set.mro
  have hmade := PySem.F.called_set.made
  have hsub := PySem.F.called_set.sub
  refine wpAny_call (codeAny_of_tree ?_)
  show wpAny _ _ (callAny (.type "set") _) _ _ _
  refine wpAny_pure ⟨Code.quiet_builtin _ (by decide +kernel), codeAny_builtin PySem.F.entry_type_call ?_⟩
  rw [Around.under_plain (weight_type_call_type "set" [.ref r] []) rfl]
  have h1 := PySem.F.called_set.notType
  have h2 := PySem.F.called_set.canCreate
  have hct := PySem.F.typeCall_set_1 (.ref r)
  repeat (any_goals (first | assumption | wp_step))
  refine codeAny_mono (code_set_new_1 (.ref r) (E := E) (Q₁ := fun obj s₁ => ∃ led : Bool, obj = .ref s.heap.objs.size ∧ s₁ = { s with heap := s.heap.push { cls := .type "set", dict := none, data := .set #[] 0 (.fresh 0 0 led) } }) fun led => ⟨led, rfl, rfl⟩) fun r1 s₁ hr1 => ?_
  cases r1 with
  | error e => exact hr1
  | ok fl =>
    cases fl with
    | ret obj =>
      obtain ⟨led, rfl, rfl⟩ := hr1
      have hS : (s.heap.push { cls := .type "set", dict := none, data := .set #[] 0 (.fresh 0 0 led) }).get? s.heap.objs.size = some { cls := .type "set", dict := none, data := .set #[] 0 (.fresh 0 0 led) } := Heap.get?_push_size _ rfl
      have hT : Shared.TypeIs { s with heap := s.heap.push { cls := .type "set", dict := none, data := .set #[] 0 (.fresh 0 0 led) } } (.ref s.heap.objs.size) "set" := ⟨_, hS, rfl⟩
      have hli := PySem.F.called_set.init.lookup
      have hbi := PySem.F.called_set.init.bind (.ref s.heap.objs.size)
      repeat (any_goals (first | assumption | wp_step))
      refine codeAny_mono (codeAny_call_builtin (R := wants (fun r s₂ => r = .none ∧ ∃ h' tk, s₂ = { s with heap := h', toks := tk } ∧
          h'.SetOf (intKind P w) s.heap.objs.size (fun k' => (firstMet (fun i => a + (i : Int) * 1) (b - a).toNat).any (· == k')) (firstMet (fun i => a + (i : Int) * 1) (b - a).toNat).length ∧
          (∀ b o, b < s.heap.objs.size → s.heap.get? b = some o → h'.get? b = some o)) E) PySem.F.called_set.init.plain PySem.F.entry_set_init (check_set_init_1 hT ?_)) fun r₂ s₂ hr₂ => ?_
      · have hr' : (s.heap.push { cls := .type "set", dict := none, data := .set #[] 0 (.fresh 0 0 led) }).get? r = some { cls := .type "range", data := .fields #[.int a t, .int b u, .int 1 v] } := Heap.get?_push_of_some _ hr
        have hsls := rset1
        have hslf := rset2
        have hne : (Value.type "range" == Value.type "dict") = false := by decide
        unfold Builtin.«set.__init__» noKeywords Builtin.Frozenset.updateFrom
        generalize hPI : pyIter = PI
        wp_walk
        subst hPI
        refine wpAny_pyIter_range hr' hs ?_
        refine wpAny_bind (wpAny_runValue ?_)
        have hlS : r < s.heap.objs.size := Heap.lt_size hr
        have hh3 : A.in1.in1.in1.handled = none := by simp [hh]
        have hSf : s.heap.objs.size ∉ [(s.heap.push { cls := .type "set", dict := none, data := .set #[] 0 (.fresh 0 0 led) }).objs.size] := by
          rw [Heap.size_push]; simp only [List.mem_singleton]
          exact Nat.ne_of_lt (Nat.lt_succ_self _)
        refine codeAny_set_update_loopS ((Walks.range hh3 _ a 1 (b - a).toNat).toS) s.heap.objs.size
          hSf (fun i => a + (i : Int) * 1) (fun i v hv => ?hv) hb ((b - a).toNat - 0) 0 _ (by omega) (Nat.zero_le _) ?hst ?hS0 ?hR
        case hv => exact hv
        case hst =>
          have e1 : Builtin.Range.rangeSize a b 1 = ((b - a).toNat : Int) - ((0 : Nat) : Int) := by rw [rangeSize_one]; split <;> omega
          have e2 : a = a + ((0 : Nat) : Int) * 1 := by simp
          show IsRangeIter _ _ (a + ((0 : Nat) : Int) * 1) _ 1
          rw [← e1, ← e2]
          exact Heap.get?_push_size _ rfl
        case hS0 =>
          have hget : ((s.heap.push { cls := .type "set", dict := none, data := .set #[] 0 (.fresh 0 0 led) }).push { cls := .type "range_iterator", data := .fields #[rawInt a, rawInt (Builtin.Range.rangeSize a b 1), rawInt 1] }).get? s.heap.objs.size
              = some { cls := .type "set", dict := none, data := .set #[] 0 (.fresh 0 0 led) } := Heap.get?_push_of_some _ hS
          exact SetOf_congr ((setObjOf_fresh (knd := intKind P w) led).setOf hget (by unfold scanBound; omega)) (fun _ => rfl) rfl
        case hR =>
          intro s' hm hS'
          obtain ⟨h', g', d', tk', os'⟩ := s'
          have eg : g' = s.gens := hm.gens
          have ed : d' = s.drawn := hm.drawn
          have eo : os' = s.os := hm.os
          subst eg; subst ed; subst eo
          show wpAny _ _ _ _ _ _
          refine wpAny_pure ?_
          show wpAny _ _ (ret Value.none) _ _ _
          refine wpAny_pure ⟨rfl, h', tk', rfl, hS', fun b o hb e => ?_⟩
          have hb1 : b ≠ s.heap.objs.size := Nat.ne_of_lt hb
          have hb2 : b ≠ (s.heap.push { cls := .type "set", dict := none, data := .set #[] 0 (.fresh 0 0 led) }).objs.size := by
            rw [Heap.size_push]; exact Nat.ne_of_lt (Nat.lt_succ_of_lt hb)
          exact hm.heap b o (by simp only [List.mem_cons, List.not_mem_nil, or_false, not_or]; exact ⟨hb1, hb2⟩) (Heap.get?_push_of_some _ (Heap.get?_push_of_some _ e))
      · cases r₂ with
        | error e => exact hr₂
        | ok fl₂ =>
          cases fl₂ with
          | ret r =>
            obtain ⟨rfl, h', tk, rfl, hS', hk'⟩ := hr₂
            repeat (any_goals (first | assumption | wp_step))
            exact h _ _ hS' hk'
          | _ => exact hr₂.elim
    | _ => exact hr1.elim
end

abbrev pw : Program := PySem.Challenge.pw_kl0165_01
noncomputable def menv (c F : Addr) : Env := { scope := pw.main.scope, locals := mainGlobals, globals := mainGlobals, cells := [], code := .ref c, frame := some F }
noncomputable def mcx (c F Pl : Addr) : Cx := ⟨menv c F, [mainGlobals, Pl]⟩
noncomputable def Kof (Pl : Addr) (h : Heap) : Know := fun a => if a = mainGlobals ∨ a = Pl then none else h.get? a
theorem Kof_some {Pl : Addr} {h : Heap} {a : Addr} {o : Obj} (e : Kof Pl h a = some o) : a ≠ mainGlobals ∧ a ≠ Pl ∧ h.get? a = some o := by
  unfold Kof at e
  by_cases q : a = mainGlobals ∨ a = Pl
  · rw [if_pos q] at e; cases e
  · rw [if_neg q] at e
    exact ⟨fun x => q (.inl x), fun x => q (.inr x), e⟩
theorem Kof_of {Pl : Addr} {h : Heap} {a : Addr} (h1 : a ≠ mainGlobals) (h2 : a ≠ Pl) : Kof Pl h a = h.get? a := if_neg (fun q => q.elim h1 h2)
noncomputable def noσ : Str → Option D := fun _ => none
section
variable {hE : Heap} {w : World} {A : Around} {c F Pl : Addr} {mg mb : Str → Option Value} {ps : Array Value}

theorem inv_mod {s : Shared} (hm : s.heap.Main mg c Pl ps) (hbase : ∀ a o, hE.get? a = some o → Kof Pl s.heap a = some o) : Inv hE (mcx c F Pl) noσ (Kof Pl s.heap) s where
  base := hbase
  kin := fun a o e => (Kof_some e).2.2
  off := fun a ha => by
    have : a = mainGlobals ∨ a = Pl := by simpa [mcx] using ha
    exact if_pos this
  has := fun a ha => by
    have : a = mainGlobals ∨ a = Pl := by simpa [mcx] using ha
    rcases this with rfl | rfl
    · obtain ⟨o, es, ep, h, _⟩ := hm.g; exact ⟨o, h⟩
    · obtain ⟨o, vs, file, tf, flags, tg, inF, text, tt, op, h1, h2, h3, h4, h5, h6, h7, h8, _⟩ := hm.code; exact ⟨op, h8⟩
  ns := ⟨mg, hm.g⟩
  loc := List.mem_cons_self
  cell := fun x a e => by cases e
  inj := fun x y a e => by cases e
  vars := fun x d e => by cases e
  own := fun x a ds e => by cases e
  own1 := fun x y a ds es e => by cases e

variable (hE w A c F Pl mg mb) in
structure EvM (e : Expr) (d : D) : Prop where
  run : ∀ K s (Q : Value → Shared → Prop) (E : Value → Shared → Prop), Inv hE (mcx c F Pl) noσ K s → s.heap.Ns mainGlobals mg → s.heap.Ns builtinsNs mb → (∀ v K' s', Step K s K' s' → Rep K' v d → Q v s') → wpAny (model pw w) A (eval e (menv c F)) Q E s
theorem EvM.of {e : Expr} {d : D} (h : Ev pw w hE A (mcx c F Pl) noσ e d) : EvM hE w A c F Pl mg mb e d := ⟨fun K s Q E I _ _ hq => h.run K s Q E I hq⟩
theorem Step.nsTo {K K' : Know} {s s' : Shared} {a : Addr} {m : Str → Option Value} (st : Step K s K' s') (n : s.heap.Ns a m) : s'.heap.Ns a m := n.keeps st.keep

theorem evm_addl {l r : Expr} {pos : Pos} {ds es : List D} (h1 : EvM hE w A c F Pl mg mb l (.lst ds)) (h2 : EvM hE w A c F Pl mg mb r (.lst es)) (hfit : ds.length + es.length ≤ sizeLine) : EvM hE w A c F Pl mg mb (.BinOp l .Add r pos) (.lst (ds ++ es)) := .mk fun K s Q E I g b hq =>
  wpAny_BinOp (h1.run K s _ E I g b fun v K1 s1 st1 r1 => h2.run K1 s1 _ E (I.step st1) (st1.nsTo g) (st1.nsTo b) fun u K2 s2 st2 r2 => by
    have r1' := r1.mono st2.mono
    cases r1' with
    | @lst a vs n _ hk hr =>
    obtain ⟨a', vs', n', rfl, hk', hr'⟩ := r2.inv
    refine PySem.P.add_list (items := vs.toArray) (items2 := vs'.toArray) (st2.kin _ _ hk) (st2.kin _ _ hk') ?_ (by rw [List.size_toArray, List.size_toArray, hr.length, hr'.length]; exact hfit)
    have hob : (s2.heap.push { cls := .type "list", data := .seq (vs.toArray ++ vs'.toArray) }).get? s2.heap.objs.size = some { cls := .type "list", data := .seq (vs.toArray ++ vs'.toArray) } := Heap.get?_push_size _ rfl
    have st3 := Step.one (t := s2.toks) st2.kin (fun b o e => Heap.get?_push_of_some _ e) (none_of_size (Nat.le_refl _)) hob
    refine hq _ _ _ ((st1.trans st2).trans st3) (.lst (vs := vs ++ vs') (n := 0) ?_ ((hr.append hr').mono st3.mono))
    rw [← List.append_toArray]
    exact Know.put_same _ _ _)

theorem gnameM {x : Str} {f : Value} {p : Pos} {s : Shared} {Q : Value → Shared → Prop} {E : Value → Shared → Prop} (g : s.heap.Ns mainGlobals mg) (b : s.heap.Ns builtinsNs mb) (hf : (mg x).or (mb x) = some f) (hQ : Q f s)
    (hd : (x == ("__debug__" : Str)) = false := by decide) : wpAny (model pw w) A (eval (.Name x p) (menv c F)) Q E s := by
  refine Calls.Name_module rfl rfl ?_ hd
  cases e : mg x with
  | some v => rw [e] at hf; cases hf; exact Calls.loadGlobal_global g e hQ
  | none => rw [e] at hf; exact Calls.loadGlobal_builtin g e b hf hQ

theorem evm_call {x : Str} {p pos : Pos} {T : String} {e : Expr} {d d' : D} (R : Room A 0) (hf : (mg x).or (mb x) = some (.type T)) (h : EvM hE w A c F Pl mg mb e d) (hcall : CallIs pw w hE 0 (.type T) [d] d')
    (hs : starEach [e] (menv c F) = [(false, eval e (menv c F))] := by rfl) (hd : (x == ("__debug__" : Str)) = false := by decide) :
    EvM hE w A c F Pl mg mb (.Call (.Name x p) [e] [] pos) d' := .mk fun K s Q E I g b hq => by
  refine wpAny_Call_Name_kw (gnameM g b hf ?_ hd)
  show wpAny _ _ (callWith pos (.type T) [] (backTo pos (starEach [e] (menv c F))) []) _ _ _
  have args : wpAny (model pw w) A (evalArgs (.type T) true (backTo pos (starEach [e] (menv c F))) []) (fun x s₁ => wpAny (model pw w) A (call (.type T) ([] ++ x.pos) x.kw) Q E s₁) E s := by
    refine evalArgs_of hs ?_
    rw [hs]
    exact Calls.spliced_cons (h.run K s _ E I g b fun v K1 s1 st1 r1 => Calls.spliced_nil (hcall A K1 s1 [v] Q E R.handled R.depth R.units (I.step st1).base st1.kin (.one r1) fun v' K2 s2 st2 r2 => hq _ _ _ (st1.trans st2) r2))
  exact PyProof.Rows.callWith_type (backTo_plain hs) args
theorem evm_range {x : Str} {p pos : Pos} {e e' : Expr} {a b : Int} (R : Room A 0) (hf : (mg x).or (mb x) = some (.type "range")) (h1 : Ev pw w hE A (mcx c F Pl) noσ e (.int a)) (h2 : Ev pw w hE A (mcx c F Pl) noσ e' (.int b))
    (hs : starEach [e, e'] (menv c F) = [(false, eval e (menv c F)), (false, eval e' (menv c F))] := by rfl) (hd : (x == ("__debug__" : Str)) = false := by decide) :
    EvM hE w A c F Pl mg mb (.Call (.Name x p) [e, e'] [] pos) (.rng a b) := .mk fun K s Q E I g bb hq => by
  refine wpAny_Call_Name_kw (gnameM g bb hf ?_ hd)
  show wpAny _ _ (callWith pos (.type "range") [] (backTo pos (starEach [e, e'] (menv c F))) []) _ _ _
  have args : wpAny (model pw w) A (evalArgs (.type "range") true (backTo pos (starEach [e, e'] (menv c F))) []) (fun x s₁ => wpAny (model pw w) A (call (.type "range") ([] ++ x.pos) x.kw) Q E s₁) E s := by
    refine evalArgs_of hs ?_
    rw [hs]
    refine Calls.spliced_cons (h1.run K s _ E I fun v K1 s1 st1 r1 => Calls.spliced_cons (h2.run K1 s1 _ E (I.step st1) fun u K2 s2 st2 r2 => Calls.spliced_nil ?_))
    cases r1 with
    | int _ t =>
    obtain ⟨t', rfl⟩ := r2.inv
    refine call_range_2 ?_
    refine hq _ _ _ ((st1.trans st2).trans (Step.one (t := s2.toks + 1) st2.kin (fun b o e => Heap.get?_push_of_some _ e) (none_of_size (Nat.le_refl _)) (Heap.get?_push_size _ rfl))) (.rng (Know.put_same _ _ _))
  exact PyProof.Rows.callWith_type (backTo_plain hs) args
end

section
variable {P : Program} {w : World} {h₀ : Heap}
theorem upTo_ints (a : Int) (n : Nat) : upTo a n = intsD ((List.range n).map fun (k : Nat) => a + (k : Int)) := by
  unfold upTo intsD; rw [List.map_map]; rfl
theorem callIs_listrng {a b : Int} (ha : -(2 ^ 62) ≤ a ∧ a < 2 ^ 62) (hb : -(2 ^ 62) ≤ b ∧ b < 2 ^ 62) (hn : (b - a).toNat ≤ 2 ^ 24) : CallIs P w h₀ 0 (.type "list") [.rng a b] (.lst (upTo a (b - a).toNat)) := fun A K s vs Q E hh hd hu hb' hk hr hq => by
  cases hr with
  | @cons v _ _ _ r rr =>
    obtain rfl := rr.inv
    cases r with
    | @rng r _ _ t u v' e =>
      have hn' : Builtin.Range.rangeSize a b 1 = ((b - a).toNat : Int) := by rw [rangeSize_one]; split <;> omega
      refine call_list_range hh (hk _ _ e) (small_one ha.1 ha.2 hb.1 hb.2) hn' hn fun h' tk acc' c' hk' hg hit => ?_
      have st := Step.one (t := tk) hk hk' (none_of_size (Nat.le_refl _)) hg
      refine hq _ _ _ st (.lst (vs := acc'.toList) (n := c') (by rw [Array.toArray_toList]; exact Know.put_same _ _ _) ?_)
      have key : ∀ (ms : List Int) (acc : List Value), acc.length = ms.length → (∀ (j : Nat) (v : Value), acc[j]? = some v → ∃ k, ms[j]? = some k ∧ ∃ t, v = Value.int k t) → RepAll (K.put s.heap.objs.size { cls := .type "list", dict := none, data := .seq acc' c', slots := #[] }) acc (intsD ms) := by
        intro ms
        induction ms with
        | nil => intro acc h1 _; rw [List.length_eq_zero_iff.mp h1]; exact .nil
        | cons k ms ih =>
          intro acc h1 h2
          cases acc with
          | nil => simp at h1
          | cons v acc =>
            obtain ⟨k', e1, t, rfl⟩ := h2 0 v rfl
            cases e1
            exact .cons (.int _ _) (ih acc (by simpa using h1) fun j u hu => h2 (j + 1) u hu)
      rw [upTo_ints]
      refine key _ _ (by rw [Array.length_toList, hit.1, List.length_map, List.length_range]) fun j v hj => ?_
      rw [Array.getElem?_toList] at hj
      obtain ⟨t', rfl⟩ := hit.2 j v hj
      have hjl : j < (b - a).toNat := by
        have := (Array.getElem?_eq_some_iff.mp hj).1
        rw [hit.1] at this; exact this
      exact ⟨a + (j : Int), by rw [List.getElem?_map, List.getElem?_range hjl]; rfl, t', by rw [Int.mul_one]⟩
theorem any_mem (ns : List Int) (k : Int) : (ns.any fun x => x == k) = true ↔ k ∈ ns := by
  rw [List.any_eq_true]
  exact ⟨fun ⟨x, h1, h2⟩ => eq_of_beq h2 ▸ h1, fun h => ⟨k, h, by simp⟩⟩
theorem rep_set {K : Know} {s : Shared} {h' : Heap} {tk : Nat} {val : Nat → Int} {n : Nat} {ns : List Int} {Q : Value → Shared → Prop} (hk : KIn K s.heap) (hS : h'.SetOf (intKind P w) s.heap.objs.size (fun k' => (firstMet val n).any (· == k')) (firstMet val n).length)
    (hkp : ∀ b o, b < s.heap.objs.size → s.heap.get? b = some o → h'.get? b = some o) (hb : n < scanBound) (hns : ∀ k, k ∈ (List.range n).map val ↔ k ∈ ns)
    (hq : ∀ v K' s', Step K s K' s' → Rep K' v (.set ns) → Q v s') : Q (.ref s.heap.objs.size) { s with heap := h', toks := tk } := by
  obtain ⟨o, ho, hso⟩ := hS.objOf
  have st := Step.one (t := tk) hk (fun b o e => hkp b o (Heap.lt_size e) e) (none_of_size (Nat.le_refl _)) ho
  refine hq _ _ _ st (.set (Know.put_same _ _ _) hso.intSetOf (Nat.lt_of_le_of_lt (firstMet_length_le val n) hb) fun k => ?_)
  rw [firstMet_any, any_mem]
  exact hns k
theorem callIs_setl {ns : List Int} (hn : ns.length + 1 < scanBound) : CallIs P w h₀ 0 (.type "set") [.lst (intsD ns)] (.set ns) := fun A K s vs Q E hh hd hu hb' hk hr hq => by
  cases hr with
  | @cons v _ _ _ r rr =>
    obtain rfl := rr.inv
    obtain ⟨a, vs, n, rfl, e, r⟩ := r.inv
    have hl : vs.length = ns.length := by rw [r.length, intsD_length]
    refine call_set_list hh (isListOf hk e) (by rw [List.toList_toArray]; exact r.intsAre) (by rw [List.size_toArray, hl]; exact hn) fun h' tk hS hkp => ?_
    refine rep_set hk hS hkp (by rw [List.size_toArray, hl]; omega) (fun k => ?_) hq
    rw [List.size_toArray, hl]
    have e2 : (List.range ns.length).map (fun i => ns.getD i 0) = ns := by
      apply List.ext_getElem (by simp)
      intro i h1 h2
      rw [List.getElem_map, List.getElem_range]
      exact getD_at h2
    rw [e2]
theorem callIs_setrng {a b : Int} (ha : -(2 ^ 62) ≤ a ∧ a < 2 ^ 62) (hb : -(2 ^ 62) ≤ b ∧ b < 2 ^ 62) (hn : (b - a).toNat + 1 < scanBound) : CallIs P w h₀ 0 (.type "set") [.rng a b] (.set (runFrom a (b - a).toNat)) := fun A K s vs Q E hh hd hu hb' hk hr hq => by
  cases hr with
  | @cons v _ _ _ r rr =>
    obtain rfl := rr.inv
    cases r with
    | @rng r _ _ t u v' e =>
      refine set_range hh (hk _ _ e) (small_one ha.1 ha.2 hb.1 hb.2) hn fun h' tk hS hkp => ?_
      refine rep_set hk hS hkp (by omega) (fun k => ?_) hq
      unfold runFrom
      simp
end

theorem codeAmong_not {pos : Pos} {a b : Int} {c : Value} (hne : (a == (pos.line : Int)) = false) : ∀ (l : List Value), TriplesOk l → codeAmong pos l = none → codeAmong pos (l ++ [rawInt a, rawInt b, c]) = none := by
  intro l h hn
  fun_induction TriplesOk l with
  | case1 =>
    show codeAmong pos [rawInt a, rawInt b, c] = none
    unfold rawInt codeAmong
    rw [hne]; rfl
  | case2 a' t b' u x rest ih =>
    rw [codeAmong] at hn
    by_cases q : (a' == (pos.line : Int) && b' == (pos.col : Int)) = true
    · rw [if_pos q] at hn; cases hn
    · rw [if_neg q] at hn
      show codeAmong pos (.int a' t :: .int b' u :: x :: (rest ++ [rawInt a, rawInt b, c])) = none
      rw [codeAmong, if_neg q]
      exact ih h hn
  | case3 => exact h.elim
theorem isCode_triples {h : Heap} {c Pl : Addr} {ps : Array Value} (x : h.IsCode c Pl ps) : TriplesOk ps.toList := by
  obtain ⟨o, vs, file, tf, flags, tg, inF, text, tt, op, h1, h2, h3, h4, h5, h6, h7, h8, h9, h10, h11⟩ := x
  exact h10

/-- what stands behind some statements of the top -/
structure ModI (h0 : Heap) (mb mg0 : Str → Option Value) (c Pl : Addr) (n : Int) (G : List (Str × D)) (mg : Str → Option Value) (ps : Array Value) (h : Heap) : Prop where
  main : h.Main mg c Pl ps
  old : ∀ b o, h0.get? b = some o → b ≠ mainGlobals → h.get? b = some o
  bns : h.Ns builtinsNs mb
  glob : ∀ x d, G.lookup x = some d → ∃ v, mg x = some v ∧ Rep (Kof Pl h) v d
  defs : ∀ x st, G.lookup x = some (.fn st) → ∃ a o fd, mg x = some (.ref a) ∧ Kof Pl h a = some o ∧ o.data = .func fd ∧ fd.name = x ∧ fd.qualname = x ∧ FnIs (Kof Pl h) fd st
  dom : ∀ x v, mg x = some v → x ∈ startupNames ∨ x ∈ pw.boundNames
  laid : ∀ x ∈ laidNames, mg x = mg0 x
  far : h0.objs.size ≤ Pl
  below : ∀ pos : Pos, n ≤ (pos.line : Int) → codeAmong pos ps.toList = none
section
variable {hE : Heap} {w : World} {A : Around} {c F Pl : Addr} {mb mg0 : Str → Option Value} {h0 : Heap}
variable (w A c F Pl mb mg0 h0) in
structure RunsM (n : Int) (G : List (Str × D)) (ss : List Stmt) (n' : Int) (G' : List (Str × D)) : Prop where
  run : ∀ (s : Shared) (mg : Str → Option Value) (ps : Array Value) (Q : Flow → Shared → Prop) (E : Value → Shared → Prop), ModI h0 mb mg0 c Pl n G mg ps s.heap →
    (∀ mg' ps' h' tk, ModI h0 mb mg0 c Pl n' G' mg' ps' h' → Q .next { s with heap := h', toks := tk }) → wpAny (model pw w) A (execs ss (menv c F)) Q E s
variable (w A c F Pl mb mg0 h0) in
structure Runs1 (n : Int) (G : List (Str × D)) (st : Stmt) (n' : Int) (G' : List (Str × D)) : Prop where
  run : ∀ (s : Shared) (mg : Str → Option Value) (ps : Array Value) (Q : Flow → Shared → Prop) (E : Value → Shared → Prop), ModI h0 mb mg0 c Pl n G mg ps s.heap →
    (∀ mg' ps' h' tk, ModI h0 mb mg0 c Pl n' G' mg' ps' h' → Q .next { s with heap := h', toks := tk }) → wpAny (model pw w) A (exec st (menv c F)) Q E s
theorem rm_nil {n : Int} {G : List (Str × D)} : RunsM w A c F Pl mb mg0 h0 n G [] n G := .mk fun s mg ps Q E I hq => wpAny_execs_nil (hq mg ps s.heap s.toks I)
theorem rm_cons {n n1 n2 : Int} {G G1 G2 : List (Str × D)} {st : Stmt} {ss : List Stmt} (h1 : Runs1 w A c F Pl mb mg0 h0 n G st n1 G1) (h2 : RunsM w A c F Pl mb mg0 h0 n1 G1 ss n2 G2) : RunsM w A c F Pl mb mg0 h0 n G (st :: ss) n2 G2 :=
  .mk fun s mg ps Q E I hq => wpAny_execs_cons (h1.run s mg ps _ E I fun mg1 ps1 h1' tk1 I1 => h2.run _ mg1 ps1 Q E I1 fun mg2 ps2 h2' tk2 I2 => hq mg2 ps2 h2' tk2 I2)

theorem r1_assign {n : Int} {G : List (Str × D)} {x : Str} {p pos : Pos} {e : Expr} {d : D}
    (he : ∀ mg : Str → Option Value, (∀ x v, mg x = some v → x ∈ startupNames ∨ x ∈ pw.boundNames) → EvM hE w A c F Pl mg mb e d)
    (hsub : ∀ a o, hE.get? a = some o → a ≠ mainGlobals ∧ h0.get? a = some o) (hb : x ∈ startupNames ∨ x ∈ pw.boundNames) (hl : x ∉ laidNames) (hk : pw.main.scope.names.lookup x = some .local) (hnb : x ≠ ("__builtins__" : Str))
    (hsw : swapsWith e (some (.Name x p)) pos.line (menv c F) = pure false) (hd : ∀ st, d ≠ .fn st := by intro st h; cases h) : Runs1 w A c F Pl mb mg0 h0 n G (.Assign [.Name x p] e pos) n ((x, d) :: G) := .mk fun s mg ps Q E I hq => by
  refine wpAny_Assign_Name ((he mg I.dom).run (Kof Pl s.heap) s _ E (inv_mod I.main fun a o e => by
    obtain ⟨h1, h2⟩ := hsub a o e
    rw [Kof_of h1 (fun q => absurd (Heap.lt_size h2) (Nat.not_lt.mpr (q ▸ I.far)))]
    exact I.old a o h2 h1) I.main.g I.bns fun v K1 s1 st1 r1 => ?_) hsw
  have g1 := st1.nsTo I.main.g
  refine wpAny_storeName_local (env := menv c F) hk g1 (fun h' hg' hs' => ?_) (by rfl)
  obtain ⟨hh, tt, rfl⟩ := st1.same
  have hPlne : Pl ≠ mainGlobals := fun q => absurd I.main.low.2 (by rw [q]; exact Nat.lt_irrefl _)
  have hcne : c ≠ mainGlobals := fun q => absurd I.main.low.1 (by rw [q]; exact Nat.lt_irrefl _)
  have keep : ∀ b o, b ≠ mainGlobals → s.heap.get? b = some o → h'.get? b = some o := fun b o q e => (hs'.2 b q).trans (st1.keep _ _ e)
  have sub : KSub K1 (Kof Pl h') := fun a o e => by
    have e1 := st1.kin _ _ e
    have h1 : a ≠ mainGlobals := fun q => by
      obtain ⟨oo, _, _, ho, _⟩ := I.main.g
      have := st1.new _ _ ho
      rw [← q, e] at this
      rw [show Kof Pl s.heap a = none from if_pos (.inl q)] at this; cases this
    have h2 : a ≠ Pl := fun q => by
      obtain ⟨o, vs, file, tf, flags, tg, inF, text, tt, op, g1, g2, g3, g4, g5, g6, g7, g8, _⟩ := I.main.code
      have := st1.new _ _ g8
      subst q
      rw [e] at this
      rw [show Kof a s.heap a = none from if_pos (.inr rfl)] at this; cases this
    rw [Kof_of h1 h2]
    exact (hs'.2 a h1).trans e1
  have subK : KSub (Kof Pl s.heap) (Kof Pl h') := fun a o e => sub _ _ (st1.mono _ _ e)
  refine hq _ ps h' _ ⟨⟨hg', ?_, I.main.low, ?_⟩, fun b o e q => keep b o q (I.old b o e q), I.bns.at' fun o e => keep _ _ (by decide) e, fun y d' hy => ?_, fun y st hy => ?_, fun y u hy => ?_, fun y hy => ?_, I.far, I.below⟩
  · exact (I.main.code.keeps st1.keep).sameBut hs' hcne hPlne
  · obtain ⟨bm, o, h1, h2, h3, h4, h5, h6⟩ := I.main.bmod
    refine ⟨bm, o, ?_, h2, h3, h4, keep _ _ h3 h5, h6⟩
    show (if ("__builtins__" : Str) = x then _ else _) = _
    rw [if_neg (fun q => hnb q.symm)]; exact h1
  · rw [List.lookup_cons] at hy
    cases q : y == x with
    | true =>
      rw [q] at hy; cases hy
      refine ⟨v, ?_, r1.mono sub⟩
      show (if y = x then _ else _) = _
      rw [if_pos (eq_of_beq q)]
    | false =>
      rw [q] at hy
      obtain ⟨v', h1, h2⟩ := I.glob y d' hy
      refine ⟨v', ?_, h2.mono subK⟩
      show (if y = x then _ else _) = _
      rw [if_neg (by simpa using q)]; exact h1
  · rw [List.lookup_cons] at hy
    cases q : y == x with
    | true => rw [q] at hy; exact absurd (Option.some.inj hy) (hd st)
    | false =>
      rw [q] at hy
      obtain ⟨a, o, fd, h1, h2, h3⟩ := I.defs y st hy
      refine ⟨a, o, fd, ?_, subK _ _ h2, h3.1, h3.2.1, h3.2.2.1, h3.2.2.2.mono subK⟩
      show (if y = x then _ else _) = _
      rw [if_neg (by simpa using q)]; exact h1
  · replace hy : (if y = x then some v else mg y) = some u := hy
    by_cases q : y = x
    · rw [q]; exact hb
    · rw [if_neg q] at hy; exact I.dom y u hy
  · show (if y = x then _ else _) = _
    rw [if_neg (fun (q : y = _) => hl (by rw [← q]; exact hy))]; exact I.laid y hy

theorem r1_def {n : Int} {G : List (Str × D)} {name : Str} {params : Arguments} {body : List Stmt} {scope : Scope} {pos : Pos} {st : Stmt} (hst : st = .FunctionDef name params body [] none [] scope none name pos)
    (hexec : PlainDefTree name params body scope pos) (hfree : ∀ x ∈ scope.names, x.2 ≠ .free) (hdoc : docOf body = none) (hloc : pw.main.scope.names.lookup name = some .local)
    (hq : qualnameIn { scope := pw.main.scope, locals := mainGlobals, globals := mainGlobals, cells := [] } name name = name) (hnb : name ≠ ("__builtins__" : Str)) (hn : n ≤ (pos.line : Int))
    (hb : name ∈ pw.boundNames) (hl : name ∉ laidNames) : Runs1 w A c F Pl mb mg0 h0 n G st ((pos.line : Int) + 1) ((name, .fn st) :: G) := .mk fun s mg ps Q E I hQ => by
  subst hst
  refine wpAny_plainDef (prog := pw) hexec hfree hdoc hloc hq I.main (fun a c' h' tk ha hm' hfo hcd keep => ?_) hnb rfl (I.below pos hn)
  have hPlne : Pl ≠ mainGlobals := fun q => absurd I.main.low.2 (by rw [q]; exact Nat.lt_irrefl _)
  have hsz : ∀ b, b < s.heap.objs.size → b ≠ a := fun b hb q => absurd (q ▸ hb) (Nat.not_lt.mpr ha)
  have hgl : mainGlobals < s.heap.objs.size := by obtain ⟨o, _, _, ho, _⟩ := I.main.g; exact Heap.lt_size ho
  have hpl : Pl < s.heap.objs.size := by
    obtain ⟨o, vs, file, tf, flags, tg, inF, text, tt, op, h1, h2, h3, h4, h5, h6, h7, h8, _⟩ := I.main.code
    exact Heap.lt_size h8
  have subK : KSub (Kof Pl s.heap) (Kof Pl h') := fun b o e => by
    obtain ⟨h1, h2, h3⟩ := Kof_some e
    rw [Kof_of h1 h2]; exact keep b o h2 h1 h3
  have hold : ∀ b o, h0.get? b = some o → b ≠ Pl := fun b o e q => absurd (Heap.lt_size e) (Nat.not_lt.mpr (q ▸ I.far))
  have ea : Kof Pl h' a = some { cls := .type "function", data := .func (plainDef name params body scope ((mg "__name__").getD .none) (.ref c')) } := by
    rw [Kof_of (Ne.symm (hsz _ hgl)) (Ne.symm (hsz _ hpl))]; exact hfo
  have fis : FnIs (Kof Pl h') (plainDef name params body scope ((mg "__name__").getD .none) (.ref c')) (.FunctionDef name params body [] none [] scope none name pos) := by
    obtain ⟨c₂, o₂, vs₂, t₂, e₂, g₂, d₂, r₂⟩ := hcd.2
    cases e₂
    have ec : Kof Pl h' c' = some o₂ := by
      rw [Kof_of (Nat.ne_of_gt (Nat.lt_of_lt_of_le hgl hcd.1)) (Nat.ne_of_gt (Nat.lt_of_lt_of_le hpl hcd.1))]; exact g₂
    exact ⟨name, body, none, none, name, pos, c', o₂, vs₂, t₂, rfl, rfl, rfl, rfl, rfl, rfl, rfl, rfl, ec, d₂, r₂⟩
  refine hQ _ _ h' tk ⟨hm', fun b o e q => keep b o (hold b o e) q (I.old b o e q), I.bns.at' fun o e => keep _ o (fun q => ?_) (by decide) e, fun y d' hy => ?_, fun y st hy => ?_, fun y u hy => ?_, fun y hy => ?_, I.far, fun pos' hp' => ?_⟩
  · exact absurd I.main.low.2 (by rw [← q]; decide)
  · rw [List.lookup_cons] at hy
    cases q : y == name with
    | true =>
      rw [q] at hy; cases hy
      have q' := eq_of_beq q
      refine ⟨.ref a, ?_, ?_⟩
      · show (if y = name then _ else _) = _
        rw [if_pos q']
      · exact .fn ea rfl fis
    | false =>
      rw [q] at hy
      obtain ⟨v', h1, h2⟩ := I.glob y d' hy
      refine ⟨v', ?_, h2.mono subK⟩
      show (if y = name then _ else _) = _
      rw [if_neg (by simpa using q)]; exact h1
  · rw [List.lookup_cons] at hy
    cases q : y == name with
    | true =>
      rw [q] at hy
      have q' := eq_of_beq q
      obtain rfl := (D.fn.inj (Option.some.inj hy)).symm
      refine ⟨a, _, _, ?_, ea, rfl, q'.symm, q'.symm, fis⟩
      show (if y = name then _ else _) = _
      rw [if_pos q']
    | false =>
      rw [q] at hy
      obtain ⟨a', o', fd, h1, h2, h3⟩ := I.defs y st hy
      refine ⟨a', o', fd, ?_, subK _ _ h2, h3.1, h3.2.1, h3.2.2.1, h3.2.2.2.mono subK⟩
      show (if y = name then _ else _) = _
      rw [if_neg (by simpa using q)]; exact h1
  · replace hy : (if y = name then some (Value.ref a) else mg y) = some u := hy
    by_cases q : y = name
    · rw [q]; exact .inr hb
    · rw [if_neg q] at hy; exact I.dom y u hy
  · show (if y = name then _ else _) = _
    rw [if_neg (fun (q : y = _) => hl (by rw [← q]; exact hy))]; exact I.laid y hy
  · have e : (ps ++ #[rawInt pos.line, rawInt pos.col, .ref c']).toList = ps.toList ++ [rawInt pos.line, rawInt pos.col, .ref c'] := by simp
    rw [e]
    exact codeAmong_not (by rw [beq_eq_false_iff_ne]; omega) _ (isCode_triples I.main.code) (I.below pos' (by omega))
end

noncomputable def defOk (nm : Str) (k : Nat) : Bool :=
  (scopeOf (stmtAt k)).names.all (fun x => x.2 != .free) && (docOf (bodyOf (stmtAt k))).isNone && pw.main.scope.names.lookup nm == some .local &&
  qualnameIn { scope := pw.main.scope, locals := mainGlobals, globals := mainGlobals, cells := [] } nm nm == nm && nm != ("__builtins__" : Str) && pw.boundNames.contains nm && !laidNames.contains nm
section
variable {hE : Heap} {w : World} {A : Around} {c F Pl : Addr} {mb mg0 : Str → Option Value} {h0 : Heap}
theorem r1_defK (k : Nat) (nm : Str) (l : Nat) {n : Int} {G : List (Str × D)} (hst : stmtAt k = .FunctionDef nm (argsOf (stmtAt k)) (bodyOf (stmtAt k)) [] none [] (scopeOf (stmtAt k)) none nm (stPos (stmtAt k))) (hok : defOk nm k = true)
    (hexec : PlainDefTree nm (argsOf (stmtAt k)) (bodyOf (stmtAt k)) (scopeOf (stmtAt k)) (stPos (stmtAt k))) (hl : (stPos (stmtAt k)).line = l) (hn : n ≤ (l : Int)) : Runs1 w A c F Pl mb mg0 h0 n G (stmtAt k) ((l : Int) + 1) ((nm, .fn (stmtAt k)) :: G) := by
  unfold defOk at hok
  simp only [Bool.and_eq_true, List.all_eq_true, Option.isNone_iff_eq_none, beq_iff_eq, bne_iff_ne, Bool.not_eq_true', List.contains_iff_mem] at hok
  obtain ⟨⟨⟨⟨⟨⟨h1, h2⟩, h3⟩, h4⟩, h5⟩, h6⟩, h7⟩ := hok
  have := r1_def (w := w) (A := A) (c := c) (F := F) (Pl := Pl) (mb := mb) (mg0 := mg0) (h0 := h0) (n := n) (G := G) hst hexec h1 h2 h3 h4 h5 (by rw [hl]; exact hn) h6 (fun q => by rw [List.contains_iff_mem.mpr q] at h7; cases h7)
  rw [hl] at this
  exact this
theorem EvM.of_eq {mg : Str → Option Value} {e : Expr} {d d' : D} (h : EvM hE w A c F Pl mg mb e d) (q : d = d') : EvM hE w A c F Pl mg mb e d' := q ▸ h
theorem or_bi {mg : Str → Option Value} (hdom : ∀ x v, mg x = some v → x ∈ startupNames ∨ x ∈ pw.boundNames) {x : Str} {v : Value} (h : mb x = some v) (hx : (startupNames.contains x || pw.boundNames.contains x) = false := by decide +kernel) : (mg x).or (mb x) = some v := by
  have e : mg x = none := by
    cases q : mg x with
    | none => rfl
    | some v =>
      rw [Bool.or_eq_false_iff] at hx
      rcases hdom x v q with h | h
      · rw [List.contains_iff_mem.mpr h] at hx; cases hx.1
      · rw [List.contains_iff_mem.mpr h] at hx; cases hx.2
  rw [e, h]; rfl
noncomputable def constRows : List Expr → Option (List (List Int))
  | [] => some []
  | e :: r => (tupC e).bind fun x => (constInts x.1).bind fun ns => (constRows r).map (ns :: ·)
theorem evl_rows {P : Program} {h₀ : Heap} {cx : Cx} {σ : Str → Option D} {es : List Expr} {rs : List (List Int)} (h : constRows es = some rs) (hs : ∀ r ∈ rs, r.length ≤ sizeLine) : EvL P w h₀ A cx σ es (rs.map fun r => .tup (intsD r)) := by
  induction es generalizing rs with
  | nil => cases h; exact evl_nil
  | cons e es ih =>
    obtain ⟨x, e1, h⟩ := Option.bind_eq_some_iff.mp h
    obtain ⟨ns, e2, h⟩ := Option.bind_eq_some_iff.mp h
    obtain ⟨ms, e3, rfl⟩ := Option.map_eq_some_iff.mp h
    rw [tupC_some e1]
    exact evl_cons (ev_tuple (evl_ints e2) (by rw [intsD_length]; exact hs _ List.mem_cons_self)) (ih e3 fun r hr => hs r (List.mem_cons_of_mem _ hr))
end
theorem runs_rows : constRows (tupElts (stmtAt 17)) = some runsN := by kernel_rfl
theorem holes_ints : constInts (tupElts (stmtAt 19)) = some holesN := by kernel_rfl
theorem b3_pairs : constPairs (keysOf (stmtAt 3)) (valsOf (stmtAt 3)) = some b3D := by kernel_rfl
theorem b3_nodup : (b3D.map (·.1)).Nodup := rising_nodup (by kernel_rfl)
theorem b3_len : decide (b3D.length ≤ 5000) = true := by kernel_rfl
theorem b3_ne : b3D ≠ [] := by
  intro e
  have : b3D.isEmpty = false := by kernel_rfl
  rw [e] at this; cases this
noncomputable def topG : List (Str × D) := [
  (("law" : Str), .fn (stmtAt 28)),
  (("_law_struck" : Str), .fn (stmtAt 27)),
  (("_law_reading" : Str), .fn (stmtAt 26)),
  (("_law_plain" : Str), .fn (stmtAt 25)),
  (("_law_read" : Str), .fn (stmtAt 24)),
  (("_law_told" : Str), .fn (stmtAt 23)),
  (("_law_due" : Str), .fn (stmtAt 22)),
  (("_law_sum" : Str), .fn (stmtAt 21)),
  (("_law_code" : Str), .fn (stmtAt 20)),
  (("_LAW_HOLES" : Str), .tup (intsD holesN)),
  (("_LAW_SPELL" : Str), .fn (stmtAt 18)),
  (("_LAW_RUNS" : Str), .tup (runsN.map fun r => .tup (intsD r))),
  (("__name__" : Str), .str ("law_kl0165_01" : Str)),
  (("Int2AP" : Str), .fn (stmtAt 15)),
  (("__name__" : Str), .str ("cpy313.imaplib" : Str)),
  (("in_table_c9" : Str), .fn (stmtAt 13)),
  (("c9_set" : Str), .set c9N),
  (("in_table_c8" : Str), .fn (stmtAt 11)),
  (("c8_set" : Str), .set c8N),
  (("in_table_c7" : Str), .fn (stmtAt 9)),
  (("c7_set" : Str), .set c7N),
  (("in_table_c6" : Str), .fn (stmtAt 7)),
  (("c6_set" : Str), .set c6N),
  (("in_table_c4" : Str), .fn (stmtAt 5)),
  (("map_table_b3" : Str), .fn (stmtAt 4)),
  (("b3_exceptions" : Str), .dct b3D),
  (("in_table_b1" : Str), .fn (stmtAt 2)),
  (("b1_set" : Str), .set b1N),
  (("__name__" : Str), .str ("cpy313.stringprep" : Str))]
theorem body_eq : behindTheImports pw = [stmtAt 0, stmtAt 1, stmtAt 2, stmtAt 3, stmtAt 4, stmtAt 5, stmtAt 6, stmtAt 7, stmtAt 8, stmtAt 9, stmtAt 10, stmtAt 11, stmtAt 12, stmtAt 13, stmtAt 14, stmtAt 15, stmtAt 16, stmtAt 17, stmtAt 18, stmtAt 19, stmtAt 20, stmtAt 21, stmtAt 22, stmtAt 23, stmtAt 24, stmtAt 25, stmtAt 26, stmtAt 27, stmtAt 28] := by kernel_rfl
theorem st19 : stmtAt 19 = .Assign [.Name ("_LAW_HOLES" : Str) (namePos (stmtAt 19))] (.Tuple (tupElts (stmtAt 19)) (tupK (stmtAt 19)) (tupPos (stmtAt 19))) (stPos (stmtAt 19)) := by kernel_rfl
theorem st17 : stmtAt 17 = .Assign [.Name ("_LAW_RUNS" : Str) (namePos (stmtAt 17))] (.Tuple (tupElts (stmtAt 17)) (tupK (stmtAt 17)) (tupPos (stmtAt 17))) (stPos (stmtAt 17)) := by kernel_rfl
theorem st3 : stmtAt 3 = .Assign [.Name ("b3_exceptions" : Str) (namePos (stmtAt 3))] (.Dict (keysOf (stmtAt 3)) (valsOf (stmtAt 3)) (dictPos (stmtAt 3))) (stPos (stmtAt 3)) := by kernel_rfl
section
variable {hE : Heap} {w : World} {A : Around} {c F Pl : Addr} {mb mg0 : Str → Option Value} {h0 : Heap}
theorem m_list {mg : Str → Option Value} {e e' : Expr} {a b : Int} {p1 p2 p3 p4 : Pos} (R : Room A 0) (h1 : (mg ("list" : Str)).or (mb ("list" : Str)) = some (.type "list")) (h2 : (mg ("range" : Str)).or (mb ("range" : Str)) = some (.type "range")) (ha : Ev pw w hE A (mcx c F Pl) noσ e (.int a)) (hb : Ev pw w hE A (mcx c F Pl) noσ e' (.int b))
    (k : -(2 ^ 62) ≤ a ∧ a < 2 ^ 62) (k' : -(2 ^ 62) ≤ b ∧ b < 2 ^ 62) (k2 : (b - a).toNat ≤ 2 ^ 24) (hs : ∀ env, starEach [e, e'] env = [(false, eval e env), (false, eval e' env)] := by intro _; rfl) : EvM hE w A c F Pl mg mb (.Call (.Name ("list" : Str) p1) [.Call (.Name ("range" : Str) p2) [e, e'] [] p3] [] p4) (.lst (upTo a (b - a).toNat)) :=
  evm_call R h1 (evm_range R h2 ha hb (hs _)) (callIs_listrng k k' k2)
theorem lst_run {mg : Str → Option Value} {e : Expr} {xs : List Int} {a : Int} {n : Nat} (h : EvM hE w A c F Pl mg mb e (.lst (intsD xs ++ upTo a n))) : EvM hE w A c F Pl mg mb e (.lst (intsD (xs ++ runFrom a n))) := h.of_eq (by unfold intsD runFrom upTo; rw [List.map_append, List.map_map]; rfl)
theorem i62 {a : Int} (h1 : a < 2000000) (h2 : -2000000 < a) : -(2 ^ 62) ≤ a ∧ a < 2 ^ 62 := by omega
theorem b_0 (R : Room A 0) (hset : mb ("set" : Str) = some (.type "set")) (hlist : mb ("list" : Str) = some (.type "list")) (hrange : mb ("range" : Str) = some (.type "range")) (hsub : ∀ a o, hE.get? a = some o → a ≠ mainGlobals ∧ h0.get? a = some o) (hsys : ∃ o, hE.get? sysModules = some o) {n : Int} {G : List (Str × D)} : Runs1 w A c F Pl mb mg0 h0 n G (stmtAt 0) n ((("__name__" : Str), .str ("cpy313.stringprep" : Str)) :: G) := by
  exact r1_assign (d := .str ("cpy313.stringprep" : Str)) (hE := hE) (fun mg hd => EvM.of (ev_str _)) hsub (.inl (by decide +kernel)) (by decide +kernel) (by kernel_rfl) (by decide) (by rfl)
theorem b_1 (R : Room A 0) (hset : mb ("set" : Str) = some (.type "set")) (hlist : mb ("list" : Str) = some (.type "list")) (hrange : mb ("range" : Str) = some (.type "range")) (hsub : ∀ a o, hE.get? a = some o → a ≠ mainGlobals ∧ h0.get? a = some o) (hsys : ∃ o, hE.get? sysModules = some o) {n : Int} {G : List (Str × D)} : Runs1 w A c F Pl mb mg0 h0 n G (stmtAt 1) n ((("b1_set" : Str), .set b1N) :: G) := by
  exact r1_assign (d := .set b1N) (hE := hE) (fun mg hd => evm_call R (or_bi hd hset) (lst_run (evm_addl (EvM.of (ev_list (evl_ints (ns := [173, 847, 6150, 6155, 6156, 6157, 8203, 8204, 8205, 8288, 65279]) rfl))) (m_list R (or_bi hd hlist) (or_bi hd hrange) (ev_int 65024) (ev_int 65040) (i62 (by decide) (by decide)) (i62 (by decide) (by decide)) (by decide)) (by decide))) (callIs_setl (ns := b1N) (by decide))) hsub (.inr (by decide +kernel)) (by decide +kernel) (by kernel_rfl) (by decide) (by rfl)
theorem b_3 (R : Room A 0) (hset : mb ("set" : Str) = some (.type "set")) (hlist : mb ("list" : Str) = some (.type "list")) (hrange : mb ("range" : Str) = some (.type "range")) (hsub : ∀ a o, hE.get? a = some o → a ≠ mainGlobals ∧ h0.get? a = some o) (hsys : ∃ o, hE.get? sysModules = some o) {n : Int} {G : List (Str × D)} : Runs1 w A c F Pl mb mg0 h0 n G (stmtAt 3) n ((("b3_exceptions" : Str), .dct b3D) :: G) := by
  rw [st3]
  exact r1_assign (d := .dct b3D) (hE := hE) (fun mg hd => EvM.of (ev_dict hsys b3_pairs b3_nodup (Nat.le_trans (of_decide_eq_true b3_len) (by decide)) b3_ne)) hsub (.inr (by decide +kernel)) (by decide +kernel) (by kernel_rfl) (by decide) (by kernel_rfl)
theorem b_6 (R : Room A 0) (hset : mb ("set" : Str) = some (.type "set")) (hlist : mb ("list" : Str) = some (.type "list")) (hrange : mb ("range" : Str) = some (.type "range")) (hsub : ∀ a o, hE.get? a = some o → a ≠ mainGlobals ∧ h0.get? a = some o) (hsys : ∃ o, hE.get? sysModules = some o) {n : Int} {G : List (Str × D)} : Runs1 w A c F Pl mb mg0 h0 n G (stmtAt 6) n ((("c6_set" : Str), .set c6N) :: G) := by
  exact r1_assign (d := .set c6N) (hE := hE) (fun mg hd => evm_call R (or_bi hd hset) (evm_range R (or_bi hd hrange) (ev_int 65529) (ev_int 65534)) (callIs_setrng (i62 (by decide) (by decide)) (i62 (by decide) (by decide)) (by decide))) hsub (.inr (by decide +kernel)) (by decide +kernel) (by kernel_rfl) (by decide) (by rfl)
theorem b_8 (R : Room A 0) (hset : mb ("set" : Str) = some (.type "set")) (hlist : mb ("list" : Str) = some (.type "list")) (hrange : mb ("range" : Str) = some (.type "range")) (hsub : ∀ a o, hE.get? a = some o → a ≠ mainGlobals ∧ h0.get? a = some o) (hsys : ∃ o, hE.get? sysModules = some o) {n : Int} {G : List (Str × D)} : Runs1 w A c F Pl mb mg0 h0 n G (stmtAt 8) n ((("c7_set" : Str), .set c7N) :: G) := by
  exact r1_assign (d := .set c7N) (hE := hE) (fun mg hd => evm_call R (or_bi hd hset) (evm_range R (or_bi hd hrange) (ev_int 12272) (ev_int 12284)) (callIs_setrng (i62 (by decide) (by decide)) (i62 (by decide) (by decide)) (by decide))) hsub (.inr (by decide +kernel)) (by decide +kernel) (by kernel_rfl) (by decide) (by rfl)
theorem b_10 (R : Room A 0) (hset : mb ("set" : Str) = some (.type "set")) (hlist : mb ("list" : Str) = some (.type "list")) (hrange : mb ("range" : Str) = some (.type "range")) (hsub : ∀ a o, hE.get? a = some o → a ≠ mainGlobals ∧ h0.get? a = some o) (hsys : ∃ o, hE.get? sysModules = some o) {n : Int} {G : List (Str × D)} : Runs1 w A c F Pl mb mg0 h0 n G (stmtAt 10) n ((("c8_set" : Str), .set c8N) :: G) := by
  exact r1_assign (d := .set c8N) (hE := hE) (fun mg hd => evm_call R (or_bi hd hset) (lst_run (evm_addl (lst_run (evm_addl (EvM.of (ev_list (evl_ints (ns := [832, 833, 8206, 8207]) rfl))) (m_list R (or_bi hd hlist) (or_bi hd hrange) (ev_int 8234) (ev_int 8239) (i62 (by decide) (by decide)) (i62 (by decide) (by decide)) (by decide)) (by decide))) (m_list R (or_bi hd hlist) (or_bi hd hrange) (ev_int 8298) (ev_int 8304) (i62 (by decide) (by decide)) (i62 (by decide) (by decide)) (by decide)) (by decide))) (callIs_setl (ns := c8N) (by decide))) hsub (.inr (by decide +kernel)) (by decide +kernel) (by kernel_rfl) (by decide) (by rfl)
theorem b_12 (R : Room A 0) (hset : mb ("set" : Str) = some (.type "set")) (hlist : mb ("list" : Str) = some (.type "list")) (hrange : mb ("range" : Str) = some (.type "range")) (hsub : ∀ a o, hE.get? a = some o → a ≠ mainGlobals ∧ h0.get? a = some o) (hsys : ∃ o, hE.get? sysModules = some o) {n : Int} {G : List (Str × D)} : Runs1 w A c F Pl mb mg0 h0 n G (stmtAt 12) n ((("c9_set" : Str), .set c9N) :: G) := by
  exact r1_assign (d := .set c9N) (hE := hE) (fun mg hd => evm_call R (or_bi hd hset) (lst_run (evm_addl (EvM.of (ev_list (evl_ints (ns := [917505]) rfl))) (m_list R (or_bi hd hlist) (or_bi hd hrange) (ev_int 917536) (ev_int 917632) (i62 (by decide) (by decide)) (i62 (by decide) (by decide)) (by decide)) (by decide))) (callIs_setl (ns := c9N) (by decide))) hsub (.inr (by decide +kernel)) (by decide +kernel) (by kernel_rfl) (by decide) (by rfl)
theorem b_14 (R : Room A 0) (hset : mb ("set" : Str) = some (.type "set")) (hlist : mb ("list" : Str) = some (.type "list")) (hrange : mb ("range" : Str) = some (.type "range")) (hsub : ∀ a o, hE.get? a = some o → a ≠ mainGlobals ∧ h0.get? a = some o) (hsys : ∃ o, hE.get? sysModules = some o) {n : Int} {G : List (Str × D)} : Runs1 w A c F Pl mb mg0 h0 n G (stmtAt 14) n ((("__name__" : Str), .str ("cpy313.imaplib" : Str)) :: G) := by
  exact r1_assign (d := .str ("cpy313.imaplib" : Str)) (hE := hE) (fun mg hd => EvM.of (ev_str _)) hsub (.inl (by decide +kernel)) (by decide +kernel) (by kernel_rfl) (by decide) (by rfl)
theorem b_16 (R : Room A 0) (hset : mb ("set" : Str) = some (.type "set")) (hlist : mb ("list" : Str) = some (.type "list")) (hrange : mb ("range" : Str) = some (.type "range")) (hsub : ∀ a o, hE.get? a = some o → a ≠ mainGlobals ∧ h0.get? a = some o) (hsys : ∃ o, hE.get? sysModules = some o) {n : Int} {G : List (Str × D)} : Runs1 w A c F Pl mb mg0 h0 n G (stmtAt 16) n ((("__name__" : Str), .str ("law_kl0165_01" : Str)) :: G) := by
  exact r1_assign (d := .str ("law_kl0165_01" : Str)) (hE := hE) (fun mg hd => EvM.of (ev_str _)) hsub (.inl (by decide +kernel)) (by decide +kernel) (by kernel_rfl) (by decide) (by rfl)
theorem b_17 (R : Room A 0) (hset : mb ("set" : Str) = some (.type "set")) (hlist : mb ("list" : Str) = some (.type "list")) (hrange : mb ("range" : Str) = some (.type "range")) (hsub : ∀ a o, hE.get? a = some o → a ≠ mainGlobals ∧ h0.get? a = some o) (hsys : ∃ o, hE.get? sysModules = some o) {n : Int} {G : List (Str × D)} : Runs1 w A c F Pl mb mg0 h0 n G (stmtAt 17) n ((("_LAW_RUNS" : Str), .tup (runsN.map fun r => .tup (intsD r))) :: G) := by
  rw [st17]
  exact r1_assign (d := .tup (runsN.map fun r => .tup (intsD r))) (hE := hE) (fun mg hd => EvM.of (ev_tuple (evl_rows runs_rows (fun r hr => by have := List.all_eq_true.mp runs_len r hr; rw [beq_iff_eq] at this; rw [this]; decide)) (by rw [List.length_map, runs_n]; decide))) hsub (.inr (by decide +kernel)) (by decide +kernel) (by kernel_rfl) (by decide) (by kernel_rfl)
theorem b_19 (R : Room A 0) (hset : mb ("set" : Str) = some (.type "set")) (hlist : mb ("list" : Str) = some (.type "list")) (hrange : mb ("range" : Str) = some (.type "range")) (hsub : ∀ a o, hE.get? a = some o → a ≠ mainGlobals ∧ h0.get? a = some o) (hsys : ∃ o, hE.get? sysModules = some o) {n : Int} {G : List (Str × D)} : Runs1 w A c F Pl mb mg0 h0 n G (stmtAt 19) n ((("_LAW_HOLES" : Str), .tup (intsD holesN)) :: G) := by
  rw [st19]
  exact r1_assign (d := .tup (intsD holesN)) (hE := hE) (fun mg hd => EvM.of (ev_tuple (evl_ints holes_ints) (by rw [intsD_length]; decide))) hsub (.inr (by decide +kernel)) (by decide +kernel) (by kernel_rfl) (by decide) (by kernel_rfl)
theorem d_2 {n : Int} {G : List (Str × D)} (hn : n ≤ 3) : Runs1 w A c F Pl mb mg0 h0 n G (stmtAt 2) 4 ((("in_table_b1" : Str), .fn (stmtAt 2)) :: G) :=
  r1_defK 2 ("in_table_b1" : Str) 3 (by kernel_rfl) (by kernel_rfl) (fun env => by kernel_rfl) (by kernel_rfl) hn
theorem d_4 {n : Int} {G : List (Str × D)} (hn : n ≤ 6) : Runs1 w A c F Pl mb mg0 h0 n G (stmtAt 4) 7 ((("map_table_b3" : Str), .fn (stmtAt 4)) :: G) :=
  r1_defK 4 ("map_table_b3" : Str) 6 (by kernel_rfl) (by kernel_rfl) (fun env => by kernel_rfl) (by kernel_rfl) hn
theorem d_5 {n : Int} {G : List (Str × D)} (hn : n ≤ 11) : Runs1 w A c F Pl mb mg0 h0 n G (stmtAt 5) 12 ((("in_table_c4" : Str), .fn (stmtAt 5)) :: G) :=
  r1_defK 5 ("in_table_c4" : Str) 11 (by kernel_rfl) (by kernel_rfl) (fun env => by kernel_rfl) (by kernel_rfl) hn
theorem d_7 {n : Int} {G : List (Str × D)} (hn : n ≤ 19) : Runs1 w A c F Pl mb mg0 h0 n G (stmtAt 7) 20 ((("in_table_c6" : Str), .fn (stmtAt 7)) :: G) :=
  r1_defK 7 ("in_table_c6" : Str) 19 (by kernel_rfl) (by kernel_rfl) (fun env => by kernel_rfl) (by kernel_rfl) hn
theorem d_9 {n : Int} {G : List (Str × D)} (hn : n ≤ 22) : Runs1 w A c F Pl mb mg0 h0 n G (stmtAt 9) 23 ((("in_table_c7" : Str), .fn (stmtAt 9)) :: G) :=
  r1_defK 9 ("in_table_c7" : Str) 22 (by kernel_rfl) (by kernel_rfl) (fun env => by kernel_rfl) (by kernel_rfl) hn
theorem d_11 {n : Int} {G : List (Str × D)} (hn : n ≤ 25) : Runs1 w A c F Pl mb mg0 h0 n G (stmtAt 11) 26 ((("in_table_c8" : Str), .fn (stmtAt 11)) :: G) :=
  r1_defK 11 ("in_table_c8" : Str) 25 (by kernel_rfl) (by kernel_rfl) (fun env => by kernel_rfl) (by kernel_rfl) hn
theorem d_13 {n : Int} {G : List (Str × D)} (hn : n ≤ 28) : Runs1 w A c F Pl mb mg0 h0 n G (stmtAt 13) 29 ((("in_table_c9" : Str), .fn (stmtAt 13)) :: G) :=
  r1_defK 13 ("in_table_c9" : Str) 28 (by kernel_rfl) (by kernel_rfl) (fun env => by kernel_rfl) (by kernel_rfl) hn
theorem d_15 {n : Int} {G : List (Str × D)} (hn : n ≤ 31) : Runs1 w A c F Pl mb mg0 h0 n G (stmtAt 15) 32 ((("Int2AP" : Str), .fn (stmtAt 15)) :: G) :=
  r1_defK 15 ("Int2AP" : Str) 31 (by kernel_rfl) (by kernel_rfl) (fun env => by kernel_rfl) (by kernel_rfl) hn
theorem d_18 {n : Int} {G : List (Str × D)} (hn : n ≤ 41) : Runs1 w A c F Pl mb mg0 h0 n G (stmtAt 18) 42 ((("_LAW_SPELL" : Str), .fn (stmtAt 18)) :: G) :=
  r1_defK 18 ("_LAW_SPELL" : Str) 41 (by kernel_rfl) (by kernel_rfl) (fun env => by kernel_rfl) (by kernel_rfl) hn
theorem d_20 {n : Int} {G : List (Str × D)} (hn : n ≤ 44) : Runs1 w A c F Pl mb mg0 h0 n G (stmtAt 20) 45 ((("_law_code" : Str), .fn (stmtAt 20)) :: G) :=
  r1_defK 20 ("_law_code" : Str) 44 (by kernel_rfl) (by kernel_rfl) (fun env => by kernel_rfl) (by kernel_rfl) hn
theorem d_21 {n : Int} {G : List (Str × D)} (hn : n ≤ 58) : Runs1 w A c F Pl mb mg0 h0 n G (stmtAt 21) 59 ((("_law_sum" : Str), .fn (stmtAt 21)) :: G) :=
  r1_defK 21 ("_law_sum" : Str) 58 (by kernel_rfl) (by kernel_rfl) (fun env => by kernel_rfl) (by kernel_rfl) hn
theorem d_22 {n : Int} {G : List (Str × D)} (hn : n ≤ 63) : Runs1 w A c F Pl mb mg0 h0 n G (stmtAt 22) 64 ((("_law_due" : Str), .fn (stmtAt 22)) :: G) :=
  r1_defK 22 ("_law_due" : Str) 63 (by kernel_rfl) (by kernel_rfl) (fun env => by kernel_rfl) (by kernel_rfl) hn
theorem d_23 {n : Int} {G : List (Str × D)} (hn : n ≤ 77) : Runs1 w A c F Pl mb mg0 h0 n G (stmtAt 23) 78 ((("_law_told" : Str), .fn (stmtAt 23)) :: G) :=
  r1_defK 23 ("_law_told" : Str) 77 (by kernel_rfl) (by kernel_rfl) (fun env => by kernel_rfl) (by kernel_rfl) hn
theorem d_24 {n : Int} {G : List (Str × D)} (hn : n ≤ 87) : Runs1 w A c F Pl mb mg0 h0 n G (stmtAt 24) 88 ((("_law_read" : Str), .fn (stmtAt 24)) :: G) :=
  r1_defK 24 ("_law_read" : Str) 87 (by kernel_rfl) (by kernel_rfl) (fun env => by kernel_rfl) (by kernel_rfl) hn
theorem d_25 {n : Int} {G : List (Str × D)} (hn : n ≤ 90) : Runs1 w A c F Pl mb mg0 h0 n G (stmtAt 25) 91 ((("_law_plain" : Str), .fn (stmtAt 25)) :: G) :=
  r1_defK 25 ("_law_plain" : Str) 90 (by kernel_rfl) (by kernel_rfl) (fun env => by kernel_rfl) (by kernel_rfl) hn
theorem d_26 {n : Int} {G : List (Str × D)} (hn : n ≤ 94) : Runs1 w A c F Pl mb mg0 h0 n G (stmtAt 26) 95 ((("_law_reading" : Str), .fn (stmtAt 26)) :: G) :=
  r1_defK 26 ("_law_reading" : Str) 94 (by kernel_rfl) (by kernel_rfl) (fun env => by kernel_rfl) (by kernel_rfl) hn
theorem d_27 {n : Int} {G : List (Str × D)} (hn : n ≤ 106) : Runs1 w A c F Pl mb mg0 h0 n G (stmtAt 27) 107 ((("_law_struck" : Str), .fn (stmtAt 27)) :: G) :=
  r1_defK 27 ("_law_struck" : Str) 106 (by kernel_rfl) (by kernel_rfl) (fun env => by kernel_rfl) (by kernel_rfl) hn
theorem d_28 {n : Int} {G : List (Str × D)} (hn : n ≤ 124) : Runs1 w A c F Pl mb mg0 h0 n G (stmtAt 28) 125 ((("law" : Str), .fn (stmtAt 28)) :: G) :=
  r1_defK 28 ("law" : Str) 124 (by kernel_rfl) (by kernel_rfl) (fun env => by kernel_rfl) (by kernel_rfl) hn
theorem run_body (R : Room A 0) (hset : mb ("set" : Str) = some (.type "set")) (hlist : mb ("list" : Str) = some (.type "list")) (hrange : mb ("range" : Str) = some (.type "range")) (hsub : ∀ a o, hE.get? a = some o → a ≠ mainGlobals ∧ h0.get? a = some o) (hsys : ∃ o, hE.get? sysModules = some o) :
    RunsM w A c F Pl mb mg0 h0 0 [] (behindTheImports pw) 125 topG := by
  rw [body_eq]
  refine rm_cons (b_0 (hE := hE) R hset hlist hrange hsub hsys) ?_
  refine rm_cons (b_1 (hE := hE) R hset hlist hrange hsub hsys) ?_
  refine rm_cons (d_2 (by decide)) ?_
  refine rm_cons (b_3 (hE := hE) R hset hlist hrange hsub hsys) ?_
  refine rm_cons (d_4 (by decide)) ?_
  refine rm_cons (d_5 (by decide)) ?_
  refine rm_cons (b_6 (hE := hE) R hset hlist hrange hsub hsys) ?_
  refine rm_cons (d_7 (by decide)) ?_
  refine rm_cons (b_8 (hE := hE) R hset hlist hrange hsub hsys) ?_
  refine rm_cons (d_9 (by decide)) ?_
  refine rm_cons (b_10 (hE := hE) R hset hlist hrange hsub hsys) ?_
  refine rm_cons (d_11 (by decide)) ?_
  refine rm_cons (b_12 (hE := hE) R hset hlist hrange hsub hsys) ?_
  refine rm_cons (d_13 (by decide)) ?_
  refine rm_cons (b_14 (hE := hE) R hset hlist hrange hsub hsys) ?_
  refine rm_cons (d_15 (by decide)) ?_
  refine rm_cons (b_16 (hE := hE) R hset hlist hrange hsub hsys) ?_
  refine rm_cons (b_17 (hE := hE) R hset hlist hrange hsub hsys) ?_
  refine rm_cons (d_18 (by decide)) ?_
  refine rm_cons (b_19 (hE := hE) R hset hlist hrange hsub hsys) ?_
  refine rm_cons (d_20 (by decide)) ?_
  refine rm_cons (d_21 (by decide)) ?_
  refine rm_cons (d_22 (by decide)) ?_
  refine rm_cons (d_23 (by decide)) ?_
  refine rm_cons (d_24 (by decide)) ?_
  refine rm_cons (d_25 (by decide)) ?_
  refine rm_cons (d_26 (by decide)) ?_
  refine rm_cons (d_27 (by decide)) ?_
  refine rm_cons (d_28 (by decide)) ?_
  exact rm_nil
end

theorem boot_g (P : Params) : (boot_heap P).isNs mainGlobals = true := by kernel_rfl
theorem boot_b (P : Params) : (boot_heap P).isNs builtinsNs = true := by kernel_rfl
theorem boot_c (P : Params) : (boot_heap P).isNs cStatics = true := by kernel_rfl
theorem boot_view (P : Params) : (boot_heap P).bltView = bltViewBooted := by kernel_rfl
noncomputable def mg0 (P : Params) : Str → Option Value := (boot_heap P).nsMap mainGlobals
noncomputable def mb0 (P : Params) : Str → Option Value := (boot_heap P).nsMap builtinsNs
theorem boot_bm (P : Params) : mg0 P ("__builtins__" : Str) = some (.ref 4) := by kernel_rfl
theorem boot_dom (P : Params) : ((boot_heap P).nsKeys mainGlobals).all (fun k => startupNames.contains k) = true := by kernel_rfl
noncomputable def bE (P : Params) : Heap := { objs := #[boot_o_0 P, boot_o_1 P, boot_o_2 P] }
theorem bE_sub (P : Params) : ∀ a o, (bE P).get? a = some o → a ≠ mainGlobals ∧ (boot_heap P).get? a = some o := by
  intro a o h
  match a, h with
  | 0, h => exact ⟨by decide, h⟩
  | 1, h => exact ⟨by decide, h⟩
  | 2, h => exact ⟨by decide, h⟩
  | n + 3, h => cases h
theorem boot_set (P : Params) : mb0 P ("set" : Str) = some (.type "set") := by kernel_rfl
theorem boot_list (P : Params) : mb0 P ("list" : Str) = some (.type "list") := by kernel_rfl
theorem boot_range (P : Params) : mb0 P ("range" : Str) = some (.type "range") := by kernel_rfl
theorem boot_sizes (P : Params) : (boot_heap P).objs.size = 11 := rfl
theorem pw_anns : hasAnns (behindTheImports pw) = false := by kernel_rfl
theorem pw_doc : docOf (behindTheImports pw) = none := by kernel_rfl

theorem run_stub (w : World) (s₀ : Shared) (hh : s₀.heap = boot_heap w.params) (hg : s₀.gens = #[]) :
    wpAny (model pw w) callerA (topStub pw).cur (fun fin s' => ∃ f, fin = .done f ∧ ((∃ mg ps c Pl, ModI (boot_heap w.params) (mb0 w.params) (mg0 w.params) c Pl 125 topG mg ps s'.heap) ∧ s'.os = s₀.os) ∧ s'.gens = #[]) (fun _ _ => False) s₀ := by
  show wpAny _ _ (moduleCode pw.main >>= _) _ _ _
  have hsz : s₀.heap.objs.size = 11 := by rw [hh]; exact boot_sizes _
  refine wpAny_bind (wpAny_moduleCode fun c Pl h' tk hk hc hPl hcode => ?_)
  have g1 : h'.Ns mainGlobals (mg0 w.params) := (Heap.Ns.of_isNs (boot_g w.params)).keeps (fun b o e => hk b o (by rw [hh]; exact e))
  unfold newBodyFrame
  refine wpAny_bind (wpAny_bind (wpAny_nsGet g1 (wpAny_alloc ?_)))
  refine wpAny_bind ?_
  have hkeep : ∀ (o' : Obj) b o, (boot_heap w.params).get? b = some o → (h'.push o').get? b = some o := fun o' b o e => Heap.get?_push_of_some _ (hk b o (by rw [hh]; exact e))
  refine wpAny_run (codeAny_body pw_anns pw_doc (wpAny_mono (E := fun _ _ => False) ((run_body (hE := bE w.params) (h0 := boot_heap w.params) (mb := mb0 w.params) (mg0 := mg0 w.params) (c := c) (F := h'.objs.size) (Pl := Pl) ?_ (boot_set _) (boot_list _) (boot_range _) (bE_sub _) ⟨_, rfl⟩).run _ (mg0 w.params) #[] (fun fl s' => (∃ mg ps c Pl, ModI (boot_heap w.params) (mb0 w.params) (mg0 w.params) c Pl 125 topG mg ps s'.heap) ∧ s'.os = s₀.os ∧ s'.gens = #[]) _ ⟨⟨g1.push _, hcode.push _, ⟨?_, ?_⟩, ⟨4, _, boot_bm _, by decide, by decide, ?_, hkeep _ 4 _ rfl, rfl, rfl, rfl⟩⟩, fun b o e _ => hkeep _ b o e, ?_, fun x d h => ?_, fun x st h => ?_, fun x v hx => ?_, fun x _ => rfl, ?_, fun pos _ => rfl⟩ fun mg' ps' h2 tk2 I2 => ⟨⟨mg', ps', c, Pl, I2⟩, rfl, hg⟩) (fun fl s' h => ?_) fun _ _ x => x.elim))
  · constructor
    · rfl
    · show 1 + claimMargin + _ + 0 ≤ 600
      decide
    · exact Nat.le_of_ble_eq_true rfl
  · exact Nat.lt_of_lt_of_le (show mainGlobals < 11 by decide) (hsz ▸ hc)
  · exact Nat.lt_of_lt_of_le (show mainGlobals < 11 by decide) (hsz ▸ hPl)
  · exact Nat.ne_of_lt (Nat.lt_of_lt_of_le (show 4 < 11 by decide) (hsz ▸ hPl))
  · exact (Heap.Ns.of_isNs (boot_b w.params)).keeps (fun b o e => hkeep _ b o e)
  · cases h
  · cases h
  · have : x ∈ (boot_heap w.params).nsKeys mainGlobals := Classical.byContradiction fun q => by
      have e := Heap.nsMap_none q
      rw [show (boot_heap w.params).nsMap mainGlobals x = some v from hx] at e; cases e
    exact .inl (List.contains_iff_mem.mp (List.all_eq_true.mp (boot_dom w.params) x this))
  · rw [boot_sizes]; exact hsz ▸ hPl
  · exact wpAny_pure ⟨_, rfl, ⟨h.1, h.2.1⟩, h.2.2⟩

theorem pw_mods : importedModules pw.main.body = [] := by kernel_rfl
theorem pw_np : (pw.main.body.any namesNumpy) = false := by kernel_rfl
theorem pw_fence (s : Shared) : fenceModules? pw s = some s := by
  unfold fenceModules?
  rw [pw_mods, pw_np]
  rfl
theorem pw_open : opening pw = plainProg pw.main.scope.names := by kernel_rfl
theorem boot_life (P : Params) : (boot_heap P).life.registered = [] ∧ (boot_heap P).life.counting = false := ⟨rfl, rfl⟩
theorem behind (w : World) : (∃ s, AfterRun (opening pw) w s) ∧ ∀ s, AfterRun (opening pw) w s → fenceModules? pw s = some s ∧ s.gens = #[] ∧ s.heap = boot_heap w.params ∧ s.asleep := by
  have h := boot_open (p := pw) (N := 600) pw_open (by decide) pw_fence w
  rw [← table_eq_tree] at h
  obtain ⟨s₀, h1, e⟩ := Option.map_eq_some_iff.mp h
  obtain ⟨s, h4, h5⟩ := Option.bind_eq_some_iff.mp h1
  have A := AfterImport.of_importEnds h4
  rw [pw_fence s] at h5
  obtain rfl := Option.some.inj h5
  refine ⟨⟨s, A⟩, fun s' hs' => ?_⟩
  obtain rfl : s' = s := AfterImport.unique hs' A
  have eh : s'.heap = boot_heap w.params := congrArg Prod.fst e
  have eg : s'.gens = #[] := congrArg (fun x => x.2.1) e
  exact ⟨pw_fence _, eg, eh, by unfold Shared.asleep; rw [eh]; exact boot_life _⟩

theorem boot_statics (P : Params) : (boot_heap P).get? cStatics = some { cls := .none, data := .dict #[] } := rfl

theorem top_ran (w : World) (s₀ : Shared) (hh : s₀.heap = boot_heap w.params) (hg : s₀.gens = #[]) (hz : s₀.asleep) :
    ∃ s₁ mg ps c Pl, TopRan pw w s₀ s₁ ∧ s₁.asleep ∧ s₁.gens = #[] ∧ ModI (boot_heap w.params) (mb0 w.params) (mg0 w.params) c Pl 125 topG mg ps s₁.heap := by
  obtain ⟨n, t₁, s₁, h1, h2, ⟨⟨mg, ps, c, Pl, I⟩, hos⟩, hlife, hgens⟩ := ran_of_wp hz (run_stub w s₀ hh hg)
  have hst : s₁.heap.get? cStatics = some { cls := .none, data := .dict #[] } := I.old _ _ (boot_statics _) (by decide)
  have hstat : ∀ key, staticOf s₁.heap key = none := fun key => by unfold staticOf; rw [hst]; rfl
  have hstat0 : ∀ key, staticOf s₀.heap key = none := fun key => by rw [hh]; unfold staticOf; rw [boot_statics]; rfl
  have hglob : ∀ x, globalOf s₁.heap x = mg x := fun x => Claim2Try.globalOf_of_ns I.main.g x
  have hglob0 : ∀ x, globalOf s₀.heap x = mg0 w.params x := fun x => by rw [hh]; exact Claim2Try.globalOf_of_ns (Heap.Ns.of_isNs (boot_g _)) x
  refine ⟨s₁, mg, ps, c, Pl, ⟨⟨n, t₁, h1, h2⟩, hlife, Shared.rest_eq hos, fun b o e q => ?_, fun key v e => ?_, fun key => ?_, Pin.keysAreStrs_of_ns I.main.g, fun x hx => ?_, ?_, fun g hg' => ?_, fun x v hx => ?_, fun x hx => ?_⟩, Shared.asleep_of_life hlife hz, hgens, I⟩
  · exact I.old b o (by rw [← hh]; exact e) (fun q' => q (.inl q'))
  · rw [hstat] at e; cases e
  · left; rw [hstat, hstat0]
  · have : builtinOf s₁.heap x = builtinOf (boot_heap w.params) x := by
      unfold builtinOf
      have e0 : (boot_heap w.params).get? builtinsNs = some (boot_o_0 w.params) := rfl
      rw [I.old _ _ e0 (by decide), e0]
    rw [this, Pin.builtinOf_eq (boot_b _)]
    exact Heap.of_bltView (boot_b _) (boot_view _) x hx
  · obtain ⟨bm, o, a1, a2, a3, a4, a5, a6, a7, a8⟩ := I.main.bmod
    exact ⟨bm, o, (hglob _).trans a1, a5, a6, a7⟩
  · rw [hgens] at hg'; simp at hg'
  · rw [hglob] at hx; exact I.dom x v hx
  · rw [hglob, hglob0]; exact I.laid x hx

noncomputable def argDefaults (st : Stmt) : Bool := (argsOf st).defaults.isEmpty && (match kwWritten? (argsOf st).kwonlyargs (argsOf st).kw_defaults with | some [] => true | _ => false)
theorem law_dflt : argDefaults (stmtAt 28) = true := by kernel_rfl
theorem law_def : pw.theDef ("law" : Str) = some (argsOf (stmtAt 28), bodyOf (stmtAt 28), scopeOf (stmtAt 28)) := by kernel_rfl
theorem law_st : stmtAt 28 = .FunctionDef ("law" : Str) (argsOf (stmtAt 28)) (bodyOf (stmtAt 28)) [] none [] (scopeOf (stmtAt 28)) none ("law" : Str) (stPos (stmtAt 28)) := by kernel_rfl
theorem law_in : topG.lookup ("law" : Str) = some (.fn (stmtAt 28)) := by kernel_rfl
theorem law_pin {w : World} {c Pl : Addr} {mg : Str → Option Value} {ps : Array Value} {h : Heap} (I : ModI (boot_heap w.params) (mb0 w.params) (mg0 w.params) c Pl 125 topG mg ps h) : isTheDefsW pw h ("law" : Str) := by
  obtain ⟨a, o, fd, h1, h2, h3, h4, h5, h6⟩ := I.defs _ _ law_in
  obtain ⟨nm, body, ret, ts, bind, pos, cc, oc, vs, t, e1, e2, e3, e4, e5, e6, e7, e8, e9, e10, e11⟩ := h6
  rw [law_st] at e1
  injection e1 with j1 j2 j3 j4 j5 j6 j7 j8 j9 j10
  have hd := law_dflt
  unfold argDefaults at hd
  rw [Bool.and_eq_true] at hd
  refine ⟨a, o, fd, _, _, _, (Claim2Try.globalOf_of_ns I.main.g _).trans h1, (Kof_some h2).2.2, h3, law_def, h4, h5, j2.symm, by rw [j3]; exact e2, j7.symm, e3, e4, e5, .inl ⟨List.isEmpty_iff.mp hd.1, e6⟩, ?_⟩
  cases q : kwWritten? (argsOf (stmtAt 28)).kwonlyargs (argsOf (stmtAt 28)).kw_defaults with
  | none => rw [q] at hd; exact absurd hd.2 (by decide)
  | some kw =>
    cases kw with
    | nil => exact ⟨[], rfl, .inl ⟨rfl, e7⟩⟩
    | cons x l => rw [q] at hd; exact absurd hd.2 (by simp)

abbrev row : OpenRow := PySem.Challenge.rw_kl0165_01.row
theorem hasItems_int : ∀ {xs : List WData}, WShape.hasItems [] xs .int = true → ∃ ns : List Int, xs = ns.map .int
  | [], _ => ⟨[], rfl⟩
  | x :: xs, h => by
    unfold WShape.hasItems at h
    rw [Bool.and_eq_true] at h
    obtain ⟨ns, rfl⟩ := hasItems_int h.2
    have h1 := h.1
    cases x with
    | int i => exact ⟨i :: ns, rfl⟩
    | _ => exact Bool.noConfusion (show false = true from h1)
theorem has_ints {d : WData} (h : WShape.has [] d (.list .int) = true) : ∃ ns : List Int, d = .list (ns.map .int) := by
  cases d with
  | list xs =>
    have : WShape.hasItems [] xs .int = true := by
      have h' : (WShape.hasItems [] xs .int || false) = true := h
      rwa [Bool.or_false] at h'
    obtain ⟨ns, rfl⟩ := hasItems_int this
    exact ⟨ns, rfl⟩
  | _ => exact Bool.noConfusion (show false = true from h)
theorem pre_args {args : List WData} (h : row.toRowW.claim.pre args = true) : ∃ ns : List Int, args = [.list (ns.map .int)] ∧ ns.length ≤ 63 := by
  obtain ⟨h1, h2⟩ := pre_splitW h
  obtain ⟨d, r, rfl, h3, h4⟩ := hasAllW_cons h1
  obtain rfl := hasAllW_nil h4
  obtain ⟨ns, rfl⟩ := has_ints h3
  refine ⟨ns, rfl, ?_⟩
  have h5 : (WTm.and (.not (.lt (.lit (.int (63 : Nat))) (.len (.arg 0)))) (.lit (.bool true))).holds [] { args := [.list (ns.map .int)] } = true := h2
  simp only [WTm.holds, WTm.value, List.getElem?_cons_zero, List.length_map] at h5
  unfold less? at h5
  by_cases q : ns.length ≤ 63
  · exact q
  · exfalso
    have : (63 : Int) < (ns.length : Int) := by omega
    have e : Num.less? (WData.int ((63 : Nat) : Int)) (WData.int (ns.length : Int)) = some true := by
      show some (decide (((63 : Nat) : Int) < (ns.length : Int))) = some true
      rw [decide_eq_true (by omega)]
    rw [e] at h5
    exact absurd h5 (by decide)

theorem lay_ints {R : WRecords} {cl : Str → Option Addr} {P : Params} {ord : List DictEntry → List DictEntry} : ∀ (ns : List Int) (s : Shared), ∃ vs, layAllW R cl P ord (ns.map .int) s = some (vs, { s with toks := s.toks + ns.length }) ∧ ∀ K, RepAll K vs (intsD ns)
  | [], s => ⟨[], rfl, fun _ => .nil⟩
  | n :: ns, s => by
    obtain ⟨vs, h1, h2⟩ := lay_ints (R := R) (cl := cl) (P := P) (ord := ord) ns { s with toks := s.toks + 1 }
    refine ⟨.int n s.toks :: vs, ?_, fun K => .cons (.int _ _) (h2 K)⟩
    rw [List.map_cons, layAllW]
    simp only [layW]
    rw [h1]
    simp only [List.length_cons]
    rw [show s.toks + 1 + ns.length = s.toks + (ns.length + 1) by omega]
theorem lay_args {R : WRecords} {cl : Str → Option Addr} {P : Params} {ord : List DictEntry → List DictEntry} (ns : List Int) (s : Shared) : ∃ vs, layAllW R cl P ord [.list (ns.map .int)] s = some ([.ref s.heap.objs.size], { s with heap := s.heap.push { cls := .type "list", data := .seq vs.toArray }, toks := s.toks + ns.length }) ∧ ∀ K, RepAll K vs (intsD ns) := by
  obtain ⟨vs, h1, h2⟩ := lay_ints (R := R) (cl := cl) (P := P) (ord := ord) ns s
  refine ⟨vs, ?_, h2⟩
  rw [layAllW]
  simp only [layW]
  rw [h1]
  simp only [layAllW]

theorem top_lookup : ∀ x ∈ topD, topG.lookup x.1 = some x.2 := by
  intro x hx
  simp only [topD, List.mem_cons, List.not_mem_nil, or_false] at hx
  rcases hx with rfl | rfl | rfl | rfl | rfl | rfl | rfl | rfl | rfl | rfl | rfl | rfl | rfl | rfl | rfl | rfl | rfl | rfl | rfl | rfl | rfl | rfl | rfl | rfl | rfl | rfl <;> kernel_rfl
theorem lookup_mem' {β : Type} : ∀ {l : List (Str × β)} {k : Str} {x : β}, l.lookup k = some x → (k, x) ∈ l
  | (i, y) :: l, k, x, h => by
    rw [List.lookup_cons] at h
    cases e : k == i with
    | true => rw [e] at h; cases h; rw [eq_of_beq e]; exact List.mem_cons_self
    | false => rw [e] at h; exact List.mem_cons_of_mem _ (lookup_mem' h)
theorem bi_ok (P : Params) : biL.all (fun y => decide (mb0 P y.1 = some y.2) && !(startupNames.contains y.1 || pw.boundNames.contains y.1)) = true := by kernel_rfl
theorem top_of {w : World} {c Pl : Addr} {mg : Str → Option Value} {ps : Array Value} {h h' : Heap} (I : ModI (boot_heap w.params) (mb0 w.params) (mg0 w.params) c Pl 125 topG mg ps h) (hk : ∀ b o, h.get? b = some o → h'.get? b = some o) : Top h' mg (mb0 w.params) where
  names := ⟨I.main.g.keeps hk, I.bns.keeps hk⟩
  lim := by
    have e : h'.get? cStatics = some { cls := .none, data := .dict #[] } := hk _ _ (I.old _ _ (boot_statics _) (by decide))
    exact ⟨_, ⟨_, #[], 0, e, rfl, fun x hx => by simp at hx, fun _ => rfl⟩, rfl⟩
  sys := ⟨_, hk _ _ (I.old sysModules (boot_o_1 w.params) rfl (by decide))⟩
  glob := fun x d hx => by
    obtain ⟨v, h1, h2⟩ := I.glob x d (top_lookup _ (lookup_mem' hx))
    exact ⟨v, h1, h2.mono fun a o e => hk _ _ (Kof_some e).2.2⟩
  blt := fun x v hx => by
    have := List.all_eq_true.mp (bi_ok w.params) _ (lookup_mem' hx)
    rw [Bool.and_eq_true, decide_eq_true_iff, Bool.not_eq_true'] at this
    exact or_bi I.dom this.1 this.2

theorem row_ok : (opensWell row.prog && (frees row.toRowW && row.within.isEmpty)) = true := by decide +kernel
theorem post_ok (args ds : List WData) : row.toRowW.claim.post args (.bool true) ds = true := by
  show (WShape.has [] (.bool true) .bool && (WTm.eq .res (.lit (.bool true))).holds [] { args := args, res := some (.bool true), after := ds }) = true
  have h1 : WShape.has [] (.bool true) .bool = true := by simp [WShape.has, WShape.arms]
  have h2 : same (.bool true) (.bool true) = true := by simp [same]
  rw [h1]
  simp only [WTm.holds, WTm.value]
  rw [h2]
  rfl
theorem holds_of (law : ∀ (w : World) (h : Heap) (mg mb : Str → Option Value), Mine.Top h mg mb → ∀ ns : List Int, ns.length ≤ 63 → Fn pw w h mg mb ("law" : Str) 20 [.lst (intsD ns)] (.bool true))
    (said : row.wellSaid = true) (hp : row.toRowW.promised) : row.Holds := by
  obtain ⟨o1, k5⟩ := Bool.and_eq_true_iff.mp row_ok
  obtain ⟨k5, k6⟩ := Bool.and_eq_true_iff.mp k5
  obtain ⟨hsame, hu, ha, hap, hm⟩ := frees_parts k5
  refine ⟨said, hp, ⟨⟨rfl, rfl, rfl, rfl, rfl, by decide +kernel⟩, o1, rfl⟩, hp.witness, fun w => ⟨(behind w).1, fun s' hs' => ?_⟩⟩
  obtain ⟨hf, hg0, hh, hz0⟩ := (behind w).2 s' hs'
  obtain ⟨s, mg, ps, c, Pl, hT, hz, hgens, I⟩ := top_ran w s' hh hg0 hz0
  refine ⟨s', hf, hg0, s, hT, fun n hn => ?_, (fun x hx => by cases hx), (fun x hx => by cases hx), ?_⟩
  · obtain rfl : n = ("law" : Str) := List.mem_singleton.mp hn
    exact law_pin I
  refine ClaimW.callFrom_of_specG (c := row.toRowW.claim) hz hgens fun args hpre hlay ord hord => ?_
  obtain ⟨ns, rfl, hlen⟩ := pre_args hpre
  obtain ⟨vs, hlaid, hrep⟩ := lay_args (R := row.toRowW.claim.records) (cl := classAt s.heap) (P := w.params) (ord := ord) ns s
  have keeps := layAllW_keeps _ _ _ hlaid
  have hal := layAllW_rest _ _ _ hlaid
  obtain ⟨as, hrd, hin, hold⟩ := reads_layAllW hord _ _ _ hlaid hlay _ (fun _ _ e => e)
  have L : Laid row.toRowW.claim.records w s _ _ _ as := ⟨⟨ord, hord, hlaid⟩, hrd, hin, hold, keeps, hal.1.trans hgens, hal.2.2.1⟩
  have hi := ident_freeW hu ha hap
  refine ⟨_, _, hlaid, ?_⟩
  have T := top_of I keeps
  obtain ⟨f, hf1, hf2, hf3⟩ := law w _ mg _ T ns hlen
  obtain ⟨al, o, fd, g1, g2, g3, _⟩ := I.defs _ _ law_in
  have hfe : f = .ref al := by rw [g1] at hf1; exact (Option.some.inj hf1).symm
  subst hfe
  have hnew : (s.heap.push { cls := .type "list", data := .seq vs.toArray }).get? s.heap.objs.size = some (seqObj "list" vs.toArray 0) := Heap.get?_push_size _ rfl
  have hw : wpAny (model pw w) callerA (PySem.call (.ref al) [.ref s.heap.objs.size]) (fun v s' => GoodWG row.toRowW.claim (classAt s.heap) (ExcName.means s.heap) [.list (ns.map .int)] { s with heap := s.heap.push { cls := .type "list", data := .seq vs.toArray }, toks := s.toks + ns.length } (.ok (.ret v)) s')
      (fun _ _ => False) { s with heap := s.heap.push { cls := .type "list", data := .seq vs.toArray }, toks := s.toks + ns.length } := by
    refine hf3 callerA (fun a => (s.heap.push { cls := .type "list", data := .seq vs.toArray }).get? a) _ [.ref s.heap.objs.size] _ _ rfl (by decide) (by decide) (fun a o e => e) (fun a o e => e) (.one (.lst (vs := vs) (n := 0) hnew (hrep _))) fun v K' s2 st r => ?_
    cases r
    obtain ⟨hh2, tt2, rfl⟩ := st.same
    refine ⟨.inl ⟨_, .bool true, [], rfl, fun cls => rfl, .bool _, post_ok _ _, fun _ => ⟨.nil, fun a ha => by cases ha⟩⟩, ⟨fun b o e => .inl (st.keep _ _ e), fun b o e => ⟨o, st.keep _ _ e⟩⟩, rfl, AllBare.of_eq hgens⟩
  show wpAny (model pw w) callerA (do match ← nsGet mainNs ("law" : Str) with
      | some f => do ret (← PySem.call f _)
      | none => unsupported "claim.caller:no-such-global") _ _ _
  refine wpAny_bind (wpAny_nsGet (T.names.g) ?_)
  rw [g1]
  refine wpAny_bind (wpAny_mono hw (fun v s2 g => wpAny_pure ?_) fun _ _ x => x.elim)
  have z := g.laid (c := row.toRowW.claim) hsame rfl hi L
  exact ⟨_, rfl, z.1, z.2.1, z.2.2, fun q => by cases q⟩

theorem said_row : PySem.Challenge.rw_kl0165_01.row.wellSaid = true := by
  unfold OpenRow.wellSaid OpenRow.partSaid looksOpen
  simp only [Bool.and_eq_true]
  (repeat' apply And.intro) <;> decide +kernel
theorem said : PySem.Challenge.rw_kl0165_01.wellSaid = true := by
  unfold OpenLaw.wellSaid
  rw [said_row]
  simp only [Bool.and_eq_true, Bool.true_and]
  (repeat' apply And.intro) <;> decide +kernel
end Mine
set_option maxRecDepth 100000 in
set_option maxHeartbeats 8000000 in
theorem PySem.Challenge.cw_kl0165_01_holds : PySem.Challenge.rw_kl0165_01.Holds := by
  exact ⟨Mine.said, Mine.holds_of (fun w h mg mb T ns hns => (Mine.fn_law T hns).le (by decide)) Mine.said_row (by w_witness2)⟩
