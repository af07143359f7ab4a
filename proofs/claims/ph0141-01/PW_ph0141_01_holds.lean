import PyProof.Rows.All
import Wide.All
import OpenK.AllK
import Wide.FinOn
import PySem.Challenge.RW_ph0141_01
set_option Elab.async false
set_option linter.all false
local macro_rules | `(tactic| omega) => `(tactic| first | decide | lia | omega +splitNatSub)

section
open PySem PySem.W PyProof.Rows
namespace Mine

/-! plain data -/
inductive D where
  | none
  | bool (b : Bool)
  | int (i : Int)
  | str (x : Str)
  | bytes (b : Array UInt8)
  | tup (l : List D)
  | lst (l : List D)
  | rng (a b c : Int)
  | raw (v : Value)

noncomputable abbrev Imm := Addr → Option Obj
noncomputable def Imm.add (I : Imm) (a : Addr) (o : Obj) : Imm := fun b => if b = a then some o else I b

/-- a value bears a datum, over the objects that do not turn any more -/
inductive Rep (I : Imm) : Value → D → Prop where
  | none : Rep I .none .none
  | bool (b : Bool) : Rep I (.bool b) (.bool b)
  | int (i : Int) (t : Tok) : Rep I (.int i t) (.int i)
  | str (x : Str) (t : Tok) : Rep I (.str x t) (.str x)
  | bytes (b : Array UInt8) (t : Tok) : Rep I (.bytes b t) (.bytes b)
  | tup {a : Addr} {o : Obj} {vs : Array Value} {n : Nat} {ds : List D} : I a = some o → o.cls = .type "tuple" → o.data = .seq vs n → vs.size = ds.length →
      (∀ (i : Nat) (v : Value) (d : D), vs[i]? = some v → ds[i]? = some d → Rep I v d) → Rep I (.ref a) (.tup ds)
  | lst {a : Addr} {o : Obj} {vs : Array Value} {n : Nat} {ds : List D} : I a = some o → o.cls = .type "list" → o.dict = Option.none → o.data = .seq vs n → vs.size = ds.length →
      (∀ (i : Nat) (v : Value) (d : D), vs[i]? = some v → ds[i]? = some d → Rep I v d) → Rep I (.ref a) (.lst ds)
  | rng {r : Addr} {a b c : Int} {t u v : Tok} : I r = some { cls := .type "range", dict := Option.none, data := .fields #[.int a t, .int b u, .int c v], slots := #[] } → Rep I (.ref r) (.rng a b c)
  | raw (v : Value) : Rep I v (.raw v)

theorem Rep.mono {I J : Imm} (h : ∀ a o, I a = some o → J a = some o) {v : Value} {d : D} (r : Rep I v d) : Rep J v d := by
  induction r with
  | none => exact .none
  | bool b => exact .bool b
  | int i t => exact .int i t
  | str x t => exact .str x t
  | bytes b t => exact .bytes b t
  | tup h1 h2 h3 h4 _ ih => exact .tup (h _ _ h1) h2 h3 h4 ih
  | lst h1 h2 h2' h3 h4 _ ih => exact .lst (h _ _ h1) h2 h2' h3 h4 ih
  | rng h1 => exact .rng (h _ _ h1)
  | raw v => exact .raw v

/-- values, one by one -/
noncomputable def Reps (I : Imm) (vs : List Value) (ds : List D) : Prop := vs.length = ds.length ∧ ∀ (i : Nat) (v : Value) (d : D), vs[i]? = some v → ds[i]? = some d → Rep I v d
theorem Reps.mono {I J : Imm} (h : ∀ a o, I a = some o → J a = some o) {vs : List Value} {ds : List D} (r : Reps I vs ds) : Reps J vs ds :=
  ⟨r.1, fun i v d a b => (r.2 i v d a b).mono h⟩
theorem Reps.nil {I : Imm} : Reps I [] [] := ⟨rfl, fun i v d a => by simp at a⟩
theorem Reps.cons {I : Imm} {v : Value} {d : D} {vs : List Value} {ds : List D} (h : Rep I v d) (r : Reps I vs ds) : Reps I (v :: vs) (d :: ds) :=
  ⟨by simp [r.1], fun i x y a b => by
    cases i with
    | zero => simp at a b; subst a; subst b; exact h
    | succ i => simp at a b; exact r.2 i x y a b⟩
theorem Reps.snoc {I : Imm} {v : Value} {d : D} {vs : List Value} {ds : List D} (r : Reps I vs ds) (h : Rep I v d) : Reps I (vs ++ [v]) (ds ++ [d]) :=
  ⟨by simp [r.1], fun i x y a b => by
    have hl := r.1
    by_cases hi : i < vs.length
    · rw [List.getElem?_append_left hi] at a
      rw [List.getElem?_append_left (by omega)] at b
      exact r.2 i x y a b
    · rw [List.getElem?_append_right (by omega)] at a
      rw [List.getElem?_append_right (by omega)] at b
      have : i - vs.length = 0 := by
        rcases Nat.eq_zero_or_pos (i - vs.length) with q | q
        · exact q
        · rw [List.getElem?_eq_none (by simp; omega)] at a; cases a
      rw [this] at a; rw [← hl, this] at b
      simp at a b; subst a; subst b; exact h⟩
theorem Reps.get {I : Imm} {vs : List Value} {ds : List D} (r : Reps I vs ds) {i : Nat} {d : D} (h : ds[i]? = some d) : ∃ v, vs[i]? = some v ∧ Rep I v d := by
  have hi : i < ds.length := (List.getElem?_eq_some_iff.mp h).1
  refine ⟨vs[i]'(by rw [r.1]; exact hi), List.getElem?_eq_getElem _, r.2 i _ d (List.getElem?_eq_getElem _) h⟩

theorem Rep.of_tup {I : Imm} {v : Value} {ds : List D} (r : Rep I v (.tup ds)) : ∃ a o vs n, v = .ref a ∧ I a = some o ∧ o.cls = .type "tuple" ∧ o.data = .seq vs n ∧ Reps I vs.toList ds := by
  cases r with
  | tup h1 h2 h3 h4 h5 => exact ⟨_, _, _, _, rfl, h1, h2, h3, by simpa using h4, fun i v d a b => h5 i v d (by simpa using a) b⟩
theorem Rep.of_lst {I : Imm} {v : Value} {ds : List D} (r : Rep I v (.lst ds)) : ∃ a o vs n, v = .ref a ∧ I a = some o ∧ o.cls = .type "list" ∧ o.data = .seq vs n ∧ Reps I vs.toList ds := by
  cases r with
  | lst h1 h2 _ h3 h4 h5 => exact ⟨_, _, _, _, rfl, h1, h2, h3, by simpa using h4, fun i v d a b => h5 i v d (by simpa using a) b⟩
theorem Rep.lst_dict {I : Imm} {a : Addr} {ds : List D} (r : Rep I (.ref a) (.lst ds)) : ∃ o, I a = some o ∧ o.dict = Option.none := by
  cases r with
  | lst h1 h2 h2' h3 h4 h5 => exact ⟨_, h1, h2'⟩
theorem Rep.mk_tup {I : Imm} {a : Addr} {o : Obj} {vs : Array Value} {n : Nat} {ds : List D} (h1 : I a = some o) (h2 : o.cls = .type "tuple") (h3 : o.data = .seq vs n) (r : Reps I vs.toList ds) : Rep I (.ref a) (.tup ds) :=
  .tup h1 h2 h3 (by simpa using r.1) fun i v d a b => r.2 i v d (by simpa using a) b
theorem Rep.mk_lst {I : Imm} {a : Addr} {o : Obj} {vs : Array Value} {n : Nat} {ds : List D} (h1 : I a = some o) (h2 : o.cls = .type "list") (h3 : o.data = .seq vs n) (r : Reps I vs.toList ds) (h2' : o.dict = Option.none := by rfl) : Rep I (.ref a) (.lst ds) :=
  .lst h1 h2 h2' h3 (by simpa using r.1) fun i v d a b => r.2 i v d (by simpa using a) b
theorem Rep.of_int {I : Imm} {v : Value} {i : Int} (r : Rep I v (.int i)) : ∃ t, v = .int i t := by cases r; exact ⟨_, rfl⟩
theorem Rep.of_bool {I : Imm} {v : Value} {b : Bool} (r : Rep I v (.bool b)) : v = .bool b := by cases r; rfl
theorem Rep.of_str {I : Imm} {v : Value} {x : Str} (r : Rep I v (.str x)) : ∃ t, v = .str x t := by cases r; exact ⟨_, rfl⟩
theorem Rep.of_bytes {I : Imm} {v : Value} {b : Array UInt8} (r : Rep I v (.bytes b)) : ∃ t, v = .bytes b t := by cases r; exact ⟨_, rfl⟩
theorem Rep.of_none {I : Imm} {v : Value} (r : Rep I v .none) : v = .none := by cases r; rfl
theorem Rep.of_raw {I : Imm} {v u : Value} (r : Rep I v (.raw u)) : v = u := by cases r; rfl

/-- the state has grown; nothing that stood has turned -/
structure Ext (I : Imm) (s : Shared) (I' : Imm) (s' : Shared) : Prop where
  st : ∃ h tk, s' = { s with heap := h, toks := tk }
  keep : ∀ b o, s.heap.get? b = some o → s'.heap.get? b = some o
  imm : ∀ b o, I' b = some o → s'.heap.get? b = some o
  old : ∀ a o, s.heap.get? a = some o → I' a = I a
  ge : ∀ a o, I a = some o → I' a = some o

theorem Ext.refl {I : Imm} {s : Shared} (h : ∀ b o, I b = some o → s.heap.get? b = some o) : Ext I s I s :=
  ⟨⟨s.heap, s.toks, rfl⟩, fun _ _ e => e, h, fun _ _ _ => rfl, fun _ _ e => e⟩
theorem Ext.trans {I J K : Imm} {s t u : Shared} (x : Ext I s J t) (y : Ext J t K u) : Ext I s K u := by
  obtain ⟨h, tk, e⟩ := x.st
  obtain ⟨h', tk', e'⟩ := y.st
  exact ⟨⟨h', tk', by rw [e', e]⟩, fun b o q => y.keep b o (x.keep b o q), y.imm, fun a o q => (y.old a o (x.keep a o q)).trans (x.old a o q), fun a o q => y.ge a o (x.ge a o q)⟩
theorem Ext.tok {I : Imm} {s : Shared} (h : ∀ b o, I b = some o → s.heap.get? b = some o) (tk : Nat) : Ext I s I { s with toks := tk } :=
  ⟨⟨s.heap, tk, rfl⟩, fun _ _ e => e, h, fun _ _ _ => rfl, fun _ _ e => e⟩
/-- a heap that has grown, the immutable part as it was -/
theorem Ext.heap {I : Imm} {s : Shared} (h : ∀ b o, I b = some o → s.heap.get? b = some o) {h' : Heap} {tk : Nat} (hk : ∀ b o, s.heap.get? b = some o → h'.get? b = some o) : Ext I s I { s with heap := h', toks := tk } :=
  ⟨⟨h', tk, rfl⟩, hk, fun b o e => hk b o (h b o e), fun _ _ _ => rfl, fun _ _ e => e⟩
/-- one new object, immutable from now on -/
theorem Ext.new {I : Imm} {s : Shared} (h : ∀ b o, I b = some o → s.heap.get? b = some o) {h' : Heap} {tk : Nat} {a : Addr} {o : Obj} (hk : ∀ b o, s.heap.get? b = some o → h'.get? b = some o)
    (hn : s.heap.get? a = none) (ho : h'.get? a = some o) : Ext I s (I.add a o) { s with heap := h', toks := tk } := by
  refine ⟨⟨h', tk, rfl⟩, hk, fun b o' e => ?_, fun b o' e => ?_, fun b o' e => ?_⟩
  · unfold Imm.add at e
    by_cases q : b = a
    · subst q; rw [if_pos rfl] at e; cases e; exact ho
    · rw [if_neg q] at e; exact hk _ _ (h _ _ e)
  · unfold Imm.add
    rw [if_neg (by rintro rfl; rw [hn] at e; cases e)]
  · unfold Imm.add
    rw [if_neg (by rintro rfl; rw [h _ _ e] at hn; cases hn)]; exact e
theorem Imm.add_self (I : Imm) (a : Addr) (o : Obj) : I.add a o a = some o := if_pos rfl

structure RoomN (k : Nat) (A : Around) : Prop where
  handled : A.handled = none
  depth : A.depth + k < recursionLimit
  units : A.units + 8 * k < cLine
theorem RoomN.deeper {k : Nat} {A : Around} (h : RoomN (k + 1) A) (env : Env) : RoomN k (A.deeper env) :=
  ⟨h.handled, by have := h.depth; show A.depth + 1 + k < _; omega, by have := h.units; show A.units + 3 + 8 * k < _; omega⟩
theorem RoomN.le {k j : Nat} {A : Around} (h : RoomN k A) (hj : j ≤ k) : RoomN j A := ⟨h.handled, by have := h.depth; omega, by have := h.units; omega⟩

/-- a tree gives a datum -/
noncomputable def Does (prog : Program) (w : World) (A : Around) (I : Imm) (s : Shared) (t : Sem Value) (d : D) : Prop :=
  ∀ E, wpAny (model prog w) A t (fun v s' => ∃ I', Ext I s I' s' ∧ Rep I' v d) E s

inductive B where
  | imm (d : D)
  | own (l : List D)
  | bya (b : Array UInt8)

noncomputable def B.owned : B → Bool
  | .imm _ => false
  | _ => true

/-- what is bound to a name -/
inductive BRep (I : Imm) (s₀ s : Shared) : Value → B → Prop where
  | imm {v : Value} {d : D} : Rep I v d → BRep I s₀ s v (.imm d)
  | own {a : Addr} {vs : Array Value} {n : Nat} {ds : List D} : s.heap.get? a = some { cls := .type "list", data := .seq vs n } → Reps I vs.toList ds → I a = none → s₀.heap.get? a = none → BRep I s₀ s (.ref a) (.own ds)
  | bya {a : Addr} {b : Array UInt8} : s.heap.get? a = some { cls := .type "bytearray", data := .bytearray b 0 } → I a = none → s₀.heap.get? a = none → BRep I s₀ s (.ref a) (.bya b)

structure FnCx where
  sc : Scope
  vars : List Str
  /-- names whose cells are the frame's own -/
  own : List Str

inductive Finds (env : Env) (m cm : Str → Option Value) (x : Str) (v : Value) : Prop where
  | loc : env.kindOf x = some .local → m x = some v → Finds env m cm x v
  | cell {c : Addr} : env.kindOf x = some .cell → env.cells.lookup x = some c → cm x = some v → Finds env m cm x v
  | free {c : Addr} : env.kindOf x = some .free → (x == ("__classdict__" : Str)) = false → env.cells.lookup x = some c → cm x = some v → Finds env m cm x v

structure EnvRep (T : Imm) (F : FnCx) (env : Env) (s₀ : Shared) (I₀ I : Imm) (ρ : List (Option B)) (s : Shared) : Prop where
  ext : Ext I₀ s₀ I s
  scope : env.scope = F.sc
  kind : env.scope.kind = .function
  glob : env.globals = mainGlobals
  blt : env.builtins = builtinsNs
  top : ∀ a o, T a = some o → I a = some o
  lnew : s₀.heap.get? env.locals = none
  lI : I env.locals = none
  cI : ∀ x c, env.cells.lookup x = some c → I c = none
  cap : ∀ x y c, env.cells.lookup x = some c → env.cells.lookup y = some c → x = y
  cown : ∀ x ∈ F.own, ∃ c, env.cells.lookup x = some c ∧ s₀.heap.get? c = none
  fr : ∃ (m cm : Str → Option Value) (val : Nat → Value), s.heap.Ns env.locals m ∧ (∀ x c, env.cells.lookup x = some c → s.heap.IsCell c (cm x)) ∧
    (∀ i b, ρ[i]? = some (some b) → (∃ x, F.vars[i]? = some x ∧ Finds env m cm x (val i)) ∧ BRep I s₀ s (val i) b) ∧
    (∀ i j b c, ρ[i]? = some (some b) → ρ[j]? = some (some c) → b.owned = true → c.owned = true → val i = val j → i = j)

theorem BRep.mono {I I' : Imm} {s₀ s s' : Shared} (x : Ext I s I' s') {v : Value} {b : B} (r : BRep I s₀ s v b) : BRep I' s₀ s' v b := by
  cases r with
  | imm r => exact .imm (r.mono x.ge)
  | own h1 h4 h5 h6 => exact .own (x.keep _ _ h1) (h4.mono x.ge) ((x.old _ _ h1).trans h5) h6
  | bya h1 h5 h6 => exact .bya (x.keep _ _ h1) ((x.old _ _ h1).trans h5) h6

theorem EnvRep.mono {T : Imm} {F : FnCx} {env : Env} {s₀ : Shared} {I₀ I I' : Imm} {ρ : List (Option B)} {s s' : Shared} (R : EnvRep T F env s₀ I₀ I ρ s) (x : Ext I s I' s') : EnvRep T F env s₀ I₀ I' ρ s' := by
  obtain ⟨m, cm, val, hn, hc, hv, ho⟩ := R.fr
  obtain ⟨oL, es, ep, hL, hr⟩ := hn
  refine ⟨R.ext.trans x, R.scope, R.kind, R.glob, R.blt, fun a o e => x.ge a o (R.top a o e), R.lnew, (x.old _ _ hL).trans R.lI, fun y c e => ?_, R.cap, R.cown, m, cm, val, ⟨oL, es, ep, x.keep _ _ hL, hr⟩, fun y c e => (hc y c e).keeps x.keep,
    fun i b h2 => ⟨(hv i b h2).1, (hv i b h2).2.mono x⟩, ho⟩
  obtain ⟨oc, h1, _⟩ := hc y c e
  exact (x.old _ _ h1).trans (R.cI y c e)

theorem EnvRep.imm {T : Imm} {F : FnCx} {env : Env} {s₀ : Shared} {I₀ I : Imm} {ρ : List (Option B)} {s : Shared} (R : EnvRep T F env s₀ I₀ I ρ s) : ∀ b o, I b = some o → s.heap.get? b = some o := R.ext.imm

/-- an expression has a datum as its value -/
structure Ev (prog : Program) (w : World) (T : Imm) (F : FnCx) (k : Nat) (ρ : List (Option B)) (e : PySem.Expr) (d : D) : Prop where
  go : ∀ (A : Around) (env : Env) (s₀ : Shared) (I₀ I : Imm) (s : Shared), RoomN k A → EnvRep T F env s₀ I₀ I ρ s → Does prog w A I s (eval e env) d

inductive Out where
  | next (ρ : List (Option B))
  | ret (d : D)

/-- what a statement leaves: iterators that stood stand -/
structure Kept (I : Imm) (s : Shared) (I' : Imm) (s' : Shared) : Prop where
  keepF : ∀ a o, s.heap.get? a = some o → (∃ vs, o.data = .fields vs) → s'.heap.get? a = some o ∧ I' a = I a
  ge : ∀ a o, I a = some o → I' a = some o
theorem Kept.refl {I : Imm} {s : Shared} : Kept I s I s := ⟨fun _ _ e _ => ⟨e, rfl⟩, fun _ _ e => e⟩
theorem Kept.trans {I J K : Imm} {s t u : Shared} (x : Kept I s J t) (y : Kept J t K u) : Kept I s K u :=
  ⟨fun a o e f => let ⟨p, q⟩ := x.keepF a o e f; let ⟨p', q'⟩ := y.keepF a o p f; ⟨p', q'.trans q⟩, fun a o e => y.ge a o (x.ge a o e)⟩
theorem Ext.kept {I I' : Imm} {s s' : Shared} (x : Ext I s I' s') : Kept I s I' s' := ⟨fun a o e _ => ⟨x.keep a o e, x.old a o e⟩, x.ge⟩

noncomputable def Post (T : Imm) (F : FnCx) (env : Env) (s₀ : Shared) (I₀ I : Imm) (s : Shared) (Φ : Out → Prop) (f : Flow) (s' : Shared) : Prop :=
  match f with
  | .next => ∃ I' ρ', Φ (.next ρ') ∧ EnvRep T F env s₀ I₀ I' ρ' s' ∧ Kept I s I' s'
  | .ret v => ∃ I' d, Φ (.ret d) ∧ Rep I' v d ∧ Ext I₀ s₀ I' s'
  | _ => False

structure Ex (prog : Program) (w : World) (T : Imm) (F : FnCx) (k : Nat) (ρ : List (Option B)) (st : Stmt) (Φ : Out → Prop) : Prop where
  go : ∀ (A : Around) (env : Env) (s₀ : Shared) (I₀ I : Imm) (s : Shared), RoomN k A → EnvRep T F env s₀ I₀ I ρ s → ∀ E, wpAny (model prog w) A (exec st env) (Post T F env s₀ I₀ I s Φ) E s
structure Exs (prog : Program) (w : World) (T : Imm) (F : FnCx) (k : Nat) (ρ : List (Option B)) (l : List Stmt) (Φ : Out → Prop) : Prop where
  go : ∀ (A : Around) (env : Env) (s₀ : Shared) (I₀ I : Imm) (s : Shared), RoomN k A → EnvRep T F env s₀ I₀ I ρ s → ∀ E, wpAny (model prog w) A (execs l env) (Post T F env s₀ I₀ I s Φ) E s

section
variable {prog : Program} {w : World} {T : Imm} {F : FnCx} {k : Nat} {ρ : List (Option B)}

theorem Post.mono {env : Env} {s₀ : Shared} {I₀ I : Imm} {s : Shared} {Φ Ψ : Out → Prop} (h : ∀ o, Φ o → Ψ o) {f : Flow} {s' : Shared} (p : Post T F env s₀ I₀ I s Φ f s') : Post T F env s₀ I₀ I s Ψ f s' := by
  cases f with
  | next => obtain ⟨I', ρ', h1, h2⟩ := p; exact ⟨I', ρ', h _ h1, h2⟩
  | ret v => obtain ⟨I', d, h1, h2⟩ := p; exact ⟨I', d, h _ h1, h2⟩
  | brk => exact p
  | cont => exact p
theorem Post.from {env : Env} {s₀ : Shared} {I₀ I J : Imm} {s t : Shared} {Φ : Out → Prop} (y : Kept J t I s) {f : Flow} {s' : Shared} (p : Post T F env s₀ I₀ I s Φ f s') : Post T F env s₀ I₀ J t Φ f s' := by
  cases f with
  | next => obtain ⟨I', ρ', h1, h2, h3⟩ := p; exact ⟨I', ρ', h1, h2, y.trans h3⟩
  | ret v => exact p
  | brk => exact p
  | cont => exact p

theorem Exs.nil {Φ : Out → Prop} (h : Φ (.next ρ)) : Exs prog w T F k ρ [] Φ :=
  .mk fun _ _ _ _ _ _ _ R _ => wpAny_execs_nil ⟨_, _, h, R, Kept.refl⟩
theorem Exs.cons {st : Stmt} {rest : List Stmt} {Φ : Out → Prop} (h : Ex prog w T F k ρ st (fun o => match o with | .next ρ' => Exs prog w T F k ρ' rest Φ | .ret d => Φ (.ret d))) : Exs prog w T F k ρ (st :: rest) Φ :=
  .mk fun A env s₀ I₀ I s hR R E => wpAny_execs_cons (wpAny_mono (h.go A env s₀ I₀ I s hR R E) (fun f s' p => by
    cases f with
    | next => obtain ⟨I', ρ', h1, h2, h3⟩ := p; exact wpAny_mono (h1.go A env s₀ I₀ I' s' hR h2 E) (fun _ _ q => q.from h3) fun _ _ e => e
    | ret v => exact p
    | brk => exact p.elim
    | cont => exact p.elim) fun _ _ e => e)
theorem Ex.mono {st : Stmt} {Φ Ψ : Out → Prop} (h : Ex prog w T F k ρ st Φ) (hm : ∀ o, Φ o → Ψ o) : Ex prog w T F k ρ st Ψ :=
  .mk fun A env s₀ I₀ I s hR R E => wpAny_mono (h.go A env s₀ I₀ I s hR R E) (fun _ _ p => p.mono hm) fun _ _ e => e
theorem Exs.mono {l : List Stmt} {Φ Ψ : Out → Prop} (h : Exs prog w T F k ρ l Φ) (hm : ∀ o, Φ o → Ψ o) : Exs prog w T F k ρ l Ψ :=
  .mk fun A env s₀ I₀ I s hR R E => wpAny_mono (h.go A env s₀ I₀ I s hR R E) (fun _ _ p => p.mono hm) fun _ _ e => e

theorem Ev.cast {e : PySem.Expr} {d d' : D} (h : Ev prog w T F k ρ e d) (q : d = d') : Ev prog w T F k ρ e d' := q ▸ h
end

end Mine
end

section
open PySem PySem.W PyProof.Rows
namespace Mine

/-- what the text's top has left, for good -/
structure TopOk (T : Imm) (mg mb : Str → Option Value) : Prop where
  g : ∀ h : Heap, (∀ a o, T a = some o → h.get? a = some o) → h.Ns mainGlobals mg
  b : ∀ h : Heap, (∀ a o, T a = some o → h.get? a = some o) → h.Ns builtinsNs mb
  lim : ∀ h : Heap, (∀ a o, T a = some o → h.get? a = some o) → h.NoLimit

/-- a test -/
structure Tr (prog : Program) (w : World) (T : Imm) (F : FnCx) (k : Nat) (ρ : List (Option B)) (e : PySem.Expr) (b : Bool) : Prop where
  go : ∀ (A : Around) (env : Env) (s₀ : Shared) (I₀ I : Imm) (s : Shared), RoomN k A → EnvRep T F env s₀ I₀ I ρ s → ∀ E,
    wpAny (model prog w) A (isTrue e env (eval e env)) (fun c s' => c = b ∧ ∃ I', Ext I s I' s') E s

section
variable {prog : Program} {w : World} {T : Imm} {F : FnCx} {k : Nat} {ρ : List (Option B)} {mg mb : Str → Option Value}

theorem EnvRep.kindOf {env : Env} {s₀ : Shared} {I₀ I : Imm} {s : Shared} (R : EnvRep T F env s₀ I₀ I ρ s) (x : Str) : env.kindOf x = F.sc.names.lookup x := by
  unfold Env.kindOf; rw [R.scope]
theorem EnvRep.heap_top {env : Env} {s₀ : Shared} {I₀ I : Imm} {s : Shared} (R : EnvRep T F env s₀ I₀ I ρ s) : ∀ a o, T a = some o → s.heap.get? a = some o :=
  fun a o e => R.imm a o (R.top a o e)

theorem Ev.int {i : Int} {kd : Nat} {pos : Pos} : Ev prog w T F k ρ (.Constant (.int i) kd pos) (.int i) :=
  .mk fun _ _ _ _ I s _ R _ => wpAny_Constant_int ⟨I, Ext.tok R.imm _, .int _ _⟩
theorem Ev.str {x : Str} {kd : Nat} {pos : Pos} : Ev prog w T F k ρ (.Constant (.str x) kd pos) (.str x) :=
  .mk fun _ _ _ _ I s _ R _ => wpAny_Constant_str ⟨I, Ext.tok R.imm _, .str _ _⟩
theorem Ev.bytes {x : List UInt8} {kd : Nat} {pos : Pos} : Ev prog w T F k ρ (.Constant (.bytes x) kd pos) (.bytes x.toArray) :=
  .mk fun _ _ _ _ I s _ R _ => fun _ _ _ => ⟨I, Ext.tok R.imm _, .bytes _ _⟩
theorem Ev.bool {b : Bool} {kd : Nat} {pos : Pos} : Ev prog w T F k ρ (.Constant (.bool b) kd pos) (.bool b) :=
  .mk fun _ _ _ _ I s _ R _ => wpAny_Constant_bool ⟨I, Ext.refl R.imm, .bool _⟩
theorem Ev.none {kd : Nat} {pos : Pos} : Ev prog w T F k ρ (.Constant .none kd pos) .none :=
  .mk fun _ _ _ _ I s _ R _ => wpAny_Constant_none ⟨I, Ext.refl R.imm, .none⟩

theorem wp_find {A : Around} {env : Env} {s₀ : Shared} {I₀ I : Imm} {s : Shared} {i : Nat} {x : Str} {b : B} (R : EnvRep T F env s₀ I₀ I ρ s) (hx : F.vars[i]? = some x) (hρ : ρ[i]? = some (some b))
    {Q : Value → Shared → Prop} {E} (h : ∀ v, BRep I s₀ s v b → Q v s) : wpAny (model prog w) A (loadName env x) Q E s := by
  obtain ⟨m, cm, val, hn, hc, hv, ho⟩ := R.fr
  obtain ⟨⟨y, hy, f⟩, r⟩ := hv i b hρ
  obtain rfl : x = y := Option.some.inj (hx.symm.trans hy)
  cases f with
  | loc h1 h2 => exact wpAny_loadName_local R.kind h1 hn h2 (h _ r)
  | cell h1 h2 h3 => exact wpAny_loadName_cell R.kind h1 h2 (by rw [← h3]; exact hc _ _ h2) (h _ r)
  | free h1 h4 h2 h3 => exact wpAny_loadName_free R.kind h1 h2 (by rw [← h3]; exact hc _ _ h2) (h _ r) h4

theorem Ev.var {i : Nat} {x : Str} {d : D} {pos : Pos} (hx : F.vars[i]? = some x) (hρ : ρ[i]? = some (some (.imm d))) (hd : (x == ("__debug__" : Str)) = false := by decide) : Ev prog w T F k ρ (.Name x pos) d :=
  .mk fun A env s₀ I₀ I s _ R E => wpAny_Name (wp_find R hx hρ fun v r => ⟨I, Ext.refl R.imm, by cases r with | imm r => exact r⟩) hd

theorem Ev.glob {x : Str} {v : Value} {pos : Pos} (hT : TopOk T mg mb) (hk : F.sc.names.lookup x = some .globalImplicit) (hv : mg x = some v) (hd : (x == ("__debug__" : Str)) = false := by decide) :
    Ev prog w T F k ρ (.Name x pos) (.raw v) :=
  .mk fun A env s₀ I₀ I s _ R E => wpAny_Name (by
    rw [loadName_read R.kind ((R.kindOf x).trans hk)]
    exact Calls.loadGlobal_global (by rw [R.glob]; exact hT.g _ R.heap_top) hv ⟨I, Ext.refl R.imm, .raw _⟩) hd
theorem Ev.blt {x : Str} {v : Value} {pos : Pos} (hT : TopOk T mg mb) (hk : F.sc.names.lookup x = some .globalImplicit) (hn : mg x = Option.none) (hv : mb x = some v) (hd : (x == ("__debug__" : Str)) = false := by decide) :
    Ev prog w T F k ρ (.Name x pos) (.raw v) :=
  .mk fun A env s₀ I₀ I s _ R E => wpAny_Name (by
    rw [loadName_read R.kind ((R.kindOf x).trans hk)]
    exact Calls.loadGlobal_builtin (by rw [R.glob]; exact hT.g _ R.heap_top) hn (by rw [R.blt]; exact hT.b _ R.heap_top) hv ⟨I, Ext.refl R.imm, .raw _⟩) hd

/-! operators -/
structure Prim2 (prog : Program) (w : World) (T : Imm) (k : Nat) (t : Value → Value → Sem Value) (d₁ d₂ d : D) : Prop where
  go : ∀ (A : Around) (I : Imm) (s : Shared) (v₁ v₂ : Value), RoomN k A → (∀ a o, T a = some o → I a = some o) → (∀ b o, I b = some o → s.heap.get? b = some o) → Rep I v₁ d₁ → Rep I v₂ d₂ → Does prog w A I s (t v₁ v₂) d

theorem Does.step {A : Around} {I I' : Imm} {s s' : Shared} {t : Sem Value} {d : D} (x : Ext I s I' s') (h : Does prog w A I' s' t d) {E} : wpAny (model prog w) A t (fun v s'' => ∃ J, Ext I s J s'' ∧ Rep J v d) E s' :=
  wpAny_mono (h E) (fun _ _ ⟨J, y, r⟩ => ⟨J, x.trans y, r⟩) fun _ _ e => e

theorem Ev.bin {l r : PySem.Expr} {op : Operator} {pos : Pos} {d₁ d₂ d : D} (h₁ : Ev prog w T F k ρ l d₁) (h₂ : Ev prog w T F k ρ r d₂) (hp : Prim2 prog w T k (binaryOp op) d₁ d₂ d) : Ev prog w T F k ρ (.BinOp l op r pos) d :=
  .mk fun A env s₀ I₀ I s hR R E => wpAny_BinOp (wpAny_mono (h₁.go A env s₀ I₀ I s hR R E) (fun v₁ s₁ ⟨I₁, x₁, r₁⟩ =>
    wpAny_mono (h₂.go A env s₀ I₀ I₁ s₁ hR (R.mono x₁) E) (fun v₂ s₂ ⟨I₂, x₂, r₂⟩ =>
      Does.step (x₁.trans x₂) (hp.go A I₂ s₂ v₁ v₂ hR ((R.mono x₁).mono x₂).top x₂.imm (r₁.mono x₂.ge) r₂)) fun _ _ e => e) fun _ _ e => e)
theorem Ev.cmp {l r : PySem.Expr} {op : CmpOp} {pos : Pos} {d₁ d₂ d : D} (h₁ : Ev prog w T F k ρ l d₁) (h₂ : Ev prog w T F k ρ r d₂) (hp : Prim2 prog w T k (compareOp op) d₁ d₂ d) (hm : behindInMarks op r = false := by with_unfolding_all rfl) :
    Ev prog w T F k ρ (.Compare l [op] [r] pos) d :=
  .mk fun A env s₀ I₀ I s hR R E => wpAny_Compare1 (wpAny_mono (h₁.go A env s₀ I₀ I s hR R E) (fun v₁ s₁ ⟨I₁, x₁, r₁⟩ =>
    wpAny_mono (h₂.go A env s₀ I₀ I₁ s₁ hR (R.mono x₁) E) (fun v₂ s₂ ⟨I₂, x₂, r₂⟩ =>
      Does.step (x₁.trans x₂) (hp.go A I₂ s₂ v₁ v₂ hR ((R.mono x₁).mono x₂).top x₂.imm (r₁.mono x₂.ge) r₂)) fun _ _ e => e) fun _ _ e => e) hm
/-- a comparison as a test -/
theorem Tr.cmp {l r : PySem.Expr} {op : CmpOp} {pos : Pos} {d₁ d₂ : D} {b : Bool} (h₁ : Ev prog w T F k ρ l d₁) (h₂ : Ev prog w T F k ρ r d₂) (hp : Prim2 prog w T k (compareOp op) d₁ d₂ (.bool b)) (hm : behindInMarks op r = false := by with_unfolding_all rfl) :
    Tr prog w T F k ρ (.Compare l [op] [r] pos) b :=
  .mk fun A env s₀ I₀ I s hR R E => wpAny_isTrue_Compare1 (wpAny_mono (h₁.go A env s₀ I₀ I s hR R E) (fun v₁ s₁ ⟨I₁, x₁, r₁⟩ =>
    wpAny_mono (h₂.go A env s₀ I₀ I₁ s₁ hR (R.mono x₁) E) (fun v₂ s₂ ⟨I₂, x₂, r₂⟩ =>
      wpAny_mono (hp.go A I₂ s₂ v₁ v₂ hR ((R.mono x₁).mono x₂).top x₂.imm (r₁.mono x₂.ge) r₂ E) (fun c s₃ ⟨I₃, x₃, r₃⟩ => by
        obtain rfl := r₃.of_bool
        exact wpAny_truthy_bool ⟨rfl, I₃, (x₁.trans x₂).trans x₃⟩) fun _ _ e => e) fun _ _ e => e) fun _ _ e => e) hm
/-- a chain of two as a test -/
theorem Tr.chain {l r r' : PySem.Expr} {op op' : CmpOp} {pos : Pos} {d₁ d₂ d₃ : D} {b c : Bool} (h₁ : Ev prog w T F k ρ l d₁) (h₂ : Ev prog w T F k ρ r d₂) (h₃ : Ev prog w T F k ρ r' d₃)
    (hp : Prim2 prog w T k (compareOp op) d₁ d₂ (.bool b)) (hq : Prim2 prog w T k (compareOp op') d₂ d₃ (.bool c)) (hm : lastMarks [op, op'] [r, r'] = false := by with_unfolding_all rfl) :
    Tr prog w T F k ρ (.Compare l [op, op'] [r, r'] pos) (b && c) :=
  .mk fun A env s₀ I₀ I s hR R E => by
    refine isTrue_chain (wpAny_mono (h₁.go A env s₀ I₀ I s hR R E) (fun v₁ s₁ ⟨I₁, x₁, r₁⟩ => ?_) fun _ _ e => e) hm
    show wpAny _ A (testChain pos v₁ [op, op'] [eval r env, eval r' env]) _ E s₁
    unfold testChain
    refine wpAny_bind (wpAny_holding (wpAny_mono (h₂.go A env s₀ I₀ I₁ s₁ hR (R.mono x₁) E) (fun v₂ s₂ ⟨I₂, x₂, r₂⟩ => ?_) fun _ _ e => e))
    refine wpAny_bind (wpAny_standAt (wpAny_bind (wpAny_holding (wpAny_mono (hp.go A I₂ s₂ v₁ v₂ hR ((R.mono x₁).mono x₂).top x₂.imm (r₁.mono x₂.ge) r₂ E) (fun c' s₃ ⟨I₃, x₃, r₃⟩ => ?_) fun _ _ e => e))))
    obtain rfl := r₃.of_bool
    have R₃ := ((R.mono x₁).mono x₂).mono x₃
    refine wpAny_bind (fun Γ p hΓ => ?_)
    rw [release, Sem.wp_release_go]
    refine wpAny_bind (wpAny_holding (wpAny_truthy_bool ?_))
    cases b with
    | false => exact wpAny_pure ⟨rfl, I₃, (x₁.trans x₂).trans x₃⟩
    | true =>
      show wpAny _ A (testChain pos v₂ [op'] [eval r' env]) _ E s₃
      unfold testChain
      refine wpAny_bind (wpAny_holding (wpAny_mono (h₃.go A env s₀ I₀ I₃ s₃ hR R₃ E) (fun v₃ s₄ ⟨I₄, x₄, r₄⟩ => ?_) fun _ _ e => e))
      refine wpAny_bind (wpAny_standAt (wpAny_bind (fun Γ p hΓ => ?_)))
      rw [Sem.wp_operate]
      refine (?_ : wpAny _ A _ _ E s₄) Γ p hΓ
      refine wpAny_mono (hq.go A I₄ s₄ v₂ v₃ hR (R₃.mono x₄).top x₄.imm ((r₂.mono x₃.ge).mono x₄.ge) r₄ E) (fun c' s₅ ⟨I₅, x₅, r₅⟩ => ?_) fun _ _ e => e
      obtain rfl := r₅.of_bool
      exact fun Γ p hΓ => (wpAny_holding (wpAny_truthy_bool ⟨by simp, I₅, (((x₁.trans x₂).trans x₃).trans x₄).trans x₅⟩) : wpAny (model prog w) A _ _ E s₅) Γ p hΓ

theorem Tr.val {e : PySem.Expr} {b : Bool} (h : Ev prog w T F k ρ e (.bool b)) (he : ∀ env whole, isTrue e env whole = (do let v ← whole; standAt e.pos; holding [v] (truthy v)) := by intro _ _; rfl) : Tr prog w T F k ρ e b :=
  .mk fun A env s₀ I₀ I s hR R E => isTrue_plain (wpAny_mono (h.go A env s₀ I₀ I s hR R E) (fun v s₁ ⟨I₁, x₁, r₁⟩ => by
    obtain rfl := r₁.of_bool
    exact wpAny_truthy_bool ⟨rfl, I₁, x₁⟩) fun _ _ e => e) (he _ _)
theorem Tr.not {e : PySem.Expr} {pos : Pos} {b : Bool} (h : Tr prog w T F k ρ e b) : Tr prog w T F k ρ (.UnaryOp .Not e pos) (!b) :=
  .mk fun A env s₀ I₀ I s hR R E => isTrue_not (wpAny_mono (h.go A env s₀ I₀ I s hR R E) (fun _ _ ⟨q, J, x⟩ => ⟨by rw [q], J, x⟩) fun _ _ e => e)
/-- and, or of two: the second one only where it is asked -/
theorem Tr.and {e e' : PySem.Expr} {pos : Pos} {b c : Bool} (h : Tr prog w T F k ρ e b) (h' : b = true → Tr prog w T F k ρ e' c) : Tr prog w T F k ρ (.BoolOp .And [e, e'] pos) (b && c) :=
  .mk fun A env s₀ I₀ I s hR R E => isTrue_and (wpAny_mono (h.go A env s₀ I₀ I s hR R E) (fun q s₁ ⟨e₁, J, x⟩ => by
    subst e₁
    cases q with
    | false => exact ⟨rfl, J, x⟩
    | true =>
      refine isTrue_and (wpAny_mono ((h' rfl).go A env s₀ I₀ J s₁ hR (R.mono x) E) (fun q' s₂ ⟨e₂, J₂, x₂⟩ => ?_) fun _ _ e => e)
      subst e₂
      cases q' with
      | false => exact ⟨rfl, J₂, x.trans x₂⟩
      | true => exact isTrue_and_nil ⟨rfl, J₂, x.trans x₂⟩) fun _ _ e => e)
theorem Tr.or {e e' : PySem.Expr} {pos : Pos} {b c : Bool} (h : Tr prog w T F k ρ e b) (h' : b = false → Tr prog w T F k ρ e' c) : Tr prog w T F k ρ (.BoolOp .Or [e, e'] pos) (b || c) :=
  .mk fun A env s₀ I₀ I s hR R E => isTrue_or (wpAny_mono (h.go A env s₀ I₀ I s hR R E) (fun q s₁ ⟨e₁, J, x⟩ => by
    subst e₁
    cases q with
    | true => exact ⟨rfl, J, x⟩
    | false =>
      refine isTrue_or (wpAny_mono ((h' rfl).go A env s₀ I₀ J s₁ hR (R.mono x) E) (fun q' s₂ ⟨e₂, J₂, x₂⟩ => ?_) fun _ _ e => e)
      subst e₂
      cases q' with
      | true => exact ⟨rfl, J₂, x.trans x₂⟩
      | false => exact isTrue_or_nil ⟨rfl, J₂, x.trans x₂⟩) fun _ _ e => e)
theorem Ev.ifExp {t b o : PySem.Expr} {pos : Pos} {c : Bool} {d : D} (ht : Tr prog w T F k ρ t c) (h1 : c = true → Ev prog w T F k ρ b d) (h2 : c = false → Ev prog w T F k ρ o d) : Ev prog w T F k ρ (.IfExp t b o pos) d :=
  .mk fun A env s₀ I₀ I s hR R E => wpAny_IfExp (wpAny_mono (ht.go A env s₀ I₀ I s hR R E) (fun q s₁ ⟨e₁, J, x⟩ => by
    subst e₁
    cases q with
    | true => exact Does.step x ((h1 rfl).go A env s₀ I₀ J s₁ hR (R.mono x))
    | false => exact Does.step x ((h2 rfl).go A env s₀ I₀ J s₁ hR (R.mono x))) fun _ _ e => e)

/-! displays -/
inductive Evs (prog : Program) (w : World) (T : Imm) (F : FnCx) (k : Nat) (ρ : List (Option B)) : List PySem.Expr → List D → Prop where
  | nil : Evs prog w T F k ρ [] []
  | cons {e : PySem.Expr} {d : D} {es : List PySem.Expr} {ds : List D} : Ev prog w T F k ρ e d → isStarred e = false → Evs prog w T F k ρ es ds → Evs prog w T F k ρ (e :: es) (d :: ds)
theorem starEach_plain {e : PySem.Expr} {rest : List PySem.Expr} {env : Env} (h : isStarred e = false) : starEach (e :: rest) env = (false, eval e env) :: starEach rest env := by
  cases e <;> first | rfl | cases h
theorem Evs.spliced {es : List PySem.Expr} {ds : List D} (h : Evs prog w T F k ρ es ds) {A : Around} {env : Env} {s₀ : Shared} {I₀ : Imm} (hR : RoomN k A) {pos : Pos} :
    ∀ {I : Imm} {s : Shared} (_ : EnvRep T F env s₀ I₀ I ρ s) (E), wpAny (model prog w) A (PySem.spliced (backTo pos (starEach es env))) (fun vs s' => ∃ I', Ext I s I' s' ∧ Reps I' vs ds) E s := by
  induction h with
  | nil => intro I s R E; exact spliced_none ⟨I, Ext.refl R.imm, Reps.nil⟩
  | cons h hs _ ih =>
    intro I s R E
    refine spliced_more (wpAny_mono (h.go A env s₀ I₀ I s hR R E) (fun v s₁ ⟨J, x, r⟩ => ?_) fun _ _ e => e) (starEach_plain hs)
    exact wpAny_mono (ih (R.mono x) E) (fun vs s₂ ⟨J₂, x₂, r₂⟩ => ⟨J₂, x.trans x₂, Reps.cons (r.mono x₂.ge) r₂⟩) fun _ _ e => e
theorem Evs.length {es : List PySem.Expr} {ds : List D} (h : Evs prog w T F k ρ es ds) : es.length = ds.length := by
  induction h with
  | nil => rfl
  | cons _ _ _ ih => simp [ih]
theorem get_size (h : Heap) : h.get? h.objs.size = none := by
  cases e : h.get? h.objs.size with
  | none => rfl
  | some o => exact absurd (Heap.lt_size e) (Nat.lt_irrefl _)

theorem Ev.tuple {es : List PySem.Expr} {ds : List D} {kd} {pos : Pos} (h : Evs prog w T F k ρ es ds) (hl : ds.length ≤ 1000 := by exact Nat.le_of_ble_eq_true rfl) : Ev prog w T F k ρ (.Tuple es kd pos) (.tup ds) :=
  .mk fun A env s₀ I₀ I s hR R E => wpAny_Tuple_spliced (wpAny_mono (h.spliced hR R E) (fun vs s₁ ⟨J, x, r⟩ => by
    refine ⟨by rw [r.1, sizeLine_eq]; omega, ?_⟩
    have hk : ∀ b o, s₁.heap.get? b = some o → (s₁.heap.push { cls := .type "tuple", data := .seq vs.toArray }).get? b = some o := fun b o e => Heap.get?_push_of_some _ e
    have y := Ext.new (tk := s₁.toks) x.imm hk (get_size _) (Heap.get?_push_size _ rfl)
    exact ⟨_, x.trans y, Rep.mk_tup (Imm.add_self _ _ _) rfl rfl (by simpa using r.mono y.ge)⟩) fun _ _ e => e)

/-- a new list, held by none yet -/
noncomputable def FreshL (I : Imm) (s : Shared) (l : List D) (v : Value) (s' : Shared) : Prop :=
  ∃ I' a vs n, v = .ref a ∧ Ext I s I' s' ∧ s.heap.get? a = none ∧ s'.heap.get? a = some { cls := .type "list", data := .seq vs n } ∧ Reps I' vs.toList l ∧ I' a = none
structure EvF (prog : Program) (w : World) (T : Imm) (F : FnCx) (k : Nat) (ρ : List (Option B)) (e : PySem.Expr) (l : List D) : Prop where
  go : ∀ (A : Around) (env : Env) (s₀ : Shared) (I₀ I : Imm) (s : Shared), RoomN k A → EnvRep T F env s₀ I₀ I ρ s → ∀ E, wpAny (model prog w) A (eval e env) (FreshL I s l) E s
theorem FreshL.rep {I : Imm} {s : Shared} {l : List D} {v : Value} {s' : Shared} (h : FreshL I s l v s') : ∃ I', Ext I s I' s' ∧ Rep I' v (.lst l) := by
  obtain ⟨I', a, vs, n, rfl, x, h1, h2, h5, h6⟩ := h
  have hge : ∀ b o', I' b = some o' → I'.add a { cls := .type "list", data := .seq vs n } b = some o' := fun b o' e => by
    unfold Imm.add; rw [if_neg (by rintro rfl; rw [h6] at e; cases e)]; exact e
  refine ⟨I'.add a { cls := .type "list", data := .seq vs n }, ⟨x.st, x.keep, fun b o' e => ?_, fun b o' e => ?_, fun b o' e => hge _ _ (x.ge _ _ e)⟩, Rep.mk_lst (Imm.add_self _ _ _) rfl rfl (h5.mono hge)⟩
  · unfold Imm.add at e
    by_cases q : b = a
    · subst q; rw [if_pos rfl] at e; cases e; exact h2
    · rw [if_neg q] at e; exact x.imm _ _ e
  · unfold Imm.add
    rw [if_neg (by rintro rfl; rw [h1] at e; cases e)]; exact x.old _ _ e
theorem EvF.ev {e : PySem.Expr} {l : List D} (h : EvF prog w T F k ρ e l) : Ev prog w T F k ρ e (.lst l) :=
  .mk fun A env s₀ I₀ I s hR R E => wpAny_mono (h.go A env s₀ I₀ I s hR R E) (fun _ _ f => f.rep) fun _ _ e => e
theorem EvF.list {es : List PySem.Expr} {ds : List D} {pos : Pos} (h : Evs prog w T F k ρ es ds) (hl : ds.length ≤ 1000 := by exact Nat.le_of_ble_eq_true rfl) : EvF prog w T F k ρ (.List es pos) ds :=
  .mk fun A env s₀ I₀ I s hR R E => by
    show wpAny _ A (do standAt pos; newList (← PySem.spliced (backTo pos (starEach es env)))) _ E s
    refine wpAny_bind (wpAny_standAt (wpAny_bind (wpAny_mono (h.spliced hR R E) (fun vs s₁ ⟨J, x, r⟩ => ?_) fun _ _ e => e)))
    refine wpAny_newList ?_ (by rw [r.1, sizeLine_eq]; omega)
    have hk : ∀ b o, s₁.heap.get? b = some o → (s₁.heap.push { cls := .type "list", data := .seq vs.toArray }).get? b = some o := fun b o e => Heap.get?_push_of_some _ e
    have hn : s₁.heap.get? s₁.heap.objs.size = Option.none := get_size _
    refine ⟨J, _, _, _, rfl, x.trans (Ext.heap (tk := s₁.toks) x.imm hk), ?_, Heap.get?_push_size _ rfl, by simpa using r, ?_⟩
    · cases e : s.heap.get? s₁.heap.objs.size with
      | none => rfl
      | some o => rw [x.keep _ _ e] at hn; cases hn
    · cases e : J s₁.heap.objs.size with
      | none => rfl
      | some o => rw [x.imm _ _ e] at hn; cases hn
end
end Mine
end

section
open PySem PySem.W PyProof.Rows
namespace Mine

structure PrimN (prog : Program) (w : World) (T : Imm) (k : Nat) (t : List Value → Sem Value) (ds : List D) (d : D) : Prop where
  go : ∀ (A : Around) (I : Imm) (s : Shared) (vs : List Value), RoomN k A → (∀ a o, T a = some o → I a = some o) → (∀ b o, I b = some o → s.heap.get? b = some o) → Reps I vs ds → Does prog w A I s (t vs) d

section
variable {prog : Program} {w : World} {T : Imm} {F : FnCx} {k : Nat} {ρ : List (Option B)} {mg mb : Str → Option Value}

theorem backTo_plain {pos : Pos} {es : List PySem.Expr} {ds : List D} (h : Evs prog w T F k ρ es ds) (env : Env) : (backTo pos (starEach es env)).any (·.1) = false := by
  induction h with
  | nil => rfl
  | cons _ hs _ ih => rw [starEach_plain hs]; exact ih

theorem Evs.args {es : List PySem.Expr} {ds : List D} (h : Evs prog w T F k ρ es ds) (hne : ds ≠ []) {A : Around} {env : Env} {s₀ : Shared} {I₀ : Imm} (hR : RoomN k A) {pos : Pos} {f : Value}
    {I : Imm} {s : Shared} (R : EnvRep T F env s₀ I₀ I ρ s) (E) : wpAny (model prog w) A (evalArgs f true (backTo pos (starEach es env)) []) (fun a s' => a.kw = [] ∧ ∃ I', Ext I s I' s' ∧ Reps I' a.pos ds) E s := by
  cases h with
  | nil => exact absurd rfl hne
  | cons h1 hs h2 =>
    have h := Evs.cons h1 hs h2
    have := h.spliced (pos := pos) hR R E
    rw [starEach_plain hs] at this ⊢
    exact Calls.evalArgs_plain (wpAny_mono this (fun vs s' x => ⟨rfl, x⟩) fun _ _ e => e)

/-- a built-in function, called by its name -/
theorem Ev.callB {x : Str} {p pos : Pos} {id : String} {es : List PySem.Expr} {ds : List D} {d : D} (hf : Ev prog w T F k ρ (.Name x p) (.raw (.builtin id))) (ha : Evs prog w T F k ρ es ds) (hne : ds ≠ [] := by simp)
    (hp : PrimN prog w T k (fun vs => call (.builtin id) vs) ds d) : Ev prog w T F k ρ (.Call (.Name x p) es [] pos) d :=
  .mk fun A env s₀ I₀ I s hR R E => wpAny_Call_Name_kw (wpAny_mono (hf.go A env s₀ I₀ I s hR R E) (fun v s₁ ⟨I₁, x₁, r₁⟩ => by
    obtain rfl := r₁.of_raw
    refine Calls.callWith_builtin (backTo_plain ha env) (wpAny_mono (ha.args hne hR (R.mono x₁) E) (fun a s₂ ⟨hk, I₂, x₂, r₂⟩ => ?_) fun _ _ e => e)
    rw [hk]
    exact Does.step (x₁.trans x₂) (hp.go A I₂ s₂ a.pos hR ((R.mono x₁).mono x₂).top x₂.imm r₂)) fun _ _ e => e)
/-- a built-in class, called by its name -/
theorem Ev.callT {x : Str} {p pos : Pos} {id : String} {es : List PySem.Expr} {ds : List D} {d : D} (hf : Ev prog w T F k ρ (.Name x p) (.raw (.type id))) (ha : Evs prog w T F k ρ es ds) (hne : ds ≠ [] := by simp)
    (hp : PrimN prog w T k (fun vs => call (.type id) vs) ds d) : Ev prog w T F k ρ (.Call (.Name x p) es [] pos) d :=
  .mk fun A env s₀ I₀ I s hR R E => wpAny_Call_Name_kw (wpAny_mono (hf.go A env s₀ I₀ I s hR R E) (fun v s₁ ⟨I₁, x₁, r₁⟩ => by
    obtain rfl := r₁.of_raw
    refine PySem.callWith_type (backTo_plain ha env) (wpAny_mono (ha.args hne hR (R.mono x₁) E) (fun a s₂ ⟨hk, I₂, x₂, r₂⟩ => ?_) fun _ _ e => e)
    rw [hk]
    exact Does.step (x₁.trans x₂) (hp.go A I₂ s₂ a.pos hR ((R.mono x₁).mono x₂).top x₂.imm r₂)) fun _ _ e => e)
/-- a def of the text's, called by its name -/
structure Fn (prog : Program) (w : World) (T : Imm) (k : Nat) (a : Addr) (ds : List D) (d : D) : Prop where
  isf : ∃ o fd, T a = some o ∧ o.data = .func fd
  prim : PrimN prog w T k (fun vs => call (.ref a) vs) ds d
theorem Ev.callF {x : Str} {p pos : Pos} {f : Addr} {es : List PySem.Expr} {ds : List D} {d : D} (hf : Ev prog w T F k ρ (.Name x p) (.raw (.ref f))) (ha : Evs prog w T F k ρ es ds) (hp : Fn prog w T k f ds d) (hne : ds ≠ [] := by simp) :
    Ev prog w T F k ρ (.Call (.Name x p) es [] pos) d :=
  .mk fun A env s₀ I₀ I s hR R E => wpAny_Call_Name_kw (wpAny_mono (hf.go A env s₀ I₀ I s hR R E) (fun v s₁ ⟨I₁, x₁, r₁⟩ => by
    obtain rfl := r₁.of_raw
    obtain ⟨o, fd, hT, hd⟩ := hp.isf
    refine Calls.callWith_function (o := o) (fd := fd) (wpAny_mono (ha.args hne hR (R.mono x₁) E) (fun a s₂ ⟨hk, I₂, x₂, r₂⟩ => ?_) fun _ _ e => e)
    rw [hk]
    have R₂ := (R.mono x₁).mono x₂
    exact ⟨⟨R₂.heap_top _ _ hT, hd⟩, Does.step (x₁.trans x₂) (hp.prim.go A I₂ s₂ a.pos hR R₂.top x₂.imm r₂)⟩) fun _ _ e => e)
end

section
variable {prog : Program} {w : World} {T : Imm} {k : Nat}

/-! numbers -/
theorem p_add {a b : Int} : Prim2 prog w T k (binaryOp .Add) (.int a) (.int b) (.int (a + b)) := .mk fun A I s v₁ v₂ _ _ hI r₁ r₂ E => by
  obtain ⟨t, rfl⟩ := r₁.of_int; obtain ⟨u, rfl⟩ := r₂.of_int
  exact add_int ⟨I, Ext.tok hI _, .int _ _⟩
theorem p_sub {a b : Int} : Prim2 prog w T k (binaryOp .Sub) (.int a) (.int b) (.int (a - b)) := .mk fun A I s v₁ v₂ _ _ hI r₁ r₂ E => by
  obtain ⟨t, rfl⟩ := r₁.of_int; obtain ⟨u, rfl⟩ := r₂.of_int
  exact PyProof.Rows.sub_int ⟨I, Ext.tok hI _, .int _ _⟩
theorem p_mul {a b : Int} (ha : a.natAbs < 2 ^ 63) : Prim2 prog w T k (binaryOp .Mult) (.int a) (.int b) (.int (a * b)) := .mk fun A I s v₁ v₂ _ _ hI r₁ r₂ E => by
  obtain ⟨t, rfl⟩ := r₁.of_int; obtain ⟨u, rfl⟩ := r₂.of_int
  refine PyProof.Rows.mul_int ⟨I, Ext.tok hI _, .int _ _⟩ (IntMulOk.of_left ?_)
  unfold Builtin.Int.intBits
  split
  · omega
  · rename_i h
    have h0 : a.natAbs ≠ 0 := by intro q; apply h; simp [Int.natAbs_eq_zero.mp q]
    have := (Nat.log2_lt h0).mpr ha
    omega
theorem p_div {a b : Int} (hb : 0 < b) (hs : b < 1073741824) : Prim2 prog w T k (binaryOp .FloorDiv) (.int a) (.int b) (.int (a / b)) := .mk fun A I s v₁ v₂ _ _ hI r₁ r₂ E => by
  obtain ⟨t, rfl⟩ := r₁.of_int; obtain ⟨u, rfl⟩ := r₂.of_int
  refine floordiv_int (by omega) ⟨I, Ext.tok hI _, ?_⟩ (Or.inl (PyProof.noPylong_small (by omega)))
  rw [Int.fdiv_eq_ediv_of_nonneg _ (by omega)]; exact .int _ _
theorem p_mod {a b : Int} (hb : 0 < b) : Prim2 prog w T k (binaryOp .Mod) (.int a) (.int b) (.int (a % b)) := .mk fun A I s v₁ v₂ _ _ hI r₁ r₂ E => by
  obtain ⟨t, rfl⟩ := r₁.of_int; obtain ⟨u, rfl⟩ := r₂.of_int
  refine mod_int' (by omega) ⟨I, Ext.tok hI _, ?_⟩
  rw [Int.fmod_eq_emod_of_nonneg _ (by omega)]; exact .int _ _
theorem p_pow {a b : Int} (hb : 0 ≤ b) (hb2 : b ≤ 1000000) (ha : a.natAbs < 2 ^ 64) : Prim2 prog w T k (binaryOp .Pow) (.int a) (.int b) (.int (a ^ b.toNat)) := .mk fun A I s v₁ v₂ _ _ hI r₁ r₂ E => by
  obtain ⟨t, rfl⟩ := r₁.of_int; obtain ⟨u, rfl⟩ := r₂.of_int
  exact pow_int_small hb hb2 ha ⟨I, Ext.tok hI _, .int _ _⟩
theorem p_lt {a b : Int} : Prim2 prog w T k (compareOp .Lt) (.int a) (.int b) (.bool (decide (a < b))) := .mk fun A I s v₁ v₂ _ _ hI r₁ r₂ E => by
  obtain ⟨t, rfl⟩ := r₁.of_int; obtain ⟨u, rfl⟩ := r₂.of_int
  exact PyProof.Rows.lt_int ⟨I, Ext.refl hI, .bool _⟩
theorem p_gt {a b : Int} : Prim2 prog w T k (compareOp .Gt) (.int a) (.int b) (.bool (decide (a > b))) := .mk fun A I s v₁ v₂ _ _ hI r₁ r₂ E => by
  obtain ⟨t, rfl⟩ := r₁.of_int; obtain ⟨u, rfl⟩ := r₂.of_int
  exact PyProof.Rows.gt_int ⟨I, Ext.refl hI, .bool _⟩
theorem p_le {a b : Int} : Prim2 prog w T k (compareOp .LtE) (.int a) (.int b) (.bool (decide (a ≤ b))) := .mk fun A I s v₁ v₂ _ _ hI r₁ r₂ E => by
  obtain ⟨t, rfl⟩ := r₁.of_int; obtain ⟨u, rfl⟩ := r₂.of_int
  exact PySem.P.le_int ⟨I, Ext.refl hI, .bool _⟩
theorem p_ge {a b : Int} : Prim2 prog w T k (compareOp .GtE) (.int a) (.int b) (.bool (decide (a ≥ b))) := .mk fun A I s v₁ v₂ _ _ hI r₁ r₂ E => by
  obtain ⟨t, rfl⟩ := r₁.of_int; obtain ⟨u, rfl⟩ := r₂.of_int
  exact PySem.P.ge_int ⟨I, Ext.refl hI, .bool _⟩
theorem p_eq {a b : Int} : Prim2 prog w T k (compareOp .Eq) (.int a) (.int b) (.bool (a == b)) := .mk fun A I s v₁ v₂ _ _ hI r₁ r₂ E => by
  obtain ⟨t, rfl⟩ := r₁.of_int; obtain ⟨u, rfl⟩ := r₂.of_int
  exact PyProof.Rows.eq_int ⟨I, Ext.refl hI, .bool _⟩
theorem p_ne {a b : Int} : Prim2 prog w T k (compareOp .NotEq) (.int a) (.int b) (.bool (a != b)) := .mk fun A I s v₁ v₂ _ _ hI r₁ r₂ E => by
  obtain ⟨t, rfl⟩ := r₁.of_int; obtain ⟨u, rfl⟩ := r₂.of_int
  exact PyProof.Rows.ne_int ⟨I, Ext.refl hI, .bool _⟩
theorem p_isNot_bool {a b : Bool} : Prim2 prog w T k (compareOp .IsNot) (.bool a) (.bool b) (.bool (a != b)) := .mk fun A I s v₁ v₂ _ _ hI r₁ r₂ E => by
  obtain rfl := r₁.of_bool; obtain rfl := r₂.of_bool
  refine wpAny_isNot_plain rfl ⟨I, Ext.refl hI, ?_⟩
  have : (!(Value.bool a == Value.bool b)) = (a != b) := by cases a <;> cases b <;> rfl
  rw [this]; exact .bool _
theorem p_isNot_none_str {x : Str} : Prim2 prog w T k (compareOp .IsNot) (.str x) .none (.bool true) := .mk fun A I s v₁ v₂ _ _ hI r₁ r₂ E => by
  obtain ⟨t, rfl⟩ := r₁.of_str; obtain rfl := r₂.of_none
  exact wpAny_isNot_other rfl (by intro h; cases h) ⟨I, Ext.refl hI, .bool _⟩
theorem p_isNot_none_none : Prim2 prog w T k (compareOp .IsNot) .none .none (.bool false) := .mk fun A I s v₁ v₂ _ _ hI r₁ r₂ E => by
  obtain rfl := r₁.of_none; obtain rfl := r₂.of_none
  exact wpAny_isNot_self rfl ⟨I, Ext.refl hI, .bool _⟩
end
end Mine
end

section
open PySem PySem.W PyProof.Rows
namespace Mine
section
variable {prog : Program} {w : World} {T : Imm} {F : FnCx} {k : Nat} {ρ : List (Option B)} {mg mb : Str → Option Value}

theorem Rep.isList {I : Imm} {v : Value} {ds : List D} (r : Rep I v (.lst ds)) {h : Heap} (hI : ∀ b o, I b = some o → h.get? b = some o) : ∃ a vs, v = .ref a ∧ h.IsList a vs ∧ Reps I vs.toList ds := by
  obtain ⟨a, o, vs, n, rfl, h1, h2, h3, h4⟩ := r.of_lst
  exact ⟨a, vs, rfl, ⟨o, hI _ _ h1, h2, n, h3⟩, h4⟩
theorem Rep.isTup {I : Imm} {v : Value} {ds : List D} (r : Rep I v (.tup ds)) {h : Heap} (hI : ∀ b o, I b = some o → h.get? b = some o) : ∃ a vs, v = .ref a ∧ IsTup h a vs ∧ Reps I vs.toList ds := by
  obtain ⟨a, o, vs, n, rfl, h1, h2, h3, h4⟩ := r.of_tup
  exact ⟨a, vs, rfl, ⟨o, hI _ _ h1, h2, n, h3⟩, h4⟩

/-! subscripts -/
theorem Ev.sub {value slice : PySem.Expr} {pos : Pos} {d₁ d₂ d : D} (h₁ : Ev prog w T F k ρ value d₁) (h₂ : Ev prog w T F k ρ slice d₂) (hp : Prim2 prog w T k (subscriptTail value slice) d₁ d₂ d) : Ev prog w T F k ρ (.Subscript value slice pos) d :=
  .mk fun A env s₀ I₀ I s hR R E => Subscript_ (wpAny_mono (h₁.go A env s₀ I₀ I s hR R E) (fun v₁ s₁ ⟨I₁, x₁, r₁⟩ =>
    wpAny_mono (h₂.go A env s₀ I₀ I₁ s₁ hR (R.mono x₁) E) (fun v₂ s₂ ⟨I₂, x₂, r₂⟩ =>
      Does.step (x₁.trans x₂) (hp.go A I₂ s₂ v₁ v₂ hR ((R.mono x₁).mono x₂).top x₂.imm (r₁.mono x₂.ge) r₂)) fun _ _ e => e) fun _ _ e => e)
noncomputable abbrev PlainSlice (slice : PySem.Expr) : Prop := ∀ o i, subscripted slice false o i = operate [o, i] (getItem o i)
theorem p_item_lst {value slice : PySem.Expr} {ds : List D} {i : Int} {d : D} (h0 : 0 ≤ i) (hd : ds[i.toNat]? = some d) (hs : PlainSlice slice := by intro _ _; rfl) (hi : i < 2 ^ 63 := by omega) :
    Prim2 prog w T k (subscriptTail value slice) (.lst ds) (.int i) d := .mk fun A I s v₁ v₂ _ _ hI r₁ r₂ E => by
  obtain ⟨u, rfl⟩ := r₂.of_int
  obtain ⟨a, vs, rfl, hl, hr⟩ := r₁.isList hI
  obtain ⟨v, hv, rv⟩ := hr.get hd
  exact tail_any hl.typeIs slot_list_getitem.lookup (wpAny_getItem_list hl h0 hi (by simpa using hv) ⟨I, Ext.refl hI, rv⟩) (hs _ _)
theorem p_item_tup {value slice : PySem.Expr} {ds : List D} {i : Int} {d : D} (h0 : 0 ≤ i) (hd : ds[i.toNat]? = some d) (hs : PlainSlice slice := by intro _ _; rfl) (hi : i < 2 ^ 63 := by omega) :
    Prim2 prog w T k (subscriptTail value slice) (.tup ds) (.int i) d := .mk fun A I s v₁ v₂ _ _ hI r₁ r₂ E => by
  obtain ⟨u, rfl⟩ := r₂.of_int
  obtain ⟨a, vs, rfl, hl, hr⟩ := r₁.isTup hI
  obtain ⟨v, hv, rv⟩ := hr.get hd
  have hlt : i.toNat < vs.size := by
    have := (List.getElem?_eq_some_iff.mp hv).1
    simpa using this
  refine tail_any hl.typeIs F.slot_tuple_getitem.lookup (getItem_tuple (j := i.toNat) hl (by omega) hi ?_ (by simpa using hv) ⟨I, Ext.refl hI, rv⟩) (hs _ _)
  have hi0 : ¬ i < 0 := by omega
  simp only [seqIndex?, hi0, if_false]
  rw [if_pos (by simp; omega)]
theorem p_item_bytes {value slice : PySem.Expr} {b : Array UInt8} {i : Int} {c : UInt8} (h0 : 0 ≤ i) (hd : b[i.toNat]? = some c) (hs : PlainSlice slice := by intro _ _; rfl) (hb : b.size ≤ 1099511627776 := by omega) :
    Prim2 prog w T k (subscriptTail value slice) (.bytes b) (.int i) (.int c.toNat) := .mk fun A I s v₁ v₂ _ _ hI r₁ r₂ E => by
  obtain ⟨u, rfl⟩ := r₂.of_int
  obtain ⟨t, rfl⟩ := r₁.of_bytes
  have hlt : i.toNat < b.size := (Array.getElem?_eq_some_iff.mp hd).1
  have hg : b.toList.getD i.toNat 0 = c := by
    rw [List.getD_eq_getElem?_getD, Array.getElem?_toList, hd]; rfl
  have key : wpAny (model prog w) A (getItem (.bytes b.toList.toArray t) (.int i u)) (fun v s' => ∃ I', Ext I s I' s' ∧ Rep I' v (.int c.toNat)) E s :=
    getItem_bytes (by simpa using hb) h0 (by simp; omega) ⟨I, Ext.tok hI _, by rw [hg]; exact .int _ _⟩
  rw [show b.toList.toArray = b by simp] at key
  exact tail_any (typeIs_bytes _ _ _) FB.slot_bytes_getitem.lookup key (hs _ _)
theorem p_item_str {value slice : PySem.Expr} {x : Str} {i : Int} {c : Nat} (h0 : 0 ≤ i) (hd : x.cps[i.toNat]? = some c) (hs : PlainSlice slice := by intro _ _; rfl) (hi : i < 2 ^ 63 := by omega) :
    Prim2 prog w T k (subscriptTail value slice) (.str x) (.int i) (.str ⟨#[c]⟩) := .mk fun A I s v₁ v₂ _ _ hI r₁ r₂ E => by
  obtain ⟨u, rfl⟩ := r₂.of_int
  obtain ⟨t, rfl⟩ := r₁.of_str
  have hlt : i.toNat < x.cps.size := (Array.getElem?_eq_some_iff.mp hd).1
  refine tail_any (typeIs_str _ _ _) F.slot_str_getitem.lookup (P.getItem_str (c := c) (by simp; omega) ?_ ⟨I, Ext.tok hI _, .str _ _⟩) (hs _ _)
  have hi0 : ¬ i < 0 := by omega
  simp only [seqIndex?, hi0, if_false]
  rw [if_pos (by rw [Bool.and_eq_true, decide_eq_true_eq, decide_eq_true_eq]; exact ⟨h0, by show i < ((x.cps.size : Nat) : Int); omega⟩)]
  exact hd

/-! slices -/
inductive Part (prog : Program) (w : World) (T : Imm) (F : FnCx) (k : Nat) (ρ : List (Option B)) : Option PySem.Expr → Option Int → Prop where
  | none : Part prog w T F k ρ none none
  | int {e : PySem.Expr} {i : Int} : Ev prog w T F k ρ e (.int i) → Part prog w T F k ρ (some e) (some i)
theorem Part.wp {o : Option PySem.Expr} {x : Option Int} (h : Part prog w T F k ρ o x) {A : Around} {env : Env} {s₀ : Shared} {I₀ I : Imm} {s : Shared} (hR : RoomN k A) (R : EnvRep T F env s₀ I₀ I ρ s) (E) :
    wpAny (model prog w) A (valueOrNone (evalOpt o env)) (fun v s' => IsPart v x ∧ ∃ I', Ext I s I' s') E s := by
  cases h with
  | none => exact wpAny_pure ⟨.none, I, Ext.refl R.imm⟩
  | int h =>
    refine wpAny_mono (h.go A env s₀ I₀ I s hR R E) (fun v s₁ ⟨J, x, r⟩ => ?_) fun _ _ e => e
    obtain ⟨t, rfl⟩ := r.of_int
    exact ⟨.int _ _, J, x⟩
/-- what is sliced, then the slice object -/
theorem slice_wp {value : PySem.Expr} {lo hi : Option PySem.Expr} {p pos : Pos} {x y : Option Int} {d₁ d : D} (h₁ : Ev prog w T F k ρ value d₁) (hl : Part prog w T F k ρ lo x) (hh : Part prog w T F k ρ hi y)
    (hp : ∀ (A : Around) (I : Imm) (s : Shared) (v₁ : Value) (sl : Addr) (vl vu : Value), RoomN k A → (∀ b o, I b = some o → s.heap.get? b = some o) → Rep I v₁ d₁ → s.heap.IsSliceOf sl vl vu .none → IsPart vl x → IsPart vu y →
      Does prog w A I s (subscriptTail value (.Slice lo hi none p) v₁ (.ref sl)) d) : Ev prog w T F k ρ (.Subscript value (.Slice lo hi none p) pos) d :=
  .mk fun A env s₀ I₀ I s hR R E => by
    refine Subscript_ (wpAny_mono (h₁.go A env s₀ I₀ I s hR R E) (fun v₁ s₁ ⟨I₁, x₁, r₁⟩ => ?_) fun _ _ e => e)
    rw [arm_eval_Slice]
    refine wpAny_bind (wpAny_mono (hl.wp hR (R.mono x₁) E) (fun vl s₂ ⟨pl, I₂, x₂⟩ => ?_) fun _ _ e => e)
    refine wpAny_bind (wpAny_holding (wpAny_mono (hh.wp hR ((R.mono x₁).mono x₂) E) (fun vu s₃ ⟨pu, I₃, x₃⟩ => ?_) fun _ _ e => e))
    refine wpAny_bind (wpAny_holding (wpAny_pure ?_))
    show wpAny _ A (newFields "slice" [vl, vu, .none]) _ E s₃
    unfold newFields
    refine wpAny_newObj_type ?_
    have hk : ∀ b o, s₃.heap.get? b = some o → (s₃.heap.push { cls := .type "slice", data := .fields #[vl, vu, .none] }).get? b = some o := fun b o e => Heap.get?_push_of_some _ e
    have x₄ := Ext.heap (tk := s₃.toks) x₃.imm hk
    exact Does.step (((x₁.trans x₂).trans x₃).trans x₄) (hp A I₃ _ v₁ _ vl vu hR x₄.imm ((r₁.mono x₂.ge).mono x₃.ge) (Heap.IsSliceOf.new _ _ _ _) pl pu)
end
end Mine
end

section
open PySem PySem.W PyProof.Rows
namespace Mine

noncomputable def rangeD (x : Int) (n : Nat) (c : Int) : List D := (List.range n).map fun (j : Nat) => D.int (x + j * c)
noncomputable def strD (l : List Nat) : List D := l.map fun c => D.str ⟨#[c]⟩
theorem rangeD_zero (x c : Int) : rangeD x 0 c = [] := rfl
theorem rangeD_succ (x : Int) (n : Nat) (c : Int) : rangeD x (n + 1) c = .int x :: rangeD (x + c) n c := by
  unfold rangeD
  rw [List.range_succ_eq_map]
  simp only [List.map_cons, List.map_map]
  congr 1
  · simp
  · apply List.map_congr_left
    intro j _
    simp only [Function.comp]
    congr 1
    simp only [Nat.succ_eq_add_one]; push_cast; rw [Int.add_mul]; omega

/-- an iterator, by what it has still to give -/
inductive IterObj (I : Imm) : Obj → List D → Prop where
  | list {l : Addr} {o oi : Obj} {vs : Array Value} {n i : Nat} {ds : List D} : I l = some o → o.cls = .type "list" → o.data = .seq vs n → Reps I vs.toList ds → oi.cls = .type "list_iterator" → oi.data = .fields #[.ref l, .int i 0] → IterObj I oi (ds.drop i)
  | range {x c : Int} {n : Nat} : IterObj I { cls := .type "range_iterator", dict := none, data := .fields #[rawInt x, rawInt n, rawInt c], slots := #[] } (rangeD x n c)
  | str {x : Str} {t : Tok} {i : Nat} {oi : Obj} : oi.cls = .type (strIterType x) → oi.data = .fields #[.str x t, .int i 0] → IterObj I oi (strD (x.cps.toList.drop i))
theorem IterObj.mono {I J : Imm} (h : ∀ a o, I a = some o → J a = some o) {o : Obj} {ds : List D} (x : IterObj I o ds) : IterObj J o ds := by
  cases x with
  | list h1 h2 h3 h4 h5 h6 => exact .list (h _ _ h1) h2 h3 (h4.mono h) h5 h6
  | range => exact .range
  | str h1 h2 => exact .str h1 h2
/-- an iterator's object is its own: fields -/
theorem IterObj.fields {I : Imm} {o : Obj} {ds : List D} (x : IterObj I o ds) : ∃ vs, o.data = .fields vs := by
  cases x with
  | list h1 h2 h3 h4 h5 h6 => exact ⟨_, h6⟩
  | range => exact ⟨_, rfl⟩
  | str h1 h2 => exact ⟨_, h2⟩

/-- what a datum gives where it is gone through -/
inductive Iterates : D → List D → Prop where
  | lst (l : List D) : Iterates (.lst l) l
  | rng {a b c : Int} {n : Nat} : Builtin.Range.small a b c = true → Builtin.Range.rangeSize a b c = n → Iterates (.rng a b c) (rangeD a n c)
  | str (x : Str) : Iterates (.str x) (strD x.cps.toList)

section
variable {prog : Program} {w : World} {A : Around} {E : Value → Shared → Prop}

theorem it_new {I : Imm} {s : Shared} {v : Value} {d : D} {ds : List D} (hI : ∀ b o, I b = some o → s.heap.get? b = some o) (r : Rep I v d) (h : Iterates d ds) {Q : Value → Shared → Prop}
    (hQ : ∀ oi : Obj, IterObj I oi ds → oi.isFreed = false → Q (.ref s.heap.objs.size) { s with heap := s.heap.push oi }) : wpAny (model prog w) A (pyIter v) Q E s := by
  cases h with
  | lst l =>
    obtain ⟨a, o, vs, n, rfl, h1, h2, h3, h4⟩ := r.of_lst
    exact wpAny_pyIter_list ⟨o, hI _ _ h1, h2, n, h3⟩ (hQ _ (by simpa using IterObj.list (i := 0) h1 h2 h3 h4 rfl rfl) rfl)
  | rng h1 h2 =>
    cases r with
    | rng q => exact wpAny_pyIter_range (hI _ _ q) h1 (by rw [h2]; exact hQ _ .range rfl)
  | str x =>
    obtain ⟨t, rfl⟩ := r.of_str
    exact wpAny_pyIter_strU (hQ _ (by simpa using IterObj.str (I := I) (x := x) (t := t) (i := 0) rfl rfl) rfl)

theorem it_cons {I : Imm} {s : Shared} {it : Addr} {o : Obj} {d : D} {ds : List D} (hI : ∀ b o, I b = some o → s.heap.get? b = some o) (ho : s.heap.get? it = some o) (x : IterObj I o (d :: ds)) {Q : Option Value → Shared → Prop}
    (hQ : ∀ v h' o' tk, Rep I v d → h'.get? it = some o' → IterObj I o' ds → Heap.SameBut it s.heap h' → Q (some v) { s with heap := h', toks := tk }) : wpAny (model prog w) A (pyNext (.ref it)) Q E s := by
  generalize hl : d :: ds = l at x
  cases x with
  | @list la ol oi vs n i es h1 h2 h3 h4 h5 h6 =>
    have hd : es[i]? = some d := by
      have := congrArg (·[0]?) hl
      simpa using this.symm
    have hds : ds = es.drop (i + 1) := by
      have := congrArg List.tail hl
      simpa using this
    obtain ⟨v, hv, rv⟩ := h4.get hd
    refine wpAny_pyNext_list_item ⟨o, ho, h5, h6⟩ ⟨ol, hI _ _ h1, h2, n, h3⟩ (by simpa using hv) fun h' ⟨o', a1, a2, a3⟩ hs => hQ v h' o' s.toks rv a1 ?_ hs
    rw [hds]
    exact .list h1 h2 h3 h4 a2 a3
  | @range x c n =>
    cases n with
    | zero => cases hl
    | succ n =>
      rw [rangeD_succ] at hl
      cases hl
      exact wpAny_pyNext_range_item ho (by omega) fun h' a1 hs => hQ _ h' _ _ (.int _ _) a1 (by rw [show ((n + 1 : Nat) : Int) - 1 = (n : Int) by omega]; exact .range) hs
  | @str x t i oi h1 h2 =>
    have hd : (strD (x.cps.toList.drop i))[0]? = some d := by rw [← hl]; rfl
    have hds : ds = strD (x.cps.toList.drop (i + 1)) := by
      have := congrArg List.tail hl
      simpa [strD] using this
    obtain ⟨c, hc, rfl⟩ : ∃ c, x.cps[i]? = some c ∧ d = .str ⟨#[c]⟩ := by
      simp only [strD, List.getElem?_map, List.getElem?_drop, Nat.add_zero, Array.getElem?_toList] at hd
      cases e : x.cps[i]? with
      | none => rw [e] at hd; cases hd
      | some c => rw [e] at hd; exact ⟨c, rfl, by simpa using hd.symm⟩
    cases ha : x.cps.all (· < 128) with
    | true =>
      refine wpAny_pyNext_ascii_item ⟨o, ho, by rw [h1]; simp [strIterType, ha], h2⟩ hc fun h' ⟨o', a1, a2, a3⟩ hs => hQ _ h' o' _ (.str _ _) a1 ?_ hs
      rw [hds]; exact .str (by rw [a2]; simp [strIterType, ha]) a3
    | false =>
      refine wpAny_pyNext_wide_item ⟨o, ho, by rw [h1]; simp [strIterType, ha], h2⟩ hc fun h' ⟨o', a1, a2, a3⟩ hs => hQ _ h' o' _ (.str _ _) a1 ?_ hs
      rw [hds]; exact .str (by rw [a2]; simp [strIterType, ha]) a3

theorem it_nil {I : Imm} {s : Shared} {it : Addr} {o : Obj} (hh : A.handled = none) (hI : ∀ b o, I b = some o → s.heap.get? b = some o) (ho : s.heap.get? it = some o) (x : IterObj I o []) {Q : Option Value → Shared → Prop}
    (hQ : ∀ h', Heap.ExtBut it s.heap h' → Q none { s with heap := h' }) : wpAny (model prog w) A (pyNext (.ref it)) Q E s := by
  generalize hl : ([] : List D) = l at x
  cases x with
  | @list la ol oi vs n i es h1 h2 h3 h4 h5 h6 =>
    refine wpAny_pyNext_list_end hh ⟨o, ho, h5, h6⟩ ⟨ol, hI _ _ h1, h2, n, h3⟩ ?_ hQ
    have hlen : es.length ≤ i := List.drop_eq_nil_iff.mp hl.symm
    have := h4.1
    rw [Array.getElem?_eq_none_iff]
    simp at this; omega
  | @range x c n =>
    cases n with
    | zero => exact wpAny_pyNext_range_end hh ho (by simp) hQ
    | succ n => rw [rangeD_succ] at hl; cases hl
  | @str x t i oi h1 h2 =>
    have hc : x.cps[i]? = none := by
      have := hl.symm
      simp only [strD, List.map_eq_nil_iff, List.drop_eq_nil_iff] at this
      rw [Array.getElem?_eq_none_iff]; simpa using this
    cases ha : x.cps.all (· < 128) with
    | true => exact wpAny_pyNext_ascii_end hh ⟨o, ho, by rw [h1]; simp [strIterType, ha], h2⟩ hc hQ
    | false => exact wpAny_pyNext_wide_end hh ⟨o, ho, by rw [h1]; simp [strIterType, ha], h2⟩ hc hQ

theorem it_again {I : Imm} {s : Shared} {it : Addr} {o : Obj} {ds : List D} (ho : s.heap.get? it = some o) (x : IterObj I o ds) {Q : Value → Shared → Prop} (h : Q (.ref it) s) : wpAny (model prog w) A (pyIter (.ref it)) Q E s := by
  cases x with
  | list h1 h2 h3 h4 h5 h6 => exact wpAny_pyIter_listiter ⟨o, ho, h5, h6⟩ h
  | range => exact wpAny_pyIter_rangeiter ho h
  | @str x t i oi h1 h2 =>
    cases ha : x.cps.all (· < 128) with
    | true => exact wpAny_pyIter_striter_ascii ⟨o, ho, by rw [h1]; simp [strIterType, ha], h2⟩ h
    | false => exact wpAny_pyIter_striter_wide ⟨o, ho, by rw [h1]; simp [strIterType, ha], h2⟩ h
end
end Mine
end

section
open PySem PySem.W PyProof.Rows
namespace Mine

/-- all but names and cells -/
noncomputable def Stays (s s' : Shared) : Prop := ∀ a o, s.heap.get? a = some o → (∀ es n, o.data ≠ .dict es n) → (∀ v, o.data ≠ .cell v) → s'.heap.get? a = some o
theorem Stays.trans {s t u : Shared} (x : Stays s t) (y : Stays t u) : Stays s u := fun a o e h1 h2 => y a o (x a o e h1 h2) h1 h2
theorem Stays.kept {I : Imm} {s s' : Shared} (x : Stays s s') : Kept I s I s' :=
  ⟨fun a o e ⟨vs, f⟩ => ⟨x a o e (fun es n q => (by rw [f] at q; cases q)) (fun v q => (by rw [f] at q; cases q)), rfl⟩, fun _ _ e => e⟩

/-- an object that is neither a list nor a bytearray -/
noncomputable def Plainer (o : Obj) : Prop := (∀ vs n, o.data ≠ .seq vs n) ∧ ∀ b n, o.data ≠ .bytearray b n

theorem BRep.same {I : Imm} {s₀ s : Shared} {v : Value} {b : B} (r : BRep I s₀ s v b) {p : Addr} {o : Obj} (hp : s.heap.get? p = some o) (ho : Plainer o) {h' : Heap} {tk : Nat}
    (hk : ∀ b o, b ≠ p → s.heap.get? b = some o → h'.get? b = some o) : BRep I s₀ { s with heap := h', toks := tk } v b := by
  cases r with
  | imm r => exact .imm r
  | @own a vs n ds h1 h2 h3 h4 => exact .own (hk a _ (by rintro rfl; rw [hp] at h1; cases h1; exact ho.1 _ _ rfl) h1) h2 h3 h4
  | @bya a b h1 h2 h3 => exact .bya (hk a _ (by rintro rfl; rw [hp] at h1; cases h1; exact ho.2 _ _ rfl) h1) h2 h3

section
variable {prog : Program} {w : World} {T : Imm} {F : FnCx} {k : Nat} {ρ : List (Option B)} {env : Env} {s₀ : Shared} {I₀ I : Imm} {s : Shared}

/-- a heap that differs at one place of the frame's own -/
theorem ext_same (R : EnvRep T F env s₀ I₀ I ρ s) {p : Addr} (hpI : I p = none) (hp0 : s₀.heap.get? p = none) {h' : Heap} {tk : Nat} (hk : ∀ b o, b ≠ p → s.heap.get? b = some o → h'.get? b = some o) :
    Ext I₀ s₀ I { s with heap := h', toks := tk } := by
  obtain ⟨h, t, e⟩ := R.ext.st
  refine ⟨⟨h', tk, by rw [e]⟩, fun b o q => hk b o (by rintro rfl; rw [hp0] at q; cases q) (R.ext.keep b o q), fun b o q => hk b o (by rintro rfl; rw [hpI] at q; cases q) (R.imm b o q), R.ext.old, R.ext.ge⟩

/-- an iterator (or another plain object of the frame's own) turns -/
theorem EnvRep.plain (R : EnvRep T F env s₀ I₀ I ρ s) {p : Addr} {o : Obj} (hp : s.heap.get? p = some o) (ho : ∃ vs, o.data = .fields vs) (hpI : I p = none) (hp0 : s₀.heap.get? p = none) {h' : Heap} {tk : Nat}
    (hk : ∀ b o, b ≠ p → s.heap.get? b = some o → h'.get? b = some o) : EnvRep T F env s₀ I₀ I ρ { s with heap := h', toks := tk } := by
  obtain ⟨vs, hd⟩ := ho
  have hpl : Plainer o := ⟨fun vs' n q => (by rw [hd] at q; cases q), fun b' n q => (by rw [hd] at q; cases q)⟩
  obtain ⟨m, cm, val, ⟨oL, es, ep, hL, hdL, hr⟩, hc, hv, hw⟩ := R.fr
  refine ⟨ext_same R hpI hp0 hk, R.scope, R.kind, R.glob, R.blt, R.top, R.lnew, R.lI, R.cI, R.cap, R.cown, m, cm, val, ⟨oL, es, ep, hk _ _ ?_ hL, hdL, hr⟩, fun x c e => ?_,
    fun i b h2 => ⟨(hv i b h2).1, (hv i b h2).2.same hp hpl hk⟩, hw⟩
  · intro e
    rw [e, hp] at hL
    obtain rfl := Option.some.inj hL
    rw [hd] at hdL; cases hdL
  · obtain ⟨oc, h1, h2⟩ := hc x c e
    refine ⟨oc, hk _ _ ?_ h1, h2⟩
    intro q
    rw [q, hp] at h1
    obtain rfl := Option.some.inj h1
    rw [hd] at h2; cases h2

theorem get_set_self {ρ : List (Option B)} {i : Nat} {b c : B} (h : (ρ.set i (some b))[i]? = some (some c)) : c = b := by
  rw [List.getElem?_set_self'] at h
  cases e : ρ[i]? with
  | none => rw [e] at h; cases h
  | some x => rw [e] at h; simp at h; exact h.symm
theorem get_set_ne {ρ : List (Option B)} {i j : Nat} {b : Option B} (hij : i ≠ j) : (ρ.set i b)[j]? = ρ[j]? := List.getElem?_set_ne hij

theorem ns_plainer {o : Obj} {es : Array DictEntry} {n : Nat} (h : o.data = .dict es n) : Plainer o := ⟨fun vs' n q => (by rw [h] at q; cases q), fun b' n q => (by rw [h] at q; cases q)⟩
theorem cell_plainer {o : Obj} {v : Option Value} (h : o.data = .cell v) : Plainer o := ⟨fun vs' n q => (by rw [h] at q; cases q), fun b' n q => (by rw [h] at q; cases q)⟩

/-- no other name holds a thing of its own -/
noncomputable def noOwn (ρ : List (Option B)) (i : Nat) : Bool := (ρ.set i none).all fun o => match o with | some b => !b.owned | none => true
theorem noOwn_spec {ρ : List (Option B)} {i : Nat} (h : noOwn ρ i = true) : ∀ j c, j ≠ i → ρ[j]? = some (some c) → c.owned = false := fun j c hj hc => by
  have hm : some c ∈ ρ.set i none := by
    have : (ρ.set i none)[j]? = some (some c) := by rw [get_set_ne (Ne.symm hj)]; exact hc
    exact List.mem_of_getElem? this
  have := List.all_eq_true.mp h _ hm
  simpa using this

/-- a name is bound anew -/
theorem wp_store (hnd : F.vars.Nodup) (R : EnvRep T F env s₀ I₀ I ρ s) {i : Nat} {x : Str} (hx : F.vars[i]? = some x) (hk : F.sc.names.lookup x = some .local ∨ (F.sc.names.lookup x = some .cell ∧ x ∈ F.own)) {v : Value} {b : B}
    (rb : BRep I s₀ s v b) (hb : b.owned = true → ∀ j c, j ≠ i → ρ[j]? = some (some c) → c.owned = false) {A : Around} {E} {Q : Unit → Shared → Prop}
    (hQ : ∀ s', EnvRep T F env s₀ I₀ I (ρ.set i (some b)) s' → Stays s s' → (∀ a o, s.heap.get? a = some o → a ≠ env.locals → (∀ v, o.data ≠ .cell v) → s'.heap.get? a = some o) → Q () s') : wpAny (model prog w) A (storeName env x v) Q E s := by
  obtain ⟨m, cm, val, hn, hc, hv, hw⟩ := R.fr
  have hvars : ∀ j y, F.vars[j]? = some y → j ≠ i → y ≠ x := fun j y hy hj q => by
    subst q
    exact hj ((List.getElem?_inj (List.getElem?_eq_some_iff.mp hy).1 hnd).mp (hy.trans hx.symm))
  have inj : ∀ (ii jj : Nat) (c₁ c₂ : B), (ρ.set i (some b))[ii]? = some (some c₁) → (ρ.set i (some b))[jj]? = some (some c₂) → c₁.owned = true → c₂.owned = true → (if ii = i then v else val ii) = (if jj = i then v else val jj) → ii = jj := by
    intro ii jj c₁ c₂ h1 h2 o1 o2 he
    by_cases e1 : ii = i
    · by_cases e2 : jj = i
      · rw [e1, e2]
      · exfalso
        subst e1
        rw [get_set_ne (Ne.symm e2)] at h2
        rw [if_pos rfl, if_neg e2] at he
        exact absurd o2 (by rw [hb (get_set_self h1 ▸ o1) jj c₂ e2 h2]; exact Bool.false_ne_true)
    · by_cases e2 : jj = i
      · exfalso
        subst e2
        rw [get_set_ne (Ne.symm e1)] at h1
        rw [if_neg e1, if_pos rfl] at he
        exact absurd o1 (by rw [hb (get_set_self h2 ▸ o2) ii c₁ e1 h1]; exact Bool.false_ne_true)
      · rw [get_set_ne (Ne.symm e1)] at h1
        rw [get_set_ne (Ne.symm e2)] at h2
        rw [if_neg e1, if_neg e2] at he
        exact hw ii jj c₁ c₂ h1 h2 o1 o2 he
  rcases hk with hk | ⟨hk, hown⟩
  · -- a local
    have hkd : env.kindOf x = some .local := (R.kindOf x).trans hk
    refine wpAny_storeName_local hkd hn (fun h' hn' hs => ?_) (by rw [R.kind]; rfl)
    obtain ⟨oL, es, ep, hL, hdL, hr⟩ := id hn
    have hk' : ∀ b o, b ≠ env.locals → s.heap.get? b = some o → h'.get? b = some o := fun b o hb e => (hs.2 b hb).trans e
    refine hQ _ ⟨ext_same R R.lI R.lnew hk', R.scope, R.kind, R.glob, R.blt, R.top, R.lnew, R.lI, R.cI, R.cap, R.cown, _, cm, fun j => if j = i then v else val j, hn', fun y c e => ?_, fun j c hj => ?_, inj⟩ (fun a o e hf hg => hk' a o ?_ e) fun a o e hne _ => hk' a o hne e
    · obtain ⟨oc, h1, h2⟩ := hc y c e
      refine ⟨oc, hk' _ _ ?_ h1, h2⟩
      intro q
      rw [q, hL] at h1
      obtain rfl := Option.some.inj h1
      rw [hdL] at h2; cases h2
    · by_cases e : j = i
      · subst e
        obtain rfl := get_set_self hj
        simp only [if_true]
        exact ⟨⟨x, hx, .loc hkd (by simp)⟩, rb.same hL (ns_plainer hdL) hk'⟩
      · rw [get_set_ne (Ne.symm e)] at hj
        simp only [if_neg e]
        obtain ⟨⟨y, hy, f⟩, r⟩ := hv j c hj
        refine ⟨⟨y, hy, ?_⟩, r.same hL (ns_plainer hdL) hk'⟩
        cases f with
        | loc h1 h2 => exact .loc h1 (by rw [if_neg (hvars j y hy e)]; exact h2)
        | cell h1 h2 h3 => exact .cell h1 h2 h3
        | free h1 h4 h2 h3 => exact .free h1 h4 h2 h3
    · rintro rfl
      rw [hL] at e
      obtain rfl := Option.some.inj e
      exact hf _ _ hdL
  · -- a cell of the frame's own
    have hkd : env.kindOf x = some .cell := (R.kindOf x).trans hk
    obtain ⟨c, hcl, hc0⟩ := R.cown x hown
    have hcell := hc x c hcl
    obtain ⟨oc, hoc, hdc⟩ := id hcell
    refine wpAny_storeName_cell R.kind hkd hcl hcell (fun h' hc' hs => ?_)
    have hk' : ∀ b o, b ≠ c → s.heap.get? b = some o → h'.get? b = some o := fun b o hb e => (hs.2 b hb).trans e
    obtain ⟨oL, es, ep, hL, hdL, hr⟩ := id hn
    have hLc : env.locals ≠ c := by
      intro q
      rw [← q, hL] at hoc
      obtain rfl := Option.some.inj hoc
      rw [hdL] at hdc; cases hdc
    refine hQ { s with heap := h', toks := s.toks } ⟨ext_same R (R.cI x c hcl) hc0 hk', R.scope, R.kind, R.glob, R.blt, R.top, R.lnew, R.lI, R.cI, R.cap, R.cown, m, fun y => if y = x then some v else cm y, fun j => if j = i then v else val j,
      ⟨oL, es, ep, hk' _ _ hLc hL, hdL, hr⟩, fun y c' e => ?_, fun j c' hj => ?_, inj⟩ (fun a o e hf hg => hk' a o ?_ e) fun a o e _ hg => hk' a o (by rintro rfl; rw [hoc] at e; cases e; exact hg _ hdc) e
    · by_cases q : y = x
      · subst q
        obtain rfl : c = c' := Option.some.inj (hcl.symm.trans e)
        simpa using hc'
      · simp only [if_neg q]
        obtain ⟨o', h1, h2⟩ := hc y c' e
        exact ⟨o', hk' _ _ (by rintro rfl; exact q (R.cap y x _ e hcl)) h1, h2⟩
    · by_cases e : j = i
      · subst e
        obtain rfl := get_set_self hj
        simp only [if_true]
        exact ⟨⟨x, hx, .cell hkd hcl (by simp)⟩, rb.same hoc (cell_plainer hdc) hk'⟩
      · rw [get_set_ne (Ne.symm e)] at hj
        simp only [if_neg e]
        obtain ⟨⟨y, hy, f⟩, r⟩ := hv j c' hj
        refine ⟨⟨y, hy, ?_⟩, r.same hoc (cell_plainer hdc) hk'⟩
        have hyx := hvars j y hy e
        cases f with
        | loc h1 h2 => exact .loc h1 h2
        | cell h1 h2 h3 => exact .cell h1 h2 (by simp only [if_neg hyx]; exact h3)
        | free h1 h4 h2 h3 => exact .free h1 h4 h2 (by simp only [if_neg hyx]; exact h3)
    · rintro rfl
      rw [hoc] at e
      obtain rfl := Option.some.inj e
      exact hg _ hdc
end
end Mine
end

section
open PySem PySem.W PyProof.Rows
namespace Mine

/-- a target takes a datum -/
structure As (prog : Program) (w : World) (T : Imm) (F : FnCx) (k : Nat) (ρ : List (Option B)) (t : PySem.Expr) (d : D) (ρ' : List (Option B)) : Prop where
  go : ∀ (A : Around) (env : Env) (s₀ : Shared) (I₀ I : Imm) (s : Shared) (v : Value), RoomN k A → EnvRep T F env s₀ I₀ I ρ s → Rep I v d → ∀ E,
    wpAny (model prog w) A (assign t env v) (fun _ s' => EnvRep T F env s₀ I₀ I ρ' s' ∧ Stays s s') E s

section
variable {prog : Program} {w : World} {T : Imm} {F : FnCx} {k : Nat} {ρ : List (Option B)}

/-- which names a frame may bind -/
noncomputable def FnCx.writes (F : FnCx) (x : Str) : Prop := F.sc.names.lookup x = some .local ∨ (F.sc.names.lookup x = some .cell ∧ x ∈ F.own)

theorem wp_bindImm {A : Around} {env : Env} {s₀ : Shared} {I₀ I : Imm} {s : Shared} (hnd : F.vars.Nodup) (R : EnvRep T F env s₀ I₀ I ρ s) {i : Nat} {x : Str} (hx : F.vars[i]? = some x) (hk : F.writes x) {v : Value} {d : D} (r : Rep I v d) {E}
    {Q : Unit → Shared → Prop} (hQ : ∀ s', EnvRep T F env s₀ I₀ I (ρ.set i (some (.imm d))) s' → Stays s s' → Q () s') : wpAny (model prog w) A (storeName env x v) Q E s :=
  wp_store hnd R hx hk (.imm r) (fun q => by cases q) fun s' R' hF _ => hQ s' R' hF

theorem As.name {i : Nat} {x : Str} {p : Pos} {d : D} (hnd : F.vars.Nodup) (hx : F.vars[i]? = some x) (hk : F.writes x) : As prog w T F k ρ (.Name x p) d (ρ.set i (some (.imm d))) :=
  .mk fun A env s₀ I₀ I s v hR R r E => wpAny_assign_Name (wp_bindImm hnd R hx hk r fun s' R' K => ⟨R', K⟩)

/-- several names, one by one -/
inductive AsEach (prog : Program) (w : World) (T : Imm) (F : FnCx) (k : Nat) : List (Option B) → List PySem.Expr → List D → List (Option B) → Prop where
  | nil {ρ : List (Option B)} : AsEach prog w T F k ρ [] [] ρ
  | cons {ρ ρ' ρ'' : List (Option B)} {t : PySem.Expr} {ts : List PySem.Expr} {d : D} {ds : List D} : As prog w T F k ρ t d ρ' → isStarred t = false → AsEach prog w T F k ρ' ts ds ρ'' → AsEach prog w T F k ρ (t :: ts) (d :: ds) ρ''
theorem assignEach_plain {t : PySem.Expr} {rest : List PySem.Expr} {env : Env} (h : isStarred t = false) : assignEach (t :: rest) env = (false, assign t env) :: assignEach rest env := by
  cases t <;> first | rfl | cases h
theorem AsEach.facts {ρ ρ' : List (Option B)} {ts : List PySem.Expr} {ds : List D} (h : AsEach prog w T F k ρ ts ds ρ') (env : Env) : (assignEach ts env).length = ds.length ∧ (assignEach ts env).findIdx? (·.1) = none := by
  induction h with
  | nil => exact ⟨rfl, rfl⟩
  | cons h1 hs _ ih =>
    rw [assignEach_plain hs]
    refine ⟨by simp [ih.1], ?_⟩
    rw [List.findIdx?_cons]; simp [ih.2]
theorem AsEach.wp {ρ ρ' : List (Option B)} {ts : List PySem.Expr} {ds : List D} (h : AsEach prog w T F k ρ ts ds ρ') {A : Around} {env : Env} {s₀ : Shared} {I₀ I : Imm} (hR : RoomN k A) (E) :
    ∀ {s : Shared} {vs : List Value}, EnvRep T F env s₀ I₀ I ρ s → Reps I vs ds → wpAny (model prog w) A (assignInOrder ((assignEach ts env).map (·.2)) vs) (fun _ s' => EnvRep T F env s₀ I₀ I ρ' s' ∧ Stays s s') E s := by
  induction h with
  | nil =>
    intro s vs R r
    have : vs = [] := List.length_eq_zero_iff.mp (by simpa using r.1)
    subst this
    exact wpAny_pure ⟨R, fun _ _ e _ _ => e⟩
  | @cons ρ ρ' ρ'' t ts d ds h1 hs h2 ih =>
    intro s vs R r
    cases vs with
    | nil => have := r.1; simp at this
    | cons v vs =>
      have rv : Rep I v d := r.2 0 v d rfl rfl
      have rr : Reps I vs ds := ⟨by simpa using r.1, fun i a b p q => r.2 (i + 1) a b (by simpa using p) (by simpa using q)⟩
      rw [assignEach_plain hs]
      show wpAny _ A (assignInOrder (assign t env :: (assignEach ts env).map (·.2)) (v :: vs)) _ E s
      unfold assignInOrder
      refine wpAny_bind (wpAny_holding (wpAny_mono (h1.go A env s₀ I₀ I s v hR R rv E) (fun _ s' ⟨R', K'⟩ => ?_) fun _ _ e => e))
      exact wpAny_mono (ih R' rr) (fun _ _ ⟨R'', K''⟩ => ⟨R'', K'.trans K''⟩) fun _ _ e => e
theorem As.tuple {ρ' : List (Option B)} {ts : List PySem.Expr} {kd} {p : Pos} {ds : List D} (h : AsEach prog w T F k ρ ts ds ρ') : As prog w T F k ρ (.Tuple ts kd p) (.tup ds) ρ' :=
  .mk fun A env s₀ I₀ I s v hR R r E => by
    obtain ⟨a, vs, rfl, ht, hr⟩ := r.isTup R.imm
    refine assign_Tuple_tuple hR.handled ht (by rw [(h.facts env).1, ← hr.1]; simp) (h.facts env).2 fun h' hx => ?_
    have hk : ∀ b o, s.heap.get? b = some o → h'.get? b = some o := fun b o e => hx b o (Nat.ne_of_lt (Heap.lt_size e)) e
    have x : Ext I s I { s with heap := h' } := Ext.heap (tk := s.toks) R.imm hk
    exact wpAny_mono (h.wp hR E (R.mono x) hr) (fun _ _ ⟨R', K'⟩ => ⟨R', fun a o e h1 h2 => K' a o (hk a o e) h1 h2⟩) fun _ _ e => e

/-! statements -/
theorem Ex.assign {i : Nat} {x : Str} {p pos : Pos} {e : PySem.Expr} {d : D} {Φ : Out → Prop} (hnd : F.vars.Nodup) (hx : F.vars[i]? = some x) (hk : F.writes x) (h : Ev prog w T F k ρ e d) (hΦ : Φ (.next (ρ.set i (some (.imm d)))))
    (hs : ∀ env : Env, env.scope = F.sc → env.scope.kind = .function → swapsWith e (some (.Name x p)) pos.line env = pure false := by intro _ _ _; rfl) : Ex prog w T F k ρ (.Assign [.Name x p] e pos) Φ :=
  .mk fun A env s₀ I₀ I s hR R E => wpAny_Assign_Name (wpAny_mono (h.go A env s₀ I₀ I s hR R E) (fun v s₁ ⟨I₁, x₁, r₁⟩ =>
    wp_bindImm hnd (R.mono x₁) hx hk r₁ fun s' R' K => ⟨I₁, _, hΦ, R', x₁.kept.trans K.kept⟩) fun _ _ e => e) (hs env R.scope R.kind)
theorem Ex.assignF {i : Nat} {x : Str} {p pos : Pos} {e : PySem.Expr} {l : List D} {Φ : Out → Prop} (hnd : F.vars.Nodup) (hx : F.vars[i]? = some x) (hk : F.writes x) (h : EvF prog w T F k ρ e l) (hΦ : Φ (.next (ρ.set i (some (.own l))))) (ho : noOwn ρ i = true := by rfl)
    (hs : ∀ env : Env, env.scope = F.sc → env.scope.kind = .function → swapsWith e (some (.Name x p)) pos.line env = pure false := by intro _ _ _; rfl) : Ex prog w T F k ρ (.Assign [.Name x p] e pos) Φ :=
  .mk fun A env s₀ I₀ I s hR R E => wpAny_Assign_Name (wpAny_mono (h.go A env s₀ I₀ I s hR R E) (fun v s₁ ⟨I₁, a, vs, n, ev, x₁, hn, hob, hr, hI⟩ => by
    subst ev
    have h0 : s₀.heap.get? a = none := by
      cases e : s₀.heap.get? a with
      | none => rfl
      | some o => rw [R.ext.keep _ _ e] at hn; cases hn
    exact wp_store hnd (R.mono x₁) hx hk (.own hob hr hI h0) (fun _ => noOwn_spec ho) fun s' R' hF _ => ⟨I₁, _, hΦ, R', x₁.kept.trans hF.kept⟩) fun _ _ e => e) (hs env R.scope R.kind)
theorem Ex.unpack {ts : List PySem.Expr} {kd} {tp pos : Pos} {e : PySem.Expr} {ds : List D} {ρ' : List (Option B)} {Φ : Out → Prop} (h : Ev prog w T F k ρ e (.tup ds)) (ha : AsEach prog w T F k ρ ts ds ρ') (hΦ : Φ (.next ρ'))
    (hs : ∀ env, swapsWithSole [.Tuple ts kd tp] e pos.line env = pure false := by intro _; rfl) (hw : ∀ env, swappedStores [.Tuple ts kd tp] e env = pure none := by intro _; rfl) : Ex prog w T F k ρ (.Assign [.Tuple ts kd tp] e pos) Φ :=
  .mk fun A env s₀ I₀ I s hR R E => Assign_Tuple (wpAny_mono (h.go A env s₀ I₀ I s hR R E) (fun v s₁ ⟨I₁, x₁, r₁⟩ =>
    wpAny_mono ((As.tuple ha).go A env s₀ I₀ I₁ s₁ v hR (R.mono x₁) r₁ E) (fun _ s' ⟨R', K⟩ => ⟨I₁, _, hΦ, R', x₁.kept.trans K.kept⟩) fun _ _ e => e) fun _ _ e => e) (hs env) (hw env)
theorem Ex.ret {e : PySem.Expr} {pos : Pos} {d : D} {Φ : Out → Prop} (h : Ev prog w T F k ρ e d) (hΦ : Φ (.ret d)) : Ex prog w T F k ρ (.Return (some e) pos) Φ :=
  .mk fun A env s₀ I₀ I s hR R E => wpAny_Return_some (wpAny_mono (h.go A env s₀ I₀ I s hR R E) (fun v s₁ ⟨I₁, x₁, r₁⟩ => ⟨I₁, d, hΦ, r₁, R.ext.trans x₁⟩) fun _ _ e => e)
theorem Ex.ite {t : PySem.Expr} {body orelse : List Stmt} {pos : Pos} {b : Bool} {Φ : Out → Prop} (ht : Tr prog w T F k ρ t b) (h1 : b = true → Exs prog w T F k ρ body Φ) (h2 : b = false → Exs prog w T F k ρ orelse Φ) : Ex prog w T F k ρ (.If t body orelse pos) Φ :=
  .mk fun A env s₀ I₀ I s hR R E => wpAny_If (wpAny_mono (ht.go A env s₀ I₀ I s hR R E) (fun c s₁ ⟨e₁, I₁, x₁⟩ => by
    subst e₁
    cases c with
    | true => exact wpAny_mono ((h1 rfl).go A env s₀ I₀ I₁ s₁ hR (R.mono x₁) E) (fun _ _ p => p.from x₁.kept) fun _ _ e => e
    | false => exact wpAny_mono ((h2 rfl).go A env s₀ I₀ I₁ s₁ hR (R.mono x₁) E) (fun _ _ p => p.from x₁.kept) fun _ _ e => e) fun _ _ e => e)
end
end Mine
end

section
open PySem PySem.W PyProof.Rows
namespace Mine
section
variable {prog : Program} {w : World} {T : Imm} {F : FnCx} {k : Nat} {ρ : List (Option B)}

theorem wp_letOwned {A : Around} {E} {s : Shared} {target : PySem.Expr} {it : Addr} {o : Obj} {I : Imm} {ds : List D} {v : Value} (ho : s.heap.get? it = some o) (x : IterObj I o ds) {Q : Unit → Shared → Prop} (h : Q () s) :
    wpAny (model prog w) A (letOwnedTupleGo target (.ref it) v) Q E s := by
  have key : ∀ a : Addr, wpAny (model prog w) A (do
      let o ← load it
      match o.cls, o.data with
      | .type n, .fields vs =>
        if ["enumerate", "zip", "dict_itemiterator", "dict_reverseitemiterator", "odict_iterator", "itertools.zip_longest", "itertools.pairwise"].contains n && vs[0]? == some (rawInt a) then
          rule "for.unpacks-the-owned-tuple"
          updateField it 0 .none
      | _, _ => pure ()) Q E s := fun a => by
    refine wpAny_bind (wpAny_load ho ?_)
    cases x with
    | list h1 h2 h3 h4 h5 h6 => rw [h5, h6]; simp only [List.contains_cons, List.contains_nil]; exact wpAny_pure h
    | range => exact wpAny_pure h
    | @str x t i oi h1 h2 =>
      rw [h1, h2]
      unfold strIterType
      cases x.cps.all (· < 128) <;> exact wpAny_pure h
  cases target <;> first
    | exact wpAny_pure h
    | (cases v <;> first | exact wpAny_pure h | exact key _)

theorem Kept.but {I I' : Imm} {s s' : Shared} (K : Kept I s I' s') {it : Addr} (h : s.heap.get? it = none) {h' : Heap} {tk : Nat} (hk : ∀ b o, b ≠ it → s'.heap.get? b = some o → h'.get? b = some o) : Kept I s I' { s' with heap := h', toks := tk } :=
  ⟨fun a o e f => ⟨hk a o (by rintro rfl; rw [h] at e; cases e) (K.keepF a o e f).1, (K.keepF a o e f).2⟩, K.ge⟩

theorem Ex.for {target iter : PySem.Expr} {body : List Stmt} {pos : Pos} {d : D} {ds : List D} {Φ : Out → Prop} (hi : Ev prog w T F k ρ iter d) (hit : Iterates d ds) (J : Nat → List (Option B) → Prop) (h0 : J 0 ρ)
    (step : ∀ i di ρi, ds[i]? = some di → J i ρi → ∃ ρa, As prog w T F k ρi target di ρa ∧ Exs prog w T F k ρa body (fun o => match o with | .next ρ' => J (i + 1) ρ' | .ret d => Φ (.ret d)))
    (hend : ∀ ρ', J ds.length ρ' → Φ (.next ρ')) (hfs : ∀ env x, foldedSetIterable iter env x = pure x := by intro _ _; rfl) : Ex prog w T F k ρ (.For target iter body [] pos) Φ :=
  .mk fun A env s₀ I₀ I s hR R E => by
    show wpAny _ A (do
      standAt pos
      let x ← foldedSetIterable iter env (← eval iter env)
      standAt iter.pos
      runOwn (.forLoop target (← holding [x] (pyIter x)) body [] env) env) _ E s
    refine wpAny_bind (wpAny_standAt (wpAny_bind (wpAny_mono (hi.go A env s₀ I₀ I s hR R E) (fun v s₁ ⟨I₁, x₁, r₁⟩ => ?_) fun _ _ e => e)))
    rw [hfs]
    refine wpAny_bind (wpAny_pure (wpAny_bind (wpAny_standAt (wpAny_bind (wpAny_holding (it_new x₁.imm r₁ hit fun oi io hfr => ?_))))))
    have hn : s₁.heap.get? s₁.heap.objs.size = none := get_size _
    have hk : ∀ b o, s₁.heap.get? b = some o → (s₁.heap.push oi).get? b = some o := fun b o e => Heap.get?_push_of_some _ e
    have x₂ : Ext I₁ s₁ I₁ { s₁ with heap := s₁.heap.push oi } := Ext.heap (tk := s₁.toks) x₁.imm hk
    have R₂ := (R.mono x₁).mono x₂
    have hI1 : I₁ s₁.heap.objs.size = none := by
      cases e : I₁ s₁.heap.objs.size with
      | none => rfl
      | some o => rw [x₁.imm _ _ e] at hn; cases hn
    have h00 : s₀.heap.get? s₁.heap.objs.size = none := by
      cases e : s₀.heap.get? s₁.heap.objs.size with
      | none => rfl
      | some o => rw [(R.mono x₁).ext.keep _ _ e] at hn; cases hn
    have hss : s.heap.get? s₁.heap.objs.size = none := by
      cases e : s.heap.get? s₁.heap.objs.size with
      | none => rfl
      | some o => rw [x₁.keep _ _ e] at hn; cases hn
    generalize hit' : s₁.heap.objs.size = it at hn hI1 h00 hss
    have hoi : (s₁.heap.push oi).get? it = some oi := by rw [← hit']; exact Heap.get?_push_size _ hfr
    refine wpAny_runOwn ?_
    show codeAny _ A _ _ _
    refine codeAny_forLoop_any (fun n s' => ∃ I' ρi i o, n = ds.length + 1 - i ∧ i ≤ ds.length ∧ J i ρi ∧ EnvRep T F env s₀ I₀ I' ρi s' ∧ Kept I s I' s' ∧ s'.heap.get? it = some o ∧ IterObj I' o (ds.drop i) ∧ I' it = none) ?_
      (ds.length + 1) ⟨I₁, ρ, 0, oi, rfl, Nat.zero_le _, h0, R₂, (x₁.trans x₂).kept, hoi, by simpa using io, hI1⟩
    rintro n s' ⟨I', ρi, i, o, rfl, hile, hJ, R', K', ho, io', hI'⟩
    cases hd : ds[i]? with
    | none =>
      have hlen : ds.length ≤ i := List.getElem?_eq_none_iff.mp hd
      obtain rfl : i = ds.length := by omega
      rw [List.drop_length] at io'
      refine it_nil hR.handled R'.imm ho io' fun h' hx => ?_
      refine wpAny_execs_nil ?_
      have hk' : ∀ b o, b ≠ it → s'.heap.get? b = some o → h'.get? b = some o := fun b o hb e => hx b o hb e
      refine ⟨I', ρi, hend _ hJ, R'.plain (tk := s'.toks) ho io'.fields hI' h00 hk', K'.but hss hk'⟩
    | some di =>
      have hdr : ds.drop i = di :: ds.drop (i + 1) := by
        rw [List.drop_eq_getElem_cons (List.getElem?_eq_some_iff.mp hd).1]
        congr 1
        exact (List.getElem?_eq_some_iff.mp hd).2
      rw [hdr] at io'
      refine it_cons R'.imm ho io' fun v h' o' tk rv ho' io'' hs => ?_
      have hk' : ∀ b o, b ≠ it → s'.heap.get? b = some o → h'.get? b = some o := fun b o hb e => (hs.2 b hb).trans e
      have R₃ : EnvRep T F env s₀ I₀ I' ρi { s' with heap := h', toks := tk } := R'.plain ho io'.fields hI' h00 hk'
      refine wp_letOwned ho' io'' ?_
      obtain ⟨ρa, ha, hb⟩ := step i di ρi hd hJ
      refine wpAny_mono (ha.go A env s₀ I₀ I' _ v hR R₃ rv _) (fun _ s₄ ⟨R₄, S₄⟩ => ?_) fun _ _ e => e
      have K₄ : Kept I' _ I' s₄ := S₄.kept
      refine wpAny_mono (hb.go A env s₀ I₀ I' s₄ hR R₄ _) (fun f s₅ p => ?_) fun _ _ e => e
      cases f with
      | next =>
        obtain ⟨I₅, ρ₅, hJ₅, R₅, K₅⟩ := p
        obtain ⟨g1, g2⟩ := (K₄.trans K₅).keepF it o' ho' io''.fields
        have hlt : i < ds.length := (List.getElem?_eq_some_iff.mp hd).1
        refine ⟨ds.length + 1 - (i + 1), by omega, I₅, ρ₅, i + 1, o', rfl, by omega, hJ₅, R₅, ((K'.but hss hk').trans K₄).trans K₅, g1, io''.mono (K₄.trans K₅).ge, g2.trans hI'⟩
      | ret v => exact p
      | brk => exact p.elim
      | cont => exact p.elim

theorem Ex.while {test : PySem.Expr} {body : List Stmt} {pos : Pos} {Φ : Out → Prop} (J : Nat → List (Option B) → Prop) {n₀ : Nat} (h0 : J n₀ ρ)
    (step : ∀ n ρi, J n ρi → ∃ b, Tr prog w T F k ρi test b ∧ (b = true → Exs prog w T F k ρi body (fun o => match o with | .next ρ' => ∃ m, m < n ∧ J m ρ' | .ret d => Φ (.ret d))) ∧ (b = false → Φ (.next ρi))) :
    Ex prog w T F k ρ (.While test body [] pos) Φ :=
  .mk fun A env s₀ I₀ I s hR R E => by
    refine wpAny_While (codeAny_whileLoop (fun n s' => ∃ I' ρi, J n ρi ∧ EnvRep T F env s₀ I₀ I' ρi s' ∧ Kept I s I' s') ?_ n₀ ⟨I, ρ, h0, R, Kept.refl⟩)
    rintro n s' ⟨I', ρi, hJ, R', K'⟩
    obtain ⟨b, ht, hb1, hb2⟩ := step n ρi hJ
    refine wpAny_mono (ht.go A env s₀ I₀ I' s' hR R' _) (fun c s₁ ⟨e₁, I₁, x₁⟩ => ?_) fun _ _ e => e
    subst e₁
    cases c with
    | false => exact wpAny_execs_nil ⟨I₁, ρi, hb2 rfl, R'.mono x₁, K'.trans x₁.kept⟩
    | true =>
      refine wpAny_mono ((hb1 rfl).go A env s₀ I₀ I₁ s₁ hR (R'.mono x₁) _) (fun f s₅ p => ?_) fun _ _ e => e
      cases f with
      | next =>
        obtain ⟨I₅, ρ₅, ⟨m, hm, hJ₅⟩, R₅, K₅⟩ := p
        exact ⟨m, hm, I₅, ρ₅, hJ₅, R₅, (K'.trans x₁.kept).trans K₅⟩
      | ret v => exact p
      | brk => exact p.elim
      | cont => exact p.elim

/-- what is a list of its own may be held fast -/
theorem EnvRep.freeze {env : Env} {s₀ : Shared} {I₀ I : Imm} {s : Shared} (R : EnvRep T F env s₀ I₀ I ρ s) {i : Nat} {l : List D} (hi : ρ[i]? = some (some (.own l))) :
    ∃ I', EnvRep T F env s₀ I₀ I' (ρ.set i (some (.imm (.lst l)))) s ∧ Kept I s I' s := by
  obtain ⟨m, cm, val, hn, hc, hv, hw⟩ := R.fr
  obtain ⟨⟨x, hx, f⟩, r⟩ := hv i _ hi
  generalize hvi : val i = v at r f
  cases r with
  | @own a vs n ds h1 h2 h3 h4 =>
    have hge : ∀ b o', I b = some o' → I.add a { cls := .type "list", data := .seq vs n } b = some o' := fun b o' e => by
      unfold Imm.add; rw [if_neg (by rintro rfl; rw [h3] at e; cases e)]; exact e
    have hne : ∀ b, b ≠ a → I.add a { cls := .type "list", data := .seq vs n } b = I b := fun b hb => by unfold Imm.add; rw [if_neg hb]
    have hLa : env.locals ≠ a := by
      obtain ⟨oL, es, ep, hL, hdL, hr⟩ := id hn
      intro q
      rw [q, h1] at hL
      obtain rfl := Option.some.inj hL
      cases hdL
    have hca : ∀ y c, env.cells.lookup y = some c → c ≠ a := by
      intro y c e q
      obtain ⟨oc, g1, g2⟩ := hc y c e
      rw [q, h1] at g1
      obtain rfl := Option.some.inj g1
      cases g2
    refine ⟨_, ⟨⟨R.ext.st, R.ext.keep, fun b o e => ?_, fun b o e => ?_, fun b o e => hge _ _ (R.ext.ge _ _ e)⟩, R.scope, R.kind, R.glob, R.blt, fun b o e => hge _ _ (R.top _ _ e), R.lnew, (hne _ hLa).trans R.lI, fun y c e => (hne _ (hca y c e)).trans (R.cI y c e), R.cap, R.cown, m, cm, val, hn, hc, fun j b hj => ?_, fun ii jj c₁ c₂ g1 g2 o1 o2 he => ?_⟩, ⟨fun b o e hf => ⟨e, hne b ?_⟩, hge⟩⟩
    · by_cases q : b = a
      · subst q; rw [Imm.add_self] at e; cases e; exact h1
      · rw [hne b q] at e; exact R.imm _ _ e
    · rw [hne b (by rintro rfl; rw [h4] at e; cases e)]; exact R.ext.old _ _ e
    · by_cases e : j = i
      · subst e
        obtain rfl := get_set_self hj
        rw [hvi]
        exact ⟨⟨x, hx, f⟩, .imm (Rep.mk_lst (Imm.add_self _ _ _) rfl rfl (h2.mono hge))⟩
      · rw [get_set_ne (Ne.symm e)] at hj
        obtain ⟨q1, q2⟩ := hv j b hj
        refine ⟨q1, ?_⟩
        generalize hvj : val j = u at q2
        cases q2 with
        | imm r => exact .imm (r.mono hge)
        | @own a' vs' n' ds' g1 g2 g3 g4 => exact .own g1 (g2.mono hge) ((hne a' (by rintro rfl; exact e (hw j i _ _ hj hi rfl rfl (hvj.trans hvi.symm)))).trans g3) g4
        | @bya a' b' g1 g3 g4 => exact .bya g1 ((hne a' (by rintro rfl; exact e (hw j i _ _ hj hi rfl rfl (hvj.trans hvi.symm)))).trans g3) g4
    · by_cases e1 : ii = i
      · subst e1; have := get_set_self g1; subst this; cases o1
      · by_cases e2 : jj = i
        · subst e2; have := get_set_self g2; subst this; cases o2
        · rw [get_set_ne (Ne.symm e1)] at g1
          rw [get_set_ne (Ne.symm e2)] at g2
          exact hw ii jj c₁ c₂ g1 g2 o1 o2 he
    · rintro rfl
      obtain ⟨us, q⟩ := hf
      rw [h1] at e
      obtain rfl := Option.some.inj e
      cases q
theorem Exs.freeze {i : Nat} {l : List D} {sts : List Stmt} {Φ : Out → Prop} (hi : ρ[i]? = some (some (.own l))) (h : Exs prog w T F k (ρ.set i (some (.imm (.lst l)))) sts Φ) : Exs prog w T F k ρ sts Φ :=
  .mk fun A env s₀ I₀ I s hR R E => by
    obtain ⟨I', R', K'⟩ := R.freeze hi
    exact wpAny_mono (h.go A env s₀ I₀ I' s hR R' E) (fun _ _ p => p.from K') fun _ _ e => e
end
end Mine
end

section
open PySem PySem.W PyProof.Rows
namespace Mine
section
variable {prog : Program} {w : World} {T : Imm} {F : FnCx} {k : Nat} {ρ : List (Option B)}

theorem BRep.ref {I : Imm} {s₀ s : Shared} {v : Value} {b : B} (r : BRep I s₀ s v b) (h : b.owned = true) : ∃ a o, v = .ref a ∧ s.heap.get? a = some o ∧ ((∃ vs n, o.data = .seq vs n) ∨ ∃ c n, o.data = .bytearray c n) ∧ I a = none ∧ s₀.heap.get? a = none := by
  cases r with
  | imm => cases h
  | own h1 h2 h3 h4 => exact ⟨_, _, rfl, h1, .inl ⟨_, _, rfl⟩, h3, h4⟩
  | bya h1 h3 h4 => exact ⟨_, _, rfl, h1, .inr ⟨_, _, rfl⟩, h3, h4⟩

/-- a thing of the frame's own: read, and turned -/
theorem EnvRep.turner {env : Env} {s₀ : Shared} {I₀ I : Imm} {s : Shared} (R : EnvRep T F env s₀ I₀ I ρ s) {i : Nat} {x : Str} {b : B} (hx : F.vars[i]? = some x) (hi : ρ[i]? = some (some b)) (hb : b.owned = true) :
    ∃ a, BRep I s₀ s (.ref a) b ∧ (∀ (A : Around) E (Q : Value → Shared → Prop), Q (.ref a) s → wpAny (model prog w) A (loadName env x) Q E s) ∧
      ∀ J s₂, Ext I s J s₂ → ∀ h' tk b', (∀ b o, b ≠ a → s₂.heap.get? b = some o → h'.get? b = some o) → BRep J s₀ { s₂ with heap := h', toks := tk } (.ref a) b' → b'.owned = true →
        EnvRep T F env s₀ I₀ J (ρ.set i (some b')) { s₂ with heap := h', toks := tk } ∧ Kept J s₂ J { s₂ with heap := h', toks := tk } := by
  obtain ⟨m, cm, val, hn, hc, hv, hw⟩ := R.fr
  obtain ⟨⟨y, hy, f⟩, r⟩ := hv i b hi
  obtain rfl : x = y := Option.some.inj (hx.symm.trans hy)
  obtain ⟨a, o, e, h1, hd, hI, h0⟩ := r.ref hb
  rw [e] at r f
  refine ⟨a, r, fun A E Q hQ => ?_, fun J s₂ X h' tk b' hk r' ho' => ?_⟩
  · cases f with
    | loc g1 g2 => exact wpAny_loadName_local R.kind g1 hn g2 hQ
    | cell g1 g2 g3 => exact wpAny_loadName_cell R.kind g1 g2 (by rw [← g3]; exact hc _ _ g2) hQ
    | free g1 g4 g2 g3 => exact wpAny_loadName_free R.kind g1 g2 (by rw [← g3]; exact hc _ _ g2) hQ g4
  · have hJ : J a = none := (X.old _ _ h1).trans hI
    have h1' := X.keep _ _ h1
    have R₂ := R.mono X
    obtain ⟨oL, es, ep, hL, hdL, hr⟩ := id hn
    have hLa : env.locals ≠ a := by
      intro q
      rw [q, h1] at hL
      obtain rfl := Option.some.inj hL
      rcases hd with ⟨_, _, hd⟩ | ⟨_, _, hd⟩ <;> (rw [hd] at hdL; cases hdL)
    have hext := ext_same (tk := tk) R₂ hJ h0 hk
    refine ⟨⟨hext, R₂.scope, R₂.kind, R₂.glob, R₂.blt, R₂.top, R₂.lnew, R₂.lI, R₂.cI, R₂.cap, R₂.cown, m, cm, val, ⟨oL, es, ep, hk _ _ hLa (X.keep _ _ hL), hdL, hr⟩, fun y c e => ?_, fun j c hj => ?_, fun ii jj c₁ c₂ g1 g2 o1 o2 he => ?_⟩, ⟨fun b o e'' hf => ⟨hk b o ?_ e'', rfl⟩, fun _ _ e => e⟩⟩
    · obtain ⟨oc, g1, g2⟩ := hc y c e
      refine ⟨oc, hk _ _ ?_ (X.keep _ _ g1), g2⟩
      intro q
      rw [q, h1] at g1
      obtain rfl := Option.some.inj g1
      rcases hd with ⟨_, _, hd⟩ | ⟨_, _, hd⟩ <;> (rw [hd] at g2; cases g2)
    · by_cases e' : j = i
      · subst e'
        obtain rfl := get_set_self hj
        rw [e]
        exact ⟨⟨x, hx, f⟩, r'⟩
      · rw [get_set_ne (Ne.symm e')] at hj
        obtain ⟨q1, q2⟩ := hv j c hj
        refine ⟨q1, ?_⟩
        have hne : ∀ a', val j = .ref a' → c.owned = true → a' ≠ a := by
          rintro a' ev hco rfl
          exact e' (hw j i _ _ hj hi hco hb (ev.trans e.symm))
        have q3 := q2.mono X
        generalize hvj : val j = u at q3
        cases q3 with
        | imm r => exact .imm r
        | own g1 g2 g3 g4 => exact .own (hk _ _ (hne _ hvj rfl) g1) g2 g3 g4
        | bya g1 g3 g4 => exact .bya (hk _ _ (hne _ hvj rfl) g1) g3 g4
    · have key : ∀ (q : Nat) (c : B), (ρ.set i (some b'))[q]? = some (some c) → c.owned = true → ∃ c' : B, ρ[q]? = some (some c') ∧ c'.owned = true := fun q c h hc => by
        by_cases e' : q = i
        · subst e'; exact ⟨b, hi, hb⟩
        · rw [get_set_ne (Ne.symm e')] at h; exact ⟨c, h, hc⟩
      obtain ⟨d₁, p1, p2⟩ := key ii c₁ g1 o1
      obtain ⟨d₂, p3, p4⟩ := key jj c₂ g2 o2
      exact hw ii jj d₁ d₂ p1 p3 p2 p4 he
    · rintro rfl
      obtain ⟨us, q⟩ := hf
      rw [h1'] at e''
      obtain rfl := Option.some.inj e''
      rcases hd with ⟨_, _, hd⟩ | ⟨_, _, hd⟩ <;> (rw [hd] at q; cases q)

/-- x.append(e) -/
theorem Ex.append {i : Nat} {x : Str} {p apos pos' pos : Pos} {e : PySem.Expr} {l : List D} {d : D} {Φ : Out → Prop} (hx : F.vars[i]? = some x) (hi : ρ[i]? = some (some (.own l))) (h : Ev prog w T F k ρ e d) (hΦ : Φ (.next (ρ.set i (some (.own (l ++ [d]))))))
    (hl : l.length ≤ 16777216) (hst : isStarred e = false := by rfl) (hline : (apos.endLine == pos'.line) = true := by rfl) (hd : (x == ("__debug__" : Str)) = false := by decide)
    (hint : F.sc.more.any (fun (n, _) => n == ("interactive" : Str)) = false ∨ F.sc.kind ≠ .module := by exact .inr (by decide)) (hbase : ∀ env, attributeBase (.Name x p) "append" env (eval (.Name x p) env) = eval (.Name x p) env := by intro _; rfl) :
    Ex prog w T F k ρ (.Expr (.Call (.Attribute (.Name x p) "append" apos) [e] [] pos') pos) Φ :=
  .mk fun A env s₀ I₀ I s hR R E => by
    obtain ⟨a, r, hload, hturn⟩ := R.turner (prog := prog) (w := w) hx hi rfl
    have hint' : interactive env = false := by
      unfold interactive; rw [R.kind]; rfl
    refine wpAny_Expr ?_ hint' rfl
    refine wpAny_Call_append (hbase env) (by rw [starEach_plain hst]; rfl) hline (by rw [starEach_plain hst]; rfl) (wpAny_Name (hload A E _ ?_) hd)
    cases r with
    | @own _ vs n ds h1 h2 h3 h4 =>
      refine ⟨a, vs, rfl, ⟨_, n, h1, rfl, rfl, rfl⟩, ?_⟩
      refine wpAny_mono (h.go A env s₀ I₀ I s hR R E) (fun v s₂ ⟨J, X, rv⟩ => ?_) fun _ _ e => e
      refine wpAny_list_append_plain ⟨n, X.keep _ _ h1⟩ (fun h' ⟨n', hn'⟩ hs => ?_) (by rw [sizeLine_eq]; have := h2.1; simp at this; omega)
      have hk : ∀ b o, b ≠ a → s₂.heap.get? b = some o → h'.get? b = some o := fun b o hb e => (hs.2 b hb).trans e
      obtain ⟨R', K'⟩ := hturn J s₂ X h' s₂.toks (.own (l ++ [d])) hk (.own hn' (by simpa using (h2.mono X.ge).snoc rv) ((X.old _ _ h1).trans h3) h4) rfl
      exact ⟨J, _, hΦ, R', X.kept.trans K'⟩

theorem Reps.set {I : Imm} {vs : List Value} {ds : List D} (r : Reps I vs ds) {i : Nat} {v : Value} {d : D} (h : Rep I v d) : Reps I (vs.set i v) (ds.set i d) := by
  refine ⟨by simp [r.1], fun j x y a b => ?_⟩
  by_cases q : i = j
  · subst q
    rw [List.getElem?_set_self'] at a b
    cases e : vs[i]? with
    | none => rw [e] at a; cases a
    | some _ =>
      rw [e] at a
      cases e' : ds[i]? with
      | none => rw [e'] at b; cases b
      | some _ => rw [e'] at b; simp at a b; subst a; subst b; exact h
  · rw [List.getElem?_set_ne q] at a b
    exact r.2 j x y a b

/-- a store into a list, the object told whole -/
theorem setItem_exact {A : Around} {E} {s : Shared} {l : Addr} {items : Array Value} {n : Nat} {c : Int} {t : Tok} {v : Value} {Q : Unit → Shared → Prop} (hl : s.heap.get? l = some { cls := .type "list", data := .seq items n }) (h0 : 0 ≤ c) (hfit : c < 2 ^ 63) (hc : c < items.size)
    (hQ : ∀ h', h'.get? l = some { cls := .type "list", data := .seq (items.setIfInBounds c.toNat v) n } → Heap.SameBut l s.heap h' → Q () { s with heap := h' }) : wpAny (model prog w) A (PySem.setItem (.ref l) (.int c t) v) Q E s := by
  have hT : s.TypeIs (.ref l) "list" := ⟨_, hl, rfl⟩
  unfold PySem.setItem
  try with_reducible refine wpAny_holding ?_
  first | refine wpAny_bind (wpAny_pure ?_) | skip
  refine wpAny_bind (wpAny_sequenceKey hT (by decide) ?_)
  refine wpAny_bind (wpAny_callSpecial?_slot (name := Str.ofString "__setitem__") hT slot_list_setitem
    (wpAny_call_entry slot_list_setitem hT entry_list_setitem ?_ (args_list_setitem _ _ _)))
  show wpAny _ _ (Builtin.List.listSubscript? (.int c t) >>= _) _ _ s
  refine wpAny_bind (wpAny_listSubscript_int (fitsIndex_of h0 hfit) ?_)
  clear hfit
  obtain ⟨j, rfl⟩ := Int.eq_ofNat_of_zero_le h0
  have hj : j < items.size := by omega
  have hx : items[j]? = some items[j] := Array.getElem?_eq_getElem hj
  show wpAny _ _ ((seqItemAt l j >>= fun r => pure (r.map (j, ·))) >>= _) _ _ s
  refine wpAny_bind (wpAny_bind (wpAny_seqItemAt hl rfl (wpAny_pure ?_)))
  rw [hx]
  show wpAny _ _ (setSeqItemAt l j v >>= _) _ _ s
  have hm : Obj.mapSeq (·.setIfInBounds j v) { cls := .type "list", data := .seq items n } = { cls := .type "list", data := .seq (items.setIfInBounds j v) n } := by simp [Obj.mapSeq]
  have hfin : (s.heap.update l (Obj.mapSeq (·.setIfInBounds j v))).get? l = some { cls := .type "list", data := .seq (items.setIfInBounds j v) n } := by
    rw [Heap.get?_update_self _ hl (by rw [hm]; rfl), hm]
  refine wpAny_bind (wpAny_setSeqItemAt hl rfl ?_)
  first
    | exact wpAny_bind (wpAny_pure (wpAny_pure ⟨.none, rfl, wpAny_pure (hQ _ hfin (Heap.SameBut.update ..))⟩))
    | exact wpAny_pure ⟨.none, rfl, wpAny_pure (hQ _ hfin (Heap.SameBut.update ..))⟩

/-- x[j] = e, a list -/
theorem Ex.setItem {i : Nat} {x : Str} {p pos' pos : Pos} {e j : PySem.Expr} {l : List D} {d : D} {n : Nat} {Φ : Out → Prop} (hx : F.vars[i]? = some x) (hi : ρ[i]? = some (some (.own l))) (h : Ev prog w T F k ρ e d) (hj : Ev prog w T F k ρ j (.int n))
    (hn : n < l.length) (hΦ : Φ (.next (ρ.set i (some (.own (l.set n d)))))) (hfit : n < 2 ^ 62 := by omega) (hd : (x == ("__debug__" : Str)) = false := by decide)
    (hs : ∀ env, swapsWith e (some (.Subscript (.Name x p) j pos')) pos.line env = pure false := by intro _; rfl) : Ex prog w T F k ρ (.Assign [.Subscript (.Name x p) j pos'] e pos) Φ :=
  .mk fun A env s₀ I₀ I s hR R E => by
    refine wpAny_Assign_Subscript (wpAny_mono (h.go A env s₀ I₀ I s hR R E) (fun v s₁ ⟨I₁, x₁, rv⟩ => ?_) fun _ _ e => e) (hs env)
    obtain ⟨a, r, hload, hturn⟩ := (R.mono x₁).turner (prog := prog) (w := w) hx hi rfl
    refine wpAny_Name (hload A E _ ?_) hd
    refine wpAny_mono (hj.go A env s₀ I₀ I₁ s₁ hR (R.mono x₁) E) (fun vj s₂ ⟨I₂, x₂, rj⟩ => ?_) fun _ _ e => e
    obtain ⟨t, rfl⟩ := rj.of_int
    cases r with
    | @own _ vs c ds h1 h2 h3 h4 =>
      have hlen : vs.size = l.length := by simpa using h2.1
      refine setItem_exact (x₂.keep _ _ h1) (by omega) (by omega) (by omega) (fun h' g1 hsb => ?_)
      have hk : ∀ b o, b ≠ a → s₂.heap.get? b = some o → h'.get? b = some o := fun b o hb e => (hsb.2 b hb).trans e
      obtain ⟨R', K'⟩ := hturn I₂ s₂ x₂ h' s₂.toks (.own (l.set n d)) hk (.own g1 (by
        rw [Array.toList_setIfInBounds]
        exact (h2.mono x₂.ge).set (rv.mono x₂.ge)) ((x₂.old _ _ h1).trans h3) h4) rfl
      exact ⟨I₂, _, hΦ, R', (x₁.trans x₂).kept.trans K'⟩
/-- x[j], a list of the frame's own -/
theorem Ev.itemO {i : Nat} {x : Str} {p pos : Pos} {j : PySem.Expr} {l : List D} {d : D} {n : Int} (hx : F.vars[i]? = some x) (hi : ρ[i]? = some (some (.own l))) (hj : Ev prog w T F k ρ j (.int n)) (h0 : 0 ≤ n) (hn : l[n.toNat]? = some d)
    (hs : PlainSlice j := by intro _ _; rfl) (hfit : n < 2 ^ 63 := by omega) (hd : (x == ("__debug__" : Str)) = false := by decide) : Ev prog w T F k ρ (.Subscript (.Name x p) j pos) d :=
  .mk fun A env s₀ I₀ I s hR R E => by
    obtain ⟨a, r, hload, hturn⟩ := R.turner (prog := prog) (w := w) hx hi rfl
    refine Subscript_ (wpAny_Name (hload A E _ ?_) hd)
    refine wpAny_mono (hj.go A env s₀ I₀ I s hR R E) (fun vj s₂ ⟨I₂, x₂, rj⟩ => ?_) fun _ _ e => e
    obtain ⟨t, rfl⟩ := rj.of_int
    cases r with
    | @own _ vs c ds h1 h2 h3 h4 =>
      obtain ⟨v, hv, rv⟩ := h2.get hn
      have hl : s₂.heap.IsList a vs := ⟨_, x₂.keep _ _ h1, rfl, c, rfl⟩
      exact tail_any hl.typeIs slot_list_getitem.lookup (wpAny_getItem_list hl h0 hfit (by simpa using hv) ⟨I₂, x₂, rv.mono x₂.ge⟩) (hs _ _)
end
end Mine
end

section
open PySem PySem.W PyProof.Rows
namespace Mine

theorem bindL_not {kd : Str → Option NameKind} : ∀ (names : List Str) (vs : List Value) (m : Str → Option Value) (x : Str), x ∉ names → bindL kd (names.zip vs) m x = m x
  | [], vs, m, x, _ => rfl
  | n :: ns, [], m, x, _ => rfl
  | n :: ns, v :: vs, m, x, h => by
    rw [List.zip_cons_cons]
    unfold bindL
    rw [bindL_not ns vs _ x (fun q => h (List.mem_cons_of_mem _ q))]
    split
    · exact if_neg (fun q : x = n => h (by rw [q]; exact List.mem_cons_self))
    · rfl
theorem bindC_not {kd : Str → Option NameKind} : ∀ (names : List Str) (vs : List Value) (m : Str → Option Value) (x : Str), x ∉ names → bindC kd (names.zip vs) m x = m x
  | [], vs, m, x, _ => rfl
  | n :: ns, [], m, x, _ => rfl
  | n :: ns, v :: vs, m, x, h => by
    rw [List.zip_cons_cons]
    unfold bindC
    rw [bindC_not ns vs _ x (fun q => h (List.mem_cons_of_mem _ q))]
    split
    · rfl
    · exact if_neg (fun q : x = n => h (by rw [q]; exact List.mem_cons_self))
theorem bindL_get {kd : Str → Option NameKind} : ∀ (names : List Str) (vs : List Value) (m : Str → Option Value), names.Nodup → ∀ (i : Nat) (x : Str) (v : Value), names[i]? = some x → vs[i]? = some v → kd x = some .local → bindL kd (names.zip vs) m x = some v
  | [], vs, m, _, i, x, v, h, _, _ => by simp at h
  | n :: ns, [], m, _, i, x, v, _, h, _ => by simp at h
  | n :: ns, u :: vs, m, hnd, i, x, v, h1, h2, hk => by
    rw [List.zip_cons_cons]
    unfold bindL
    obtain ⟨hn, hnd'⟩ := List.nodup_cons.mp hnd
    cases i with
    | zero =>
      simp at h1 h2; subst h1; subst h2
      rw [if_pos hk, bindL_not ns vs _ _ hn, if_pos rfl]
    | succ i => exact bindL_get ns vs _ hnd' i x v (by simpa using h1) (by simpa using h2) hk
theorem bindC_get {kd : Str → Option NameKind} : ∀ (names : List Str) (vs : List Value) (m : Str → Option Value), names.Nodup → ∀ (i : Nat) (x : Str) (v : Value), names[i]? = some x → vs[i]? = some v → kd x ≠ some .local → bindC kd (names.zip vs) m x = some v
  | [], vs, m, _, i, x, v, h, _, _ => by simp at h
  | n :: ns, [], m, _, i, x, v, _, h, _ => by simp at h
  | n :: ns, u :: vs, m, hnd, i, x, v, h1, h2, hk => by
    rw [List.zip_cons_cons]
    unfold bindC
    obtain ⟨hn, hnd'⟩ := List.nodup_cons.mp hnd
    cases i with
    | zero =>
      simp at h1 h2; subst h1; subst h2
      rw [if_neg hk, bindC_not ns vs _ _ hn, if_pos rfl]
    | succ i => exact bindC_get ns vs _ hnd' i x v (by simpa using h1) (by simpa using h2) hk

/-- a def as the top has left it -/
structure DefAt (T : Imm) (a : Addr) (names : List Str) (body : List Stmt) (sc : Scope) : Prop where
  ex : ∃ o fd, T a = some o ∧ o.data = .func fd ∧ fd.globals = mainGlobals ∧ fd.builtins = builtinsNs ∧ fd.closure = [] ∧ fd.body = .stmts body ∧ fd.scope = sc ∧
    (∀ h : Heap, (∀ a o, T a = some o → h.get? a = some o) → h.CodeRec fd.code fd.qualname) ∧ ∀ vs : List Value, vs.length = names.length → bindArgs fd ⟨vs, []⟩ = pure (names.zip vs)

section
variable {prog : Program} {w : World} {T : Imm} {mg mb : Str → Option Value}

theorem frame_rep {a : Addr} {names : List Str} {F : FnCx} {ds : List D} {more : Nat} {fd : FuncData} {I : Imm} {s s₁ : Shared} {vs : List Value} (hvars : F.vars.take names.length = names) (hnd : F.vars.Nodup) (hds : ds.length = names.length)
    (hkind : ∀ x ∈ names, F.sc.names.lookup x = some .local ∨ (F.sc.names.lookup x = some .cell ∧ x ∈ F.own)) (hown : ∀ n, F.own.all (fun x => ((cellsFrom n F.sc.names []).lookup x).isSome) = true) (hk : F.sc.kind = .function)
    (hgl : fd.globals = mainGlobals) (hbl : fd.builtins = builtinsNs) (hsc : fd.scope = F.sc) (hTI : ∀ a o, T a = some o → I a = some o) (hI : ∀ b o, I b = some o → s.heap.get? b = some o) (hr : Reps I vs ds)
    (C : InCallC s (callEnvC fd s.heap.objs.size a).locals (bindL (callEnvC fd s.heap.objs.size a).kindOf (names.zip vs) fun _ => none) (callEnvC fd s.heap.objs.size a).cells (bindC (callEnvC fd s.heap.objs.size a).kindOf (names.zip vs) fun _ => none) s₁) :
    EnvRep T F (callEnvC fd s.heap.objs.size a) s I I (ds.map (fun d => some (.imm d)) ++ List.replicate more none) s₁ := by
  have hnn : names.Nodup := by rw [← hvars]; exact hnd.sublist (List.take_sublist _ _)
  have hcells : ∀ x, x ∈ F.own → ∀ n, ((cellsFrom n F.sc.names []).lookup x).isSome = true := fun x hx n => by simpa using List.all_eq_true.mp (hown n) x hx
  generalize henv : callEnvC fd s.heap.objs.size a = env at C ⊢
  have e1 : env.scope = F.sc := by rw [← henv, ← hsc]; rfl
  have e2 : env.globals = mainGlobals := by rw [← henv, ← hgl]; rfl
  have e3 : env.builtins = builtinsNs := by rw [← henv, ← hbl]; rfl
  have e4 : env.locals = s.heap.objs.size := by rw [← henv]; rfl
  have e5 : env.cells = cellsFrom (s.heap.objs.size + 1) F.sc.names [] := by rw [← henv, ← hsc]; rfl
  have hkd : ∀ x, env.kindOf x = F.sc.names.lookup x := fun x => by unfold Env.kindOf; rw [e1]
  have hnone : ∀ c, s.heap.objs.size ≤ c → s.heap.get? c = none := fun c hc => by
    cases e : s.heap.get? c with
    | none => rfl
    | some o => exact absurd (Heap.lt_size e) (Nat.not_lt.mpr hc)
  have hInone : ∀ c, s.heap.objs.size ≤ c → I c = none := fun c hc => by
    cases e : I c with
    | none => rfl
    | some o => have := hI _ _ e; rw [hnone c hc] at this; cases this
  have habove : ∀ x c, env.cells.lookup x = some c → s.heap.objs.size ≤ c := fun x c e => by
    have h1 := C.above x c (mem_of_lookup e)
    rw [e4] at h1
    exact Nat.le_of_lt h1
  refine ⟨⟨C.toInCall.same, C.toInCall.keep, fun b o e => C.toInCall.keep _ _ (hI _ _ e), fun _ _ _ => rfl, fun _ _ e => e⟩, e1, by rw [e1]; exact hk, e2, e3, hTI, hnone _ (Nat.le_of_eq e4.symm), hInone _ (Nat.le_of_eq e4.symm), fun x c e => hInone _ (habove x c e),
    fun x y c p q => name_of_addr C.apart (mem_of_lookup p) (mem_of_lookup q), fun x hx => ?_, _, _, fun i => (vs[i]?).getD .none, C.toInCall.ns, C.cell, fun i b hb => ?_, fun i j b c p q o1 => ?_⟩
  · obtain ⟨c, hc⟩ := Option.isSome_iff_exists.mp (hcells x hx (s.heap.objs.size + 1))
    rw [← e5] at hc
    exact ⟨c, hc, hnone _ (habove x c hc)⟩
  · have hi : i < ds.length := by
      rcases Nat.lt_or_ge i ds.length with q | q
      · exact q
      · rw [List.getElem?_append_right (by simpa using q)] at hb
        have := List.eq_of_mem_replicate (List.mem_of_getElem? hb)
        cases this
    rw [List.getElem?_append_left (by simpa using hi), List.getElem?_map] at hb
    obtain ⟨d', hd', hb'⟩ := Option.map_eq_some_iff.mp hb
    obtain rfl : b = .imm d' := by cases hb'; rfl
    obtain ⟨v, hv, rv⟩ := hr.get hd'
    have ev : (fun i : Nat => (vs[i]?).getD Value.none) i = v := by simp only [hv, Option.getD_some]
    rw [ev]
    have hin : i < names.length := by omega
    have hx : names[i]? = some names[i] := List.getElem?_eq_getElem hin
    refine ⟨⟨names[i], ?_, ?_⟩, .imm rv⟩
    · rw [← hx]
      conv => rhs; rw [← hvars]
      rw [List.getElem?_take_of_lt hin]
    · rcases hkind _ (List.getElem_mem hin) with q | ⟨q, q'⟩
      · exact .loc ((hkd _).trans q) (bindL_get names vs _ hnn i _ v hx hv ((hkd _).trans q))
      · obtain ⟨c, hc⟩ := Option.isSome_iff_exists.mp (hcells _ q' (s.heap.objs.size + 1))
        rw [← e5] at hc
        exact .cell ((hkd _).trans q) hc (bindC_get names vs _ hnn i _ v hx hv (by rw [hkd, q]; decide))
  · exfalso
    have hi : i < ds.length := by
      rcases Nat.lt_or_ge i ds.length with q' | q'
      · exact q'
      · rw [List.getElem?_append_right (by simpa using q')] at p
        have := List.eq_of_mem_replicate (List.mem_of_getElem? p)
        cases this
    rw [List.getElem?_append_left (by simpa using hi), List.getElem?_map] at p
    obtain ⟨d', hd', hb'⟩ := Option.map_eq_some_iff.mp p
    obtain rfl : b = .imm d' := by cases hb'; rfl
    cases o1

theorem fn_of_body {k : Nat} {a : Addr} {names : List Str} {body : List Stmt} {F : FnCx} {ds : List D} {d : D} {more : Nat} (hT : TopOk T mg mb) (hdef : DefAt T a names body F.sc) (hvars : F.vars.take names.length = names) (hnd : F.vars.Nodup) (hds : ds.length = names.length)
    (hkind : ∀ x ∈ names, F.sc.names.lookup x = some .local ∨ (F.sc.names.lookup x = some .cell ∧ x ∈ F.own)) (hown : ∀ n, F.own.all (fun x => ((cellsFrom n F.sc.names []).lookup x).isSome) = true)
    (hk : F.sc.kind = .function) (hco : F.sc.isCoroutine = false) (hgen : F.sc.isGenerator = false)
    (h : Exs prog w T F k (ds.map (fun d => some (.imm d)) ++ List.replicate more none) body (fun o => o = .ret d)) : Fn prog w T (k + 1) a ds d := by
  obtain ⟨o, fd, hTa, hfd, hgl, hbl, hclo, hbody, hsc, hcode, hbind⟩ := hdef.ex
  refine ⟨⟨o, fd, hTa, hfd⟩, .mk fun A I s vs hR hTI hI hr E => ?_⟩
  have hTs : ∀ a o, T a = some o → s.heap.get? a = some o := fun a o e => hI a o (hTI a o e)
  have hlen : vs.length = names.length := hr.1.trans hds
  have hnn : names.Nodup := by rw [← hvars]; exact hnd.sublist (List.take_sublist _ _)
  have hcells : ∀ x, x ∈ F.own → ∀ n, ((cellsFrom n F.sc.names []).lookup x).isSome = true := fun x hx n => by simpa using List.all_eq_true.mp (hown n) x hx
  refine wpAny_call (codeAny_call_cells (by have := hR.depth; omega) (hTs _ _ hTa) hfd (hT.lim _ hTs) (hcode _ hTs) hbody (hbind vs hlen) hclo (fun x hx => ?_) (fun s₁ C => ?_) (by rw [hsc]; exact hco) (by rw [hsc]; exact hgen) (by rw [hsc]; exact hk))
  · have hx1 : x.1 ∈ names := (List.of_mem_zip (a := x.1) (b := x.2) hx).1
    rw [hsc]
    rcases hkind _ hx1 with q | ⟨q, q'⟩
    · exact .inl q
    · exact .inr ⟨q, hcells _ q' _⟩
  · have R := frame_rep (a := a) (more := more) hvars hnd hds hkind hown hk hgl hbl hsc hTI hI hr C
    generalize callEnvC fd s.heap.objs.size a = env at C R
    refine wpAny_mono (h.go _ env s I I s₁ (hR.deeper env) R _) (fun f s' p => ?_) fun _ _ e => e
    cases f with
    | next => obtain ⟨_, _, q, _⟩ := p; cases q
    | ret v =>
      obtain ⟨I', d', q, rv, X⟩ := p
      cases q
      exact ⟨I', X, rv⟩
    | brk => exact p.elim
    | cont => exact p.elim
end
end Mine
end

section
open PySem PySem.W PyProof.Rows
namespace Mine
section
variable {prog : Program} {w : World} {T : Imm} {F : FnCx} {k : Nat} {ρ : List (Option B)}

theorem Reps.one {I : Imm} {vs : List Value} {d : D} (r : Reps I vs [d]) : ∃ v, vs = [v] ∧ Rep I v d := by
  match vs, r.1 with
  | [v], _ => exact ⟨v, rfl, r.2 0 v d rfl rfl⟩
theorem Reps.two {I : Imm} {vs : List Value} {d e : D} (r : Reps I vs [d, e]) : ∃ v u, vs = [v, u] ∧ Rep I v d ∧ Rep I u e := by
  match vs, r.1 with
  | [v, u], _ => exact ⟨v, u, rfl, r.2 0 v d rfl rfl, r.2 1 u e rfl rfl⟩
theorem Reps.three {I : Imm} {vs : List Value} {d e f : D} (r : Reps I vs [d, e, f]) : ∃ v u x, vs = [v, u, x] ∧ Rep I v d ∧ Rep I u e ∧ Rep I x f := by
  match vs, r.1 with
  | [v, u, x], _ => exact ⟨v, u, x, rfl, r.2 0 v d rfl rfl, r.2 1 u e rfl rfl, r.2 2 x f rfl rfl⟩
theorem new_rng {I : Imm} {s : Shared} (hI : ∀ b o, I b = some o → s.heap.get? b = some o) (a b c : Int) (t u v : Tok) (tk : Nat) :
    ∃ I', Ext I s I' { s with heap := s.heap.push { cls := .type "range", data := .fields #[.int a t, .int b u, .int c v] }, toks := tk } ∧ Rep I' (.ref s.heap.objs.size) (.rng a b c) :=
  ⟨_, Ext.new hI (fun b o e => Heap.get?_push_of_some _ e) (get_size _) (Heap.get?_push_size _ rfl), .rng (Imm.add_self _ _ _)⟩
theorem p_range1 {n : Int} : PrimN prog w T k (fun vs => call (.type "range") vs) [.int n] (.rng 0 n 1) := .mk fun A I s vs _ _ hI r E => by
  obtain ⟨v, rfl, rv⟩ := r.one
  obtain ⟨t, rfl⟩ := rv.of_int
  exact call_range_1 (new_rng hI _ _ _ _ _ _ _)
theorem p_range2 {a b : Int} : PrimN prog w T k (fun vs => call (.type "range") vs) [.int a, .int b] (.rng a b 1) := .mk fun A I s vs _ _ hI r E => by
  obtain ⟨v, u, rfl, rv, ru⟩ := r.two
  obtain ⟨t, rfl⟩ := rv.of_int
  obtain ⟨t', rfl⟩ := ru.of_int
  exact call_range_2 (new_rng hI _ _ _ _ _ _ _)
theorem p_range3 {a b c : Int} (hc : c ≠ 0) (hs : c.natAbs < 1073741824) : PrimN prog w T k (fun vs => call (.type "range") vs) [.int a, .int b, .int c] (.rng a b c) := .mk fun A I s vs _ _ hI r E => by
  obtain ⟨v, u, x, rfl, rv, ru, rx⟩ := r.three
  obtain ⟨t, rfl⟩ := rv.of_int
  obtain ⟨t', rfl⟩ := ru.of_int
  obtain ⟨t'', rfl⟩ := rx.of_int
  exact call_range_3 hc (new_rng hI _ _ _ _ _ _ _) (Or.inl (PyProof.noPylong_small hs))
theorem p_len_lst {l : List D} (hl : l.length < 2 ^ 62) : PrimN prog w T k (fun vs => call (.builtin "len") vs) [.lst l] (.int l.length) := .mk fun A I s vs _ _ hI r E => by
  obtain ⟨v, rfl, rv⟩ := r.one
  obtain ⟨a, us, rfl, h1, h2⟩ := rv.isList hI
  have e : us.size = l.length := by simpa using h2.1
  exact Calls.call_len_list h1 (by omega) ⟨I, Ext.tok hI _, by rw [e]; exact .int _ _⟩
theorem p_len_str {x : Str} (hl : x.length < 2 ^ 62) : PrimN prog w T k (fun vs => call (.builtin "len") vs) [.str x] (.int x.length) := .mk fun A I s vs _ _ hI r E => by
  obtain ⟨v, rfl, rv⟩ := r.one
  obtain ⟨t, rfl⟩ := rv.of_str
  exact P.len_str (by omega) ⟨I, Ext.tok hI _, .int _ _⟩
theorem p_len_bytes {b : Array UInt8} (hl : b.size ≤ 1099511627776) : PrimN prog w T k (fun vs => call (.builtin "len") vs) [.bytes b] (.int b.size) := .mk fun A I s vs _ _ hI r E => by
  obtain ⟨v, rfl, rv⟩ := r.one
  obtain ⟨t, rfl⟩ := rv.of_bytes
  exact len_bytes hl ⟨I, Ext.tok hI _, .int _ _⟩
theorem p_chr {i : Int} (h0 : 0 ≤ i) (h1 : i ≤ 1114111) : PrimN prog w T k (fun vs => call (.builtin "chr") vs) [.int i] (.str ⟨#[i.toNat]⟩) := .mk fun A I s vs _ _ hI r E => by
  obtain ⟨v, rfl, rv⟩ := r.one
  obtain ⟨t, rfl⟩ := rv.of_int
  exact chr_of_range h0 h1 ⟨I, Ext.tok hI _, .str _ _⟩
theorem p_ord {c : Nat} : PrimN prog w T k (fun vs => call (.builtin "ord") vs) [.str ⟨#[c]⟩] (.int c) := .mk fun A I s vs _ _ hI r E => by
  obtain ⟨v, rfl, rv⟩ := r.one
  obtain ⟨t, rfl⟩ := rv.of_str
  exact P.ord_of_char ⟨I, Ext.tok hI _, .int _ _⟩
theorem p_min {a b : Int} : PrimN prog w T k (fun vs => call (.builtin "min") vs) [.int a, .int b] (.int (min a b)) := .mk fun A I s vs hR _ hI r E => by
  obtain ⟨v, u, rfl, rv, ru⟩ := r.two
  obtain ⟨t, rfl⟩ := rv.of_int
  obtain ⟨t', rfl⟩ := ru.of_int
  refine min_two_ints hR.handled fun h' tk hk => ⟨I, Ext.heap hI hk, ?_⟩
  by_cases h : b < a
  · rw [if_pos h, show min a b = b by omega]; exact .int _ _
  · rw [if_neg h, show min a b = a by omega]; exact .int _ _
/-- a list of ints -/
noncomputable def intsD (ns : List Int) : D := .lst (ns.map .int)
theorem reps_ints {I : Imm} : ∀ {ns : List Int} {vs : List Value}, Reps I vs (ns.map .int) → IntsAre vs ns
  | [], vs, r => by
    have : vs = [] := List.length_eq_zero_iff.mp (by simpa using r.1)
    subst this; exact .nil
  | n :: ns, vs, r => by
    match vs, r with
    | [], r => have := r.1; simp at this
    | v :: vs, r =>
      obtain ⟨t, rfl⟩ := (r.2 0 v (.int n) rfl rfl).of_int
      exact .cons n t (reps_ints ⟨by simpa using r.1, fun i a b p q => r.2 (i + 1) a b (by simpa using p) (by simpa using q)⟩)
theorem ints_reps {I : Imm} {vs : List Value} {ns : List Int} (h : IntsAre vs ns) : Reps I vs (ns.map .int) := by
  induction h with
  | nil => exact Reps.nil
  | cons n t _ ih => exact Reps.cons (.int _ _) ih
theorem p_in_list {n : Int} {ns : List Int} : Prim2 prog w T k (compareOp .In) (.int n) (intsD ns) (.bool (ns.any (· == n))) := .mk fun A I s v₁ v₂ _ _ hI r₁ r₂ E => by
  obtain ⟨t, rfl⟩ := r₁.of_int
  obtain ⟨a, us, rfl, h1, h2⟩ := Rep.isList r₂ hI
  exact in_list_ints (vs := us.toList) (by simpa using h1) (reps_ints h2) ⟨I, Ext.refl hI, .bool _⟩
theorem p_bytes_list {ns : List Int} (hr : ∀ n ∈ ns, 0 ≤ n ∧ n < 256) (hl : ns.length ≤ 16777216) : PrimN prog w T k (fun vs => call (.type "bytes") vs) [intsD ns] (.bytes (byteArr ns)) := .mk fun A I s vs hR _ hI r E => by
  obtain ⟨v, rfl, rv⟩ := r.one
  obtain ⟨a, us, rfl, h1, h2⟩ := Rep.isList rv hI
  have hi := reps_ints h2
  refine call_bytes_ints (vs := us.toList) (by simpa using h1) hi hr (by rw [hi.length, sizeLine_eq]; exact hl) hR.handled fun h' t tk hk => ⟨I, Ext.heap hI hk, .bytes _ _⟩
/-- the greatest of a list -/
theorem p_max {ns : List Int} {M : Int} (hM : M ∈ ns) (hle : ∀ a ∈ ns, a ≤ M) : PrimN prog w T k (fun vs => call (.builtin "max") vs) [intsD ns] (.int M) := .mk fun A I s vs hR _ hI r E => by
  obtain ⟨v, rfl, rv⟩ := r.one
  obtain ⟨a, us, rfl, h1, h2⟩ := Rep.isList rv hI
  have hi := reps_ints h2
  obtain ⟨xs, e⟩ := hi.allInts.items
  have hns : ns = xs.toList.map (·.1) := by rw [← hi.numsOf, ← nums_intItems, ← e]
  have hsz : 0 < xs.size := by
    have h3 : 0 < ns.length := List.length_pos_of_mem hM
    rw [hns, List.length_map, Array.length_toList] at h3; exact h3
  have h1' : s.heap.IsList a (intItems xs) := by rw [← e]; exact h1
  refine max_intList hR.handled h1' hsz fun v h' tk hv hk => ?_
  obtain ⟨t, rfl⟩ := intItems_at hv
  obtain ⟨g1, g2⟩ := argBest_gt (numAt xs) (xs.size - 1)
  have hmem : numAt xs (argBest (fun i j => decide (numAt xs i > numAt xs j)) (xs.size - 1)) ∈ ns := by
    rw [hns, numAt_eq]; exact getD_mem (by rw [List.length_map, Array.length_toList]; omega)
  have hge : M ≤ numAt xs (argBest (fun i j => decide (numAt xs i > numAt xs j)) (xs.size - 1)) := by
    have hM' := hM
    rw [hns] at hM'
    obtain ⟨j, hj, rfl⟩ := mem_getD hM'
    rw [List.length_map, Array.length_toList] at hj
    rw [← numAt_eq]; exact g2 j (by omega)
  have : numAt xs (argBest (fun i j => decide (numAt xs i > numAt xs j)) (xs.size - 1)) = M := Int.le_antisymm (hle _ hmem) hge
  rw [this]
  exact ⟨I, Ext.heap hI hk, .int _ _⟩
theorem p_list_rng {a b c : Int} {n : Nat} (hs : Builtin.Range.small a b c = true) (hn : Builtin.Range.rangeSize a b c = n) (hl : n ≤ 2 ^ 24) : PrimN prog w T k (fun vs => call (.type "list") vs) [.rng a b c] (.lst (rangeD a n c)) := .mk fun A I s vs hR _ hI r E => by
  obtain ⟨v, rfl, rv⟩ := r.one
  cases rv with
  | rng q =>
    refine call_list_range hR.handled (hI _ _ q) hs hn hl fun h' tk acc c' hk ho hit => ⟨_, Ext.new hI hk (get_size _) ho, Rep.mk_lst (Imm.add_self _ _ _) rfl rfl ⟨?_, fun i v d h1 h2 => ?_⟩⟩
    · simp [rangeD, hit.1]
    · have h1' : acc[i]? = some v := by simpa using h1
      obtain ⟨t, rfl⟩ := hit.2 i v h1'
      have : d = .int (a + i * c) := by
        simp only [rangeD, List.getElem?_map] at h2
        obtain ⟨j, hj, rfl⟩ := Option.map_eq_some_iff.mp h2
        have := List.getElem?_range (n := n) (i := j)
        have hji : j = i := by
          have hlt := (List.getElem?_eq_some_iff.mp hj).1
          have := (List.getElem?_eq_some_iff.mp hj).2
          simpa using this.symm
        rw [hji]
      rw [this]; exact .int _ _
/-- isinstance(b, bytes) -/
theorem p_isinst_bytes {b : Array UInt8} : PrimN prog w T k (fun vs => call (.builtin "isinstance") vs) [.bytes b, .raw (.type "bytes")] (.bool true) := .mk fun A I s vs _ _ hI r E => by
  obtain ⟨v, u, rfl, rv, ru⟩ := r.two
  obtain ⟨t, rfl⟩ := rv.of_bytes
  obtain rfl := ru.of_raw
  exact call_isinstance (isinstance_true (Tx := "bytes") F.isi_meta_bytes F.sub_bytes_bytes) ⟨rfl, I, Ext.refl hI, .bool _⟩
/-! adding -/
theorem new_lst {I : Imm} {s : Shared} (hI : ∀ b o, I b = some o → s.heap.get? b = some o) {vs : Array Value} {ds : List D} (r : Reps I vs.toList ds) (tk : Nat) :
    ∃ I', Ext I s I' { s with heap := s.heap.push { cls := .type "list", data := .seq vs }, toks := tk } ∧ Rep I' (.ref s.heap.objs.size) (.lst ds) := by
  have x := Ext.new (tk := tk) hI (fun b o e => Heap.get?_push_of_some (h := s.heap) { cls := .type "list", data := .seq vs } e) (get_size _) (Heap.get?_push_size _ rfl)
  exact ⟨_, x, Rep.mk_lst (Imm.add_self _ _ _) rfl rfl (r.mono x.ge)⟩
theorem Reps.append {I : Imm} {vs us : List Value} {ds es : List D} (r : Reps I vs ds) (q : Reps I us es) : Reps I (vs ++ us) (ds ++ es) := by
  refine ⟨by simp [r.1, q.1], fun i v d a b => ?_⟩
  have hl := r.1
  by_cases hi : i < vs.length
  · rw [List.getElem?_append_left hi] at a
    rw [List.getElem?_append_left (by omega)] at b
    exact r.2 i v d a b
  · rw [List.getElem?_append_right (by omega)] at a
    rw [List.getElem?_append_right (by omega)] at b
    rw [hl] at a
    exact q.2 _ v d a b
theorem p_add_lst {l m : List D} (hl : l.length + m.length ≤ 16777216) : Prim2 prog w T k (binaryOp .Add) (.lst l) (.lst m) (.lst (l ++ m)) := .mk fun A I s v₁ v₂ _ _ hI r₁ r₂ E => by
  obtain ⟨a, o, vs, n, rfl, h1, h2, h3, h4⟩ := r₁.of_lst
  obtain ⟨a', o', vs', n', rfl, h1', h2', h3', h4'⟩ := r₂.of_lst
  obtain ⟨cls, dd, data, sl⟩ := o
  obtain ⟨cls', dd', data', sl'⟩ := o'
  simp only at h2 h3 h2' h3'
  subst h2 h3 h2' h3'
  have e1 : vs.size = l.length := by simpa using h4.1
  have e2 : vs'.size = m.length := by simpa using h4'.1
  refine concat_meets ⟨_, hI _ _ h1, rfl⟩ ⟨_, hI _ _ h1', rfl⟩ noFill_list_add seq_list_add PySem.F.slot_list_add PySem.F.entry_list_add (PySem.F.args_list_add_2 _ _) (list_addW a a' vs vs' n n' dd dd' sl sl' (by rw [e1, e2, sizeLine_eq]; exact hl)) ⟨hI _ _ h1, hI _ _ h1', ?_⟩
  exact new_lst hI (by rw [Array.toList_append]; exact h4.append h4') _
theorem p_add_str {x y : Str} (hl : x.length + y.length ≤ 16777216) : Prim2 prog w T k (binaryOp .Add) (.str x) (.str y) (.str (x ++ y)) := .mk fun A I s v₁ v₂ _ _ hI r₁ r₂ E => by
  obtain ⟨t, rfl⟩ := r₁.of_str
  obtain ⟨u, rfl⟩ := r₂.of_str
  exact SB.add (fun t' k' => ⟨I, Ext.tok hI _, .str _ _⟩) (by rw [sizeLine_eq]; exact hl)
theorem p_add_bytes {x y : Array UInt8} (hl : x.size + y.size ≤ 16777216) : Prim2 prog w T k (binaryOp .Add) (.bytes x) (.bytes y) (.bytes (x ++ y)) := .mk fun A I s v₁ v₂ _ _ hI r₁ r₂ E => by
  obtain ⟨t, rfl⟩ := r₁.of_bytes
  obtain ⟨u, rfl⟩ := r₂.of_bytes
  exact KBy.add_bytes hl (fun t' k' => ⟨I, Ext.tok hI _, .bytes _ _⟩)
end
end Mine
end

section
open PySem PySem.W PyProof.Rows
namespace Mine

noncomputable def relabelSc (scope sc : Scope) : Scope :=
  { scope with names := scope.names.map fun (n, k) => if (k == .free && sc.kind == .function && sc.names.lookup n == some .cell) then (n, .cell) else (n, k) }
theorem relabel_eq {scope sc : Scope} {env : Env} (h : env.scope = sc) : relabel scope env = relabelSc scope sc := by
  unfold relabel relabelSc Env.kindOf; rw [h]

/-- the cells that a comprehension takes over -/
noncomputable def closOf (env : Env) : List (Str × NameKind) → List (Str × Addr) → List (Str × Addr)
  | [], acc => acc
  | (n, k) :: r, acc => if k == .free then closOf env r ((n, (env.cells.lookup n).getD 0) :: acc) else closOf env r acc
theorem closureFor_eq {scope : Scope} {env : Env} (h : ∀ x ∈ scope.names, x.2 = .free → (env.cells.lookup x.1).isSome = true) : closureFor scope env = pure (closOf env scope.names []) := by
  unfold closureFor
  have key : ∀ (l : List (Str × NameKind)) (acc : List (Str × Addr)), (∀ x ∈ l, x.2 = .free → (env.cells.lookup x.1).isSome = true) →
      (forIn l acc fun x r => match x with | (name, kind) => (if (kind == NameKind.free) = true then do let a ← cellOf env name; pure (ForInStep.yield ((name, a) :: r)) else pure (ForInStep.yield r) : Sem (ForInStep (List (Str × Addr))))) = pure (closOf env l acc) := by
    intro l
    induction l with
    | nil => intro acc _; rfl
    | cons x l ih =>
      intro acc hl
      obtain ⟨n, kd⟩ := x
      rw [List.forIn_cons]
      by_cases hk : (kd == NameKind.free) = true
      · have hs := hl (n, kd) List.mem_cons_self (by simpa using hk)
        obtain ⟨c, hc⟩ := Option.isSome_iff_exists.mp hs
        simp only [hk, if_true, closOf, hc, Option.getD_some]
        unfold cellOf
        simp only at hc
        rw [hc]
        exact ih _ fun y hy => hl y (List.mem_cons_of_mem _ hy)
      · simp only [hk, if_false, closOf]
        exact ih _ fun y hy => hl y (List.mem_cons_of_mem _ hy)
  have := key scope.names [] h
  simp only at this ⊢
  rw [this]
  rfl
theorem closOf_mem {env : Env} : ∀ {l : List (Str × NameKind)} {acc : List (Str × Addr)} {n : Str} {c : Addr}, (n, c) ∈ closOf env l acc → (n, c) ∈ acc ∨ ((n, NameKind.free) ∈ l ∧ c = (env.cells.lookup n).getD 0)
  | [], acc, n, c, h => .inl h
  | (m, kd) :: r, acc, n, c, h => by
    unfold closOf at h
    split at h
    · rename_i hk
      rcases closOf_mem h with q | ⟨q, q'⟩
      · rcases List.mem_cons.mp q with e | e
        · cases e
          have : kd = .free := by simpa using hk
          subst this
          exact .inr ⟨List.mem_cons_self, rfl⟩
        · exact .inl e
      · exact .inr ⟨List.mem_cons_of_mem _ q, q'⟩
    · rcases closOf_mem h with q | ⟨q, q'⟩
      · exact .inl q
      · exact .inr ⟨List.mem_cons_of_mem _ q, q'⟩
theorem closOf_acc {env : Env} {n : Str} {c : Addr} : ∀ {l : List (Str × NameKind)} {acc : List (Str × Addr)}, (n, c) ∈ acc → (n, c) ∈ closOf env l acc
  | [], _, h => h
  | (m, kd) :: r, acc, h => by
    unfold closOf
    split
    · exact closOf_acc (List.mem_cons_of_mem _ h)
    · exact closOf_acc h
theorem closOf_has {env : Env} {n : Str} : ∀ {l : List (Str × NameKind)} {acc : List (Str × Addr)}, (n, NameKind.free) ∈ l → (n, (env.cells.lookup n).getD 0) ∈ closOf env l acc
  | (m, kd) :: r, acc, h => by
    unfold closOf
    rcases List.mem_cons.mp h with e | e
    · cases e
      simp only [beq_self_eq_true, if_true]
      exact closOf_acc List.mem_cons_self
    · split
      · exact closOf_has e
      · exact closOf_has e
theorem cellsFrom_split : ∀ (names : List (Str × NameKind)) (n : Nat) (acc : List (Str × Addr)), cellsFrom n names acc = cellsFrom n names [] ++ acc
  | [], n, acc => rfl
  | (x, kd) :: r, n, acc => by
    unfold cellsFrom
    split
    · rw [cellsFrom_split r (n + 1) ((x, n) :: acc), cellsFrom_split r (n + 1) [(x, n)]]; simp
    · exact cellsFrom_split r n acc
theorem lookup_some_of_mem {α : Type} : ∀ {l : List (Str × α)} {n : Str} {c : α}, (n, c) ∈ l → ∃ c', l.lookup n = some c' ∧ (n, c') ∈ l
  | (k, v) :: r, n, c, h => by
    rw [List.lookup_cons]
    cases hb : n == k with
    | true => exact ⟨v, rfl, by rw [beq_iff_eq.mp hb]; exact List.mem_cons_self⟩
    | false =>
      rcases List.mem_cons.mp h with e | e
      · cases e; simp at hb
      · obtain ⟨c', h1, h2⟩ := lookup_some_of_mem e
        exact ⟨c', h1, List.mem_cons_of_mem _ h2⟩
theorem lookup_append {α : Type} : ∀ {l m : List (Str × α)} {n : Str}, (l ++ m).lookup n = (l.lookup n).or (m.lookup n)
  | [], m, n => rfl
  | (k, v) :: r, m, n => by
    rw [List.cons_append, List.lookup_cons, List.lookup_cons]
    cases n == k with
    | true => rfl
    | false => exact lookup_append

/-- what a comprehension's own frame starts from: its own names unbound, the names taken over -/
structure CapOk (F : FnCx) (ρ : List (Option B)) (scope : Scope) (F' : FnCx) (own : List Str) (caps : List (Str × D)) : Prop where
  sc : F'.sc = relabelSc scope F.sc
  vars : F'.vars = own ++ caps.map (·.1)
  kind : scope.kind = .function
  free : ∀ x ∈ scope.names, x.2 = .free → x.1 ∈ caps.map (·.1)
  cap : ∀ (y : Str) (d : D), (y, d) ∈ caps → (∃ i : Nat, F.vars[i]? = some y ∧ ρ[i]? = some (some (B.imm d))) ∧ F.sc.names.lookup y = some .cell ∧ F'.sc.names.lookup y = some .cell ∧ (y, NameKind.free) ∈ scope.names ∧ ∀ n : Nat, (cellsFrom n scope.names []).lookup y = none
  cown : ∀ x ∈ F'.own, ∀ n : Nat, ((cellsFrom n scope.names []).lookup x).isSome = true
noncomputable def rho0 (own : List Str) (caps : List (Str × D)) : List (Option B) := own.map (fun _ => none) ++ caps.map fun c => some (.imm c.2)

theorem BRep.of_imm {I : Imm} {s₀ s : Shared} {v : Value} {d : D} (r : BRep I s₀ s v (.imm d)) : Rep I v d := by
  generalize hb : B.imm d = b at r
  cases r with
  | imm r => cases hb; exact r
  | own => cases hb
  | bya => cases hb

section
variable {prog : Program} {w : World} {T : Imm} {F F' : FnCx} {k : Nat} {ρ : List (Option B)}

theorem free_cell {env : Env} {s₀ : Shared} {I₀ I : Imm} {s : Shared} {scope : Scope} {own : List Str} {caps : List (Str × D)} (R : EnvRep T F env s₀ I₀ I ρ s) (C : CapOk F ρ scope F' own caps) {y : Str} {d : D} (h : (y, d) ∈ caps) :
    ∃ c v, env.cells.lookup y = some c ∧ s.heap.IsCell c (some v) ∧ Rep I v d := by
  obtain ⟨⟨i, h1, h2⟩, h3, _⟩ := C.cap y d h
  obtain ⟨m, cm, val, hn, hc, hv, hw⟩ := R.fr
  obtain ⟨⟨x, hx, f⟩, r⟩ := hv i _ h2
  obtain rfl : y = x := Option.some.inj (h1.symm.trans hx)
  have hk : env.kindOf y = some .cell := (R.kindOf y).trans h3
  cases f with
  | loc g _ => rw [hk] at g; cases g
  | free g _ _ _ => rw [hk] at g; cases g
  | @cell c g1 g2 g3 =>
    exact ⟨c, val i, g2, by rw [← g3]; exact hc _ _ g2, r.of_imm⟩

/-- the frame of a comprehension -/
theorem comp_enter {env : Env} {s₀ : Shared} {I₀ I : Imm} {s₁ s : Shared} {scope : Scope} {own : List Str} {caps : List (Str × D)} (R : EnvRep T F env s₀ I₀ I ρ s₁) (C : CapOk F ρ scope F' own caps) (x : Ext I s₁ I s) {A : Around} {E} {Q : Env → Shared → Prop}
    (hQ : ∀ cenv h', EnvRep T F' { cenv with scope := relabel scope env } s₁ I I (rho0 own caps) { s with heap := h' } → (∀ b o, s.heap.get? b = some o → h'.get? b = some o) → s.heap.get? cenv.locals = none → Q cenv { s with heap := h' }) :
    wpAny (model prog w) A (newFunctionEnv scope env.globals (closOf env scope.names []) [] env.qual none .none (some env)) Q E s := by
  have hrel : relabel scope env = F'.sc := (relabel_eq R.scope).trans C.sc.symm
  simp only [newFunctionEnv, Option.isSome_some, if_true]
  refine wpAny_bind (wpAny_alloc ?_)
  refine wpAny_bind (wpAny_layCells _ (fun name kind cells => by cases hkc : kind == NameKind.cell <;> simp) _ _ _ _ ?_)
  have ok := cellsFrom_ok scope.names (s.heap.push { cls := .type "dict", data := .dict #[] }) (s.heap.objs.size + 1) [] ⟨fun _ _ hm => (nomatch hm), List.Pairwise.nil⟩ (by rw [Heap.size_push]; exact Nat.le_refl _)
  rw [Heap.size_push] at ok
  rw [show ({ s with heap := s.heap.push { cls := .type "dict", data := .dict #[] } } : Shared).heap.objs.size = s.heap.objs.size + 1 from Heap.size_push ..]
  rw [cellsFrom_split]
  generalize hown : cellsFrom (s.heap.objs.size + 1) scope.names [] = oc at ok
  refine wpAny_bind (wpAny_pure (wpAny_pure ?_))
  have hk : ∀ b o, s.heap.get? b = some o → (pushCells (s.heap.push { cls := .type "dict", data := .dict #[] }) scope.names).get? b = some o := fun b o e => pushCells_keeps _ _ b o (Heap.get?_push_of_some _ e)
  have hnone : ∀ c, s.heap.objs.size ≤ c → s.heap.get? c = none := fun c hc => by
    cases e : s.heap.get? c with
    | none => rfl
    | some o => exact absurd (Heap.lt_size e) (Nat.not_lt.mpr hc)
  have hn1 : ∀ c, s.heap.get? c = none → s₁.heap.get? c = none := fun c hc => by
    cases e : s₁.heap.get? c with
    | none => rfl
    | some o => rw [x.keep _ _ e] at hc; cases hc
  have hI : ∀ c, s.heap.get? c = none → I c = none := fun c hc => by
    cases e : I c with
    | none => rfl
    | some o => rw [x.imm _ _ e] at hc; cases hc
  -- the cells taken over
  have hclo : ∀ n c, (n, c) ∈ closOf env scope.names [] → env.cells.lookup n = some c ∧ ∃ d, (n, d) ∈ caps := fun n c h => by
    rcases closOf_mem h with q | ⟨q, q'⟩
    · cases q
    · obtain ⟨⟨y, d⟩, hm, hy⟩ := List.mem_map.mp (C.free _ q rfl)
      simp only at hy
      subst hy
      obtain ⟨c', v, e1, e2, e3⟩ := free_cell R C hm
      rw [e1] at q'
      simp only [Option.getD_some] at q'
      exact ⟨by rw [q']; exact e1, d, hm⟩
  have hoc : ∀ n c, oc.lookup n = some c → s.heap.objs.size + 1 ≤ c := fun n c h => (ok.empty n c (mem_of_lookup h)).2
  have hlk : ∀ n c, (oc ++ closOf env scope.names []).lookup n = some c → oc.lookup n = some c ∨ (oc.lookup n = none ∧ env.cells.lookup n = some c) := fun n c h => by
    rw [lookup_append] at h
    cases e : oc.lookup n with
    | some c' => rw [e] at h; exact .inl h
    | none => rw [e] at h; exact .inr ⟨rfl, (hclo n c (mem_of_lookup h)).1⟩
  obtain ⟨m, cm, val, hn, hc, hv, hw⟩ := R.fr
  have xk := Ext.heap (tk := s.toks) x.imm hk
  refine hQ _ _ ⟨x.trans xk, hrel, by rw [hrel, C.sc]; exact C.kind, R.glob, R.blt, R.top, hn1 _ (hnone _ (Nat.le_refl _)), hI _ (hnone _ (Nat.le_refl _)), fun n c h => ?_, fun n n' c h h' => ?_, fun n h => ?_, fun _ => none,
    fun n => if (oc.lookup n).isSome then none else cm n, fun i => ((caps[i - own.length]?).bind fun y => cm y.1).getD .none, ?_, fun n c h => ?_, fun i b hb => ?_, fun i j b c h1 h2 o1 => ?_⟩ hk (hnone _ (Nat.le_refl _))
  · rcases hlk n c h with q | ⟨_, q⟩
    · exact hI _ (hnone _ (Nat.le_of_succ_le (hoc n c q)))
    · exact R.cI n c q
  · have old : ∀ n c, env.cells.lookup n = some c → c < s.heap.objs.size := fun n c q => by
      obtain ⟨o, g, _⟩ := hc n c q
      exact Heap.lt_size (x.keep _ _ g)
    rcases hlk n c h with q | ⟨_, q⟩ <;> rcases hlk n' c h' with q' | ⟨_, q'⟩
    · exact name_of_addr ok.apart (mem_of_lookup q) (mem_of_lookup q')
    · exact absurd (old _ _ q') (Nat.not_lt.mpr (Nat.le_of_succ_le (hoc n c q)))
    · exact absurd (old _ _ q) (Nat.not_lt.mpr (Nat.le_of_succ_le (hoc n' c q')))
    · exact R.cap n n' c q q'
  · obtain ⟨c, hcc⟩ := Option.isSome_iff_exists.mp (C.cown n h (s.heap.objs.size + 1))
    rw [hown] at hcc
    refine ⟨c, ?_, hn1 _ (hnone _ (Nat.le_of_succ_le (hoc n c hcc)))⟩
    show (oc ++ _).lookup n = some c
    rw [lookup_append, hcc]; rfl
  · exact (Heap.Ns.new s.heap (.type "dict")).keeps (pushCells_keeps _ _)
  · rcases hlk n c h with q | ⟨q0, q⟩
    · simp only [q, Option.isSome_some, if_true]; exact (ok.empty n c (mem_of_lookup q)).1
    · simp only [q0, Option.isSome_none, Bool.false_eq_true, if_false]
      exact (hc n c q).keeps fun b o e => hk b o (x.keep b o e)
  · have hi : ¬ i < own.length := fun hlt => by
      rw [rho0, List.getElem?_append_left (by simpa using hlt), List.getElem?_map] at hb
      cases e : own[i]? with
      | none => rw [e] at hb; cases hb
      | some _ => rw [e] at hb; cases hb
    have hb' := hb
    rw [rho0, List.getElem?_append_right (by simpa using Nat.le_of_not_lt hi), List.length_map, List.getElem?_map] at hb'
    obtain ⟨⟨y, d⟩, hy, he⟩ := Option.map_eq_some_iff.mp hb'
    obtain rfl : b = .imm d := by cases he; rfl
    have hm : (y, d) ∈ caps := List.mem_of_getElem? hy
    obtain ⟨⟨i', g1, g2⟩, g3, g4, g5, g6⟩ := C.cap y d hm
    obtain ⟨⟨y', hy', f⟩, r⟩ := hv i' _ g2
    obtain rfl : y = y' := Option.some.inj (g1.symm.trans hy')
    have hkc : env.kindOf y = some .cell := (R.kindOf y).trans g3
    have hval : (fun i : Nat => ((caps[i - own.length]?).bind fun y => cm y.1).getD Value.none) i = (cm y).getD .none := by simp only [hy, Option.bind_some]
    rw [hval]
    cases f with
    | loc g _ => rw [hkc] at g; cases g
    | free g _ _ _ => rw [hkc] at g; cases g
    | @cell c f1 f2 f3 =>
      rw [f3]
      simp only [Option.getD_some]
      have hocn : oc.lookup y = none := by rw [← hown]; exact g6 _
      refine ⟨⟨y, ?_, .cell (c := c) ?_ ?_ ?_⟩, .imm r.of_imm⟩
      · rw [C.vars, List.getElem?_append_right (Nat.le_of_not_lt hi), List.getElem?_map, hy]; rfl
      · show List.lookup y (relabel scope env).names = _
        rw [hrel]; exact g4
      · show (oc ++ closOf env scope.names []).lookup y = some c
        rw [lookup_append, hocn]
        obtain ⟨c', q1, q2⟩ := lookup_some_of_mem (closOf_has (env := env) (acc := []) g5)
        have := (hclo y c' q2).1
        rw [f2] at this
        cases this
        exact q1
      · simp only [hocn, Option.isSome_none, Bool.false_eq_true, if_false]; exact f3
  · exfalso
    have hi : ¬ i < own.length := fun hlt => by
      rw [rho0, List.getElem?_append_left (by simpa using hlt), List.getElem?_map] at h1
      cases e : own[i]? with
      | none => rw [e] at h1; cases h1
      | some _ => rw [e] at h1; cases h1
    rw [rho0, List.getElem?_append_right (by simpa using Nat.le_of_not_lt hi), List.length_map, List.getElem?_map] at h1
    obtain ⟨⟨y, d⟩, hy, he⟩ := Option.map_eq_some_iff.mp h1
    obtain rfl : b = .imm d := by cases he; rfl
    cases o1
end
end Mine
end

section
open PySem PySem.W PyProof.Rows
namespace Mine

noncomputable def noOwned (ρ : List (Option B)) : Prop := ∀ (j : Nat) (c : B), ρ[j]? = some (some c) → c.owned = false

/-- a comprehension's turn, the last clause -/
noncomputable def TurnLast (e : PySem.Expr) (depth : Nat) (elt target iter : PySem.Expr) (ifs : List PySem.Expr) : Prop :=
  ∀ (it acc : Value) (env : Env), compTurn e depth it acc env = (do
    standAt iter.pos
    match ← pyNext it with
    | none => pure (.done .next)
    | some v =>
      letOwnedTupleGo target it v
      assign target env v
      let ok ← forIn ifs true fun c r => if r = true then do let ok ← isTrue c env (eval c env); pure (ForInStep.yield ok) else pure (ForInStep.yield r)
      if ok then
        (do let _ ← call (.builtin "list.append") [acc, ← eval elt env])
      again (.compLoop e depth it acc env))
theorem turnLast1 (elt target iter : PySem.Expr) (ifs : List PySem.Expr) (scope : Scope) (pos : Pos) : TurnLast (.ListComp elt [⟨target, iter, ifs, 0⟩] scope pos) 0 elt target iter ifs := fun it acc env => by rfl
theorem turnLast2 (elt target iter : PySem.Expr) (g : Comprehension) (scope : Scope) (pos : Pos) : TurnLast (.ListComp elt [g, ⟨target, iter, [], 0⟩] scope pos) 1 elt target iter [] := fun it acc env => by rfl
noncomputable def TurnOuter (e : PySem.Expr) (target iter target₂ iter₂ : PySem.Expr) : Prop :=
  ∀ (it acc : Value) (env : Env), compTurn e 0 it acc env = (do
    standAt iter.pos
    match ← pyNext it with
    | none => pure (.done .next)
    | some v =>
      letOwnedTupleGo target it v
      assign target env v
      let x ← eval iter₂ env
      standAt iter₂.pos
      let x ← foldedSetIterable iter₂ env x
      let _ ← runOwn (.compStart e 1 (← holding [x] (pyIter x)) acc env) env
      again (.compLoop e 0 it acc env))
theorem turnOuter (elt target iter target₂ iter₂ : PySem.Expr) (scope : Scope) (pos : Pos) : TurnOuter (.ListComp elt [⟨target, iter, [], 0⟩, ⟨target₂, iter₂, [], 0⟩] scope pos) target iter target₂ iter₂ := fun it acc env => by rfl

/-- the tests of a clause: none, or one -/
inductive Trs (prog : Program) (w : World) (T : Imm) (F : FnCx) (k : Nat) (ρ : List (Option B)) : List PySem.Expr → Bool → Prop where
  | none : Trs prog w T F k ρ [] true
  | one {c : PySem.Expr} {b : Bool} : Tr prog w T F k ρ c b → Trs prog w T F k ρ [c] b

section
variable {prog : Program} {w : World} {T : Imm} {F : FnCx} {k : Nat} {ρ : List (Option B)}

theorem Trs.wp {ifs : List PySem.Expr} {b : Bool} (h : Trs prog w T F k ρ ifs b) {A : Around} {env : Env} {s₀ : Shared} {I₀ I : Imm} {s : Shared} (hR : RoomN k A) (R : EnvRep T F env s₀ I₀ I ρ s) (E) :
    wpAny (model prog w) A (forIn ifs true fun c r => if r = true then do let ok ← isTrue c env (eval c env); pure (ForInStep.yield ok) else pure (ForInStep.yield r)) (fun c s' => c = b ∧ ∃ I', Ext I s I' s') E s := by
  cases h with
  | none => exact wpAny_tests_nil ⟨rfl, I, Ext.refl R.imm⟩
  | one h => exact wpAny_tests_one (h.go A env s₀ I₀ I s hR R E)

/-- a list that is no name's grows -/
theorem EnvRep.accum {env : Env} {s₀ : Shared} {I₀ I : Imm} {s : Shared} (R : EnvRep T F env s₀ I₀ I ρ s) (hno : noOwned ρ) {p : Addr} {o : Obj} (hp : s.heap.get? p = some o) (ho : ∃ vs n, o.data = .seq vs n) (hpI : I p = none) (hp0 : s₀.heap.get? p = none) {h' : Heap} {tk : Nat}
    (hk : ∀ b o, b ≠ p → s.heap.get? b = some o → h'.get? b = some o) : EnvRep T F env s₀ I₀ I ρ { s with heap := h', toks := tk } := by
  obtain ⟨vs, n, hd⟩ := ho
  obtain ⟨m, cm, val, ⟨oL, es, ep, hL, hdL, hr⟩, hc, hv, hw⟩ := R.fr
  refine ⟨ext_same R hpI hp0 hk, R.scope, R.kind, R.glob, R.blt, R.top, R.lnew, R.lI, R.cI, R.cap, R.cown, m, cm, val, ⟨oL, es, ep, hk _ _ ?_ hL, hdL, hr⟩, fun x c e => ?_, fun i b h2 => ⟨(hv i b h2).1, ?_⟩, hw⟩
  · intro e
    rw [e, hp] at hL
    obtain rfl := Option.some.inj hL
    rw [hd] at hdL; cases hdL
  · obtain ⟨oc, h1, h2⟩ := hc x c e
    refine ⟨oc, hk _ _ ?_ h1, h2⟩
    intro q
    rw [q, hp] at h1
    obtain rfl := Option.some.inj h1
    rw [hd] at h2; cases h2
  · have hb := hno i b h2
    have r := (hv i b h2).2
    generalize val i = v at r
    cases r with
    | imm r => exact .imm r
    | own => cases hb
      | bya => cases hb

/-- the list that a comprehension fills -/
structure AccAt (s₀ : Shared) (I : Imm) (s : Shared) (ac : Addr) (l : List D) : Prop where
  ex : ∃ vs n, s.heap.get? ac = some { cls := .type "list", data := .seq vs n } ∧ Reps I vs.toList l
  imm : I ac = none
  new : s₀.heap.get? ac = none
theorem AccAt.mono {s₀ s s' : Shared} {I I' : Imm} {ac : Addr} {l : List D} (x : AccAt s₀ I s ac l) (e : Ext I s I' s') : AccAt s₀ I' s' ac l := by
  obtain ⟨vs, n, h1, h2⟩ := x.ex
  exact ⟨⟨vs, n, e.keep _ _ h1, h2.mono e.ge⟩, (e.old _ _ h1).trans x.imm, x.new⟩
theorem AccAt.stays {s₀ s s' : Shared} {I : Imm} {ac : Addr} {l : List D} (x : AccAt s₀ I s ac l) (e : Stays s s') : AccAt s₀ I s' ac l := by
  obtain ⟨vs, n, h1, h2⟩ := x.ex
  exact ⟨⟨vs, n, e _ _ h1 (fun _ _ q => by cases q) (fun _ q => by cases q), h2⟩, x.imm, x.new⟩
theorem AccAt.but {s₀ s : Shared} {I : Imm} {ac it : Addr} {l : List D} (x : AccAt s₀ I s ac l) {o : Obj} (hit : s.heap.get? it = some o) (ho : ∃ vs, o.data = .fields vs) {h' : Heap} {tk : Nat} (hk : ∀ b o, b ≠ it → s.heap.get? b = some o → h'.get? b = some o) : AccAt s₀ I { s with heap := h', toks := tk } ac l := by
  obtain ⟨vs, n, h1, h2⟩ := x.ex
  refine ⟨⟨vs, n, hk _ _ ?_ h1, h2⟩, x.imm, x.new⟩
  rintro rfl
  rw [h1] at hit
  obtain rfl := Option.some.inj hit
  obtain ⟨_, q⟩ := ho
  cases q

/-- the iterator of a clause -/
structure ItAt (s₀ : Shared) (I : Imm) (s : Shared) (it : Addr) (ds : List D) : Prop where
  ex : ∃ o, s.heap.get? it = some o ∧ IterObj I o ds
  imm : I it = none
  new : s₀.heap.get? it = none
theorem ItAt.mono {s₀ s s' : Shared} {I I' : Imm} {it : Addr} {ds : List D} (x : ItAt s₀ I s it ds) (e : Ext I s I' s') : ItAt s₀ I' s' it ds := by
  obtain ⟨o, h1, h2⟩ := x.ex
  exact ⟨⟨o, e.keep _ _ h1, h2.mono e.ge⟩, (e.old _ _ h1).trans x.imm, x.new⟩
theorem ItAt.kept {s₀ s s' : Shared} {I I' : Imm} {it : Addr} {ds : List D} (x : ItAt s₀ I s it ds) (e : Kept I s I' s') : ItAt s₀ I' s' it ds := by
  obtain ⟨o, h1, h2⟩ := x.ex
  obtain ⟨g1, g2⟩ := e.keepF _ _ h1 h2.fields
  exact ⟨⟨o, g1, h2.mono e.ge⟩, g2.trans x.imm, x.new⟩

/-- append to the list that is filled -/
theorem acc_push {env : Env} {s₀ : Shared} {I₀ I : Imm} {s : Shared} {ac : Addr} {l : List D} {v : Value} {d : D} (R : EnvRep T F env s₀ I₀ I ρ s) (hno : noOwned ρ) (x : AccAt s₀ I s ac l) (hl : l.length ≤ 16777216) (rv : Rep I v d) {A : Around} {E} {Q : Value → Shared → Prop}
    (hQ : ∀ s', EnvRep T F env s₀ I₀ I ρ s' → AccAt s₀ I s' ac (l ++ [d]) → Kept I s I s' → Q .none s') : wpAny (model prog w) A (call (.builtin "list.append") [.ref ac, v]) Q E s := by
  obtain ⟨vs, n, h1, h2⟩ := x.ex
  refine wpAny_list_append_plain ⟨n, h1⟩ (fun h' ⟨n', hn'⟩ hs => ?_) (by rw [sizeLine_eq]; have := h2.1; simp at this; omega)
  have hk : ∀ b o, b ≠ ac → s.heap.get? b = some o → h'.get? b = some o := fun b o hb e => (hs.2 b hb).trans e
  refine hQ { s with heap := h', toks := s.toks } (R.accum hno h1 ⟨_, _, rfl⟩ x.imm x.new hk) ⟨⟨_, n', hn', by simpa using h2.snoc rv⟩, x.imm, x.new⟩ ⟨fun a o e hf => ⟨hk a o ?_ e, rfl⟩, fun _ _ e => e⟩
  rintro rfl
  rw [h1] at e
  obtain rfl := Option.some.inj e
  obtain ⟨_, q⟩ := hf
  cases q

theorem drop_cons {ds : List D} {i : Nat} {di : D} (hd : ds[i]? = some di) : ds.drop i = di :: ds.drop (i + 1) := by
  rw [List.drop_eq_getElem_cons (List.getElem?_eq_some_iff.mp hd).1]
  congr 1
  exact (List.getElem?_eq_some_iff.mp hd).2

/-- the last clause's loop -/
theorem comp_last {e elt target iter : PySem.Expr} {depth : Nat} {ifs : List PySem.Expr} {it ac : Addr} {env : Env} {s₀ : Shared} {I₀ I : Imm} {s : Shared} {A : Around} {R : Result → Shared → Prop} (hturn : TurnLast e depth elt target iter ifs)
    (hden : ∀ it acc env, (model prog w).den (.compLoop e depth it acc env) = (compTurn e depth it acc env).onRaise (fun x => do noteFrame x env; theTreesLotGoes x))
    (hund : ∀ it acc env, A.under (.compLoop e depth it acc env) = A) (hq : ∀ it acc env, (Code.compLoop e depth it acc env).quiet = true)
    {ds : List D} {l₀ : List D} (J : Nat → List (Option B) → Prop) (res : Nat → List D) (hno : ∀ i ρ, J i ρ → noOwned ρ) (hlen : ∀ i, i ≤ ds.length → (l₀ ++ res i).length ≤ 16777216)
    (step : ∀ i di ρi, ds[i]? = some di → J i ρi → ∃ ρa b, As prog w T F k ρi target di ρa ∧ Trs prog w T F k ρa ifs b ∧ J (i + 1) ρa ∧ (b = false → res (i + 1) = res i) ∧ (b = true → ∃ d, Ev prog w T F k ρa elt d ∧ res (i + 1) = res i ++ [d]))
    (hR : RoomN k A) (h0 : J 0 ρ) (Rn : EnvRep T F env s₀ I₀ I ρ s) (Ac : AccAt s₀ I s ac (l₀ ++ res 0)) (It : ItAt s₀ I s it ds)
    (hend : ∀ I' ρ' s', J ds.length ρ' → EnvRep T F env s₀ I₀ I' ρ' s' → AccAt s₀ I' s' ac (l₀ ++ res ds.length) → (∀ a o, s.heap.get? a = some o → a ≠ it → (∃ vs, o.data = .fields vs) → s'.heap.get? a = some o ∧ I' a = I a) → (∀ a o, I a = some o → I' a = some o) → R (.ok .next) s') :
    codeAny (model prog w) A (.compLoop e depth (.ref it) (.ref ac) env) R s := by
  refine codeAny_loop (hq _ _ _) (fun n s' => ∃ I' ρi i, n = ds.length + 1 - i ∧ i ≤ ds.length ∧ J i ρi ∧ EnvRep T F env s₀ I₀ I' ρi s' ∧ AccAt s₀ I' s' ac (l₀ ++ res i) ∧ ItAt s₀ I' s' it (ds.drop i) ∧
    (∀ a o, s.heap.get? a = some o → a ≠ it → (∃ vs, o.data = .fields vs) → s'.heap.get? a = some o ∧ I' a = I a) ∧ ∀ a o, I a = some o → I' a = some o) ?_ (ds.length + 1)
    ⟨I, ρ, 0, rfl, Nat.zero_le _, h0, Rn, Ac, by simpa using It, fun _ _ e _ _ => ⟨e, rfl⟩, fun _ _ e => e⟩
  rintro n s' ⟨I', ρi, i, rfl, hile, hJ, R', Ac', It', K', G'⟩
  rw [hund]
  rw [hden]
  refine wpAny_noted ?_
  rw [hturn]
  refine wpAny_bind (wpAny_standAt (wpAny_bind ?_))
  obtain ⟨o, ho, io⟩ := It'.ex
  cases hd : ds[i]? with
  | none =>
    have hl : ds.length ≤ i := List.getElem?_eq_none_iff.mp hd
    obtain rfl : i = ds.length := by omega
    rw [List.drop_length] at io
    refine it_nil hR.handled R'.imm ho io fun h' hx => wpAny_pure ?_
    have hk' : ∀ b o, b ≠ it → s'.heap.get? b = some o → h'.get? b = some o := fun b o hb e => hx b o hb e
    exact hend I' ρi { s' with heap := h', toks := s'.toks } hJ (R'.plain ho io.fields It'.imm It'.new hk') (Ac'.but ho io.fields hk') (fun a o e hne hf => ⟨hk' a o hne (K' a o e hne hf).1, (K' a o e hne hf).2⟩) G'
  | some di =>
    rw [drop_cons hd] at io
    refine it_cons R'.imm ho io fun v h' o' tk rv ho' io'' hs => ?_
    have hk' : ∀ b o, b ≠ it → s'.heap.get? b = some o → h'.get? b = some o := fun b o hb e => (hs.2 b hb).trans e
    have R₃ : EnvRep T F env s₀ I₀ I' ρi { s' with heap := h', toks := tk } := R'.plain ho io.fields It'.imm It'.new hk'
    have A₃ : AccAt s₀ I' { s' with heap := h', toks := tk } ac (l₀ ++ res i) := Ac'.but ho io.fields hk'
    have T₃ : ItAt s₀ I' { s' with heap := h', toks := tk } it (ds.drop (i + 1)) := ⟨⟨o', ho', io''⟩, It'.imm, It'.new⟩
    refine wpAny_bind (wp_letOwned ho' io'' ?_)
    obtain ⟨ρa, b, ha, ht, hJ', hf, hb⟩ := step i di ρi hd hJ
    refine wpAny_bind (wpAny_mono (ha.go A env s₀ I₀ I' _ v hR R₃ rv _) (fun _ s₄ ⟨R₄, S₄⟩ => ?_) fun _ _ e => e)
    have K₄ : Kept I' { s' with heap := h', toks := tk } I' s₄ := S₄.kept
    refine wpAny_bind (wpAny_mono (ht.wp hR R₄ _) (fun c s₅ ⟨e₅, I₅, x₅⟩ => ?_) fun _ _ e => e)
    subst e₅
    have hlt : i < ds.length := (List.getElem?_eq_some_iff.mp hd).1
    have K₅ := K₄.trans x₅.kept
    have keep₅ : ∀ a o, s.heap.get? a = some o → a ≠ it → (∃ vs, o.data = .fields vs) → s₅.heap.get? a = some o ∧ I₅ a = I a := fun a o e hne hfl => by
      obtain ⟨g1, g2⟩ := K' a o e hne hfl
      obtain ⟨g3, g4⟩ := K₅.keepF a o (hk' a o hne g1) hfl
      exact ⟨g3, g4.trans g2⟩
    cases c with
    | false =>
      refine wpAny_pure ⟨rfl, ds.length + 1 - (i + 1), by omega, I₅, ρa, i + 1, rfl, by omega, hJ', R₄.mono x₅, ?_, T₃.kept K₅, keep₅, fun a o e => K₅.ge _ _ (G' a o e)⟩
      rw [hf rfl]; exact (A₃.stays S₄).mono x₅
    | true =>
      obtain ⟨d, hev, hres⟩ := hb rfl
      refine wpAny_bind (wpAny_bind (wpAny_mono (hev.go A env s₀ I₀ I₅ s₅ hR (R₄.mono x₅) _) (fun u s₆ ⟨I₆, x₆, ru⟩ => ?_) fun _ _ e => e))
      refine wpAny_bind (acc_push ((R₄.mono x₅).mono x₆) (hno _ _ hJ') (((A₃.stays S₄).mono x₅).mono x₆) (hlen i (by omega)) ru fun s₇ R₇ A₇ K₇ => ?_)
      have K₆ := (K₅.trans x₆.kept).trans K₇
      refine wpAny_pure (wpAny_pure ⟨rfl, ds.length + 1 - (i + 1), by omega, I₆, ρa, i + 1, rfl, by omega, hJ', R₇, ?_, T₃.kept K₆, fun a o e hne hfl => ?_, fun a o e => K₆.ge _ _ (G' a o e)⟩)
      · rw [hres, ← List.append_assoc]; exact A₇
      · obtain ⟨g1, g2⟩ := K' a o e hne hfl
        obtain ⟨g3, g4⟩ := K₆.keepF a o (hk' a o hne g1) hfl
        exact ⟨g3, g4.trans g2⟩
end
end Mine
end

section
open PySem PySem.W PyProof.Rows
namespace Mine
section
variable {prog : Program} {w : World} {T : Imm} {F F' : FnCx} {k : Nat} {ρ : List (Option B)}

theorem comp_start {e : PySem.Expr} {depth : Nat} {it : Addr} {acc : Value} {env : Env} {s₀ : Shared} {I : Imm} {s : Shared} {ds : List D} {A : Around} {R : Result → Shared → Prop}
    (hden : (model prog w).den (.compStart e depth (.ref it) acc env) = (compStart e depth (.ref it) acc env).onRaise (fun x => do noteFrame x env; standAt theWindowsPlace))
    (hund : A.under (.compStart e depth (.ref it) acc env) = A) (hq : (Code.compLoop e depth (.ref it) acc env).quiet = true) (hcl : ((clausesOf e)[depth]?).elim false (·.is_async != 0) = false) (It : ItAt s₀ I s it ds)
    (h : codeAny (model prog w) A (.compLoop e depth (.ref it) acc env) R s) : codeAny (model prog w) A (.compStart e depth (.ref it) acc env) R s := by
  refine codeAny_of_tree ?_
  rw [hund, hden]
  refine wpAny_notedAt ?_
  unfold compStart
  rw [hcl]
  simp only [Bool.false_eq_true, if_false]
  refine wpAny_bind (wpAny_askSetting ?_)
  obtain ⟨o, ho, io⟩ := It.ex
  have fin : wpAny (model prog w) A (do again (.compLoop e depth (← pyIter (.ref it)) acc env)) (fun fin s' => match fin with | .done f => R (.ok f) s' | .again c' => c'.quiet = true ∧ codeAny (model prog w) A c' R s') (notedBy (model prog w) A env fun x s' => R (.error x) s') s :=
    wpAny_bind (it_again ho io (wpAny_pure ⟨hq, h⟩))
  refine wpAny_ite ?_
  split
  · exact wpAny_bind (wpAny_pure (wpAny_pure ⟨hq, h⟩))
  · refine wpAny_bind (wpAny_rule ?_)
    cases (clausesOf e)[depth]? with
    | none => exact fin
    | some g => exact wpAny_bind (wpAny_standAt fin)

/-- the outer clause's loop -/
theorem comp_outer {elt target iter target₂ iter₂ : PySem.Expr} {scope : Scope} {pos : Pos} {it ac : Addr} {env : Env} {s₀ : Shared} {I₀ I : Imm} {s : Shared} {A : Around} {R : Result → Shared → Prop}
    {ds : List D} (J : Nat → List (Option B) → Prop) (res : Nat → List D) (hno : ∀ i ρ, J i ρ → noOwned ρ)
    (step : ∀ i di ρi, ds[i]? = some di → J i ρi → ∃ (ρa : List (Option B)) (d₂ : D) (ds₂ : List D) (J₂ : Nat → List (Option B) → Prop) (res₂ : Nat → List D), As prog w T F k ρi target di ρa ∧ Ev prog w T F k ρa iter₂ d₂ ∧ Iterates d₂ ds₂ ∧ J₂ 0 ρa ∧ res₂ 0 = ([] : List D) ∧ (∀ j ρ', J₂ j ρ' → noOwned ρ') ∧ (∀ j, j ≤ ds₂.length → (res i ++ res₂ j).length ≤ 16777216) ∧
      (∀ j dj ρj, ds₂[j]? = some dj → J₂ j ρj → ∃ ρb, As prog w T F k ρj target₂ dj ρb ∧ J₂ (j + 1) ρb ∧ ∃ d, Ev prog w T F k ρb elt d ∧ res₂ (j + 1) = res₂ j ++ [d]) ∧ (∀ ρ', J₂ ds₂.length ρ' → J (i + 1) ρ') ∧ res (i + 1) = res i ++ res₂ ds₂.length)
    (hfs : ∀ env x, foldedSetIterable iter₂ env x = pure x)
    (hR : RoomN k A) (h0 : J 0 ρ) (Rn : EnvRep T F env s₀ I₀ I ρ s) (Ac : AccAt s₀ I s ac (res 0)) (It : ItAt s₀ I s it ds)
    (hend : ∀ I' ρ' s', J ds.length ρ' → EnvRep T F env s₀ I₀ I' ρ' s' → AccAt s₀ I' s' ac (res ds.length) → R (.ok .next) s') :
    codeAny (model prog w) A (.compLoop (.ListComp elt [⟨target, iter, [], 0⟩, ⟨target₂, iter₂, [], 0⟩] scope pos) 0 (.ref it) (.ref ac) env) R s := by
  refine codeAny_loop rfl (fun n s' => ∃ I' ρi i, n = ds.length + 1 - i ∧ i ≤ ds.length ∧ J i ρi ∧ EnvRep T F env s₀ I₀ I' ρi s' ∧ AccAt s₀ I' s' ac (res i) ∧ ItAt s₀ I' s' it (ds.drop i)) ?_ (ds.length + 1)
    ⟨I, ρ, 0, rfl, Nat.zero_le _, h0, Rn, Ac, by simpa using It⟩
  rintro n s' ⟨I', ρi, i, rfl, hile, hJ, R', Ac', It'⟩
  show wpAny _ A ((compTurn _ 0 (.ref it) (.ref ac) env).onRaise (fun x => do noteFrame x env; theTreesLotGoes x)) _ _ s'
  refine wpAny_noted ?_
  rw [turnOuter]
  refine wpAny_bind (wpAny_standAt (wpAny_bind ?_))
  obtain ⟨o, ho, io⟩ := It'.ex
  cases hd : ds[i]? with
  | none =>
    have hl : ds.length ≤ i := List.getElem?_eq_none_iff.mp hd
    obtain rfl : i = ds.length := by omega
    rw [List.drop_length] at io
    refine it_nil hR.handled R'.imm ho io fun h' hx => wpAny_pure ?_
    have hk' : ∀ b o, b ≠ it → s'.heap.get? b = some o → h'.get? b = some o := fun b o hb e => hx b o hb e
    exact hend I' ρi { s' with heap := h', toks := s'.toks } hJ (R'.plain ho io.fields It'.imm It'.new hk') (Ac'.but ho io.fields hk')
  | some di =>
    rw [drop_cons hd] at io
    refine it_cons R'.imm ho io fun v h' o' tk rv ho' io'' hs => ?_
    have hk' : ∀ b o, b ≠ it → s'.heap.get? b = some o → h'.get? b = some o := fun b o hb e => (hs.2 b hb).trans e
    have R₃ : EnvRep T F env s₀ I₀ I' ρi { s' with heap := h', toks := tk } := R'.plain ho io.fields It'.imm It'.new hk'
    have A₃ : AccAt s₀ I' { s' with heap := h', toks := tk } ac (res i) := Ac'.but ho io.fields hk'
    have T₃ : ItAt s₀ I' { s' with heap := h', toks := tk } it (ds.drop (i + 1)) := ⟨⟨o', ho', io''⟩, It'.imm, It'.new⟩
    refine wpAny_bind (wp_letOwned ho' io'' ?_)
    obtain ⟨ρa, d₂, ds₂, J₂, res₂, ha, hev, hit, hJ0, hr0, hno₂, hlen, hst, hJe, hres⟩ := step i di ρi hd hJ
    refine wpAny_bind (wpAny_mono (ha.go A env s₀ I₀ I' _ v hR R₃ rv _) (fun _ s₄ ⟨R₄, S₄⟩ => ?_) fun _ _ e => e)
    have K₄ : Kept I' { s' with heap := h', toks := tk } I' s₄ := S₄.kept
    refine wpAny_bind (wpAny_mono (hev.go A env s₀ I₀ I' s₄ hR R₄ _) (fun x s₅ ⟨I₅, x₅, rx⟩ => ?_) fun _ _ e => e)
    refine wpAny_bind (wpAny_standAt ?_)
    rw [hfs]
    refine wpAny_bind (wpAny_pure (wpAny_bind (wpAny_holding (it_new x₅.imm rx hit fun oi ioi hfr => ?_))))
    have R₅ := R₄.mono x₅
    have hn : s₅.heap.get? s₅.heap.objs.size = none := get_size _
    have hk5 : ∀ b o, s₅.heap.get? b = some o → (s₅.heap.push oi).get? b = some o := fun b o e => Heap.get?_push_of_some _ e
    have x₆ : Ext I₅ s₅ I₅ { s₅ with heap := s₅.heap.push oi } := Ext.heap (tk := s₅.toks) x₅.imm hk5
    have It₂ : ItAt s₀ I₅ { s₅ with heap := s₅.heap.push oi } s₅.heap.objs.size ds₂ := by
      refine ⟨⟨oi, Heap.get?_push_size _ hfr, ioi⟩, ?_, ?_⟩
      · cases e : I₅ s₅.heap.objs.size with
        | none => rfl
        | some o => rw [x₅.imm _ _ e] at hn; cases hn
      · cases e : s₀.heap.get? s₅.heap.objs.size with
        | none => rfl
        | some o => rw [R₅.ext.keep _ _ e] at hn; cases hn
    have K₆ := (K₄.trans x₅.kept).trans x₆.kept
    have hlt : i < ds.length := (List.getElem?_eq_some_iff.mp hd).1
    have hne : it ≠ s₅.heap.objs.size := by
      obtain ⟨g1, _⟩ := (K₄.trans x₅.kept).keepF it o' ho' io''.fields
      intro q
      rw [← q, g1] at hn
      cases hn
    refine wpAny_bind (wpAny_runOwn ?_)
    show codeAny _ A _ _ _
    refine comp_start rfl rfl rfl rfl It₂ ?_
    refine comp_last (k := k) (ρ := ρa) (turnLast2 elt target₂ iter₂ _ scope pos) (fun _ _ _ => rfl) (fun _ _ _ => rfl) (fun _ _ _ => rfl) (l₀ := res i) J₂ res₂ hno₂ hlen (fun j dj ρj h1 h2 => ?_) hR hJ0 (R₅.mono x₆) (by rw [hr0, List.append_nil]; exact ((A₃.stays S₄).mono x₅).mono x₆) It₂ (fun I₇ ρ₇ s₇ hJ₇ R₇ A₇ K₇ G₇ => ?_)
    · obtain ⟨ρb, p1, p2, d, p3, p4⟩ := hst j dj ρj h1 h2
      exact ⟨ρb, true, p1, .none, p2, fun q => (by cases q), fun _ => ⟨d, p3, p4⟩⟩
    · refine wpAny_pure ⟨rfl, ds.length + 1 - (i + 1), by omega, I₇, ρ₇, i + 1, rfl, by omega, hJe _ hJ₇, R₇, by rw [hres]; exact A₇, ?_⟩
      obtain ⟨g1, g2⟩ := K₆.keepF it o' ho' io''.fields
      obtain ⟨g3, g4⟩ := K₇ it o' g1 hne io''.fields
      exact ⟨⟨o', g3, (io''.mono K₆.ge).mono G₇⟩, g4.trans (g2.trans It'.imm), It'.new⟩

/-- all of a comprehension but its loops -/
theorem comp_frame {elt target iter : PySem.Expr} {ifs : List PySem.Expr} {gs : List Comprehension} {scope : Scope} {pos : Pos} {d : D} {ds l : List D} {own : List Str} {caps : List (Str × D)} {use : Option (Value → Sem Unit)} {env : Env} {s₀ : Shared} {I₀ I : Imm} {s : Shared} {A : Around} {E} {Q : Value → Shared → Prop}
    (hi : Ev prog w T F k ρ iter d) (hit : Iterates d ds) (C : CapOk F ρ scope F' own caps) (hnames : ∀ x ∈ scope.names, x.2 = .local → scope.names.lookup x.1 = some .local)
    (hfs : ∀ env x, foldedSetIterable iter env x = pure x) (hR : RoomN k A) (R : EnvRep T F env s₀ I₀ I ρ s)
    (loops : ∀ (cenv : Env) (I₁ : Imm) (s₁ s₄ : Shared) (it ac : Addr) (P : Result → Shared → Prop), EnvRep T F' cenv s₁ I₁ I₁ (rho0 own caps) s₄ → AccAt s₁ I₁ s₄ ac [] → ItAt s₁ I₁ s₄ it ds →
      (∀ I' ρ' s', EnvRep T F' cenv s₁ I₁ I' ρ' s' → AccAt s₁ I' s' ac l → P (.ok .next) s') → codeAny (model prog w) A (.compLoop (.ListComp elt (⟨target, iter, ifs, 0⟩ :: gs) scope pos) 0 (.ref it) (.ref ac) cenv) P s₄)
    (hQ : ∀ (I' : Imm) (s' : Shared) (ac L : Addr), Ext I s I' s' → AccAt s I' s' ac l → s.heap.get? L = none → (∃ m, s'.heap.Ns L m) → I' L = none →
      compPost (model prog w) A E use Q (.ref ac) L (.ok .next) s') :
    wpAny (model prog w) A (comprehension (.ListComp elt (⟨target, iter, ifs, 0⟩ :: gs) scope pos) scope env (firstIterPos (⟨target, iter, ifs, 0⟩ :: gs) pos) (newList []) (firstAsync (⟨target, iter, ifs, 0⟩ :: gs)) (firstIter (⟨target, iter, ifs, 0⟩ :: gs) env) use) Q E s := by
  have hcells : ∀ x ∈ scope.names, x.2 = .free → (env.cells.lookup x.1).isSome = true := fun x hx hf => by
    obtain ⟨⟨y, dd⟩, hm, hy⟩ := List.mem_map.mp (C.free x hx hf)
    simp only at hy
    obtain ⟨c, v, e1, _⟩ := free_cell R C hm
    rw [← hy, e1]; rfl
  refine wpAny_comprehension_free (g := ⟨target, iter, ifs, 0⟩) (gs := gs) rfl (hfs env) (closureFor_eq hcells) C.kind hnames ?_
  show wpAny _ A (eval iter env) _ E s
  refine wpAny_mono (hi.go A env s₀ I₀ I s hR R E) (fun v s₁ ⟨I₁, x₁, r₁⟩ => ?_) fun _ _ e => e
  refine it_new x₁.imm r₁ hit fun oi io hfr => ?_
  refine wpAny_newList ?_ (by rw [sizeLine_eq]; decide)
  have R₁ := R.mono x₁
  have hk2 : ∀ b o, s₁.heap.get? b = some o → (s₁.heap.push oi).get? b = some o := fun b o e => Heap.get?_push_of_some _ e
  have x₂ : Ext I₁ s₁ I₁ { s₁ with heap := s₁.heap.push oi } := Ext.heap (tk := s₁.toks) x₁.imm hk2
  have hk3 : ∀ b o, (s₁.heap.push oi).get? b = some o → ((s₁.heap.push oi).push { cls := .type "list", data := .seq [].toArray }).get? b = some o := fun b o e => Heap.get?_push_of_some _ e
  have x₃ : Ext I₁ { s₁ with heap := s₁.heap.push oi } I₁ { s₁ with heap := (s₁.heap.push oi).push { cls := .type "list", data := .seq [].toArray } } := Ext.heap (tk := s₁.toks) x₂.imm hk3
  have X := x₂.trans x₃
  have hn1 : s₁.heap.get? s₁.heap.objs.size = none := get_size _
  have hnone : ∀ c, s₁.heap.get? c = none → I₁ c = none := fun c hc => by
    cases e : I₁ c with
    | none => rfl
    | some o => rw [x₁.imm _ _ e] at hc; cases hc
  have hn2 : s₁.heap.get? (s₁.heap.push oi).objs.size = none := by
    cases e : s₁.heap.get? (s₁.heap.push oi).objs.size with
    | none => rfl
    | some o => exact absurd (Heap.lt_size (hk2 _ _ e)) (Nat.lt_irrefl _)
  have hoi : ((s₁.heap.push oi).push { cls := .type "list", data := .seq [].toArray }).get? s₁.heap.objs.size = some oi := hk3 _ _ (Heap.get?_push_size _ hfr)
  have hac : ((s₁.heap.push oi).push { cls := .type "list", data := .seq [].toArray }).get? (s₁.heap.push oi).objs.size = some { cls := .type "list", data := .seq [].toArray } := Heap.get?_push_size _ rfl
  refine comp_enter R₁ C X fun cenv h' R₄ hk4 hL => ?_
  have It : ItAt s₁ I₁ { s₁ with heap := h' } s₁.heap.objs.size ds := ⟨⟨oi, hk4 _ _ hoi, io⟩, hnone _ hn1, hn1⟩
  have Ac : AccAt s₁ I₁ { s₁ with heap := h' } (s₁.heap.push oi).objs.size [] := ⟨⟨_, _, hk4 _ _ hac, Reps.nil⟩, hnone _ hn2, hn2⟩
  refine comp_start rfl rfl rfl rfl It (loops _ I₁ s₁ _ _ _ _ R₄ Ac It fun I' ρ' s' R' A' => ?_)
  obtain ⟨m, cm, val, hns, _⟩ := R'.fr
  have hnew : ∀ c, s₁.heap.get? c = none → s.heap.get? c = none := fun c hc => by
    cases e : s.heap.get? c with
    | none => rfl
    | some o => rw [x₁.keep _ _ e] at hc; cases hc
  exact hQ I' s' _ cenv.locals (x₁.trans R'.ext) ⟨A'.ex, A'.imm, hnew _ A'.new⟩ (hnew _ R'.lnew) ⟨m, hns⟩ R'.lI

theorem comp_fresh {I I' : Imm} {s s' : Shared} {ac L : Addr} {l : List D} (x : Ext I s I' s') (a : AccAt s I' s' ac l) (hL : s.heap.get? L = none) (hn : ∃ m, s'.heap.Ns L m) (hI : I' L = none) :
    ∃ m, s'.heap.Ns L m ∧ ∀ h', Heap.SameBut L s'.heap h' → FreshL I s l (.ref ac) { s' with heap := h' } := by
  obtain ⟨m, hn⟩ := hn
  refine ⟨m, hn, fun h' hs => ?_⟩
  have hk : ∀ b o, b ≠ L → s'.heap.get? b = some o → h'.get? b = some o := fun b o hb e => (hs.2 b hb).trans e
  obtain ⟨vs, n, h1, h2⟩ := a.ex
  obtain ⟨oL, es, ep, hoL, hdL, _⟩ := hn
  obtain ⟨h₁, t₁, e₁⟩ := x.st
  refine ⟨I', ac, vs, n, rfl, ⟨⟨h', s'.toks, by rw [e₁]⟩, fun b o e => hk b o (by rintro rfl; rw [hL] at e; cases e) (x.keep b o e), fun b o e => hk b o (by rintro rfl; rw [hI] at e; cases e) (x.imm b o e), x.old, x.ge⟩, a.new, hk _ _ ?_ h1, h2, a.imm⟩
  rintro rfl
  rw [h1] at hoL
  obtain rfl := Option.some.inj hoL
  cases hdL

noncomputable def compRun (e : PySem.Expr) (env : Env) (use : Option (Value → Sem Unit)) : Sem Value :=
  match e with
  | .ListComp elt gens scope pos => comprehension (.ListComp elt gens scope pos) scope env (firstIterPos gens pos) (newList []) (firstAsync gens) (firstIter gens env) use
  | _ => pure .none
/-- a comprehension fills a list, whatever is done with it -/
structure CompF (prog : Program) (w : World) (T : Imm) (F : FnCx) (k : Nat) (ρ : List (Option B)) (e : PySem.Expr) (l : List D) : Prop where
  go : ∀ (A : Around) (env : Env) (s₀ : Shared) (I₀ I : Imm) (s : Shared), RoomN k A → EnvRep T F env s₀ I₀ I ρ s → ∀ E (use : Option (Value → Sem Unit)) (Q : Value → Shared → Prop),
    (∀ (I' : Imm) (s' : Shared) (ac L : Addr), Ext I s I' s' → AccAt s I' s' ac l → s.heap.get? L = none → (∃ m, s'.heap.Ns L m) → I' L = none → compPost (model prog w) A E use Q (.ref ac) L (.ok .next) s') →
    wpAny (model prog w) A (compRun e env use) Q E s
theorem CompF.ev {elt : PySem.Expr} {gens : List Comprehension} {scope : Scope} {pos : Pos} {l : List D} (h : CompF prog w T F k ρ (.ListComp elt gens scope pos) l) : EvF prog w T F k ρ (.ListComp elt gens scope pos) l :=
  .mk fun A env s₀ I₀ I s hR R E => by
    rw [eval_ListComp]
    exact h.go A env s₀ I₀ I s hR R E none _ fun I' s' ac L x a hL hn hI => comp_fresh x a hL hn hI
/-- [elt for target in iter if ..] -/
theorem CompF.comp1 {elt target iter : PySem.Expr} {ifs : List PySem.Expr} {scope : Scope} {pos : Pos} {d : D} {ds : List D} {own : List Str} {caps : List (Str × D)} (hi : Ev prog w T F k ρ iter d) (hit : Iterates d ds) (C : CapOk F ρ scope F' own caps)
    (J : Nat → List (Option B) → Prop) (res : Nat → List D) (hno : ∀ i ρ, J i ρ → noOwned ρ) (hr0 : res 0 = []) (hlen : ∀ i, i ≤ ds.length → (res i).length ≤ 16777216) (h0 : J 0 (rho0 own caps))
    (step : ∀ i di ρi, ds[i]? = some di → J i ρi → ∃ ρa b, As prog w T F' k ρi target di ρa ∧ Trs prog w T F' k ρa ifs b ∧ J (i + 1) ρa ∧ (b = false → res (i + 1) = res i) ∧ (b = true → ∃ d, Ev prog w T F' k ρa elt d ∧ res (i + 1) = res i ++ [d]))
    (hnames : ∀ x ∈ scope.names, x.2 = .local → scope.names.lookup x.1 = some .local := by decide) (hfs : ∀ env x, foldedSetIterable iter env x = pure x := by intro _ _; rfl) : CompF prog w T F k ρ (.ListComp elt [⟨target, iter, ifs, 0⟩] scope pos) (res ds.length) :=
  .mk fun A env s₀ I₀ I s hR R E use Q hQ => by
    refine comp_frame hi hit C hnames hfs hR R (l := res ds.length) (fun cenv I₁ s₁ s₄ it ac P R₄ Ac It hP => ?_) hQ
    exact comp_last (turnLast1 elt target iter ifs scope pos) (fun _ _ _ => rfl) (fun _ _ _ => rfl) (fun _ _ _ => rfl) (l₀ := []) J res hno (fun i h => by simpa using hlen i h) step hR h0 R₄ (by rw [hr0]; exact Ac) It (fun I' ρ' s' _ R' A' _ _ => hP I' ρ' s' R' A')
/-- [elt for target in iter for target₂ in iter₂] -/
theorem CompF.comp2 {elt target iter target₂ iter₂ : PySem.Expr} {scope : Scope} {pos : Pos} {d : D} {ds : List D} {own : List Str} {caps : List (Str × D)} (hi : Ev prog w T F k ρ iter d) (hit : Iterates d ds) (C : CapOk F ρ scope F' own caps)
    (J : Nat → List (Option B) → Prop) (res : Nat → List D) (hno : ∀ i ρ, J i ρ → noOwned ρ) (hr0 : res 0 = []) (h0 : J 0 (rho0 own caps))
    (step : ∀ i di ρi, ds[i]? = some di → J i ρi → ∃ (ρa : List (Option B)) (d₂ : D) (ds₂ : List D) (J₂ : Nat → List (Option B) → Prop) (res₂ : Nat → List D), As prog w T F' k ρi target di ρa ∧ Ev prog w T F' k ρa iter₂ d₂ ∧ Iterates d₂ ds₂ ∧ J₂ 0 ρa ∧ res₂ 0 = ([] : List D) ∧ (∀ j ρ', J₂ j ρ' → noOwned ρ') ∧ (∀ j, j ≤ ds₂.length → (res i ++ res₂ j).length ≤ 16777216) ∧
      (∀ j dj ρj, ds₂[j]? = some dj → J₂ j ρj → ∃ ρb, As prog w T F' k ρj target₂ dj ρb ∧ J₂ (j + 1) ρb ∧ ∃ d, Ev prog w T F' k ρb elt d ∧ res₂ (j + 1) = res₂ j ++ [d]) ∧ (∀ ρ', J₂ ds₂.length ρ' → J (i + 1) ρ') ∧ res (i + 1) = res i ++ res₂ ds₂.length)
    (hnames : ∀ x ∈ scope.names, x.2 = .local → scope.names.lookup x.1 = some .local := by decide) (hfs : ∀ env x, foldedSetIterable iter env x = pure x := by intro _ _; rfl) (hfs₂ : ∀ env x, foldedSetIterable iter₂ env x = pure x := by intro _ _; rfl) :
    CompF prog w T F k ρ (.ListComp elt [⟨target, iter, [], 0⟩, ⟨target₂, iter₂, [], 0⟩] scope pos) (res ds.length) :=
  .mk fun A env s₀ I₀ I s hR R E use Q hQ => by
    refine comp_frame hi hit C hnames hfs hR R (l := res ds.length) (fun cenv I₁ s₁ s₄ it ac P R₄ Ac It hP => ?_) hQ
    exact comp_outer J res hno step hfs₂ hR h0 R₄ (by rw [hr0]; exact Ac) It (fun I' ρ' s' _ R' A' => hP I' ρ' s' R' A')

/-- a namespace that is not the frame's own turns -/
theorem EnvRep.other {env : Env} {s₀ : Shared} {I₀ I : Imm} {s : Shared} (R : EnvRep T F env s₀ I₀ I ρ s) {p : Addr} {o : Obj} (hp : s.heap.get? p = some o) (ho : ∃ es n, o.data = .dict es n) (hpL : p ≠ env.locals) (hpI : I p = none) (hp0 : s₀.heap.get? p = none) {h' : Heap} {tk : Nat}
    (hk : ∀ b o, b ≠ p → s.heap.get? b = some o → h'.get? b = some o) : EnvRep T F env s₀ I₀ I ρ { s with heap := h', toks := tk } := by
  obtain ⟨es', n', hd⟩ := ho
  obtain ⟨m, cm, val, ⟨oL, es, ep, hL, hdL, hr⟩, hc, hv, hw⟩ := R.fr
  refine ⟨ext_same R hpI hp0 hk, R.scope, R.kind, R.glob, R.blt, R.top, R.lnew, R.lI, R.cI, R.cap, R.cown, m, cm, val, ⟨oL, es, ep, hk _ _ (Ne.symm hpL) hL, hdL, hr⟩, fun x c e => ?_,
    fun i b h2 => ⟨(hv i b h2).1, (hv i b h2).2.same hp (ns_plainer hd) hk⟩, hw⟩
  obtain ⟨oc, h1, h2⟩ := hc x c e
  refine ⟨oc, hk _ _ ?_ h1, h2⟩
  intro q
  rw [q, hp] at h1
  obtain rfl := Option.some.inj h1
  rw [hd] at h2; cases h2

/-- x = [..], the stores exchanged -/
theorem Ex.assignC {i : Nat} {x : Str} {p pos pos' : Pos} {elt : PySem.Expr} {gens : List Comprehension} {scope : Scope} {l : List D} {Φ : Out → Prop} (hnd : F.vars.Nodup) (hx : F.vars[i]? = some x) (hk : F.sc.names.lookup x = some .local)
    (h : CompF prog w T F k ρ (.ListComp elt gens scope pos') l) (hΦ : Φ (.next (ρ.set i (some (.imm (.lst l))))))
    (hs : ∀ env : Env, env.scope = F.sc → env.scope.kind = .function → swapsWith (.ListComp elt gens scope pos') (some (.Name x p)) pos.line env = pure true) : Ex prog w T F k ρ (.Assign [.Name x p] (.ListComp elt gens scope pos') pos) Φ :=
  .mk fun A env s₀ I₀ I s hR R E => by
    rw [exec_Assign]
    refine wpAny_bind (wpAny_standAt ?_)
    show wpAny _ A (swapsWith (.ListComp elt gens scope pos') (some (.Name x p)) pos.line env >>= _) _ E s
    rw [hs env R.scope R.kind]
    refine wpAny_bind (wpAny_pure ?_)
    simp only [if_true]
    refine wpAny_bind ?_
    rw [arm_evalThenUse_ListComp]
    dsimp only
    have key := fun Q => h.go A env s₀ I₀ I s hR R E (some fun v => assignAll v ((assignEach [.Name x p] env).map (·.2))) Q
    unfold compRun at key
    refine wpAny_bind (key _ fun I' s' ac L X a hL ⟨m, hn⟩ hI => ?_)
    show wpAny _ A (PySem.assign (.Name x p) env (.ref ac)) _ E s'
    obtain ⟨vs, n, h1, h2⟩ := a.ex
    -- the list is held fast
    have hge : ∀ b o', I' b = some o' → I'.add ac { cls := .type "list", data := .seq vs n } b = some o' := fun b o' e => by
      unfold Imm.add; rw [if_neg (by rintro rfl; rw [a.imm] at e; cases e)]; exact e
    have hne : ∀ b, b ≠ ac → I'.add ac { cls := .type "list", data := .seq vs n } b = I' b := fun b hb => by unfold Imm.add; rw [if_neg hb]
    have X' : Ext I s (I'.add ac { cls := .type "list", data := .seq vs n }) s' := by
      refine ⟨X.st, X.keep, fun b o e => ?_, fun b o e => ?_, fun b o e => hge _ _ (X.ge _ _ e)⟩
      · by_cases q : b = ac
        · subst q; rw [Imm.add_self] at e; cases e; exact h1
        · rw [hne b q] at e; exact X.imm _ _ e
      · rw [hne b (by rintro rfl; rw [a.new] at e; cases e)]; exact X.old _ _ e
    have R' := R.mono X'
    obtain ⟨oL, es, ep, hoL, hdL, hrL⟩ := id hn
    have hLe : L ≠ env.locals := by
      obtain ⟨m', cm, val, ⟨o', es', ep', g1, _⟩, _⟩ := R.fr
      rintro rfl
      rw [g1] at hL; cases hL
    have hLac : L ≠ ac := by
      rintro rfl
      rw [h1] at hoL
      obtain rfl := Option.some.inj hoL
      cases hdL
    have hL0 : s₀.heap.get? L = none := by
      cases e : s₀.heap.get? L with
      | none => rfl
      | some o => rw [R.ext.keep _ _ e] at hL; cases hL
    refine wpAny_assign_Name (wp_store hnd R' hx (.inl hk) (.imm (Rep.mk_lst (Imm.add_self _ _ _) rfl rfl (h2.mono hge))) (fun q => by cases q) fun s'' R'' S'' O'' => ?_)
    have hL'' : s''.heap.get? L = some oL := O'' L oL hoL hLe fun v q => (by rw [hdL] at q; cases q)
    refine ⟨m, ⟨oL, es, ep, hL'', hdL, hrL⟩, fun h' hsb => wpAny_pure (wpAny_pure ?_)⟩
    have hkb : ∀ b o, b ≠ L → s''.heap.get? b = some o → h'.get? b = some o := fun b o hb e => (hsb.2 b hb).trans e
    refine ⟨_, _, hΦ, R''.other (tk := s''.toks) hL'' ⟨_, _, hdL⟩ hLe ((hne L hLac).trans hI) hL0 hkb, (X'.kept.trans S''.kept).trans ⟨fun b o e hf => ⟨hkb b o ?_ e, rfl⟩, fun _ _ e => e⟩⟩
    rintro rfl
    rw [hL''] at e
    obtain rfl := Option.some.inj e
    obtain ⟨_, q⟩ := hf
    rw [hdL] at q; cases q
end
end Mine
end

section
open PySem PySem.W PyProof.Rows
namespace Mine
section
variable {prog : Program} {w : World} {T : Imm} {F : FnCx} {k : Nat} {ρ : List (Option B)}

/-- n in S, a set of ints of the top's -/
theorem p_in_set {a : Addr} {S : Int → Bool} {c : Nat} {n : Int} (hS : ∀ h : Heap, (∀ a o, T a = some o → h.get? a = some o) → h.SetOf (intKind prog w) a S c) : Prim2 prog w T k (compareOp .In) (.int n) (.raw (.ref a)) (.bool (S n)) := .mk fun A I s v₁ v₂ _ hT hI r₁ r₂ E => by
  obtain ⟨t, rfl⟩ := r₁.of_int
  obtain rfl := r₂.of_raw
  exact wpAny_inSet_of (knd := intKind prog w) (k := n) (by simp [intKind, Value.isInt]) rfl (hS _ fun a o e => hI _ _ (hT _ _ e)) ⟨I, Ext.tok hI _, .bool _⟩

theorem Ev.meth0 {o : PySem.Expr} {name : Str} {apos pos : Pos} {d₁ d : D} (ho : Ev prog w T F k ρ o d₁) (hp : ∀ (A : Around) (E : Value → Shared → Prop) (I : Imm) (s : Shared) (v : Value) (Q : Value → Shared → Prop), RoomN k A → (∀ a o, T a = some o → I a = some o) → (∀ b o, I b = some o → s.heap.get? b = some o) → Rep I v d₁ →
      (∀ v s', (∃ I', Ext I s I' s' ∧ Rep I' v d) → Q v s') → MethodOnS prog w A E name v pos [] Q s)
    (hbase : ∀ env, attributeBase o name env (eval o env) = eval o env := by intro _; rfl) (hline : (apos.endLine == pos.line) = true := by rfl) : Ev prog w T F k ρ (.Call (.Attribute o name apos) [] [] pos) d :=
  .mk fun A env s₀ I₀ I s hR R E => Call_method0 (hbase env) hline (wpAny_mono (ho.go A env s₀ I₀ I s hR R E) (fun v s₁ ⟨I₁, x₁, r₁⟩ =>
    hp A E I₁ s₁ v _ hR (R.mono x₁).top x₁.imm r₁ fun v s' ⟨I', x, r⟩ => ⟨I', x₁.trans x, r⟩) fun _ _ e => e)
theorem Ev.lower {o : PySem.Expr} {apos pos : Pos} {x : Str} (ho : Ev prog w T F k ρ o (.str x)) (hfit : Builtin.Str.tooLong (Txt.lower x).length = false) (hbase : ∀ env, attributeBase o "lower" env (eval o env) = eval o env := by intro _; rfl) (hline : (apos.endLine == pos.line) = true := by rfl) :
    Ev prog w T F k ρ (.Call (.Attribute o "lower" apos) [] [] pos) (.str (Txt.lower x)) :=
  Ev.meth0 ho (fun A E I s v Q hR hT hI r hQ => by
    obtain ⟨t, rfl⟩ := r.of_str
    exact SB.lower hfit (hQ _ _ ⟨I, Ext.tok hI _, .str _ _⟩)) hbase hline
theorem Ev.meth1 {o e : PySem.Expr} {name : Str} {apos pos : Pos} {d₁ d₂ d : D} (ho : Ev prog w T F k ρ o d₁) (he : Ev prog w T F k ρ e d₂) (hst : isStarred e = false)
    (hp : ∀ (A : Around) (E : Value → Shared → Prop) (I : Imm) (s : Shared) (v : Value) (t : Sem Value) (Q : Value → Shared → Prop), RoomN k A → (∀ a o, T a = some o → I a = some o) → (∀ b o, I b = some o → s.heap.get? b = some o) → Rep I v d₁ →
      (∀ Q', (∀ u s₁ I₁, Ext I s I₁ s₁ → Rep I₁ u d₂ → Q' u s₁) → wpAny (model prog w) A t Q' E s) → (∀ v s', (∃ I', Ext I s I' s' ∧ Rep I' v d) → Q v s') → MethodOnS prog w A E name v pos [(false, t)] Q s)
    (hbase : ∀ env, attributeBase o name env (eval o env) = eval o env := by intro _; rfl) (hline : (apos.endLine == pos.line) = true := by rfl) : Ev prog w T F k ρ (.Call (.Attribute o name apos) [e] [] pos) d :=
  .mk fun A env s₀ I₀ I s hR R E => Call_method1 (hbase env) (by rw [starEach_plain hst]; rfl) hline (wpAny_mono (ho.go A env s₀ I₀ I s hR R E) (fun v s₁ ⟨I₁, x₁, r₁⟩ =>
    hp A E I₁ s₁ v _ _ hR (R.mono x₁).top x₁.imm r₁ (fun Q' hQ' => wpAny_mono (he.go A env s₀ I₀ I₁ s₁ hR (R.mono x₁) E) (fun u s₂ ⟨I₂, x₂, r₂⟩ => hQ' u s₂ I₂ x₂ r₂) fun _ _ e => e) fun v s' ⟨I', x, r⟩ => ⟨I', x₁.trans x, r⟩) fun _ _ e => e)
/-- d.get(n), a dict of the top's with int keys -/
theorem Ev.get {o e : PySem.Expr} {apos pos : Pos} {a : Addr} {n : Int} {d : D} {f : Int → Option Value} (ho : Ev prog w T F k ρ o (.raw (.ref a))) (he : Ev prog w T F k ρ e (.int n)) (hst : isStarred e = false) (hm : ∀ h : Heap, (∀ a o, T a = some o → h.get? a = some o) → h.MapOf (intKind prog w) a f)
    (hd : ∀ I : Imm, Rep I ((f n).getD .none) d) (hsys : (a == sysModules) = false) (hbase : ∀ env, attributeBase o "get" env (eval o env) = eval o env := by intro _; rfl) (hline : (apos.endLine == pos.line) = true := by rfl) :
    Ev prog w T F k ρ (.Call (.Attribute o "get" apos) [e] [] pos) d :=
  Ev.meth1 ho he hst (fun A E I s v t Q hR hT hI r ht hQ => by
    obtain rfl := r.of_raw
    have hTs : ∀ a o, T a = some o → s.heap.get? a = some o := fun a o e => hI _ _ (hT _ _ e)
    refine ⟨"dict", "dict.get", PySem.F.plainAttrs_dict, PySem.F.slot_dict_get, PySem.F.type_dict_get, (hm _ hTs).typeIs, (hm _ hTs).noDict, wpAny_dict_get1 (knd := intKind prog w) hsys (ht _ fun u s₁ I₁ x₁ r₁ => ?_)⟩
    obtain ⟨tk, rfl⟩ := r₁.of_int
    refine ⟨n, f, by simp [intKind, Value.isInt], hm _ fun a o e => x₁.keep _ _ (hTs _ _ e), hQ _ _ ⟨I₁, x₁.trans (Ext.tok x₁.imm _), hd I₁⟩⟩) hbase hline

/-- sep.join(texts) -/
theorem reps_strs {I : Imm} : ∀ {xs : List Str} {vs : List Value}, Reps I vs (xs.map .str) → ∃ l : List (Str × Tok), vs = strValues l ∧ l.map (·.1) = xs
  | [], vs, r => by
    have : vs = [] := List.length_eq_zero_iff.mp (by simpa using r.1)
    subst this; exact ⟨[], rfl, rfl⟩
  | x :: xs, vs, r => by
    match vs, r with
    | [], r => have := r.1; simp at this
    | v :: vs, r =>
      obtain ⟨t, rfl⟩ := (r.2 0 v (.str x) rfl rfl).of_str
      obtain ⟨l, h1, h2⟩ := reps_strs (I := I) (xs := xs) (vs := vs) ⟨by simpa using r.1, fun i a b p q => r.2 (i + 1) a b (by simpa using p) (by simpa using q)⟩
      exact ⟨(x, t) :: l, by rw [h1]; rfl, by rw [← h2]; rfl⟩
theorem Ev.join {o e : PySem.Expr} {apos pos : Pos} {x : Str} {xs : List Str} (ho : Ev prog w T F k ρ o (.str x)) (he : Ev prog w T F k ρ e (.lst (xs.map .str))) (hst : isStarred e = false) (hok : JoinOk x xs = true)
    (hbase : ∀ env, attributeBase o "join" env (eval o env) = eval o env := by intro _; rfl) (hline : (apos.endLine == pos.line) = true := by rfl) : Ev prog w T F k ρ (.Call (.Attribute o "join" apos) [e] [] pos) (.str (Txt.join x xs)) :=
  Ev.meth1 ho he hst (fun A E I s v t Q hR hT hI r ht hQ => by
    obtain ⟨tk, rfl⟩ := r.of_str
    refine SB.join (ht _ fun u s₁ I₁ x₁ r₁ => ?_)
    obtain ⟨a, us, rfl, h1, h2⟩ := r₁.isList x₁.imm
    obtain ⟨l, e1, e2⟩ := reps_strs h2
    exact ⟨a, l, rfl, by rw [← e1]; simpa using h1, xs, e2, hok, fun t' k' => hQ _ _ ⟨I₁, x₁.trans (Ext.tok x₁.imm _), .str _ _⟩⟩) hbase hline
/-- xs.index(n) -/
theorem Ev.index {o e : PySem.Expr} {apos pos : Pos} {ns : List Int} {n : Int} (ho : Ev prog w T F k ρ o (intsD ns)) (he : Ev prog w T F k ρ e (.int n)) (hst : isStarred e = false) (hn : n ∈ ns) (hlay : PyData.layable0 (.list (ns.map .int)) = true)
    (hbase : ∀ env, attributeBase o "index" env (eval o env) = eval o env := by intro _; rfl) (hline : (apos.endLine == pos.line) = true := by rfl) : Ev prog w T F k ρ (.Call (.Attribute o "index" apos) [e] [] pos) (.int (ns.idxOf n : Nat)) :=
  Ev.meth1 ho he hst (fun A E I s v t Q hR hT hI r ht hQ => by
    obtain ⟨a, us, rfl, h1, h2⟩ := Rep.isList r hI
    refine ⟨"list", "list.index", PySem.F.plainAttrs_list, PySem.F.slot_list_index, PySem.F.type_list_index, h1.typeIs, (fun b e => ?_), ?_⟩
    · cases e
      obtain ⟨o, q1, q2⟩ := Rep.lst_dict r
      exact ⟨o, hI _ _ q1, q2⟩
    · refine Calls.callWith_builtin rfl (Calls.evalArgs_plain (Calls.spliced_cons (ht _ fun u s₁ I₁ x₁ r₁ => Calls.spliced_nil ?_)))
      obtain ⟨tk, rfl⟩ := r₁.of_int
      obtain ⟨a', us', e', h1', h2'⟩ := Rep.isList (r.mono x₁.ge) x₁.imm
      cases e'
      exact index_list_ints (vs := us'.toList) (by simpa using h1') (reps_ints h2') hlay hn (hQ _ _ ⟨I₁, x₁.trans (Ext.tok x₁.imm _), .int _ _⟩)) hbase hline

/-! == of what holds texts, bytes: the same -/
theorem all_true (n : Nat) : (List.range n).all (fun _ => true) = true := by simp
theorem p_eq_strs {xs : List Str} : Prim2 prog w T k (compareOp .Eq) (.lst (xs.map .str)) (.lst (xs.map .str)) (.bool true) := .mk fun A I s v₁ v₂ hR _ hI r₁ r₂ E => by
  obtain ⟨a, us, rfl, h1, h2⟩ := r₁.isList hI
  obtain ⟨b, us', rfl, h1', h2'⟩ := r₂.isList hI
  have e1 : us.size = xs.length := by have := h2.1; simpa using this
  have e2 : us'.size = xs.length := by have := h2'.1; simpa using this
  refine SeqAt.eq_listAt (e := fun _ => true) h1 h1' (e1.trans e2.symm) (by have := hR.units; omega) (fun j g1 g2 => ?_) ?_
  · have hx : (xs.map D.str)[j]? = some (.str (xs[j]'(by omega))) := by rw [List.getElem?_map, List.getElem?_eq_getElem (by omega)]; rfl
    obtain ⟨t, ht⟩ := (h2.2 j us[j] _ (by simp [g1]) hx).of_str
    obtain ⟨t', ht'⟩ := (h2'.2 j us'[j] _ (by simp [g2]) hx).of_str
    rw [ht, ht']
    have := (SeqRoads2.EqGives.str (xs[j]'(by omega)) (xs[j]'(by omega)) t t').at A.in1 s
    simpa using this
  · rw [all_true]; exact ⟨I, Ext.refl hI, .bool _⟩
theorem p_ne_bytes2 {a b : Array UInt8} : Prim2 prog w T k (compareOp .NotEq) (.tup [.bytes a, .bytes b]) (.tup [.bytes a, .bytes b]) (.bool false) := .mk fun A I s v₁ v₂ hR _ hI r₁ r₂ E => by
  obtain ⟨l, us, rfl, h1, h2⟩ := r₁.isTup hI
  obtain ⟨m, us', rfl, h1', h2'⟩ := r₂.isTup hI
  have e1 : us.size = 2 := by have := h2.1; simpa using this
  have e2 : us'.size = 2 := by have := h2'.1; simpa using this
  have key : ∀ (j : Nat) (g1 : j < us.size) (g2 : j < us'.size), SeqAt.EqAt A.in1 s us[j] us'[j] true := fun j g1 g2 => by
    have hj : j = 0 ∨ j = 1 := by omega
    have : ∃ c : Array UInt8, [D.bytes a, D.bytes b][j]? = some (.bytes c) := by rcases hj with rfl | rfl <;> exact ⟨_, rfl⟩
    obtain ⟨c, hx⟩ := this
    obtain ⟨t, ht⟩ := (h2.2 j us[j] _ (by simp [g1]) hx).of_bytes
    obtain ⟨t', ht'⟩ := (h2'.2 j us'[j] _ (by simp [g2]) hx).of_bytes
    rw [ht, ht']
    intro prog w E Q hQ
    exact eqBool_bytes (by simpa using hQ)
  exact SeqAt.RcNeAt.tuples (e := fun _ => true) h1 h1' (by have := hR.units; omega) key prog w E _ (by rw [all_true, e1, e2]; exact ⟨I, Ext.refl hI, .bool _⟩)
theorem p_ne_bool {a b : Bool} : Prim2 prog w T k (compareOp .NotEq) (.bool a) (.bool b) (.bool (a != b)) := .mk fun A I s v₁ v₂ hR _ hI r₁ r₂ E => by
  obtain rfl := r₁.of_bool; obtain rfl := r₂.of_bool
  exact ne_bool ⟨I, Ext.refl hI, .bool _⟩
end
end Mine
end

section
open PySem PySem.W PyProof.Rows
set_option maxRecDepth 100000
namespace Mine
theorem ba_slot_setitem : Slot "bytearray" "__setitem__" "bytearray.__setitem__" :=
  .of (owner := "bytearray") (n := "__setitem__") (by rw [typeLookup_type, builtinLookup_eq_fast]; kernel_rfl) (by decide +kernel) (by decide +kernel) (by decide +kernel)
    (by first | exact .inl (by decide +kernel) | exact .inr (by decide +kernel)) (by rw [isSubtype_type]; kernel_rfl)
theorem ba_entry_setitem : entryFor table "bytearray.__setitem__" = some Builtin.«bytearray.__setitem__» := by first | exact entryFor_of_fast (by kernel_rfl) | exact entryFor_of_tree (by kernel_rfl)
theorem ba_args_setitem (a b c : Value) : argsOk "bytearray.__setitem__" ⟨[a, b, c], []⟩ := by
  unfold argsOk; kernel_rfl
theorem ba_subscript (k : Int) (t : Tok) (h : Builtin.Bytes.fitsIndex k = true) : Builtin.Bytes.subscript? (.int k t) = pure (some k) := by
  have h1 : specialOf (.int k t) "__index__" = pure (some (.builtin "int.__index__")) := by
    show typeLookup (.type "int") "__index__" = _
    rw [typeLookup_type, builtinLookup_eq_fast]; kernel_rfl
  unfold Builtin.Bytes.subscript?
  rw [h1]
  show (if (!Builtin.Bytes.fitsIndex k) = true then _ else _) = _
  rw [h]; rfl
theorem ba_byteValue (k : Int) (t : Tok) (h0 : 0 ≤ k) (h1 : k < 256) : Builtin.Bytes.byteValue (.int k t) = pure k.toNat.toUInt8 := by
  show (if (decide (k < 0) || decide (k ≥ 256)) = true then _ else _) = _
  rw [if_neg (by simp; omega)]
theorem ba_mro : mroOf (.type "bytearray") = pure [.type "bytearray", .type "object"] := by rw [mroOf_type]; kernel_rfl
theorem ba_lookup_new : typeLookup (.type "bytearray") "__new__" = pure (some (.builtin "bytearray.__new__")) := by rw [typeLookup_type, builtinLookup_eq_fast]; kernel_rfl
theorem ba_slot_init : Slot "bytearray" "__init__" "bytearray.__init__" :=
  .of (owner := "bytearray") (n := "__init__") (by rw [typeLookup_type, builtinLookup_eq_fast]; kernel_rfl) (by decide +kernel) (by decide +kernel) (by decide +kernel)
    (by first | exact .inl (by decide +kernel) | exact .inr (by decide +kernel)) (by rw [isSubtype_type]; kernel_rfl)
theorem ba_called : TypeCalled "bytearray" "bytearray.__new__" "bytearray.__init__" :=
  ⟨by decide +kernel, by decide +kernel, ⟨_, _, ba_mro⟩, madeBy_type ba_mro ba_lookup_new (by decide +kernel), by decide +kernel, by rw [isSubtype_type]; kernel_rfl, ba_slot_init⟩
theorem ba_typeCall (a : Value) : checkTypeCall "bytearray" ⟨[a], []⟩ = pure () := by kernel_rfl
theorem ba_newCall (a : Value) : checkBuiltinCall "bytearray.__new__" ⟨[.type "bytearray", a], []⟩ = pure () := by kernel_rfl
theorem ba_plain_new : plainId "bytearray.__new__" = true := by decide +kernel
theorem ba_entry_new : entryFor table "bytearray.__new__" = some Builtin.«list.__new__» :=
  entryFor_alias (id' := "list.__new__") (by kernel_rfl) rfl (by decide +kernel) (by kernel_rfl)
theorem ba_owner_new : ("bytearray.__new__".splitOn ".__new__").headD "" = "bytearray" := by simp +decide [String.splitOn, String.splitOnAux]
theorem ba_sub_self : isSubtype (.type "bytearray") (.type "bytearray") = pure true := by rw [isSubtype_type]; kernel_rfl
section
variable {prog : Program} {w : World} {A : Around} {E : Value → Shared → Prop} {s : Shared}
theorem ba_new (a : Value) {Q₁ : Value → Shared → Prop} (h : Q₁ (.ref s.heap.objs.size) { s with heap := s.heap.push { cls := .type "bytearray", data := .bytearray #[] } }) :
    codeAny (model prog w) A (.call (.builtin "bytearray.__new__") ⟨[.type "bytearray", a], []⟩) (wants Q₁ E) s := by
  refine codeAny_of_tree ?_
  show wpAny _ A.in1 (do checkBuiltinCall "bytearray.__new__" ⟨[.type "bytearray", a], []⟩; again (.builtin "bytearray.__new__" ⟨[.type "bytearray", a], []⟩)) _ _ s
  refine wpAny_bind (wpAny_of_eq (ba_newCall a) (wpAny_pure ⟨plainId_quiet ba_plain_new _, codeAny_builtin_stack ba_entry_new rfl fun p st => ?_⟩))
  rw [Around.under_plainId ba_plain_new _]
  have hsub := ba_sub_self
  have hown := ba_owner_new
  obtain ⟨hp, g, d, tk, os⟩ := s
  simp only [hown]
  wp_walk
  exact h
end
end Mine
end

section
open PySem PySem.W PyProof.Rows
namespace Mine
noncomputable def cutL {α : Type} (l : List α) (x y : Option Int) : List α := (l.drop (x.elim 0 (clipAt l.length))).take (y.elim l.length (clipAt l.length) - x.elim 0 (clipAt l.length))
theorem pick_eq (items : Array Value) (lo hi : Option Int) : slicePick items lo hi none = (cutL items.toList lo hi).toArray := by
  unfold slicePick cutL
  rw [sliceBounds_plain]
  simp only [sliceRange_one, pick_run, Array.length_toList]
theorem Reps.drop {I : Imm} {vs : List Value} {ds : List D} (r : Reps I vs ds) (n : Nat) : Reps I (vs.drop n) (ds.drop n) :=
  ⟨by simp [r.1], fun i v d a b => by rw [List.getElem?_drop] at a b; exact r.2 _ v d a b⟩
theorem Reps.take {I : Imm} {vs : List Value} {ds : List D} (r : Reps I vs ds) (n : Nat) : Reps I (vs.take n) (ds.take n) :=
  ⟨by simp [r.1], fun i v d a b => by
    by_cases h : i < n
    · rw [List.getElem?_take_of_lt h] at a b; exact r.2 _ v d a b
    · rw [List.getElem?_take_eq_none (by omega)] at a; cases a⟩
theorem Reps.cut {I : Imm} {vs : List Value} {ds : List D} (r : Reps I vs ds) (x y : Option Int) : Reps I (cutL vs x y) (cutL ds x y) := by
  unfold cutL
  rw [r.1]
  exact (r.drop _).take _
section
variable {prog : Program} {w : World} {T : Imm} {F : FnCx} {k : Nat} {ρ : List (Option B)}
theorem Ev.sliceL {value : PySem.Expr} {lo hi : Option PySem.Expr} {p pos : Pos} {x y : Option Int} {ds : List D} (h₁ : Ev prog w T F k ρ value (.lst ds)) (hl : Part prog w T F k ρ lo x) (hh : Part prog w T F k ρ hi y) (hsz : ds.length ≤ 16777216) :
    Ev prog w T F k ρ (.Subscript value (.Slice lo hi Option.none p) pos) (.lst (cutL ds x y)) :=
  slice_wp h₁ hl hh fun A I s v₁ sl vl vu hR hI r hs pl pu E => by
    obtain ⟨a, us, rfl, h1, h2⟩ := r.isList hI
    have e : us.size = ds.length := by simpa using h2.1
    refine tail_any h1.typeIs slot_list_getitem.lookup (wpAny_getItem_list_slice h1 hs pl pu IsPart.none (by intro q; cases q) ?_ (by rw [e, sizeLine_eq]; exact hsz)) rfl
    rw [pick_eq]
    exact new_lst hI (by simpa using h2.cut x y) _
theorem Ev.sliceB {value : PySem.Expr} {lo hi : Option PySem.Expr} {p pos : Pos} {x y : Option Int} {b : Array UInt8} (h₁ : Ev prog w T F k ρ value (.bytes b)) (hl : Part prog w T F k ρ lo x) (hh : Part prog w T F k ρ hi y) (hsz : b.size ≤ 16777216) :
    Ev prog w T F k ρ (.Subscript value (.Slice lo hi Option.none p) pos) (.bytes (cutL b.toList x y).toArray) :=
  slice_wp h₁ hl hh fun A I s v₁ sl vl vu hR hI r hs pl pu E => by
    obtain ⟨t, rfl⟩ := r.of_bytes
    refine tail_any (typeIs_bytes _ _ _) FB.slot_bytes_getitem.lookup (getItem_meets (typeIs_bytes _ _ _) (by decide) FB.slot_bytes_getitem FB.entry_bytes_getitem (FB.args_bytes_getitem_2 _ _) (KBc.meets_slice2 b t _ pl pu)
      ⟨hs, Nat.le_trans (KBc.size_picked_le b x y) (by rw [sizeLine_eq]; exact hsz), fun t' k' => ⟨I, Ext.tok hI _, ?_⟩⟩) rfl
    have : KBy.picked b x y = (cutL b.toList x y).toArray := by rw [KBc.picked_eq]; unfold cutL; rw [Array.length_toList]
    rw [this]; exact .bytes _ _
end
theorem cut_to {α : Type} (l : List α) {n : Nat} : cutL l none (some (n : Int)) = l.take n := by
  unfold cutL
  simp only [Option.elim_none, Option.elim_some, List.drop_zero, Nat.sub_zero, clipAt_nat]
  by_cases h : n ≤ l.length
  · rw [Nat.min_eq_left h]
  · rw [Nat.min_eq_right (by omega), List.take_of_length_le (Nat.le_refl _), List.take_of_length_le (by omega)]
theorem cut_from {α : Type} (l : List α) {n : Nat} : cutL l (some (n : Int)) none = l.drop n := by
  unfold cutL
  simp only [Option.elim_none, Option.elim_some, clipAt_nat]
  by_cases h : n ≤ l.length
  · rw [Nat.min_eq_left h, List.take_of_length_le (by simp)]
  · rw [Nat.min_eq_right (by omega), List.drop_of_length_le (by omega : l.length ≤ n)]; simp
theorem cut_run {α : Type} (l : List α) {a b : Nat} (h : a ≤ b) (hb : b ≤ l.length) : cutL l (some (a : Int)) (some (b : Int)) = (l.drop a).take (b - a) := by
  unfold cutL
  simp only [Option.elim_some, clipAt_nat]
  rw [Nat.min_eq_left (show a ≤ l.length by omega), Nat.min_eq_left hb]
end Mine
end

section
open PySem PySem.W PyProof.Rows
namespace Mine
section
variable {prog : Program} {w : World} {T : Imm} {F F' : FnCx} {k : Nat} {ρ : List (Option B)}
/-- [elt for target in xs if test] -/
theorem CompF.filterL {α : Type} {elt target iter : PySem.Expr} {ifs : List PySem.Expr} {scope : Scope} {pos : Pos} {d : D} {xs : List α} {g h : α → D} {p : α → Bool} {own : List Str} {caps : List (Str × D)}
    (J : List (Option B) → Prop) (hi : Ev prog w T F k ρ iter d) (hit : Iterates d (xs.map g)) (C : CapOk F ρ scope F' own caps) (hno : ∀ ρ, J ρ → noOwned ρ) (hlen : xs.length ≤ 16777216) (h0 : J (rho0 own caps))
    (step : ∀ (i : Nat) x ρi, xs[i]? = some x → J ρi → ∃ ρa, As prog w T F' k ρi target (g x) ρa ∧ Trs prog w T F' k ρa ifs (p x) ∧ J ρa ∧ (p x = true → Ev prog w T F' k ρa elt (h x)))
    (hnames : ∀ x ∈ scope.names, x.2 = .local → scope.names.lookup x.1 = some .local := by decide) (hfs : ∀ env x, foldedSetIterable iter env x = pure x := by intro _ _; rfl) : CompF prog w T F k ρ (.ListComp elt [⟨target, iter, ifs, 0⟩] scope pos) ((xs.filter p).map h) := by
  have := CompF.comp1 (elt := elt) (target := target) (ifs := ifs) (pos := pos) hi hit C (fun _ => J) (fun i => ((xs.take i).filter p).map h) (fun _ => hno) (by simp) (fun i _ => by
      rw [List.length_map]; exact Nat.le_trans (List.length_filter_le _ _) (by simp; omega)) h0 (fun i di ρi hd hJ => by
      rw [List.getElem?_map] at hd
      obtain ⟨x, hx, rfl⟩ := Option.map_eq_some_iff.mp hd
      obtain ⟨ρa, h1, h2, h3, h4⟩ := step i x ρi hx hJ
      refine ⟨ρa, p x, h1, h2, h3, fun q => ?_, fun q => ⟨h x, h4 q, ?_⟩⟩
      · rw [List.take_add_one, hx]; simp [q]
      · rw [List.take_add_one, hx]; simp [q]) hnames hfs
  rw [List.length_map, List.take_of_length_le (Nat.le_refl _)] at this
  exact this
/-- [elt for target in xs] -/
theorem CompF.mapL {α : Type} {elt target iter : PySem.Expr} {scope : Scope} {pos : Pos} {d : D} {xs : List α} {g h : α → D} {own : List Str} {caps : List (Str × D)}
    (J : List (Option B) → Prop) (hi : Ev prog w T F k ρ iter d) (hit : Iterates d (xs.map g)) (C : CapOk F ρ scope F' own caps) (hno : ∀ ρ, J ρ → noOwned ρ) (hlen : xs.length ≤ 16777216) (h0 : J (rho0 own caps))
    (step : ∀ (i : Nat) x ρi, xs[i]? = some x → J ρi → ∃ ρa, As prog w T F' k ρi target (g x) ρa ∧ J ρa ∧ Ev prog w T F' k ρa elt (h x))
    (hnames : ∀ x ∈ scope.names, x.2 = .local → scope.names.lookup x.1 = some .local := by decide) (hfs : ∀ env x, foldedSetIterable iter env x = pure x := by intro _ _; rfl) : CompF prog w T F k ρ (.ListComp elt [⟨target, iter, [], 0⟩] scope pos) (xs.map h) := by
  have := CompF.filterL (p := fun _ => true) (elt := elt) (target := target) (ifs := []) (pos := pos) (h := h) J hi hit C hno hlen h0 (fun i x ρi hx hJ => by
    obtain ⟨ρa, h1, h2, h3⟩ := step i x ρi hx hJ
    exact ⟨ρa, h1, .none, h2, fun _ => h3⟩) hnames hfs
  rwa [List.filter_eq_self.mpr (fun _ _ => rfl)] at this
/-- [elt for target in xs for target₂ in ys x] -/
theorem CompF.flatL {α β : Type} {elt target iter target₂ iter₂ : PySem.Expr} {scope : Scope} {pos : Pos} {d : D} {xs : List α} {g : α → D} {ys : α → List β} {d₂ : α → D} {g₂ : α → β → D} {h : α → β → D} {own : List Str} {caps : List (Str × D)}
    (J : List (Option B) → Prop) (J₂ : α → List (Option B) → Prop) (hi : Ev prog w T F k ρ iter d) (hit : Iterates d (xs.map g)) (C : CapOk F ρ scope F' own caps) (hno : ∀ ρ, J ρ → noOwned ρ) (hlen : (xs.flatMap ys).length ≤ 16777216) (h0 : J (rho0 own caps))
    (step : ∀ (i : Nat) x ρi, xs[i]? = some x → J ρi → ∃ ρa, As prog w T F' k ρi target (g x) ρa ∧ Ev prog w T F' k ρa iter₂ (d₂ x) ∧ Iterates (d₂ x) ((ys x).map (g₂ x)) ∧ J₂ x ρa)
    (hJ : ∀ x ρ, J₂ x ρ → J ρ)
    (step₂ : ∀ (i j : Nat) x y ρi, xs[i]? = some x → (ys x)[j]? = some y → J₂ x ρi → ∃ ρb, As prog w T F' k ρi target₂ (g₂ x y) ρb ∧ J₂ x ρb ∧ Ev prog w T F' k ρb elt (h x y))
    (hnames : ∀ x ∈ scope.names, x.2 = .local → scope.names.lookup x.1 = some .local := by decide) (hfs : ∀ env x, foldedSetIterable iter env x = pure x := by intro _ _; rfl) (hfs₂ : ∀ env x, foldedSetIterable iter₂ env x = pure x := by intro _ _; rfl) :
    CompF prog w T F k ρ (.ListComp elt [⟨target, iter, [], 0⟩, ⟨target₂, iter₂, [], 0⟩] scope pos) (xs.flatMap fun x => (ys x).map (h x)) := by
  have key : ∀ i x, xs[i]? = some x → ((xs.take i).flatMap ys).length + (ys x).length ≤ 16777216 := fun i x hx => by
    have h1 : ((xs.take i).flatMap ys).length + (ys x).length = ((xs.take (i + 1)).flatMap ys).length := by rw [List.take_add_one, hx]; simp
    have h2 : (xs.flatMap ys).length = ((xs.take (i + 1)).flatMap ys).length + ((xs.drop (i + 1)).flatMap ys).length := by
      conv => lhs; rw [← List.take_append_drop (i + 1) xs]
      rw [List.flatMap_append, List.length_append]
    omega
  have lenEq : ∀ l : List α, (l.flatMap fun x => (ys x).map (h x)).length = (l.flatMap ys).length := fun l => by
    induction l with
    | nil => rfl
    | cons a l ih => simp only [List.flatMap_cons, List.length_append, List.length_map, ih]
  have := CompF.comp2 (elt := elt) (target := target) (target₂ := target₂) (iter₂ := iter₂) (pos := pos) hi hit C (fun _ => J) (fun i => (xs.take i).flatMap fun x => (ys x).map (h x)) (fun _ => hno) (by simp) h0 (fun i di ρi hd hJi => by
      rw [List.getElem?_map] at hd
      obtain ⟨x, hx, rfl⟩ := Option.map_eq_some_iff.mp hd
      obtain ⟨ρa, h1, h2, h3, h4⟩ := step i x ρi hx hJi
      have hk := key i x hx
      refine ⟨ρa, d₂ x, (ys x).map (g₂ x), fun _ => J₂ x, fun j => ((ys x).take j).map (h x), h1, h2, h3, h4, by simp, fun _ ρ' q => hno _ (hJ _ _ q), fun j _ => ?_, fun j dj ρj hdj hJj => ?_, fun ρ' q => hJ _ _ q, ?_⟩
      · rw [List.length_append, lenEq, List.length_map, List.length_take]
        omega
      · rw [List.getElem?_map] at hdj
        obtain ⟨y, hy, rfl⟩ := Option.map_eq_some_iff.mp hdj
        obtain ⟨ρb, k1, k2, k3⟩ := step₂ i j x y ρj hx hy hJj
        exact ⟨ρb, k1, k2, h x y, k3, by simp only [List.take_add_one, hy]; simp⟩
      · rw [List.take_add_one, hx]; simp) hnames hfs hfs₂
  rw [List.length_map, List.take_of_length_le (Nat.le_refl _)] at this
  exact this
end

noncomputable def CapEach (F : FnCx) (ρ : List (Option B)) (scope : Scope) (F' : FnCx) (c : Str × D) : Prop := (∃ i : Nat, F.vars[i]? = some c.1 ∧ ρ[i]? = some (some (B.imm c.2))) ∧ F.sc.names.lookup c.1 = some .cell ∧ F'.sc.names.lookup c.1 = some .cell ∧ (c.1, NameKind.free) ∈ scope.names ∧ ∀ n : Nat, (cellsFrom n scope.names []).lookup c.1 = none
theorem CapEach.mk {F : FnCx} {ρ : List (Option B)} {scope : Scope} {F' : FnCx} {y : Str} {d : D} (i : Nat) (h1 : F.vars[i]? = some y := by rfl) (h2 : ρ[i]? = some (some (B.imm d)) := by rfl) (h3 : F.sc.names.lookup y = some .cell := by rfl) (h4 : F'.sc.names.lookup y = some .cell := by rfl) (h5 : (y, NameKind.free) ∈ scope.names := by decide)
    (h6 : ∀ n : Nat, (cellsFrom n scope.names []).lookup y = none := by intro _; rfl) : CapEach F ρ scope F' (y, d) := ⟨⟨i, h1, h2⟩, h3, h4, h5, h6⟩
inductive Caps (F : FnCx) (ρ : List (Option B)) (scope : Scope) (F' : FnCx) : List (Str × D) → Prop where
  | nil : Caps F ρ scope F' []
  | cons {c : Str × D} {l : List (Str × D)} : CapEach F ρ scope F' c → Caps F ρ scope F' l → Caps F ρ scope F' (c :: l)
theorem Caps.all {F : FnCx} {ρ : List (Option B)} {scope : Scope} {F' : FnCx} {l : List (Str × D)} (h : Caps F ρ scope F' l) : ∀ c ∈ l, CapEach F ρ scope F' c := by
  induction h with
  | nil => intro c h; cases h
  | cons h _ ih => intro c hc; exact (List.mem_cons.mp hc).elim (fun e => e ▸ h) (ih c)
/-- the frame of a comprehension: its own names, the names taken over, its own cells -/
noncomputable abbrev FnCx.inner (F : FnCx) (scope : Scope) (own names cow : List Str) : FnCx := ⟨relabelSc scope F.sc, own ++ names, cow⟩
theorem CapOk.mk' {F : FnCx} {ρ : List (Option B)} {scope : Scope} {own : List Str} {caps : List (Str × D)} (names cow : List Str) (hc : Caps F ρ scope (F.inner scope own names cow) caps) (hn : caps.map (·.1) = names := by rfl) (kind : scope.kind = .function := by rfl)
    (free : ∀ x ∈ scope.names, x.2 = .free → x.1 ∈ names := by decide) (cown : ∀ x ∈ cow, ∀ n : Nat, ((cellsFrom n scope.names []).lookup x).isSome = true := by intro x h; cases h) : CapOk F ρ scope (F.inner scope own names cow) own caps :=
  ⟨rfl, by rw [hn], kind, fun x h q => by rw [hn]; exact free x h q, fun y d h => hc.all _ h, cown⟩
/-- slots: nothing, or plain data -/
noncomputable def slots (l : List (Option D)) : List (Option B) := l.map (Option.map B.imm)
theorem slots_no (l : List (Option D)) : noOwned (slots l) := fun j c h => by
  unfold slots at h
  rw [List.getElem?_map] at h
  obtain ⟨o, _, h2⟩ := Option.map_eq_some_iff.mp h
  obtain ⟨d, rfl, rfl⟩ := Option.map_eq_some_iff.mp h2
  rfl
end Mine
end

section
open PySem PySem.W PyProof.Rows
namespace Mine
theorem swaps_cell {elt : PySem.Expr} {gens : List Comprehension} {scope : Scope} {pos' p : Pos} {x : Str} {line : Nat} {sc : Scope} (hk : sc.names.lookup x = some .cell) (env : Env) (h : env.scope = sc) :
    swapsWith (.ListComp elt gens scope pos') (some (.Name x p)) line env = pure false := by
  have : env.kindOf x = some .cell := by unfold Env.kindOf; rw [h]; exact hk
  unfold swapsWith
  dsimp only
  rw [this]
  have e : (some NameKind.cell == some NameKind.local) = false := by decide
  rw [e, Bool.and_false, Bool.false_and, Bool.false_and]
theorem swaps_local {elt : PySem.Expr} {gens : List Comprehension} {scope : Scope} {pos' p : Pos} {x : Str} {line : Nat} {sc : Scope} (hk : sc.names.lookup x = some .local) (hl : (p.line == pos'.line && !(scope.names.any fun n => n.1 == x && (n.2 == .local || n.2 == .cell))) = true) (env : Env) (h : env.scope = sc) (hf : env.scope.kind = .function) :
    swapsWith (.ListComp elt gens scope pos') (some (.Name x p)) line env = pure true := by
  have : env.kindOf x = some .local := by unfold Env.kindOf; rw [h]; exact hk
  unfold swapsWith
  dsimp only
  rw [this]
  have e : (some NameKind.local == some NameKind.local) = true := by decide
  have e2 : (env.blockKind == ScopeKind.function) = true := by unfold Env.blockKind; rw [hf]; rfl
  rw [e, e2, Bool.true_and, Bool.true_and]
  exact congrArg pure hl
end Mine
end

section
open PySem PySem.W PyProof.Rows
namespace Mine
noncomputable abbrev pw : Program := PySem.Challenge.pw_ph0141_01
noncomputable def bodyAt (n : Nat) : List Stmt := match pw.main.body[n]? with | some (.FunctionDef _ _ b _ _ _ _ _ _ _) => b | _ => []
noncomputable def scopeAt (n : Nat) : Scope := match pw.main.body[n]? with | some (.FunctionDef _ _ _ _ _ _ sc _ _ _) => sc | _ => default

noncomputable def cxCell : FnCx := ⟨scopeAt 13, ["code", "size", "mirrored", "octets", "k"], []⟩
noncomputable def cellD (code : Int) (n : Nat) (m : Bool) : List D := (List.range n).map fun j => D.int (code / 256 ^ (if m then j else n - 1 - j) % 256)

section
variable {w : World} {T : Imm} {mg mb : Str → Option Value} {k : Nat}
theorem small_up {a b : Int} (ha : -1000000000 < a) (hb : b < 1000000000) (ha' : a < 1000000000) (hb' : -1000000000 < b) : Builtin.Range.small a b 1 = true := by
  have hs : Builtin.Range.rangeSize a b 1 = (if a < b then b - a else 0) := by
    unfold Builtin.Range.rangeSize
    rw [if_pos (by decide)]
    split <;> simp
  unfold Builtin.Range.small Builtin.Range.rangeFitsLong
  rw [hs]
  simp only [Bool.and_eq_true, Bool.or_eq_true, decide_eq_true_eq, beq_iff_eq]
  refine ⟨⟨⟨⟨⟨by omega, by omega⟩, by omega, by omega⟩, by decide, by decide⟩, ?_⟩, .inr ?_⟩
  · split <;> omega
  · simp only [show (1 : Int) > 0 by decide, if_true, Bool.and_eq_true, decide_eq_true_eq]; omega
theorem size_up {a b : Int} {n : Nat} (h : b - a = n) : Builtin.Range.rangeSize a b 1 = n := by
  unfold Builtin.Range.rangeSize
  rw [if_pos (by decide)]
  split
  · simp; omega
  · omega
theorem pow256 {i : Nat} (h : i ≤ 2) : (0 : Int) < 256 ^ i ∧ (256 : Int) ^ i < 1073741824 := by
  have : i = 0 ∨ i = 1 ∨ i = 2 := by omega
  rcases this with rfl | rfl | rfl <;> decide
theorem cell_body (hT : TopOk T mg mb) (g1 : mg "range" = none) (g2 : mb "range" = some (.type "range")) {code : Int} {n : Nat} (hn : n ≤ 3) {m : Bool} :
    Exs pw w T cxCell k [some (.imm (.int code)), some (.imm (.int n)), some (.imm (.bool m)), none, none] (bodyAt 13) (fun o => o = .ret (.lst (cellD code n m))) := by
  have hnd : cxCell.vars.Nodup := by decide
  refine Exs.cons (Ex.assignF (i := 3) hnd rfl (.inl rfl) (EvF.list .nil) ?_)
  refine Exs.cons (Ex.for (d := .rng 0 n 1) (ds := rangeD 0 n 1) (Ev.callT (Ev.blt hT rfl g1 g2) (.cons (Ev.var (i := 1) rfl rfl) rfl .nil) (hp := p_range1)) (.rng (small_up (by omega) (by omega) (by omega) (by omega)) (size_up (by omega)))
    (fun i ρ' => ∃ x, ρ' = [some (.imm (.int code)), some (.imm (.int n)), some (.imm (.bool m)), some (.own ((cellD code n m).take i)), x]) ⟨_, rfl⟩ ?_ ?_)
  · rintro i di ρi hdi ⟨x, rfl⟩
    have hi : i < n := by have := (List.getElem?_eq_some_iff.mp hdi).1; simpa [rangeD] using this
    obtain rfl : di = .int i := by
      have := (List.getElem?_eq_some_iff.mp hdi).2
      simpa [rangeD] using this.symm
    have htake : (cellD code n m).take i ++ [D.int (code / 256 ^ (if m then i else n - 1 - i) % 256)] = (cellD code n m).take (i + 1) := by
      rw [List.take_add_one]
      congr 1
      simp [cellD, hi]
    have hlen : ((cellD code n m).take i).length ≤ 16777216 := by simp [cellD]; omega
    refine ⟨_, As.name (i := 4) hnd rfl (.inl rfl), ?_⟩
    refine Exs.cons (Ex.ite (b := m) (Tr.val (Ev.var (i := 2) rfl rfl)) ?_ ?_)
    · rintro rfl
      refine Exs.cons (Ex.append (i := 3) (d := .int (code / 256 ^ i % 256)) rfl rfl (Ev.bin (Ev.bin (Ev.var (i := 0) rfl rfl) (Ev.bin Ev.int (Ev.var (i := 4) rfl rfl) (p_pow (by omega) (by omega) (by decide))) (p_div ?_ ?_)) Ev.int (p_mod (by decide))) ?_ hlen)
      · exact (pow256 (by omega)).1
      · exact (pow256 (by omega)).2
      · exact Exs.nil (Exs.nil ⟨_, by rw [← htake]; rfl⟩)
    · rintro rfl
      have hsub : ((n : Int) - 1 - i).toNat = n - 1 - i := by omega
      refine Exs.cons (Ex.append (i := 3) (d := .int (code / 256 ^ ((n : Int) - 1 - i).toNat % 256)) rfl rfl (Ev.bin (Ev.bin (Ev.var (i := 0) rfl rfl) (Ev.bin Ev.int (Ev.bin (Ev.bin (Ev.var (i := 1) rfl rfl) Ev.int p_sub) (Ev.var (i := 4) rfl rfl) p_sub) (p_pow (by omega) (by omega) (by decide))) (p_div ?_ ?_)) Ev.int (p_mod (by decide))) ?_ hlen)
      · exact (pow256 (by omega)).1
      · exact (pow256 (by omega)).2
      · exact Exs.nil (Exs.nil ⟨_, by rw [← htake, hsub]; rfl⟩)
  · rintro ρ' ⟨x, rfl⟩
    refine Exs.freeze (i := 3) rfl (Exs.cons (Ex.ret (Ev.var (i := 3) rfl rfl) ?_))
    rw [List.take_of_length_le (by simp [cellD, rangeD])]
end
end Mine
end

section
open PySem PySem.W PyProof.Rows
namespace Mine

/-- the defs of the text -/
structure Fs where
  b1 : Addr
  b3 : Addr
  c8 : Addr
  swap : Addr
  drawn : Addr
  level : Addr
  shown : Addr
  cell : Addr
  passed : Addr
  order : Addr
  turned : Addr
  law : Addr

noncomputable def b1S (n : Int) : Bool := [173, 847, 6150, 6155, 6156, 6157, 8203, 8204, 8205, 8288, 65279].contains n || (decide (65024 ≤ n) && decide (n < 65040))
noncomputable def c8S (n : Int) : Bool := [832, 833, 8206, 8207].contains n || (decide (8234 ≤ n) && decide (n < 8239)) || (decide (8298 ≤ n) && decide (n < 8304))

/-- what the top has left -/
structure Glb (w : World) (T : Imm) (mg mb : Str → Option Value) (f : Fs) (b3f : Int → Option Str) : Prop where
  top : TopOk T mg mb
  range : mg "range" = none ∧ mb "range" = some (.type "range")
  len : mg "len" = none ∧ mb "len" = some (.builtin "len")
  chr : mg "chr" = none ∧ mb "chr" = some (.builtin "chr")
  ord : mg "ord" = none ∧ mb "ord" = some (.builtin "ord")
  min : mg "min" = none ∧ mb "min" = some (.builtin "min")
  max : mg "max" = none ∧ mb "max" = some (.builtin "max")
  bytes : mg "bytes" = none ∧ mb "bytes" = some (.type "bytes")
  bytearray : mg "bytearray" = none ∧ mb "bytearray" = some (.type "bytearray")
  isinstance : mg "isinstance" = none ∧ mb "isinstance" = some (.builtin "isinstance")
  list : mg "list" = none ∧ mb "list" = some (.type "list")
  indexError : mg "IndexError" = none ∧ mb "IndexError" = some (.type "IndexError")
  b1 : mg "in_table_b1" = some (.ref f.b1) ∧ DefAt T f.b1 ["code"] (bodyAt 2) (scopeAt 2)
  b3 : mg "map_table_b3" = some (.ref f.b3) ∧ DefAt T f.b3 ["code"] (bodyAt 4) (scopeAt 4)
  c8 : mg "in_table_c8" = some (.ref f.c8) ∧ DefAt T f.c8 ["code"] (bodyAt 6) (scopeAt 6)
  swap : mg "_byteswap" = some (.ref f.swap) ∧ DefAt T f.swap ["data", "width"] (bodyAt 8) (scopeAt 8)
  drawn : mg "_law_drawn" = some (.ref f.drawn) ∧ DefAt T f.drawn ["number"] (bodyAt 10) (scopeAt 10)
  level : mg "_law_level" = some (.ref f.level) ∧ DefAt T f.level ["drawn", "place"] (bodyAt 11) (scopeAt 11)
  shown : mg "_law_shown" = some (.ref f.shown) ∧ DefAt T f.shown ["text"] (bodyAt 12) (scopeAt 12)
  cell : mg "_law_cell" = some (.ref f.cell) ∧ DefAt T f.cell ["code", "size", "mirrored"] (bodyAt 13) (scopeAt 13)
  passed : mg "_law_passed" = some (.ref f.passed) ∧ DefAt T f.passed ["tapes", "size", "least"] (bodyAt 14) (scopeAt 14)
  order : mg "_law_order" = some (.ref f.order) ∧ DefAt T f.order ["levels", "odd"] (bodyAt 15) (scopeAt 15)
  turned : mg "_law_turned" = some (.ref f.turned) ∧ DefAt T f.turned ["word"] (bodyAt 16) (scopeAt 16)
  b1set : ∃ a c, mg "b1_set" = some (.ref a) ∧ ∀ h : Heap, (∀ a o, T a = some o → h.get? a = some o) → h.SetOf (intKind pw w) a b1S c
  c8set : ∃ a c, mg "c8_set" = some (.ref a) ∧ ∀ h : Heap, (∀ a o, T a = some o → h.get? a = some o) → h.SetOf (intKind pw w) a c8S c
  b3dict : ∃ a g, mg "b3_exceptions" = some (.ref a) ∧ (a == sysModules) = false ∧ (∀ h : Heap, (∀ a o, T a = some o → h.get? a = some o) → h.MapOf (intKind pw w) a g) ∧
    ∀ n, match b3f n with | some x => ∃ t, g n = some (.str x t) | none => g n = none

section
variable {w : World} {T : Imm} {mg mb : Str → Option Value} {f : Fs} {b3f : Int → Option Str} {k : Nat}

noncomputable def cx1 (n : Nat) (vars : List Str) : FnCx := ⟨scopeAt n, vars, []⟩

theorem b1_fn (G : Glb w T mg mb f b3f) {c : Nat} : Fn pw w T (k + 1) f.b1 [.str ⟨#[c]⟩] (.bool (b1S c)) := by
  obtain ⟨a, cnt, g1, g2⟩ := G.b1set
  refine fn_of_body (F := cx1 2 ["code"]) (more := 0) G.top G.b1.2 rfl (by decide) rfl (by decide) (fun _ => rfl) rfl rfl rfl ?_
  exact Exs.cons (Ex.ret (Ev.cmp (Ev.callB (Ev.blt G.top rfl G.ord.1 G.ord.2) (.cons (Ev.var (i := 0) rfl rfl) rfl .nil) (hp := p_ord)) (Ev.glob G.top rfl g1) (p_in_set g2)) rfl)
theorem c8_fn (G : Glb w T mg mb f b3f) {c : Nat} : Fn pw w T (k + 1) f.c8 [.str ⟨#[c]⟩] (.bool (c8S c)) := by
  obtain ⟨a, cnt, g1, g2⟩ := G.c8set
  refine fn_of_body (F := cx1 6 ["code"]) (more := 0) G.top G.c8.2 rfl (by decide) rfl (by decide) (fun _ => rfl) rfl rfl rfl ?_
  exact Exs.cons (Ex.ret (Ev.cmp (Ev.callB (Ev.blt G.top rfl G.ord.1 G.ord.2) (.cons (Ev.var (i := 0) rfl rfl) rfl .nil) (hp := p_ord)) (Ev.glob G.top rfl g1) (p_in_set g2)) rfl)
/-- what map_table_b3 gives -/
noncomputable def mapB3 (b3f : Int → Option Str) (c : Nat) : Str := (b3f c).getD (Txt.lower ⟨#[c]⟩)
theorem b3_fn (G : Glb w T mg mb f b3f) {c : Nat} (hfit : Builtin.Str.tooLong (Txt.lower ⟨#[c]⟩).length = false) : Fn pw w T (k + 1) f.b3 [.str ⟨#[c]⟩] (.str (mapB3 b3f c)) := by
  obtain ⟨a, g, g1, g2, g3, g4⟩ := G.b3dict
  have hc := g4 c
  refine fn_of_body (F := cx1 4 ["code", "r"]) (more := 1) G.top G.b3.2 rfl (by decide) rfl (by decide) (fun _ => rfl) rfl rfl rfl ?_
  cases hb : b3f c with
  | some x =>
    rw [hb] at hc
    obtain ⟨t, ht⟩ := hc
    refine Exs.cons (Ex.assign (i := 1) (by decide) rfl (.inl rfl) (Ev.get (d := .str x) (Ev.glob G.top rfl g1) (Ev.callB (Ev.blt G.top rfl G.ord.1 G.ord.2) (.cons (Ev.var (i := 0) rfl rfl) rfl .nil) (hp := p_ord)) rfl g3 (fun I => by rw [ht]; exact .str _ _) g2) ?_)
    refine Exs.cons (Ex.ite (b := true) (Tr.cmp (Ev.var (i := 1) rfl rfl) Ev.none p_isNot_none_str) (fun _ => ?_) (fun q => by cases q))
    refine Exs.cons (Ex.ret (Ev.var (i := 1) rfl rfl) ?_)
    unfold mapB3; rw [hb]; rfl
  | none =>
    rw [hb] at hc
    refine Exs.cons (Ex.assign (i := 1) (by decide) rfl (.inl rfl) (Ev.get (d := .none) (Ev.glob G.top rfl g1) (Ev.callB (Ev.blt G.top rfl G.ord.1 G.ord.2) (.cons (Ev.var (i := 0) rfl rfl) rfl .nil) (hp := p_ord)) rfl g3 (fun I => by rw [hc]; exact .none) g2) ?_)
    refine Exs.cons (Ex.ite (b := false) (Tr.cmp (Ev.var (i := 1) rfl rfl) Ev.none p_isNot_none_none) (fun q => by cases q) (fun _ => ?_))
    refine Exs.nil (Exs.cons (Ex.ret (Ev.lower (Ev.var (i := 0) rfl rfl) hfit) ?_))
    unfold mapB3; rw [hb]; rfl
theorem cell_fn (G : Glb w T mg mb f b3f) {code : Int} {n : Nat} (hn : n ≤ 3) {m : Bool} : Fn pw w T (k + 1) f.cell [.int code, .int n, .bool m] (.lst (cellD code n m)) :=
  fn_of_body (F := cxCell) (more := 2) G.top G.cell.2 rfl (by decide) rfl (by decide) (fun _ => rfl) rfl rfl rfl (cell_body G.top G.range.1 G.range.2 hn)
end
end Mine
end

section
open PySem PySem.W PyProof.Rows
namespace Mine

theorem Ev.neg {prog : Program} {w : World} {T : Imm} {F : FnCx} {k : Nat} {ρ : List (Option B)} {e : PySem.Expr} {pos : Pos} {a : Int} (h : Ev prog w T F k ρ e (.int a)) : Ev prog w T F k ρ (.UnaryOp .USub e pos) (.int (-a)) :=
  .mk fun A env s₀ I₀ I s hR R E => wpAny_UnaryOp (wpAny_mono (h.go A env s₀ I₀ I s hR R E) (fun v s₁ ⟨I₁, x₁, r₁⟩ => by
    obtain ⟨t, rfl⟩ := r₁.of_int
    exact P.neg_int ⟨I₁, x₁.trans (Ext.tok x₁.imm _), .int _ _⟩) fun _ _ e => e)

structure Dr where
  code : Int
  role : Int
  word : Str
noncomputable def Dr.d (x : Dr) : D := .tup [.int x.code, .int x.role, .str x.word]
noncomputable def drsD (l : List Dr) : D := .lst (l.map Dr.d)

noncomputable def lvStep (st : Int × List Int) (r : Int) : Int × List Int :=
  if r = 3 then (st.1 + 1, st.2) else if r = 1 ∨ r = 2 then (if st.1 > 0 then (st.1 - 1, st.2) else (st.1, r :: st.2)) else st
noncomputable def lvBack (rs : List Int) : Int × List Int := rs.reverse.foldl lvStep (0, [])
noncomputable def lvUp (l : Int) (r : Int) : Int := l + 1 + (l + r + 1) % 2
noncomputable def levelOf (rs : List Int) : Int := (lvBack rs).2.foldl lvUp 0

theorem lvStep_len (st : Int × List Int) (r : Int) : (lvStep st r).2.length ≤ st.2.length + 1 := by
  unfold lvStep; split
  · simp
  · split
    · split <;> simp
    · simp
theorem lvFold_len : ∀ (l : List Int) (st : Int × List Int), (l.foldl lvStep st).2.length ≤ st.2.length + l.length
  | [], st => by simp
  | r :: l, st => by
    have h1 := lvFold_len l (lvStep st r)
    have h2 := lvStep_len st r
    simp only [List.foldl_cons, List.length_cons]; omega

noncomputable def cxLevel : FnCx := ⟨scopeAt 11, ["drawn", "place", "closed", "opened", "k", "role", "level"], []⟩
theorem small_down {p : Nat} (h : p < 1000000) : Builtin.Range.small ((p : Int) - 1) (-1) (-1) = true ∧ Builtin.Range.rangeSize ((p : Int) - 1) (-1) (-1) = p := by
  have hs : Builtin.Range.rangeSize ((p : Int) - 1) (-1) (-1) = p := by
    unfold Builtin.Range.rangeSize
    rw [if_neg (by decide)]
    split
    · simp
    · omega
  refine ⟨?_, hs⟩
  unfold Builtin.Range.small Builtin.Range.rangeFitsLong
  rw [hs]
  simp only [Bool.and_eq_true, Bool.or_eq_true, decide_eq_true_eq, beq_iff_eq]
  refine ⟨⟨⟨⟨⟨by omega, by omega⟩, by decide, by decide⟩, by decide, by decide⟩, by omega, by omega⟩, .inr ?_⟩
  decide
theorem foldl_take_succ {α β : Type} (f : β → α → β) (b : β) (l : List α) (i : Nat) (x : α) (h : l[i]? = some x) : (l.take (i + 1)).foldl f b = f ((l.take i).foldl f b) x := by
  rw [List.take_add_one, h]; simp
section
variable {w : World} {T : Imm} {mg mb : Str → Option Value} {f : Fs} {b3f : Int → Option Str} {k : Nat}
theorem level_fn (G : Glb w T mg mb f b3f) {l : List Dr} {p : Nat} (hp : p ≤ l.length) (hl : l.length ≤ 1000) : Fn pw w T (k + 1) f.level [drsD l, .int p] (.int (levelOf ((l.take p).map Dr.role))) := by
  have hnd : cxLevel.vars.Nodup := by decide
  refine fn_of_body (F := cxLevel) (more := 5) G.top G.level.2 rfl (by decide) rfl (by decide) (fun _ => rfl) rfl rfl rfl ?_
  generalize hrs : (l.take p).map Dr.role = rs
  have hrl : rs.length = p := by rw [← hrs]; simp; omega
  refine Exs.cons (Ex.assign (i := 2) hnd rfl (.inl rfl) Ev.int ?_)
  refine Exs.cons (Ex.assign (i := 3) hnd rfl (.inl rfl) (EvF.list .nil).ev ?_)
  obtain ⟨hsm, hsz⟩ := small_down (p := p) (by omega)
  refine Exs.cons (Ex.for (d := .rng ((p : Int) - 1) (-1) (-1)) (ds := rangeD ((p : Int) - 1) p (-1)) (Ev.callT (Ev.blt G.top rfl G.range.1 G.range.2)
      (.cons (Ev.bin (Ev.var (i := 1) rfl rfl) Ev.int p_sub) rfl (.cons (Ev.neg Ev.int) rfl (.cons (Ev.neg Ev.int) rfl .nil))) (hp := p_range3 (by decide) (by decide))) (.rng hsm hsz)
    (fun i ρ' => ∃ x y, ρ' = [some (.imm (drsD l)), some (.imm (.int p)), some (.imm (.int ((rs.reverse.take i).foldl lvStep (0, [])).1)), some (.imm (intsD ((rs.reverse.take i).foldl lvStep (0, [])).2)), x, y, none]) ⟨_, _, rfl⟩ ?_ ?_)
  · rintro i di ρi hdi ⟨x, y, rfl⟩
    have hi : i < p := by have := (List.getElem?_eq_some_iff.mp hdi).1; simpa [rangeD] using this
    obtain rfl : di = .int ((p : Int) - 1 + i * (-1)) := by
      have := (List.getElem?_eq_some_iff.mp hdi).2
      simpa [rangeD] using this.symm
    have hidx : ((p : Int) - 1 + i * (-1)).toNat = p - 1 - i := by omega
    have hj : p - 1 - i < l.length := by omega
    generalize hx : l[p - 1 - i] = xr
    have hget : (l.map Dr.d)[((p : Int) - 1 + i * (-1)).toNat]? = some xr.d := by rw [hidx, List.getElem?_map, List.getElem?_eq_getElem hj, hx]; rfl
    have hr : rs.reverse[i]? = some xr.role := by
      rw [List.getElem?_reverse (by omega), hrl, ← hrs, List.getElem?_map, List.getElem?_take_of_lt (by omega), List.getElem?_eq_getElem hj, hx]; rfl
    have hlen := lvFold_len (rs.reverse.take i) (0, [])
    have htl : (rs.reverse.take i).length ≤ 1000 := by simp; omega
    rw [foldl_take_succ lvStep _ _ _ _ hr]
    generalize (rs.reverse.take i).foldl lvStep (0, []) = st at hlen
    obtain ⟨c, o⟩ := st
    refine ⟨_, As.name (i := 4) hnd rfl (.inl rfl), ?_⟩
    refine Exs.cons (Ex.assign (i := 5) hnd rfl (.inl rfl) (Ev.sub (Ev.sub (Ev.var (i := 0) rfl rfl) (Ev.var (i := 4) rfl rfl) (p_item_lst (by omega) hget)) Ev.int (p_item_tup (d := .int xr.role) (by decide) rfl)) ?_)
    refine Exs.cons (Ex.ite (Tr.cmp (Ev.var (i := 5) rfl rfl) Ev.int p_eq) (fun h3 => ?_) (fun h3 => ?_))
    · have h3' : xr.role = 3 := by simpa using h3
      refine Exs.cons (Ex.assign (i := 2) hnd rfl (.inl rfl) (Ev.bin (Ev.var (i := 2) rfl rfl) Ev.int p_add) ?_)
      rw [show lvStep (c, o) xr.role = (c + 1, o) by simp [lvStep, h3']]
      exact Exs.nil (Exs.nil ⟨_, _, rfl⟩)
    · have h3' : xr.role ≠ 3 := by simpa using h3
      refine Exs.cons (Ex.ite (Tr.or (Tr.cmp (Ev.var (i := 5) rfl rfl) Ev.int p_eq) (fun _ => Tr.cmp (Ev.var (i := 5) rfl rfl) Ev.int p_eq)) (fun h12 => ?_) (fun h12 => ?_))
      · have h12' : xr.role = 1 ∨ xr.role = 2 := by simpa using h12
        refine Exs.cons (Ex.ite (Tr.cmp (Ev.var (i := 2) rfl rfl) Ev.int p_gt) (fun hc => ?_) (fun hc => ?_))
        · have hc' : c > 0 := by simpa using hc
          refine Exs.cons (Ex.assign (i := 2) hnd rfl (.inl rfl) (Ev.bin (Ev.var (i := 2) rfl rfl) Ev.int p_sub) ?_)
          rw [show lvStep (c, o) xr.role = (c - 1, o) by simp [lvStep, h3', h12', hc']]
          exact Exs.nil (Exs.nil (Exs.nil (Exs.nil ⟨_, _, rfl⟩)))
        · have hc' : ¬ c > 0 := by simpa using hc
          refine Exs.cons (Ex.assign (i := 3) hnd rfl (.inl rfl) (Ev.bin (EvF.list (.cons (Ev.var (i := 5) rfl rfl) rfl .nil)).ev (Ev.var (i := 3) rfl rfl) (p_add_lst (by simp at hlen ⊢; omega))) ?_)
          rw [show lvStep (c, o) xr.role = (c, xr.role :: o) by simp [lvStep, h3', h12', hc']]
          exact Exs.nil (Exs.nil (Exs.nil (Exs.nil ⟨_, _, rfl⟩)))
      · have h12' : ¬ (xr.role = 1 ∨ xr.role = 2) := by simpa using h12
        rw [show lvStep (c, o) xr.role = (c, o) by simp [lvStep, h3', h12']]
        exact Exs.nil (Exs.nil (Exs.nil ⟨_, _, rfl⟩))
  · rintro ρ' ⟨x, y, rfl⟩
    have hrd : (rangeD ((p : Int) - 1) p (-1)).length = p := by simp [rangeD]
    rw [hrd, List.take_of_length_le (by simp; omega)]
    refine Exs.cons (Ex.assign (i := 6) hnd rfl (.inl rfl) Ev.int ?_)
    generalize ho : (List.foldl lvStep (0, []) rs.reverse) = st
    have hst : lvBack rs = st := ho
    refine Exs.cons (Ex.for (d := intsD st.2) (ds := st.2.map .int) (Ev.var (i := 3) rfl rfl) (.lst _) (fun i ρ' => ∃ y, ρ' = [some (.imm (drsD l)), some (.imm (.int p)), some (.imm (.int st.1)), some (.imm (intsD st.2)), x, y, some (.imm (.int ((st.2.take i).foldl lvUp 0)))]) ⟨_, rfl⟩ ?_ ?_)
    · rintro i di ρi hdi ⟨y, rfl⟩
      rw [List.getElem?_map] at hdi
      obtain ⟨r, hr, rfl⟩ := Option.map_eq_some_iff.mp hdi
      refine ⟨_, As.name (i := 5) hnd rfl (.inl rfl), ?_⟩
      rw [foldl_take_succ lvUp _ _ _ _ hr]
      refine Exs.cons (Ex.assign (i := 6) hnd rfl (.inl rfl) (Ev.bin (Ev.bin (Ev.var (i := 6) rfl rfl) Ev.int p_add) (Ev.bin (Ev.bin (Ev.bin (Ev.var (i := 6) rfl rfl) (Ev.var (i := 5) rfl rfl) p_add) Ev.int p_add) Ev.int (p_mod (by decide))) p_add) ?_)
      exact Exs.nil ⟨_, rfl⟩
    · rintro ρ' ⟨y, rfl⟩
      refine Exs.cons (Ex.ret (Ev.var (i := 6) rfl rfl) ?_)
      rw [List.take_of_length_le (by simp)]
      unfold levelOf
      rw [hst]
end
end Mine
end

section
open PySem PySem.W PyProof.Rows
namespace Mine
noncomputable def shOp1 (o : List Int) (l : Int) (c : Nat) : List Int := if ((c : Int) == 8235 || (c : Int) == 8238) = true then o ++ [l + 1 + l % 2] else o
noncomputable def shOp2 (o : List Int) (l : Int) (c : Nat) : List Int := if ((c : Int) == 8234 || (c : Int) == 8237) = true then o ++ [l + 2 - l % 2] else o
noncomputable def shOp3 (o : List Int) (c : Nat) : List Int := if ((c : Int) == 8236 && decide ((o.length : Int) > 1)) = true then o.take (o.length - 1) else o
noncomputable def shOp (o : List Int) (c : Nat) : List Int := shOp3 (shOp2 (shOp1 o (o.getLastD 0) c) (o.getLastD 0) c) c
noncomputable def shStep (st : List Int × List (Nat × Int)) (c : Nat) : List Int × List (Nat × Int) :=
  if c8S c then (shOp st.1 c, st.2) else if b1S c then st else (st.1, st.2 ++ [(c, st.1.getLastD 0)])
noncomputable def shD (x : Nat × Int) : D := .tup [.str ⟨#[x.1]⟩, .int x.2]
noncomputable def shownOf (cs : List Nat) : List (Nat × Int) := (cs.foldl shStep ([0], [])).2
theorem shOp1_len (o l c) : o.length ≤ (shOp1 o l c).length ∧ (shOp1 o l c).length ≤ o.length + 1 := by unfold shOp1; split <;> simp
theorem shOp2_len (o l c) : o.length ≤ (shOp2 o l c).length ∧ (shOp2 o l c).length ≤ o.length + 1 := by unfold shOp2; split <;> simp
theorem shOp3_len (o c) (h : 0 < o.length) : 0 < (shOp3 o c).length ∧ (shOp3 o c).length ≤ o.length := by
  unfold shOp3; split
  · rename_i q; simp at q; simp; omega
  · simp; omega
theorem shStep_len (st c) (h : 0 < st.1.length) : 0 < (shStep st c).1.length ∧ (shStep st c).1.length ≤ st.1.length + 2 ∧ (shStep st c).2.length ≤ st.2.length + 1 := by
  unfold shStep; split
  · have h1 := shOp1_len st.1 (st.1.getLastD 0) c
    have h2 := shOp2_len (shOp1 st.1 (st.1.getLastD 0) c) (st.1.getLastD 0) c
    have h3 := shOp3_len (shOp2 (shOp1 st.1 (st.1.getLastD 0) c) (st.1.getLastD 0) c) c (by omega)
    simp only [shOp]; omega
  · split
    · omega
    · simp; exact h
theorem shFold_len : ∀ (l : List Nat) (st), 0 < st.1.length → 0 < (l.foldl shStep st).1.length ∧ (l.foldl shStep st).1.length ≤ st.1.length + 2 * l.length ∧ (l.foldl shStep st).2.length ≤ st.2.length + l.length
  | [], st, h => by simp; exact h
  | c :: l, st, h => by
    have h1 := shStep_len st c h
    have h2 := shFold_len l (shStep st c) h1.1
    simp only [List.foldl_cons, List.length_cons]; omega
theorem last_at (o : List Int) (h : 0 < o.length) : (o.map D.int)[((o.length : Int) - 1).toNat]? = some (.int (o.getLastD 0)) := by
  rw [show ((o.length : Int) - 1).toNat = o.length - 1 by omega, List.getElem?_map, ← List.getLast?_eq_getElem?, List.getLastD_eq_getLast?]
  cases o with
  | nil => cases h
  | cons a t => simp [List.getLast?_cons]

noncomputable def cxShown : FnCx := ⟨scopeAt 12, ["text", "opened", "shown", "sign", "level", "code"], []⟩
section
variable {w : World} {T : Imm} {mg mb : Str → Option Value} {f : Fs} {b3f : Int → Option Str} {k : Nat}
theorem shown_fn (G : Glb w T mg mb f b3f) {cs : List Nat} (hl : cs.length ≤ 1000) : Fn pw w T (k + 1 + 1) f.shown [.lst (cs.map fun c => .str ⟨#[c]⟩)] (.lst ((shownOf cs).map shD)) := by
  have hnd : cxShown.vars.Nodup := by decide
  refine fn_of_body (F := cxShown) (more := 5) G.top G.shown.2 rfl (by decide) rfl (by decide) (fun _ => rfl) rfl rfl rfl ?_
  refine Exs.cons (Ex.assign (i := 1) hnd rfl (.inl rfl) (EvF.list (.cons Ev.int rfl .nil)).ev ?_)
  refine Exs.cons (Ex.assignF (i := 2) hnd rfl (.inl rfl) (EvF.list .nil) ?_)
  refine Exs.cons (Ex.for (d := .lst (cs.map fun c => .str ⟨#[c]⟩)) (ds := cs.map fun c => .str ⟨#[c]⟩) (Ev.var (i := 0) rfl rfl) (.lst _)
    (fun i ρ' => ∃ x y z, ρ' = [some (.imm (.lst (cs.map fun c => .str ⟨#[c]⟩))), some (.imm (intsD ((cs.take i).foldl shStep ([0], [])).1)), some (.own (((cs.take i).foldl shStep ([0], [])).2.map shD)), x, y, z]) ⟨_, _, _, rfl⟩ ?_ ?_)
  · rintro i di ρi hdi ⟨x, y, z, rfl⟩
    rw [List.getElem?_map] at hdi
    obtain ⟨c, hc, rfl⟩ := Option.map_eq_some_iff.mp hdi
    have hlen := shFold_len (cs.take i) ([0], []) (by simp)
    have htl : (cs.take i).length ≤ 1000 := by simp; omega
    rw [foldl_take_succ shStep _ _ _ _ hc]
    generalize (cs.take i).foldl shStep ([0], []) = st at hlen
    obtain ⟨o, sh⟩ := st
    simp only [List.length_cons, List.length_nil] at hlen
    refine ⟨_, As.name (i := 3) hnd rfl (.inl rfl), ?_⟩
    refine Exs.cons (Ex.assign (i := 4) hnd rfl (.inl rfl) (Ev.sub (Ev.var (i := 1) rfl rfl) (Ev.bin (Ev.callB (Ev.blt G.top rfl G.len.1 G.len.2) (.cons (Ev.var (i := 1) rfl rfl) rfl .nil) (hp := p_len_lst (by simp; omega))) Ev.int p_sub)
      (p_item_lst (d := .int (o.getLastD 0)) (by simp; omega) (by rw [List.length_map]; exact last_at o hlen.1) (hi := by simp; omega))) ?_)
    refine Exs.cons (Ex.ite (b := c8S c) (Tr.val (Ev.callF (Ev.glob G.top rfl G.c8.1) (.cons (Ev.var (i := 3) rfl rfl) rfl .nil) (c8_fn G))) (fun h8 => ?_) (fun h8 => ?_))
    · rw [show shStep (o, sh) c = (shOp o c, sh) by simp [shStep, h8]]
      refine Exs.cons (Ex.assign (i := 5) hnd rfl (.inl rfl) (Ev.callB (Ev.blt G.top rfl G.ord.1 G.ord.2) (.cons (Ev.var (i := 3) rfl rfl) rfl .nil) (hp := p_ord)) ?_)
      have h1 := shOp1_len o (o.getLastD 0) c
      have h2 := shOp2_len (shOp1 o (o.getLastD 0) c) (o.getLastD 0) c
      unfold shOp
      generalize hL : o.getLastD 0 = L at *
      generalize h1e : shOp1 o L c = o1 at *
      generalize h2e : shOp2 o1 L c = o2 at *
      refine Exs.cons (Ex.mono (Φ := fun out => out = .next [some (.imm (.lst (cs.map fun c => .str ⟨#[c]⟩))), some (.imm (intsD o1)), some (.own (sh.map shD)), some (.imm (.str ⟨#[c]⟩)), some (.imm (.int L)), some (.imm (.int c))])
        (Ex.ite (Tr.or (Tr.cmp (Ev.var (i := 5) rfl rfl) Ev.int p_eq) (fun _ => Tr.cmp (Ev.var (i := 5) rfl rfl) Ev.int p_eq)) (fun hb => ?_) (fun hb => ?_)) ?_)
      · refine Exs.cons (Ex.assign (i := 1) (d := intsD o1) hnd rfl (.inl rfl) (Ev.cast (Ev.bin (Ev.var (i := 1) rfl rfl) (EvF.list (.cons (Ev.bin (Ev.bin (Ev.var (i := 4) rfl rfl) Ev.int p_add) (Ev.bin (Ev.var (i := 4) rfl rfl) Ev.int (p_mod (by decide))) p_add) rfl .nil)).ev (p_add_lst (by simp; omega))) ?_) ?_)
        · rw [← h1e, shOp1, if_pos hb]; simp [intsD]
        · exact Exs.nil rfl
      · rw [← h1e, shOp1, if_neg (by simp [hb])]; exact Exs.nil rfl
      rintro _ rfl
      refine Exs.cons (Ex.mono (Φ := fun out => out = .next [some (.imm (.lst (cs.map fun c => .str ⟨#[c]⟩))), some (.imm (intsD o2)), some (.own (sh.map shD)), some (.imm (.str ⟨#[c]⟩)), some (.imm (.int L)), some (.imm (.int c))])
        (Ex.ite (Tr.or (Tr.cmp (Ev.var (i := 5) rfl rfl) Ev.int p_eq) (fun _ => Tr.cmp (Ev.var (i := 5) rfl rfl) Ev.int p_eq)) (fun hb => ?_) (fun hb => ?_)) ?_)
      · refine Exs.cons (Ex.assign (i := 1) (d := intsD o2) hnd rfl (.inl rfl) (Ev.cast (Ev.bin (Ev.var (i := 1) rfl rfl) (EvF.list (.cons (Ev.bin (Ev.bin (Ev.var (i := 4) rfl rfl) Ev.int p_add) (Ev.bin (Ev.var (i := 4) rfl rfl) Ev.int (p_mod (by decide))) p_sub) rfl .nil)).ev (p_add_lst (by simp; omega))) ?_) ?_)
        · rw [← h2e, shOp2, if_pos hb]; simp [intsD]
        · exact Exs.nil rfl
      · rw [← h2e, shOp2, if_neg (by simp [hb])]; exact Exs.nil rfl
      rintro _ rfl
      have hln : ((o2.map D.int).length : Int) = o2.length := by simp
      refine Exs.cons (Ex.ite (b := (c : Int) == 8236 && decide ((o2.length : Int) > 1)) (Tr.and (Tr.cmp (Ev.var (i := 5) rfl rfl) Ev.int p_eq) (fun _ => Tr.cmp (Ev.cast (Ev.callB (Ev.blt G.top rfl G.len.1 G.len.2) (.cons (Ev.var (i := 1) rfl rfl) rfl .nil) (hp := p_len_lst (by simp; omega))) (by rw [hln])) Ev.int p_gt)) (fun hb => ?_) (fun hb => ?_))
      · rw [shOp3, if_pos hb]
        have hpos : 0 < o2.length := by simp at hb; omega
        refine Exs.cons (Ex.assign (i := 1) (d := intsD (o2.take (o2.length - 1))) hnd rfl (.inl rfl) (Ev.cast (Ev.sliceL (Ev.var (i := 1) rfl rfl) .none (.int (Ev.bin (Ev.cast (Ev.callB (Ev.blt G.top rfl G.len.1 G.len.2) (.cons (Ev.var (i := 1) rfl rfl) rfl .nil) (hp := p_len_lst (by simp; omega))) (by rw [hln])) Ev.int p_sub)) (by simp; omega)) ?_) ?_)
        · rw [show ((o2.length : Int) - 1) = ((o2.length - 1 : Nat) : Int) by omega, cut_to, ← List.map_take]; rfl
        · exact Exs.nil (Exs.nil (Exs.nil ⟨_, _, _, rfl⟩))
      · rw [shOp3, if_neg (by simp [hb])]
        exact Exs.nil (Exs.nil (Exs.nil ⟨_, _, _, rfl⟩))
    · refine Exs.cons (Ex.ite (b := !b1S c) (Tr.not (Tr.val (Ev.callF (Ev.glob G.top rfl G.b1.1) (.cons (Ev.var (i := 3) rfl rfl) rfl .nil) (b1_fn G)))) (fun h1 => ?_) (fun h1 => ?_))
      · rw [show shStep (o, sh) c = (o, sh ++ [(c, o.getLastD 0)]) by simp at h1; simp [shStep, h8, h1]]
        refine Exs.cons (Ex.append (i := 2) (d := shD (c, o.getLastD 0)) rfl rfl (Ev.tuple (.cons (Ev.var (i := 3) rfl rfl) rfl (.cons (Ev.var (i := 4) rfl rfl) rfl .nil))) ?_ (by simp; omega))
        exact Exs.nil (Exs.nil (Exs.nil ⟨_, _, _, by rw [List.map_append]; rfl⟩))
      · rw [show shStep (o, sh) c = (o, sh) by simp at h1; simp [shStep, h8, h1]]
        exact Exs.nil (Exs.nil (Exs.nil ⟨_, _, _, rfl⟩))
  · rintro ρ' ⟨x, y, z, rfl⟩
    refine Exs.freeze (i := 2) rfl (Exs.cons (Ex.ret (Ev.var (i := 2) rfl rfl) ?_))
    rw [List.take_of_length_le (by simp)]; rfl
end
end Mine
end

section
open PySem PySem.W PyProof.Rows
set_option maxRecDepth 100000
namespace Mine
noncomputable def cxTurned : FnCx := ⟨scopeAt 16, ["word"], ["word"]⟩
noncomputable def revS (x : Str) : Str := ⟨x.cps.reverse⟩
section
variable {w : World} {T : Imm} {mg mb : Str → Option Value} {f : Fs} {b3f : Int → Option Str} {k : Nat}
theorem rangeD_up (n : Nat) : rangeD 0 n 1 = (List.range n).map fun i => D.int (i : Nat) := by
  unfold rangeD; apply List.map_congr_left; intro i _; simp
theorem foldl_signs : ∀ (l : List Nat) (acc : Array Nat), (l.map fun c => (⟨#[c]⟩ : Str)).foldl (fun acc p => acc ++ (⟨#[]⟩ : Str).cps ++ p.cps) acc = acc ++ l.toArray
  | [], acc => by simp
  | c :: l, acc => by
    rw [List.map_cons, List.foldl_cons, foldl_signs l]
    apply Array.ext'; simp
theorem joined_signs {α : Type} (l : List α) (g : α → Nat) : Txt.join "" (l.map fun i => (⟨#[g i]⟩ : Str)) = ⟨(l.map g).toArray⟩ := by
  cases l with
  | nil => rfl
  | cons a l =>
    show (⟨(l.map fun i => (⟨#[g i]⟩ : Str)).foldl (fun acc p => acc ++ (⟨#[]⟩ : Str).cps ++ p.cps) #[g a]⟩ : Str) = _
    have := foldl_signs (l.map g) #[g a]
    rw [List.map_map] at this
    rw [show (l.map fun i => (⟨#[g i]⟩ : Str)) = l.map ((fun c => (⟨#[c]⟩ : Str)) ∘ g) from rfl, this]
    congr 1
    apply Array.ext'; simp
theorem turned_fn (G : Glb w T mg mb f b3f) {x : Str} (hl : x.cps.size ≤ 100) : Fn pw w T (k + 1) f.turned [.str x] (.str (revS x)) := by
  refine fn_of_body (F := cxTurned) (more := 0) G.top G.turned.2 rfl (by decide) rfl (by decide) (fun _ => rfl) rfl rfl rfl ?_
  have hlen : x.length = x.cps.size := rfl
  refine Exs.cons (Ex.ret (d := .str (Txt.join "" ((List.range x.cps.size).map fun i => ⟨#[x.cps.toList[x.cps.size - 1 - i]?.getD 0]⟩))) (Ev.join Ev.str (Ev.cast (EvF.ev (CompF.ev (CompF.mapL (own := ["k"]) (caps := [("word", .str x)])
    (g := fun i : Nat => D.int i) (h := fun i => D.str ⟨#[x.cps.toList[x.cps.size - 1 - i]?.getD 0]⟩) (xs := List.range x.cps.size)
    (fun ρ => ∃ a, ρ = slots [a, some (.str x)]) (Ev.callT (Ev.blt G.top rfl G.range.1 G.range.2) (.cons (Ev.callB (Ev.blt G.top rfl G.len.1 G.len.2) (.cons (Ev.var (i := 0) rfl rfl) rfl .nil) (hp := p_len_str (by omega))) rfl .nil) (hp := p_range1))
    (by rw [← rangeD_up]; exact .rng (small_up (by omega) (by omega) (by omega) (by omega)) (size_up (by omega))) (.mk' ["word"] [] (.cons (.mk 0) .nil)) (by rintro _ ⟨a, rfl⟩; exact slots_no _) (by simp; omega) ⟨none, rfl⟩ ?_))) ?_) rfl ?_) ?_)
  · rintro i j ρi hj ⟨a, rfl⟩
    have hi : j < x.cps.size := by simpa using List.mem_of_getElem? hj
    refine ⟨_, As.name (i := 0) (by decide) rfl (.inl rfl), ⟨some _, rfl⟩, ?_⟩
    refine Ev.sub (Ev.var (i := 1) rfl rfl) (Ev.bin (Ev.bin (Ev.callB (Ev.blt G.top rfl G.len.1 G.len.2) (.cons (Ev.var (i := 1) rfl rfl) rfl .nil) (hp := p_len_str (by omega))) Ev.int p_sub) (Ev.var (i := 0) rfl rfl) p_sub) (p_item_str (by omega) ?_ (hi := by omega))
    rw [show (((x.length : Int) - 1 - (j : Nat)).toNat) = x.cps.size - 1 - j by omega, ← Array.getElem?_toList, List.getElem?_eq_getElem (by simp; omega)]
    rfl
  · simp
  · show (!_) = true
    rw [StrLaws.joinFits (B := 1) (by intro y hy; obtain ⟨i, _, e⟩ := List.mem_map.mp hy; rw [← e]; exact Nat.le_refl 1) (by simp [show Str.length "" = 0 from rfl]; omega)]; rfl
  · rw [joined_signs (List.range x.cps.size) (fun i => x.cps.toList[x.cps.size - 1 - i]?.getD 0)]
    unfold revS
    rw [show ((List.range x.cps.size).map fun i => x.cps.toList[x.cps.size - 1 - i]?.getD 0).toArray = x.cps.reverse from ?_]
    apply Array.ext'
    rw [Array.toList_reverse]
    apply List.ext_getElem
    · simp
    · intro i h1 h2
      simp at h1
      simp [List.getElem_reverse, Array.getElem?_eq_getElem (show x.cps.size - 1 - i < x.cps.size by omega)]
end
end Mine
end

section
open PySem PySem.W PyProof.Rows
set_option maxRecDepth 100000
namespace Mine
noncomputable def cxOrder : FnCx := ⟨scopeAt 15, ["levels", "odd", "ahead", "i", "least", "j"], ["ahead"]⟩
noncomputable def oddAt (odd : List Bool) (m : Int) : Bool := odd[m.toNat]?.getD false
noncomputable def bump (l : List Int) (i : Nat) : List Int := l.set i (l[i]?.getD 0 + 1)
noncomputable def ordStep (ls : List Int) (odd : List Bool) (i : Nat) (st : Int × List Int) (j : Nat) : Int × List Int :=
  (min st.1 (ls[j]?.getD 0), if oddAt odd (min st.1 (ls[j]?.getD 0)) = true then bump st.2 i else bump st.2 j)
noncomputable def ordRow (ls : List Int) (odd : List Bool) (ah : List Int) (i : Nat) : List Int :=
  (((List.range (ls.length - (i + 1))).map (i + 1 + ·)).foldl (ordStep ls odd i) (ls[i]?.getD 0, ah)).2
noncomputable def aheadOf (ls : List Int) (odd : List Bool) : List Int := (List.range ls.length).foldl (ordRow ls odd) (List.replicate ls.length 0)
theorem bump_len (l i) : (bump l i).length = l.length := by simp [bump]
theorem ordStep_len (ls odd i st j) : (ordStep ls odd i st j).2.length = st.2.length := by unfold ordStep; dsimp only; split <;> exact bump_len _ _
theorem ordFold_len (ls odd i) : ∀ (js : List Nat) st, (js.foldl (ordStep ls odd i) st).2.length = st.2.length
  | [], st => rfl
  | j :: js, st => by rw [List.foldl_cons, ordFold_len ls odd i js, ordStep_len]
theorem ordRow_len (ls odd ah i) : (ordRow ls odd ah i).length = ah.length := ordFold_len _ _ _ _ _
theorem ordRows_len (ls odd) : ∀ (js : List Nat) ah, (js.foldl (ordRow ls odd) ah).length = ah.length
  | [], ah => rfl
  | j :: js, ah => by rw [List.foldl_cons, ordRows_len ls odd js, ordRow_len]
/-- the least so far is between 0 and the first -/
theorem ordFold_least (ls : List Int) (odd i) (M : Int) (h0 : ∀ x ∈ ls, 0 ≤ x) : ∀ (js : List Nat) st, (0 ≤ st.1 ∧ st.1 < M) → 0 ≤ (js.foldl (ordStep ls odd i) st).1 ∧ (js.foldl (ordStep ls odd i) st).1 < M
  | [], st, h => h
  | j :: js, st, h => by
    rw [List.foldl_cons]
    refine ordFold_least ls odd i M h0 js _ ?_
    have : 0 ≤ ls[j]?.getD 0 := by
      cases e : ls[j]? with
      | none => simp
      | some v => simpa using h0 v (List.mem_of_getElem? e)
    unfold ordStep; dsimp only; omega

section
variable {w : World} {T : Imm} {mg mb : Str → Option Value} {f : Fs} {b3f : Int → Option Str} {k : Nat}
theorem rangeD_from (a n : Nat) : rangeD a n 1 = ((List.range n).map (a + ·)).map fun i => D.int (i : Nat) := by
  unfold rangeD; rw [List.map_map]; apply List.map_congr_left; intro i _; simp
theorem bump_map (a : List Int) (i : Nat) : (bump a i).map D.int = (a.map D.int).set i (.int (a[i]?.getD 0 + 1)) := by unfold bump; rw [List.map_set]
theorem getD_at (a : List Int) {i : Nat} (h : i < a.length) : (a.map D.int)[((i : Nat) : Int).toNat]? = some (.int (a[i]?.getD 0)) := by
  rw [Int.toNat_natCast, List.getElem?_map, List.getElem?_eq_getElem h]; rfl
theorem order_fn (G : Glb w T mg mb f b3f) {ls : List Int} {odd : List Bool} (hn : ls.length ≤ 1000) (h0 : ∀ x ∈ ls, 0 ≤ x ∧ x < odd.length) (hperm : ∀ i : Nat, i < ls.length → (i : Int) ∈ aheadOf ls odd) (hlay : PyData.layable0 (.list ((aheadOf ls odd).map .int)) = true) (hodd : odd.length ≤ 1000) :
    Fn pw w T (k + 1) f.order [intsD ls, .lst (odd.map .bool)] (.lst ((List.range ls.length).map fun i : Nat => D.int ((aheadOf ls odd).idxOf (i : Int) : Nat))) := by
  have hnd : cxOrder.vars.Nodup := by decide
  refine fn_of_body (F := cxOrder) (more := 4) G.top G.order.2 rfl (by decide) rfl (by decide) (fun _ => rfl) rfl rfl rfl ?_
  have hz : (ls.map fun _ => D.int 0) = (List.replicate ls.length (0 : Int)).map D.int := by rw [List.map_replicate, List.map_const']
  have hlen : (ls.map D.int).length = ls.length := by simp
  refine Exs.cons (Ex.assignF (i := 2) (l := (List.replicate ls.length (0 : Int)).map D.int) hnd rfl (.inr ⟨rfl, by decide⟩) (hz ▸ CompF.ev (CompF.mapL (own := ["level"]) (caps := []) (xs := ls) (g := D.int) (h := fun _ => D.int 0) (fun ρ => ∃ a, ρ = slots [a]) (Ev.var (i := 0) rfl rfl) (.lst _) (.mk' [] [] .nil) (by rintro _ ⟨a, rfl⟩; exact slots_no _) (by omega) ⟨none, rfl⟩
    (by rintro i x ρi _ ⟨a, rfl⟩; exact ⟨_, As.name (i := 0) (by decide) rfl (.inl rfl), ⟨some _, rfl⟩, Ev.int⟩))) ?_ (hs := fun env h _ => swaps_cell rfl env h))
  have hrng : Iterates (.rng 0 (ls.length : Nat) 1) ((List.range ls.length).map fun i => D.int (i : Nat)) := by rw [← rangeD_up]; exact .rng (small_up (by omega) (by omega) (by omega) (by omega)) (size_up (by omega))
  refine Exs.cons (Ex.for (d := .rng 0 (ls.length : Nat) 1) (ds := (List.range ls.length).map fun i => D.int (i : Nat))
    (Ev.callT (Ev.blt G.top rfl G.range.1 G.range.2) (.cons (Ev.cast (Ev.callB (Ev.blt G.top rfl G.len.1 G.len.2) (.cons (Ev.var (i := 0) rfl rfl) rfl .nil) (hp := p_len_lst (by rw [hlen]; omega))) (by rw [hlen])) rfl .nil) (hp := p_range1)) hrng
    (fun i ρ' => ∃ x y z, ρ' = [some (.imm (intsD ls)), some (.imm (.lst (odd.map .bool))), some (.own ((((List.range ls.length).take i).foldl (ordRow ls odd) (List.replicate ls.length 0)).map D.int)), x, y, z]) ⟨_, _, _, rfl⟩ ?_ ?_)
  · rintro i di ρi hdi ⟨x, y, z, rfl⟩
    rw [List.getElem?_map] at hdi
    obtain ⟨i', hi', rfl⟩ := Option.map_eq_some_iff.mp hdi
    obtain ⟨hi, rfl⟩ : i < ls.length ∧ i = i' := by
      have h1 := (List.getElem?_eq_some_iff.mp hi').1
      have h2 := (List.getElem?_eq_some_iff.mp hi').2
      simp at h1 h2; exact ⟨h1, h2⟩
    rw [foldl_take_succ (ordRow ls odd) _ _ _ _ hi']
    have hal := ordRows_len ls odd ((List.range ls.length).take i) (List.replicate ls.length 0)
    rw [List.length_replicate] at hal
    generalize ((List.range ls.length).take i).foldl (ordRow ls odd) (List.replicate ls.length 0) = ah at hal ⊢
    have hls : ls[i]? = some ls[i] := List.getElem?_eq_getElem hi
    have hi0 := h0 _ (List.getElem_mem hi)
    refine ⟨_, As.name (i := 3) hnd rfl (.inl rfl), ?_⟩
    refine Exs.cons (Ex.assign (i := 4) hnd rfl (.inl rfl) (Ev.sub (Ev.var (i := 0) rfl rfl) (Ev.var (i := 3) rfl rfl) (p_item_lst (d := .int ls[i]) (by omega) (by rw [List.getElem?_map]; simp) (hi := by omega))) ?_)
    have hrng2 : Iterates (.rng ((i : Int) + 1) (ls.length : Nat) 1) (((List.range (ls.length - (i + 1))).map (i + 1 + ·)).map fun i => D.int (i : Nat)) := by
      rw [← rangeD_from, show ((i : Int) + 1) = ((i + 1 : Nat) : Int) by omega]; exact .rng (small_up (by omega) (by omega) (by omega) (by omega)) (size_up (by omega))
    refine Exs.cons (Ex.for (d := .rng ((i : Int) + 1) (ls.length : Nat) 1) (ds := ((List.range (ls.length - (i + 1))).map (i + 1 + ·)).map fun i => D.int (i : Nat))
      (Ev.callT (Ev.blt G.top rfl G.range.1 G.range.2) (.cons (Ev.bin (Ev.var (i := 3) rfl rfl) Ev.int p_add) rfl (.cons (Ev.cast (Ev.callB (Ev.blt G.top rfl G.len.1 G.len.2) (.cons (Ev.var (i := 0) rfl rfl) rfl .nil) (hp := p_len_lst (by rw [hlen]; omega))) (by rw [hlen])) rfl .nil)) (hp := p_range2)) hrng2
      (fun t ρ' => ∃ z, ρ' = [some (.imm (intsD ls)), some (.imm (.lst (odd.map .bool))), some (.own (((((List.range (ls.length - (i + 1))).map (i + 1 + ·)).take t).foldl (ordStep ls odd i) (ls[i]?.getD 0, ah)).2.map D.int)), some (.imm (.int i)), some (.imm (.int ((((List.range (ls.length - (i + 1))).map (i + 1 + ·)).take t).foldl (ordStep ls odd i) (ls[i]?.getD 0, ah)).1)), z]) ⟨z, ?_⟩ ?_ ?_)
    · rw [hls]; rfl
    · rintro t dj ρj hdj ⟨z, rfl⟩
      rw [List.getElem?_map] at hdj
      obtain ⟨j, hj, rfl⟩ := Option.map_eq_some_iff.mp hdj
      rw [foldl_take_succ (ordStep ls odd i) _ _ _ _ hj]
      have hjl : j < ls.length := by
        have := List.mem_of_getElem? hj
        obtain ⟨q, h1, h2⟩ := List.mem_map.mp this
        simp at h1; omega
      have hlen2 := ordFold_len ls odd i (((List.range (ls.length - (i + 1))).map (i + 1 + ·)).take t) (ls[i]?.getD 0, ah)
      have hle := ordFold_least ls odd i odd.length (fun x hx => (h0 x hx).1) (((List.range (ls.length - (i + 1))).map (i + 1 + ·)).take t) (ls[i]?.getD 0, ah) (by rw [hls]; exact hi0)
      generalize (((List.range (ls.length - (i + 1))).map (i + 1 + ·)).take t).foldl (ordStep ls odd i) (ls[i]?.getD 0, ah) = st at hlen2 hle ⊢
      obtain ⟨m, a⟩ := st
      dsimp only at hlen2 hle
      have hjs : ls[j]? = some ls[j] := List.getElem?_eq_getElem hjl
      have hj0 := h0 _ (List.getElem_mem hjl)
      unfold ordStep
      rw [hjs]
      dsimp only [Option.getD_some]
      have hmb : 0 ≤ min m ls[j] ∧ min m ls[j] < odd.length := by omega
      have hal2 : a.length = ls.length := by omega
      have hod : odd[(min m ls[j]).toNat]? = some (oddAt odd (min m ls[j])) := by unfold oddAt; rw [List.getElem?_eq_getElem (by omega)]; rfl
      refine ⟨_, As.name (i := 5) hnd rfl (.inl rfl), ?_⟩
      refine Exs.cons (Ex.assign (i := 4) hnd rfl (.inl rfl) (Ev.callB (Ev.blt G.top rfl G.min.1 G.min.2) (.cons (Ev.var (i := 4) rfl rfl) rfl (.cons (Ev.sub (Ev.var (i := 0) rfl rfl) (Ev.var (i := 5) rfl rfl) (p_item_lst (d := .int ls[j]) (by omega) (by rw [List.getElem?_map]; simp) (hi := by omega))) rfl .nil)) (hp := p_min)) ?_)
      refine Exs.cons (Ex.ite (b := oddAt odd (min m ls[j])) (Tr.val (Ev.sub (Ev.var (i := 1) rfl rfl) (Ev.var (i := 4) rfl rfl) (p_item_lst hmb.1 (by rw [List.getElem?_map, hod]; rfl) (hi := by omega)))) (fun hb => ?_) (fun hb => ?_))
      · refine Exs.cons (Ex.setItem (i := 2) (n := i) (d := .int (a[i]?.getD 0 + 1)) rfl rfl (Ev.bin (Ev.itemO (i := 2) (d := .int (a[i]?.getD 0)) rfl rfl (Ev.var (i := 3) rfl rfl) (by omega) (getD_at _ (by omega)) (hfit := by omega)) Ev.int p_add) (Ev.var (i := 3) rfl rfl) (by simp; omega) ?_)
        rw [if_pos hb, bump_map]
        exact Exs.nil (Exs.nil ⟨_, rfl⟩)
      · refine Exs.cons (Ex.setItem (i := 2) (n := j) (d := .int (a[j]?.getD 0 + 1)) rfl rfl (Ev.bin (Ev.itemO (i := 2) (d := .int (a[j]?.getD 0)) rfl rfl (Ev.var (i := 5) rfl rfl) (by omega) (getD_at _ (by omega)) (hfit := by omega)) Ev.int p_add) (Ev.var (i := 5) rfl rfl) (by simp; omega) ?_)
        rw [if_neg (by simp [hb]), bump_map]
        exact Exs.nil (Exs.nil ⟨_, rfl⟩)
    · rintro ρ' ⟨z, rfl⟩
      rw [List.length_map, List.take_of_length_le (Nat.le_refl _)]
      exact Exs.nil ⟨_, _, _, rfl⟩
  · rintro ρ' ⟨x, y, z, rfl⟩
    rw [List.length_map, List.take_of_length_le (Nat.le_refl _)]
    refine Exs.freeze (i := 2) rfl (Exs.cons (Ex.ret (EvF.ev (CompF.ev (CompF.mapL (own := ["k"]) (caps := [("ahead", intsD (aheadOf ls odd))]) (xs := List.range ls.length) (g := fun i : Nat => D.int i) (h := fun i : Nat => D.int ((aheadOf ls odd).idxOf (i : Int) : Nat)) (fun ρ => ∃ a, ρ = slots [a, some (intsD (aheadOf ls odd))])
      (Ev.callT (Ev.blt G.top rfl G.range.1 G.range.2) (.cons (Ev.cast (Ev.callB (Ev.blt G.top rfl G.len.1 G.len.2) (.cons (Ev.var (i := 0) rfl rfl) rfl .nil) (hp := p_len_lst (by rw [hlen]; omega))) (by rw [hlen])) rfl .nil) (hp := p_range1)) hrng (.mk' ["ahead"] [] (.cons (.mk 2) .nil)) (by rintro _ ⟨a, rfl⟩; exact slots_no _) (by simp; omega) ⟨none, rfl⟩ ?_))) rfl))
    rintro i j ρi hj ⟨a, rfl⟩
    have hi : j < ls.length := by simpa using List.mem_of_getElem? hj
    exact ⟨_, As.name (i := 0) (by decide) rfl (.inl rfl), ⟨some _, rfl⟩, Ev.index (Ev.var (i := 1) rfl rfl) (Ev.var (i := 0) rfl rfl) rfl (hperm _ hi) hlay⟩
end
end Mine
end

section
open PySem PySem.W PyProof.Rows
set_option maxRecDepth 100000
namespace Mine
noncomputable def cxDrawn : FnCx := ⟨scopeAt 10, ["number", "kind", "place", "runs", "first", "last", "role", "code", "letter", "form", "words", "word"], []⟩
noncomputable def chrS (i : Int) : Str := ⟨#[i.toNat]⟩
noncomputable def runsL : List (Int × Int × Int) := [(173, 173, 4), (832, 833, 5), (847, 847, 4), (6150, 6150, 4), (6155, 6157, 4), (8203, 8205, 4), (8206, 8207, 5), (8234, 8238, 5), (8288, 8288, 4), (8298, 8303, 5), (65024, 65039, 4), (65279, 65279, 4)]
noncomputable def d3 (r : Int × Int × Int) : D := .tup [.int r.1, .int r.2.1, .int r.2.2]
noncomputable def atI (l : List Int) (i : Int) : Int := l[i.toNat]?.getD 0
noncomputable def codeOf (kind place : Int) : Int :=
  if kind = 2 then (runsL[(place % 12).toNat]?.getD (0, 0, 0)).1 - 1 + place / 12 % ((runsL[(place % 12).toNat]?.getD (0, 0, 0)).2.1 - (runsL[(place % 12).toNat]?.getD (0, 0, 0)).1 + 3)
  else if place % 2 = 0 then 8236 else atI [8234, 8235, 8237, 8238] (place / 2 % 4)
noncomputable def ofCode (code : Int) : Dr :=
  if 8234 ≤ code ∧ code ≤ 8238 then ⟨code, atI [2, 1, 3, 2, 1] (code - 8234), ""⟩
  else match runsL.find? (fun r => decide (r.1 ≤ code) && decide (code ≤ r.2.1)) with
    | some r => ⟨code, r.2.2, ""⟩
    | none => ⟨code, 0, chrS code⟩
noncomputable def wordsL : List (Int × Str) := [(8481, "tel"), (13169, "hpa"), (13201, "khz"), (13202, "mhz"), (13203, "ghz"), (13204, "thz"), (13226, "kpa"), (13227, "mpa"), (13228, "gpa"), (13254, ("c" : Str) ++ chrS 8725 ++ "kg"), (13255, "co."), (13273, "ppm"), (64259, "ffi"), (64260, "ffl")]
noncomputable def three : List Dr := [⟨223, 0, "ss"⟩, ⟨64256, 0, "ff"⟩, ⟨13261, 0, "kk"⟩]
noncomputable def wD (x : Int × Str) : D := .tup [.int x.1, .str x.2]
noncomputable def drawnOf (n : Int) : Dr :=
  let kind := n % 8
  let place := n / 8
  if kind < 3 then ofCode (codeOf kind place)
  else if kind = 3 then
    let letter := place % 26
    let form := place / 26 % 13
    if form > 9 then ⟨atI [65, 1040, 65313] (form - 10) + letter, 0, chrS (atI [65, 1040, 65313] (form - 10) + 32 + letter)⟩
    else ⟨119808 + 52 * atI [0, 1, 2, 4, 7, 8, 9, 10, 11, 12] form + letter, 0, chrS (97 + letter)⟩
  else if kind = 4 then three[(place % 3).toNat]?.getD ⟨0, 0, ""⟩
  else if kind = 5 then ⟨8064 + place % 48, 0, chrS (atI [7936, 7968, 8032] (place % 48 / 16) + place % 48 % 8) ++ chrS 953⟩
  else ⟨(wordsL[(place % 14).toNat]?.getD (0, "")).1, 0, (wordsL[(place % 14).toNat]?.getD (0, "")).2⟩
section
variable {w : World} {T : Imm} {mg mb : Str → Option Value} {f : Fs} {b3f : Int → Option Str} {k : Nat}
theorem at_ints (l : List Int) {i : Int} (h0 : 0 ≤ i) (h : i < l.length) : (l.map D.int)[i.toNat]? = some (.int (atI l i)) := by
  unfold atI; rw [List.getElem?_map, List.getElem?_eq_getElem (by omega)]; rfl
theorem find_first {α : Type} {p : α → Bool} {l : List α} {i : Nat} {r : α} (hr : l[i]? = some r) (hno : ∀ q ∈ l.take i, p q = false) (hm : p r = true) : l.find? p = some r := by
  have hi := (List.getElem?_eq_some_iff.mp hr).1
  rw [← List.take_append_drop i l, List.find?_append, List.find?_eq_none.mpr (fun q hq => by rw [hno q hq]; decide), List.drop_eq_getElem_cons hi, (List.getElem?_eq_some_iff.mp hr).2]
  simp [hm]
theorem codeOf_small {kd pl : Int} (h : 0 ≤ pl) : 0 ≤ codeOf kd pl ∧ codeOf kd pl < 70000 := by
  unfold codeOf
  split
  · have hlt : (pl % 12).toNat < runsL.length := by show _ < 12; omega
    generalize hr : runsL[(pl % 12).toNat]?.getD (0, 0, 0) = r
    have hget : runsL[(pl % 12).toNat]? = some r := by rw [← hr, List.getElem?_eq_getElem hlt]; rfl
    have hall : ∀ r ∈ runsL, 173 ≤ r.1 ∧ r.1 ≤ r.2.1 ∧ r.2.1 < 66000 := by decide
    have := hall r (List.mem_of_getElem? hget)
    have h3 := Int.emod_nonneg (pl / 12) (show r.2.1 - r.1 + 3 ≠ 0 by omega)
    have h4 := Int.emod_lt_of_pos (pl / 12) (show 0 < r.2.1 - r.1 + 3 by omega)
    omega
  · split
    · omega
    · unfold atI
      have h1 : (pl / 2 % 4).toNat < 4 := by omega
      generalize (pl / 2 % 4).toNat = m at h1
      have : m = 0 ∨ m = 1 ∨ m = 2 ∨ m = 3 := by omega
      rcases this with rfl | rfl | rfl | rfl <;> decide
theorem at_small (l : List Int) {i : Int} (h0 : 0 ≤ i) (h : i < l.length) (hall : ∀ x ∈ l, 0 ≤ x ∧ x < 200000) : 0 ≤ atI l i ∧ atI l i < 200000 := by
  unfold atI
  rw [List.getElem?_eq_getElem (by omega)]
  exact hall _ (List.getElem_mem _)
theorem drawn_fn (G : Glb w T mg mb f b3f) {n : Int} (h0 : 0 ≤ n) (h1 : n < 1000000) : Fn pw w T (k + 1) f.drawn [.int n] (drawnOf n).d := by
  have hnd : cxDrawn.vars.Nodup := by decide
  refine fn_of_body (F := cxDrawn) (more := 11) G.top G.drawn.2 rfl (by decide) rfl (by decide) (fun _ => rfl) rfl rfl rfl ?_
  refine Exs.cons (Ex.assign (i := 1) hnd rfl (.inl rfl) (Ev.bin (Ev.var (i := 0) rfl rfl) Ev.int (p_mod (by decide))) ?_)
  refine Exs.cons (Ex.assign (i := 2) hnd rfl (.inl rfl) (Ev.bin (Ev.var (i := 0) rfl rfl) Ev.int (p_div (by decide) (by decide))) ?_)
  unfold drawnOf
  dsimp only
  have hk0 : 0 ≤ n % 8 ∧ n % 8 < 8 := by omega
  have hp0 : 0 ≤ n / 8 ∧ n / 8 < 125000 := by omega
  generalize n % 8 = kd at hk0 ⊢
  generalize n / 8 = pl at hp0 ⊢
  refine Exs.cons (Ex.ite (Tr.cmp (Ev.var (i := 1) rfl rfl) Ev.int p_lt) (fun hb => ?_) (fun hb => ?_))
  · have hb' : kd < 3 := by simpa using hb
    rw [if_pos hb']
    have hrl : ([.tup [.int 173, .int 173, .int 4], .tup [.int 832, .int 833, .int 5], .tup [.int 847, .int 847, .int 4], .tup [.int 6150, .int 6150, .int 4], .tup [.int 6155, .int 6157, .int 4], .tup [.int 8203, .int 8205, .int 4], .tup [.int 8206, .int 8207, .int 5], .tup [.int 8234, .int 8238, .int 5], .tup [.int 8288, .int 8288, .int 4], .tup [.int 8298, .int 8303, .int 5], .tup [.int 65024, .int 65039, .int 4], .tup [.int 65279, .int 65279, .int 4]] : List D) = runsL.map d3 := rfl
    refine Exs.cons ?_
    generalize hds : D.lst (runsL.map d3) = rd
    refine Ex.assign (i := 3) (d := rd) hnd rfl (.inl rfl) (by rw [← hds, ← hrl]; refine EvF.ev (EvF.list ?_); (repeat (first | exact Evs.nil | exact Ev.int | exact Ev.str | refine Evs.cons ?_ rfl ?_ | refine Ev.tuple ?_))) ?_
    subst hds
    refine Exs.cons (Ex.mono (Φ := fun o => ∃ x y z, o = .next [some (.imm (.int n)), some (.imm (.int kd)), some (.imm (.int pl)), some (.imm (.lst (runsL.map d3))), x, y, z, some (.imm (.int (codeOf kd pl))), none, none, none, none]) ?_ ?_)
    · unfold codeOf
      refine Ex.ite (Tr.cmp (Ev.var (i := 1) rfl rfl) Ev.int p_eq) (fun h2 => ?_) (fun h2 => ?_)
      · have h2' : kd = 2 := by simpa using h2
        rw [if_pos h2']
        have hidx : 0 ≤ pl % 12 ∧ pl % 12 < 12 := by omega
        have hlt : (pl % 12).toNat < runsL.length := by show _ < 12; omega
        generalize hr : runsL[(pl % 12).toNat]?.getD (0, 0, 0) = r
        have hget : runsL[(pl % 12).toNat]? = some r := by rw [← hr, List.getElem?_eq_getElem hlt]; rfl
        have hrr : 0 < r.2.1 - r.1 + 3 := by
          have := List.mem_of_getElem? hget
          have hall : ∀ r ∈ runsL, 0 < r.2.1 - r.1 + 3 := by decide
          exact hall r this
        refine Exs.cons (Ex.unpack (ds := [.int r.1, .int r.2.1, .int r.2.2]) (Ev.sub (Ev.var (i := 3) rfl rfl) (Ev.bin (Ev.var (i := 2) rfl rfl) Ev.int (p_mod (by decide))) (p_item_lst (d := d3 r) hidx.1 (by rw [List.getElem?_map, hget]; rfl) (hi := by omega)))
          (.cons (As.name (i := 4) hnd rfl (.inl rfl)) rfl (.cons (As.name (i := 5) hnd rfl (.inl rfl)) rfl (.cons (As.name (i := 6) hnd rfl (.inl rfl)) rfl .nil))) ?_)
        refine Exs.cons (Ex.assign (i := 7) hnd rfl (.inl rfl) (Ev.bin (Ev.bin (Ev.var (i := 4) rfl rfl) Ev.int p_sub) (Ev.bin (Ev.bin (Ev.var (i := 2) rfl rfl) Ev.int (p_div (by decide) (by decide))) (Ev.bin (Ev.bin (Ev.var (i := 5) rfl rfl) (Ev.var (i := 4) rfl rfl) p_sub) Ev.int p_add) (p_mod hrr)) p_add) ?_)
        exact Exs.nil ⟨_, _, _, rfl⟩
      · have h2' : kd ≠ 2 := by simpa using h2
        rw [if_neg h2']
        refine Exs.cons (Ex.ite (Tr.cmp (Ev.bin (Ev.var (i := 2) rfl rfl) Ev.int (p_mod (by decide))) Ev.int p_eq) (fun h3 => ?_) (fun h3 => ?_))
        · have h3' : pl % 2 = 0 := by simpa using h3
          rw [if_pos h3']
          exact Exs.cons (Ex.assign (i := 7) hnd rfl (.inl rfl) Ev.int (Exs.nil (Exs.nil ⟨_, _, _, rfl⟩)))
        · have h3' : pl % 2 ≠ 0 := by simpa using h3
          rw [if_neg h3']
          refine Exs.cons (Ex.assign (i := 7) (d := .int (atI [8234, 8235, 8237, 8238] (pl / 2 % 4))) hnd rfl (.inl rfl) (Ev.sub (EvF.ev (EvF.list (ds := [.int 8234, .int 8235, .int 8237, .int 8238]) (by (repeat (first | exact Evs.nil | exact Ev.int | exact Ev.str | refine Evs.cons ?_ rfl ?_ | refine Ev.tuple ?_))))) (Ev.bin (Ev.bin (Ev.var (i := 2) rfl rfl) Ev.int (p_div (by decide) (by decide))) Ev.int (p_mod (by decide))) (p_item_lst (by omega) (at_ints [8234, 8235, 8237, 8238] (by omega) (by simp; omega)) (hi := by omega))) ?_)
          exact Exs.nil (Exs.nil ⟨_, _, _, rfl⟩)
    · rintro _ ⟨x, y, z, rfl⟩
      have hc0 : 0 ≤ codeOf kd pl ∧ codeOf kd pl < 70000 := codeOf_small hp0.1
      generalize codeOf kd pl = c at hc0
      unfold ofCode
      refine Exs.cons (Ex.ite (b := decide (8234 ≤ c) && decide (c ≤ 8238)) (Tr.chain Ev.int (Ev.var (i := 7) rfl rfl) Ev.int p_le p_le) (fun hq => ?_) (fun hq => ?_))
      · have hq' : 8234 ≤ c ∧ c ≤ 8238 := by simpa using hq
        rw [if_pos hq']
        exact Exs.cons (Ex.ret (Ev.tuple (.cons (Ev.var (i := 7) rfl rfl) rfl (.cons (Ev.sub (EvF.ev (EvF.list (ds := [.int 2, .int 1, .int 3, .int 2, .int 1]) (by (repeat (first | exact Evs.nil | exact Ev.int | exact Ev.str | refine Evs.cons ?_ rfl ?_ | refine Ev.tuple ?_))))) (Ev.bin (Ev.var (i := 7) rfl rfl) Ev.int p_sub) (p_item_lst (by omega) (at_ints [2, 1, 3, 2, 1] (by omega) (by simp; omega)) (hi := by omega))) rfl (.cons Ev.str rfl .nil)))) rfl)
      · have hq' : ¬ (8234 ≤ c ∧ c ≤ 8238) := by simpa using hq
        rw [if_neg hq']
        refine Exs.nil (Exs.cons (Ex.for (d := .lst (runsL.map d3)) (ds := runsL.map d3) (Ev.var (i := 3) rfl rfl) (.lst _)
          (fun i ρ' => (∀ r ∈ runsL.take i, (decide (r.1 ≤ c) && decide (c ≤ r.2.1)) = false) ∧ ∃ x y z, ρ' = [some (.imm (.int n)), some (.imm (.int kd)), some (.imm (.int pl)), some (.imm (.lst (runsL.map d3))), x, y, z, some (.imm (.int c)), none, none, none, none]) ⟨by simp, _, _, _, rfl⟩ ?_ ?_))
        · rintro i di ρi hdi ⟨hno, x, y, z, rfl⟩
          rw [List.getElem?_map] at hdi
          obtain ⟨r, hr, rfl⟩ := Option.map_eq_some_iff.mp hdi
          refine ⟨_, As.tuple (.cons (As.name (i := 4) hnd rfl (.inl rfl)) rfl (.cons (As.name (i := 5) hnd rfl (.inl rfl)) rfl (.cons (As.name (i := 6) hnd rfl (.inl rfl)) rfl .nil))), ?_⟩
          refine Exs.cons (Ex.ite (b := decide (r.1 ≤ c) && decide (c ≤ r.2.1)) (Tr.chain (Ev.var (i := 4) rfl rfl) (Ev.var (i := 7) rfl rfl) (Ev.var (i := 5) rfl rfl) p_le p_le) (fun hm => ?_) (fun hm => ?_))
          · refine Exs.cons (Ex.ret (Ev.tuple (.cons (Ev.var (i := 7) rfl rfl) rfl (.cons (Ev.var (i := 6) rfl rfl) rfl (.cons Ev.str rfl .nil)))) ?_)
            rw [find_first (p := fun r : Int × Int × Int => decide (r.1 ≤ c) && decide (c ≤ r.2.1)) hr hno hm]; rfl
          · refine Exs.nil (Exs.nil ⟨fun q hq => ?_, _, _, _, rfl⟩)
            rw [List.take_add_one, hr] at hq
            rcases List.mem_append.mp hq with hq | hq
            · exact hno q hq
            · obtain rfl : q = r := by simpa using hq
              exact hm
        · rintro ρ' ⟨hno, x, y, z, rfl⟩
          rw [List.length_map, List.take_of_length_le (Nat.le_refl _)] at hno
          refine Exs.cons (Ex.ret (Ev.tuple (.cons (Ev.var (i := 7) rfl rfl) rfl (.cons Ev.int rfl (.cons (Ev.callB (Ev.blt G.top rfl G.chr.1 G.chr.2) (.cons (Ev.var (i := 7) rfl rfl) rfl .nil) (hp := p_chr hc0.1 (by omega))) rfl .nil)))) ?_)
          rw [List.find?_eq_none.mpr (fun r hr => by simp only [hno r hr]; decide)]; rfl
  · have hb' : ¬ kd < 3 := by simpa using hb
    rw [if_neg hb']
    refine Exs.nil (Exs.cons (Ex.ite (Tr.cmp (Ev.var (i := 1) rfl rfl) Ev.int p_eq) (fun h3 => ?_) (fun h3 => ?_)))
    · rw [if_pos (by simpa using h3)]
      refine Exs.cons (Ex.assign (i := 8) hnd rfl (.inl rfl) (Ev.bin (Ev.var (i := 2) rfl rfl) Ev.int (p_mod (by decide))) ?_)
      refine Exs.cons (Ex.assign (i := 9) hnd rfl (.inl rfl) (Ev.bin (Ev.bin (Ev.var (i := 2) rfl rfl) Ev.int (p_div (by decide) (by decide))) Ev.int (p_mod (by decide))) ?_)
      have hl0 : 0 ≤ pl % 26 ∧ pl % 26 < 26 := by omega
      have hf0 : 0 ≤ pl / 26 % 13 ∧ pl / 26 % 13 < 13 := by omega
      generalize pl % 26 = le at hl0 ⊢
      generalize pl / 26 % 13 = fo at hf0 ⊢
      refine Exs.cons (Ex.ite (Tr.cmp (Ev.var (i := 9) rfl rfl) Ev.int p_gt) (fun h9 => ?_) (fun h9 => ?_))
      · have h9' : fo > 9 := by simpa using h9
        rw [if_pos h9']
        have hb := at_small [65, 1040, 65313] (i := fo - 10) (by omega) (by simp; omega) (fun x hx => by simp at hx; omega)
        refine Exs.cons (Ex.assign (i := 4) hnd rfl (.inl rfl) (Ev.sub (EvF.ev (EvF.list (ds := [.int 65, .int 1040, .int 65313]) (by (repeat (first | exact Evs.nil | exact Ev.int | exact Ev.str | refine Evs.cons ?_ rfl ?_ | refine Ev.tuple ?_))))) (Ev.bin (Ev.var (i := 9) rfl rfl) Ev.int p_sub) (p_item_lst (by omega) (at_ints [65, 1040, 65313] (by omega) (by simp; omega)) (hi := by omega))) ?_)
        exact Exs.cons (Ex.ret (Ev.tuple (.cons (Ev.bin (Ev.var (i := 4) rfl rfl) (Ev.var (i := 8) rfl rfl) p_add) rfl (.cons Ev.int rfl (.cons (Ev.callB (Ev.blt G.top rfl G.chr.1 G.chr.2) (.cons (Ev.bin (Ev.bin (Ev.var (i := 4) rfl rfl) Ev.int p_add) (Ev.var (i := 8) rfl rfl) p_add) rfl .nil) (hp := p_chr (by omega) (by omega))) rfl .nil)))) rfl)
      · have h9' : ¬ fo > 9 := by simpa using h9
        rw [if_neg h9']
        exact Exs.nil (Exs.cons (Ex.ret (Ev.tuple (.cons (Ev.bin (Ev.bin Ev.int (Ev.bin Ev.int (Ev.sub (EvF.ev (EvF.list (ds := [.int 0, .int 1, .int 2, .int 4, .int 7, .int 8, .int 9, .int 10, .int 11, .int 12]) (by (repeat (first | exact Evs.nil | exact Ev.int | exact Ev.str | refine Evs.cons ?_ rfl ?_ | refine Ev.tuple ?_))))) (Ev.var (i := 9) rfl rfl) (p_item_lst (by omega) (at_ints [0, 1, 2, 4, 7, 8, 9, 10, 11, 12] (by omega) (by simp; omega)) (hi := by omega))) (p_mul (by decide))) p_add) (Ev.var (i := 8) rfl rfl) p_add) rfl
          (.cons Ev.int rfl (.cons (Ev.callB (Ev.blt G.top rfl G.chr.1 G.chr.2) (.cons (Ev.bin Ev.int (Ev.var (i := 8) rfl rfl) p_add) rfl .nil) (hp := p_chr (by omega) (by omega))) rfl .nil)))) rfl))
    · rw [if_neg (by simpa using h3)]
      refine Exs.nil (Exs.cons (Ex.ite (Tr.cmp (Ev.var (i := 1) rfl rfl) Ev.int p_eq) (fun h4 => ?_) (fun h4 => ?_)))
      · rw [if_pos (by simpa using h4)]
        have hm : 0 ≤ pl % 3 ∧ pl % 3 < 3 := by omega
        refine Exs.cons (Ex.ret (Ev.sub (EvF.ev (EvF.list (ds := three.map Dr.d) (by refine Evs.cons ?_ rfl (Evs.cons ?_ rfl (Evs.cons ?_ rfl .nil)) <;> exact Ev.tuple (.cons Ev.int rfl (.cons Ev.int rfl (.cons Ev.str rfl .nil)))))) (Ev.bin (Ev.var (i := 2) rfl rfl) Ev.int (p_mod (by decide))) (p_item_lst (d := (three[(pl % 3).toNat]?.getD ⟨0, 0, ""⟩).d) hm.1 ?_ (hi := by omega))) rfl)
        have hlt : (pl % 3).toNat < three.length := by show _ < 3; omega
        rw [List.getElem?_map, List.getElem?_eq_getElem hlt]; rfl
      · rw [if_neg (by simpa using h4)]
        refine Exs.nil (Exs.cons (Ex.ite (Tr.cmp (Ev.var (i := 1) rfl rfl) Ev.int p_eq) (fun h5 => ?_) (fun h5 => ?_)))
        · rw [if_pos (by simpa using h5)]
          refine Exs.cons (Ex.assign (i := 2) hnd rfl (.inl rfl) (Ev.bin (Ev.var (i := 2) rfl rfl) Ev.int (p_mod (by decide))) ?_)
          have hl0 : 0 ≤ pl % 48 ∧ pl % 48 < 48 := by omega
          generalize pl % 48 = le at hl0 ⊢
          have hb := at_small [7936, 7968, 8032] (i := le / 16) (by omega) (by simp; omega) (fun x hx => by simp at hx; omega)
          exact Exs.cons (Ex.ret (Ev.tuple (.cons (Ev.bin Ev.int (Ev.var (i := 2) rfl rfl) p_add) rfl (.cons Ev.int rfl (.cons (Ev.bin (Ev.callB (Ev.blt G.top rfl G.chr.1 G.chr.2) (.cons (Ev.bin (Ev.sub (EvF.ev (EvF.list (ds := [.int 7936, .int 7968, .int 8032]) (by (repeat (first | exact Evs.nil | exact Ev.int | exact Ev.str | refine Evs.cons ?_ rfl ?_ | refine Ev.tuple ?_))))) (Ev.bin (Ev.var (i := 2) rfl rfl) Ev.int (p_div (by decide) (by decide))) (p_item_lst (by omega) (at_ints [7936, 7968, 8032] (by omega) (by simp; omega)) (hi := by omega))) (Ev.bin (Ev.var (i := 2) rfl rfl) Ev.int (p_mod (by decide))) p_add) rfl .nil) (hp := p_chr (by omega) (by omega)))
            (Ev.callB (Ev.blt G.top rfl G.chr.1 G.chr.2) (.cons Ev.int rfl .nil) (hp := p_chr (by decide) (by decide))) (p_add_str (show 1 + 1 ≤ 16777216 by omega))) rfl .nil)))) rfl)
        · rw [if_neg (by simpa using h5)]
          have hm : 0 ≤ pl % 14 ∧ pl % 14 < 14 := by omega
          have hlt : (pl % 14).toNat < wordsL.length := by show _ < 14; omega
          generalize hr : wordsL[(pl % 14).toNat]?.getD (0, "") = r
          have hget : wordsL[(pl % 14).toNat]? = some r := by rw [← hr, List.getElem?_eq_getElem hlt]; rfl
          refine Exs.nil (Exs.cons (Ex.assign (i := 10) (d := .lst (wordsL.map wD)) hnd rfl (.inl rfl) (EvF.ev (EvF.list (ds := wordsL.map wD) ?_)) ?_))
          · repeat (first | exact Evs.nil | (refine Evs.cons (Ev.tuple (.cons Ev.int rfl (.cons Ev.str rfl .nil))) rfl ?_) | (refine Evs.cons (Ev.tuple (.cons Ev.int rfl (.cons (Ev.bin (Ev.bin Ev.str (Ev.callB (Ev.blt G.top rfl G.chr.1 G.chr.2) (.cons Ev.int rfl .nil) (hp := p_chr (by decide) (by decide))) (p_add_str (by decide))) Ev.str (p_add_str (by decide))) rfl .nil))) rfl ?_))
          · refine Exs.cons (Ex.unpack (ds := [.int r.1, .str r.2]) (Ev.sub (Ev.var (i := 10) rfl rfl) (Ev.bin (Ev.var (i := 2) rfl rfl) Ev.int (p_mod (by decide))) (p_item_lst (d := wD r) hm.1 (by rw [List.getElem?_map, hget]; rfl) (hi := by omega)))
              (.cons (As.name (i := 7) hnd rfl (.inl rfl)) rfl (.cons (As.name (i := 11) hnd rfl (.inl rfl)) rfl .nil)) ?_)
            exact Exs.cons (Ex.ret (Ev.tuple (.cons (Ev.var (i := 7) rfl rfl) rfl (.cons Ev.int rfl (.cons (Ev.var (i := 11) rfl rfl) rfl .nil)))) rfl)
end
end Mine
end

section
open PySem PySem.W PyProof.Rows
open PySem.Sem (wp)
namespace Mine

/-! contexts in which no code is under way that lends a buffer out -/
noncomputable def lendIds : List String := ["bytearray.__contains__", "bytearray.__mod__", "bytearray.__rmod__", "_struct.pack_into.held", "bytearray.find.held"] ++ Builtin.Bytes.decodersThatHold
noncomputable def okCode : Code → Bool
  | .builtin id _ => !lendIds.contains id
  | _ => true
noncomputable def Good (l : List (Code × Pos)) : Prop := ∀ x ∈ l, okCode x.1 = true
noncomputable def GoodC (Γ : Ctx) : Prop := okCode Γ.code = true ∧ Good Γ.below

noncomputable def wpG {α : Type} (M : Model) (A : Around) (t : Sem α) (Q : α → Shared → Prop) (E : Value → Shared → Prop) (s : Shared) : Prop :=
  ∀ Γ p, Γ.In A → GoodC Γ → wp M Γ t (fun a _ s' => Q a s') (fun e _ s' => E e s') p s
noncomputable def codeG (M : Model) (A : Around) (c : Code) (R : Result → Shared → Prop) (s : Shared) : Prop :=
  ∀ Γ p, Γ.code = c → Γ.Below A → Good Γ.below → wpCode M Γ R p s

section
variable {α β : Type} {M : Model} {A : Around} {E : Value → Shared → Prop} {s : Shared}
theorem wpG_of_any {t : Sem α} {Q : α → Shared → Prop} (h : wpAny M A t Q E s) : wpG M A t Q E s := fun Γ p hΓ _ => h Γ p hΓ
theorem codeG_of_any {c : Code} {R : Result → Shared → Prop} (h : codeAny M A c R s) : codeG M A c R s := fun Γ p hc hΓ _ => h Γ p hc hΓ
theorem wpG_mono {t : Sem α} {Q Q' : α → Shared → Prop} {E' : Value → Shared → Prop} (h : wpG M A t Q E s) (hQ : ∀ a s, Q a s → Q' a s) (hE : ∀ e s, E e s → E' e s) : wpG M A t Q' E' s :=
  fun Γ p hΓ hg => Sem.wp_mono M Γ t (fun a _ s => hQ a s) (fun e _ s => hE e s) p s (h Γ p hΓ hg)
theorem wpG_bind {m : Sem α} {f : α → Sem β} {Q : β → Shared → Prop} (h : wpG M A m (fun a s' => wpG M A (f a) Q E s') E s) : wpG M A (m >>= f) Q E s := fun Γ p hΓ hg => by
  rw [Sem.wp_bind']
  exact Sem.wp_mono M Γ m (fun a p' s' h' => h' Γ p' hΓ hg) (fun _ _ _ h' => h') p s (h Γ p hΓ hg)
theorem wpG_bind1 {m : Sem α} {f : α → Sem β} {Q : β → Shared → Prop} (h : wpAny M A m (fun a s' => wpG M A (f a) Q E s') E s) : wpG M A (m >>= f) Q E s := wpG_bind (wpG_of_any h)
theorem wpG_bind2 {m : Sem α} {f : α → Sem β} {Q : β → Shared → Prop} (h : wpG M A m (fun a s' => wpAny M A (f a) Q E s') E s) : wpG M A (m >>= f) Q E s := wpG_bind (wpG_mono h (fun _ _ q => wpG_of_any q) fun _ _ e => e)
theorem wpG_pure {a : α} {Q : α → Shared → Prop} (h : Q a s) : wpG M A (pure a) Q E s := wpG_of_any (wpAny_pure h)
theorem wpG_onRaise {m : Sem α} {k : Value → Sem Unit} {Q : α → Shared → Prop} (h : wpG M A m Q (fun e s' => wpAny M A (k e) (fun _ s'' => E e s'') E s') s) : wpG M A (m.onRaise k) Q E s := fun Γ p hΓ hg => by
  rw [Sem.wp_onRaise]
  exact Sem.wp_mono M Γ m (fun _ _ _ h' => h') (fun e p' s' h' => h' Γ p' hΓ) p s (h Γ p hΓ hg)
theorem wpG_attempt {m : Sem α} {Q : Except Value α → Shared → Prop} (h : wpG M A m (fun a => Q (.ok a)) (fun e => Q (.error e)) s) : wpG M A m.attempt Q E s := fun Γ p hΓ hg => by rw [Sem.wp_attempt]; exact h Γ p hΓ hg
theorem wpG_holding {vs : List Value} {m : Sem α} {Q : α → Shared → Prop} (h : wpG M A m Q E s) : wpG M A (holding vs m) Q E s := fun Γ p hΓ hg => by rw [Sem.wp_holding]; exact h Γ p hΓ hg
theorem wpG_keep {vs : List Value} {m : Sem α} {Q : α → Shared → Prop} (h : wpG M A m Q E s) : wpG M A (m.keep vs) Q E s := fun Γ p hΓ hg => by rw [Sem.wp_keep]; exact h Γ p hΓ hg
theorem wpG_standAt {pos : Pos} {Q : Unit → Shared → Prop} (h : Q () s) : wpG M A (standAt pos) Q E s := fun _ _ _ _ => h
theorem GoodC.enter {Γ : Ctx} (h : GoodC Γ) (c : Code) (hd : Option Value) (p : Pos) : Good (Γ.enter c hd p).below := fun x hx => by
  rcases List.mem_cons.mp hx with rfl | hx
  · exact h.1
  · exact h.2 x hx
theorem wpG_run {c : Code} {h : Option Value} {Q : Flow → Shared → Prop} (hc : codeG M (A.mark h) c (fun r s' => match r with | .ok f => Q f s' | .error e => E e s') s) (hnb : h ≠ some byPass := by intro x; cases x) :
    wpG M A (run c h) Q E s := fun Γ p hΓ hg => by rw [Sem.wp_run]; exact hc _ p rfl (hΓ.enter c h p hnb) (hg.enter c h p)
theorem wpG_runValue {c : Code} {Q : Value → Shared → Prop} (hc : codeG M A c (fun r s' => match r with | .ok (.ret v) => Q v s' | .ok _ => False | .error e => E e s') s) :
    wpG M A (runValue c) Q E s := fun Γ p hΓ hg => by rw [Sem.wp_runValue]; exact hc _ p rfl (hΓ.enter c none p (by intro x; cases x)) (hg.enter c none p)
theorem wpG_call {f : Value} {pos : List Value} {kw : List (Str × Value)} {Q : Value → Shared → Prop} (hc : codeG M A (.call f ⟨pos, kw⟩) (fun r s' => match r with | .ok (.ret v) => Q v s' | .ok _ => False | .error e => E e s') s) :
    wpG M A (call f pos kw) Q E s := wpG_runValue hc
theorem codeG_of_tree {c : Code} {R : Result → Shared → Prop} (h : wpG M (A.under c) (M.den c) (fun fin s' => match fin with | .done f => R (.ok f) s' | .again c' => c'.quiet = true ∧ codeG M A c' R s') (fun e s' => R (.error e) s') s) (hok : okCode c = true := by rfl) :
    codeG M A c R s := fun Γ p hc hΓ hg => by
  rw [wpCode_iff_wp, hc]
  refine Sem.wp_mono M Γ _ (fun fin p' s' h' => ?_) (fun _ _ _ h' => h') p s (h Γ p (hc ▸ hΓ.in) ⟨hc ▸ hok, hg⟩)
  cases fin with
  | done f => exact h'
  | again c' => exact ⟨h'.1, h'.2 (Γ.goto c') p' rfl (hΓ.goto c') hg⟩
theorem codeG_mono {c : Code} {R R' : Result → Shared → Prop} (h : codeG M A c R s) (hR : ∀ r s, R r s → R' r s) : codeG M A c R' s :=
  fun Γ p hc hΓ hg => wpCode_mono hR (h Γ p hc hΓ hg)
theorem codeG_of_in1 {c : Code} {R : Result → Shared → Prop} (h : codeG M A.in1 c R s) : codeG M A c R s :=
  fun Γ p hc hΓ hg => h Γ p hc ⟨hΓ.1, hΓ.2.1, hΓ.2.2.1, hΓ.2.2.2.1, Nat.le_succ_of_le hΓ.2.2.2.2⟩ hg
theorem codeG_loop {c : Code} {R : Result → Shared → Prop} (hq : c.quiet = true) (I : Nat → Shared → Prop) (turn : ∀ n s, I n s → wpG M (A.under c) (M.den c)
      (fun fin s' => match fin with | .done f => R (.ok f) s' | .again c' => (c' = c ∧ ∃ m, m < n ∧ I m s') ∨ (c'.quiet = true ∧ codeG M A c' R s')) (fun e s' => R (.error e) s') s) (n : Nat) (h : I n s) (hok : okCode c = true := by rfl) : codeG M A c R s := by
  induction n using Nat.strongRecOn generalizing s with
  | ind n ih =>
    refine codeG_of_tree (wpG_mono (turn n s h) (fun fin s' hf => ?_) fun _ _ h' => h') hok
    cases fin with
    | done f => exact hf
    | again c' =>
      rcases hf with ⟨rfl, m, hm, hI⟩ | hf
      · exact ⟨hq, ih m hm hI⟩
      · exact hf
/-- the look down the stack finds no lender -/
theorem wpG_stackAny {f : Code × Pos → Bool} {Q : Bool → Shared → Prop} (hf : ∀ c p, okCode c = true → f (c, p) = false) (h : Q false s) : wpG M A (do return (← stack).any f) Q E s := fun Γ p hΓ hg => by
  show Q (((Γ.code, p) :: Γ.below).any f) s
  have : ((Γ.code, p) :: Γ.below).any f = false := by
    rw [List.any_eq_false]
    intro x hx
    rcases List.mem_cons.mp hx with rfl | hx
    · rw [hf _ _ hg.1]; exact Bool.false_ne_true
    · obtain ⟨c, q⟩ := x
      rw [hf c q (hg.2 _ hx)]; exact Bool.false_ne_true
  rw [this]; exact h
theorem wpG_exported {v : Value} {Q : Bool → Shared → Prop} (h : Q false s) : wpG M A (Builtin.Bytes.exported v) Q E s := by
  unfold Builtin.Bytes.exported
  refine wpG_stackAny (fun c p hc => ?_) h
  cases c with
  | builtin id args =>
    have hid : lendIds.contains id = false := by simpa [okCode] using hc
    have hne : ∀ x ∈ lendIds, id ≠ x := fun x hx e => by
      subst e
      rw [List.contains_iff_mem.mpr hx] at hid; cases hid
    have hd : Builtin.Bytes.decodersThatHold.contains id = false := by
      cases e : Builtin.Bytes.decodersThatHold.contains id with
      | false => rfl
      | true =>
        have : id ∈ lendIds := List.mem_append_right _ (by simpa using e)
        exact absurd rfl (hne id this)
    have h1 := hne "bytearray.__contains__" (by decide)
    have h2 := hne "bytearray.__mod__" (by decide)
    have h3 := hne "bytearray.__rmod__" (by decide)
    have h4 := hne "_struct.pack_into.held" (by decide)
    have h5 := hne "bytearray.find.held" (by decide)
    split <;> simp_all
  | _ => rfl
end

section
variable {prog : Program} {w : World} {A : Around} {E : Value → Shared → Prop} {s : Shared} {env : Env}
theorem wpG_noted {α : Type} {M : Model} {m : Sem α} {Q : α → Shared → Prop} (h : wpG M A m Q (notedBy M A env E) s) : wpG M A (m.onRaise fun x => do noteFrame x env; theTreesLotGoes x) Q E s :=
  wpG_onRaise (wpG_mono h (fun _ _ q => q) fun _ _ hx => wpAny_bind (wpAny_mono hx (fun _ _ e => wpAny_theTreesLotGoes e) fun _ _ e => e))
theorem wpG_runOwn {M : Model} {c : Code} {h : Option Value} {Q : Flow → Shared → Prop}
    (hc : codeG M (A.mark h) c (fun r s' => match r with | .ok f => Q f s' | .error e => cameBackBy M A env E e s') s) (hnb : h ≠ some byPass := by intro x; cases x) : wpG M A (runOwn c env h) Q E s := by
  unfold runOwn
  exact wpG_onRaise (wpG_run hc hnb)
theorem wpG_execs_cons {M : Model} {st : Stmt} {rest : List Stmt} {Q : Flow → Shared → Prop}
    (h : wpG M A (exec st env) (fun f s' => match f with | .next => wpG M A (execs rest env) Q E s' | f => Q f s') E s) : wpG M A (execs (st :: rest) env) Q E s := fun Γ p hΓ hg => by
  rw [execs_cons, Sem.wp_bind']
  refine Sem.wp_mono M Γ _ (fun f p' s' h' => ?_) (fun _ _ _ h' => h') _ _ (h Γ p hΓ hg)
  cases f <;> first | exact h' Γ p' hΓ hg | exact h'
theorem wpG_BinOp {M : Model} {l r : PySem.Expr} {op : Operator} {pos : Pos} {Q : Value → Shared → Prop}
    (h : wpAny M A (eval l env) (fun a s₁ => wpG M A (eval r env) (fun b s₂ => wpAny M A (binaryOp op a b) Q E s₂) E s₁) E s) : wpG M A (eval (.BinOp l op r pos) env) Q E s := fun Γ p hΓ hg => by
  simp only [eval_BinOp, Sem.wp_bind', Sem.wp_holding, Sem.wp_cmd_standAt, Sem.wp_operate]
  exact Sem.wp_mono M Γ _ (fun a p₁ s₁ h₁ => Sem.wp_mono M Γ _ (fun b _ s₂ h₂ => h₂ Γ _ hΓ) (fun _ _ _ h' => h') _ _ (h₁ Γ p₁ hΓ hg)) (fun _ _ _ h' => h') _ _ (h Γ p hΓ)
theorem wpG_Assign_Name {M : Model} {x : Str} {pos' pos : Pos} {value : PySem.Expr} {Q : Flow → Shared → Prop}
    (h : wpG M A (eval value env) (fun v s₁ => wpAny M A (storeName env x v) (fun _ => Q .next) E s₁) E s)
    (hs : swapsWith value (some (.Name x pos')) pos.line env = pure false) : wpG M A (exec (.Assign [.Name x pos'] value pos) env) Q E s := fun Γ p hΓ hg => by
  simp only [exec_Assign_Name env x pos' value pos hs, Sem.wp_bind', Sem.wp_cmd_standAt, Sem.wp_bindName, Sem.wp_pure']
  exact Sem.wp_mono M Γ _ (fun v _ s₁ h₁ => h₁ Γ _ hΓ) (fun _ _ _ h' => h') _ _ (h Γ _ hΓ hg)
theorem wpG_If {M : Model} {test : PySem.Expr} {body orelse : List Stmt} {pos : Pos} {Q : Flow → Shared → Prop}
    (h : wpAny M A (isTrue test env (eval test env)) (fun b s₂ => if b then wpG M A (execs body env) Q E s₂ else wpG M A (execs orelse env) Q E s₂) E s) : wpG M A (exec (.If test body orelse pos) env) Q E s := fun Γ p hΓ hg => by
  simp only [exec_If, Sem.wp_bind', Sem.wp_cmd_standAt]
  refine Sem.wp_mono M Γ _ (fun b p₂ s₂ h₂ => ?_) (fun _ _ _ h' => h') _ _ (h Γ _ hΓ)
  cases b <;> exact h₂ Γ p₂ hΓ hg
theorem wpG_While {M : Model} {test : PySem.Expr} {body orelse : List Stmt} {pos : Pos} {Q : Flow → Shared → Prop}
    (h : codeG M A (.whileLoop test body orelse env) (fun r s' => match r with | .ok f => Q f s' | .error e => cameBackBy M A env E e s') s) : wpG M A (exec (.While test body orelse pos) env) Q E s := by
  rw [exec_While]; exact wpG_bind1 (wpAny_standAt (wpG_runOwn h))
theorem codeG_whileLoop {R : Result → Shared → Prop} {test : PySem.Expr} {body orelse : List Stmt} (I : Nat → Shared → Prop)
    (turn : ∀ n s, I n s →
      wpAny (model prog w) A (isTrue test env (eval test env)) (fun b s₂ =>
        if b then wpG (model prog w) A (execs body env) (fun f s₃ => match f with
            | .next | .cont => ∃ m, m < n ∧ I m s₃
            | .brk => R (.ok .next) s₃
            | .ret v => R (.ok (.ret v)) s₃) (notedBy (model prog w) A env fun e s' => R (.error e) s') s₂
        else wpAny (model prog w) A (execs orelse env) (fun f s₃ => R (.ok f) s₃) (notedBy (model prog w) A env fun e s' => R (.error e) s') s₂)
        (notedBy (model prog w) A env fun e s' => R (.error e) s') s)
    (n : Nat) (h : I n s) : codeG (model prog w) A (.whileLoop test body orelse env) R s := by
  refine codeG_loop rfl I (fun n s hI => ?_) n h
  show wpG _ A ((whileTurn test body orelse env).onRaise (fun x => do noteFrame x env; theTreesLotGoes x)) _ _ s
  refine wpG_noted ?_
  simp only [whileTurn]
  refine wpG_bind1 (wpAny_mono (turn n s hI) (fun b s₂ h₂ => ?_) fun _ _ h' => h')
  cases b with
  | false =>
    simp only [Bool.false_eq_true, if_false] at h₂ ⊢
    exact wpG_of_any (wpAny_bind (wpAny_mono h₂ (fun f s₃ h₃ => wpAny_pure h₃) fun _ _ h' => h'))
  | true =>
    simp only [if_true] at h₂ ⊢
    refine wpG_bind (wpG_mono h₂ (fun f s₃ h₃ => ?_) fun _ _ h' => h')
    cases f with
    | next => exact wpG_pure (.inl ⟨rfl, h₃⟩)
    | cont => exact wpG_pure (.inl ⟨rfl, h₃⟩)
    | brk => exact wpG_pure h₃
    | ret v => exact wpG_pure h₃
theorem codeG_forLoop {R : Result → Shared → Prop} {target : PySem.Expr} {it : Value} {body orelse : List Stmt} (I : Nat → Shared → Prop)
    (turn : ∀ n s, I n s → wpAny (model prog w) A (pyNext it) (fun r s₁ => match r with
      | none => wpAny (model prog w) A (execs orelse env) (fun f s₃ => R (.ok f) s₃) (notedBy (model prog w) A env fun e s' => R (.error e) s') s₁
      | some v => wpAny (model prog w) A (letOwnedTupleGo target it v) (fun _ s₁' =>
          wpAny (model prog w) A (assign target env v) (fun _ s₂ => wpG (model prog w) A (execs body env) (fun f s₃ => match f with
            | .next | .cont => ∃ m, m < n ∧ I m s₃
            | .brk => R (.ok .next) s₃
            | .ret v => R (.ok (.ret v)) s₃) (notedBy (model prog w) A env fun e s' => R (.error e) s') s₂) (notedBy (model prog w) A env fun e s' => R (.error e) s') s₁') (notedBy (model prog w) A env fun e s' => R (.error e) s') s₁) (notedBy (model prog w) A env fun e s' => R (.error e) s') s)
    (n : Nat) (h : I n s) : codeG (model prog w) A (.forLoop target it body orelse env) R s := by
  refine codeG_loop rfl I (fun n s hI => ?_) n h
  show wpG _ A ((forTurn target it body orelse env).onRaise (fun x => do noteFrame x env; theTreesLotGoes x)) _ _ s
  refine wpG_noted ?_
  simp only [forTurn]
  refine wpG_bind1 (wpAny_standAt (wpG_bind1 (wpAny_onRaise (wpAny_mono (turn n s hI) (fun r s₁ h₁ => ?_) fun _ _ h' => wpAny_standAt h'))))
  cases r with
  | none => exact wpG_pure (.inr ⟨rfl, codeG_of_any (codeAny_block h₁)⟩)
  | some v =>
    refine wpG_bind1 (wpAny_mono h₁ (fun _ s₁' h₁' => ?_) fun _ _ h' => h')
    refine wpG_bind1 (wpAny_mono h₁' (fun _ s₂ h₂ => wpG_bind (wpG_mono h₂ (fun f s₃ h₃ => ?_) fun _ _ h' => h')) fun _ _ h' => h')
    cases f with
    | next => exact wpG_pure (.inl ⟨rfl, h₃⟩)
    | cont => exact wpG_pure (.inl ⟨rfl, h₃⟩)
    | brk => exact wpG_pure h₃
    | ret v => exact wpG_pure h₃
/-! calls -/
theorem codeG_func {R : Result → Shared → Prop} {body : List Stmt}
    (h : wpG (model prog w) (A.deeper env) (execs body env) (fun f s' => R (.ok (.ret (match f with | .ret v => v | _ => .none))) s')
      (fun e s' => wpAny (model prog w) (A.deeper env) (leaving env e) (fun _ s'' => R (.error e) s'') (fun e' s'' => R (.error e') s'') s') s) : codeG (model prog w) A (.func body env) R s := by
  refine codeG_of_tree ?_
  show wpG _ (A.deeper env) (do point; match ← (execs body env).onRaise (leaving env) with | .ret v => ret v | _ => ret .none) _ _ s
  refine wpG_bind1 (wpAny_point (wpG_bind (wpG_onRaise (wpG_mono h (fun f s' h' => ?_) fun _ _ h' => h'))))
  cases f <;> exact wpG_pure h'
theorem codeG_call_function {R : Result → Shared → Prop} {a : Addr} {args : Args} {o : Obj} {fd : FuncData} {body : List Stmt} (hroom : A.depth < recursionLimit) (ho : s.heap.get? a = some o)
    (hd' : o.data = .func fd) (hco : fd.scope.isCoroutine = false) (hgen : fd.scope.isGenerator = false) (hbody : fd.body = .stmts body) (hcd : s.heap.CodeRec fd.code fd.qualname)
    (h : wpAny (model prog w) A.in1 (bindArgs fd args) (fun binds s₁ =>
      wpAny (model prog w) A.in1 (newFunctionEnv fd.scope fd.globals fd.closure binds (fd.qualname ++ ".<locals>.") (some a) fd.code none fd.builtins)
        (fun env s₂ => s₂.heap.NoLimit ∧ codeG (model prog w) A (.func body env) R s₂) (fun e s' => R (.error e) s') s₁) (fun e s' => R (.error e) s') s) :
    codeG (model prog w) A (.call (.ref a) args) R s := by
  refine codeG_of_tree ?_
  show wpG _ A.in1 (callAny (.ref a) args) _ _ s
  refine wpG_of_any ?_
  simp only [callAny]
  refine wpAny_bind (wpAny_load ho ?_)
  obtain ⟨c, oc, vs, tq, hc, hoc, hdc, hq⟩ := hcd
  simp only [hd', callFunction, hco, hgen, hbody, hc]
  rw [hc] at h
  refine wpAny_bind (m := field (.ref c) 1) (wpAny_field hoc hdc hq (wpAny_bind (wpAny_pure ?_)))
  exact wpAny_bind (wpAny_mono h (fun binds s₁ h₁ => wpAny_bind (wpAny_mono h₁ (fun env s₂ h₂ => wpAny_bind (wpAny_enterFrame h₂.1 hroom
    (wpAny_pure (And.intro rfl h₂.2)))) fun _ _ h' => h')) fun _ _ h' => h')
theorem codeG_call_cells {R : Result → Shared → Prop} {a : Addr} {o : Obj} {fd : FuncData} {body : List Stmt} {vals : List Value} {binds : List (Str × Value)}
    (hroom : A.depth < recursionLimit) (ho : s.heap.get? a = some o) (hdata : o.data = .func fd) (hlim : s.heap.NoLimit) (hcd : s.heap.CodeRec fd.code fd.qualname)
    (hbody : fd.body = .stmts body) (hbind : bindArgs fd ⟨vals, []⟩ = pure binds) (hclo : fd.closure = [])
    (hkind : ∀ x ∈ binds, fd.scope.names.lookup x.1 = some .local ∨ (fd.scope.names.lookup x.1 = some .cell ∧ ((cellsFrom (s.heap.objs.size + 1) fd.scope.names []).lookup x.1).isSome = true))
    (h : ∀ s₁, InCallC s (callEnvC fd s.heap.objs.size a).locals (bindL (callEnvC fd s.heap.objs.size a).kindOf binds fun _ => none) (callEnvC fd s.heap.objs.size a).cells
        (bindC (callEnvC fd s.heap.objs.size a).kindOf binds fun _ => none) s₁ →
      wpG (model prog w) (A.deeper (callEnvC fd s.heap.objs.size a)) (execs body (callEnvC fd s.heap.objs.size a)) (fun f s' => R (.ok (.ret (match f with | .ret v => v | _ => .none))) s')
        (fun e s' => wpAny (model prog w) (A.deeper (callEnvC fd s.heap.objs.size a)) (leaving (callEnvC fd s.heap.objs.size a) e) (fun _ s'' => R (.error e) s'') (fun e' s'' => R (.error e') s'') s') s₁)
    (hco : fd.scope.isCoroutine = false := by rfl) (hgen : fd.scope.isGenerator = false := by rfl) (hk : fd.scope.kind = .function := by rfl) :
    codeG (model prog w) A (.call (.ref a) ⟨vals, []⟩) R s := by
  refine codeG_call_function hroom ho hdata hco hgen hbody hcd ?_
  rw [hbind, hclo]
  refine wpAny_pure (wpAny_newFunctionEnv_cells hk hkind fun env he s' x => ?_)
  subst he
  exact ⟨hlim.keeps x.toInCall.keep, codeG_func (h s' x)⟩
theorem callWithG_function {M : Model} {pos : Pos} {a : Addr} {o : Obj} {fd : FuncData} {first : List Value} {args : List (Bool × Sem Value)} {Q : Value → Shared → Prop}
    (h : wpAny M A (evalArgs (.ref a) true args []) (fun x s₁ => (s₁.heap.get? a = some o ∧ o.data = .func fd) ∧ wpG M A (call (.ref a) (first ++ x.pos) x.kw) Q E s₁) E s) :
    wpG M A (callWith pos (.ref a) first args []) Q E s := by
  unfold callWith
  refine wpG_bind (wpG_holding (wpG_of_any (wpAny_mono h (fun x s₁ h₁ => wpG_bind1 (wpAny_standAt ?_)) fun _ _ x => x)))
  have tail : ∀ {t : Sem Value}, wpG M A t Q E s₁ → wpG M A (t >>= fun r => holding [r] point >>= fun _ => pure r) Q E s₁ :=
    fun ht => wpG_bind2 (wpG_mono ht (fun r s₂ hr => wpAny_bind (wpAny_holding (wpAny_point (wpAny_pure hr)))) fun _ _ x => x)
  cases hs : args.any (·.1) <;> simp only [List.any_nil, Bool.or_false] <;>
    refine wpG_bind1 (m := keeperOf (.ref a)) ?_ <;> unfold keeperOf <;>
    refine wpAny_bind (wpAny_load h₁.1.1 ?_) <;> rw [h₁.1.2] <;> refine wpAny_pure ?_
  all_goals (repeat' split) <;> first
    | exact tail h₁.2
    | exact tail (wpG_keep h₁.2)
theorem callWithG_type {M : Model} {pos : Pos} {T : String} {first : List Value} {args : List (Bool × Sem Value)} {Q : Value → Shared → Prop} (hplain : args.any (·.1) = false)
    (h : wpAny M A (evalArgs (.type T) true args []) (fun a s₁ => wpG M A (call (.type T) (first ++ a.pos) a.kw) Q E s₁) E s) : wpG M A (callWith pos (.type T) first args []) Q E s := by
  unfold callWith
  refine wpG_bind (wpG_holding (wpG_of_any (wpAny_mono h (fun a s₁ h₁ => wpG_bind1 (wpAny_standAt ?_)) fun _ _ x => x)))
  simp only [hplain, List.any_nil, Bool.or_false]
  refine wpG_bind1 (wpAny_pure ?_)
  exact wpG_bind2 (wpG_mono h₁ (fun r s₂ hr => wpAny_bind (wpAny_holding (wpAny_point (wpAny_pure hr)))) fun _ _ x => x)
theorem wpG_Call_Name {M : Model} {id : Str} {p pos : Pos} {args : List PySem.Expr} {Q : Value → Shared → Prop}
    (h : wpAny M A (eval (.Name id p) env) (fun f s₁ => wpG M A (callWith pos f [] (backTo pos (starEach args env)) []) Q E s₁) E s) : wpG M A (eval (.Call (.Name id p) args [] pos) env) Q E s := by
  rw [arm_eval_Call_Name']
  exact wpG_bind1 h
end
end Mine
end

section
open PySem PySem.W PyProof.Rows
open PySem.Sem (wp)
set_option maxRecDepth 100000
namespace Mine
section
variable {prog : Program} {w : World} {A : Around} {E : Value → Shared → Prop} {s : Shared}

theorem okCode_of {id : String} (args : Args) (h : lendIds.contains id = false) : okCode (.builtin id args) = true := by show (!lendIds.contains id) = true; rw [h]; rfl
theorem wpG_codeBuiltin {id : String} {args : Args} {b : Builtin} {R : Result → Shared → Prop} (hb : entryFor table id = some b)
    (h : wpG (model prog w) (A.under (.builtin id args)) (b args) (fun fin s' => match fin with | .done f => R (.ok f) s' | .again c' => c'.quiet = true ∧ codeG (model prog w) A c' R s') (fun e s' => R (.error e) s') s)
    (hok : okCode (.builtin id args) = true) : codeG (model prog w) A (.builtin id args) R s := by
  refine codeG_of_tree ?_ hok
  show wpG _ _ (match entryFor table id with | some b => b args | none => unsupported ((withoutEnding? id "#data").getD id)) _ _ s
  rw [hb]; exact h

theorem ba_tree (a : Value) : Builtin.«type.__call__» ⟨[.type "bytearray", a], []⟩ = (do
    let obj ← holding [.builtin "bytearray.__new__"] (call (.builtin "bytearray.__new__") [.type "bytearray", a] [])
    if !(← isInstance obj (.type "bytearray")) then rule "type.call.new-gave-other-type"; return ← ret obj
    match ← holding [obj] (callSpecial? obj "__init__" [a] []) with
    | none => ret obj
    | some r =>
      if r != .none then
        rule "type.call.init-returned-value"
        raiseError "TypeError" s!"__init__() should return None, not '{← typeNameOf r}'"
      ret obj) := by
  unfold Builtin.«type.__call__»
  have h1 := ba_called.notType
  have h2 := ba_called.canCreate
  have h3 := ba_typeCall a
  have h4 := ba_mro
  have h5 := ba_called.made
  dsimp only
  simp only [h1, h2, h3, h4, h5, pure_bind, Bool.false_eq_true, if_false, List.isEmpty_cons]
  rfl
theorem ba_entry_init : entryFor table "bytearray.__init__" = some Builtin.«bytearray.__init__» := by first | exact entryFor_of_fast (by kernel_rfl) | exact entryFor_of_tree (by kernel_rfl)
theorem ba_args_init (a b : Value) : argsOk "bytearray.__init__" ⟨[a, b], []⟩ := by
  unfold argsOk; kernel_rfl
theorem ba_init_plain : plainId "bytearray.__init__" = true := by decide +kernel
theorem ba_lookup_rel : typeLookup (.type "bytearray") "__release_buffer__" = pure (some (.builtin "bytearray.__release_buffer__")) := by rw [typeLookup_type, builtinLookup_eq_fast]; kernel_rfl
theorem ba_rel_ends : ("bytearray.__release_buffer__".endsWith ("." ++ "__release_buffer__")) = true := by decide +kernel
theorem ba_rel_drop : "bytearray.__release_buffer__".dropRight ("__release_buffer__".length + 1) = "bytearray" := by decide +kernel
theorem ba_ownRelease {M : Model} {a : Addr} {o : Obj} (ho : s.heap.get? a = some o) (hc : o.cls = .type "bytearray") {Q : Bool → Shared → Prop} (h : Q false s) : wpAny M A (Builtin.Bytes.ownRelease (.ref a)) Q E s := by
  have hT : s.TypeIs (.ref a) "bytearray" := ⟨_, ho, hc⟩
  unfold Builtin.Bytes.ownRelease Builtin.Bytes.slotIsOwn
  refine wpAny_bind (wpAny_bind (wpAny_specialOf hT ba_lookup_rel ?_))
  dsimp only
  rw [ba_rel_ends, ba_rel_drop]
  simp only [Bool.not_true, Bool.false_eq_true, if_false]
  refine wpAny_isInstance hT ba_sub_self ?_
  exact wpAny_pure h
theorem ba_write {M : Model} {a : Addr} {b : Array UInt8} {f : Array UInt8 → Array UInt8} (ho : s.heap.get? a = some { cls := .type "bytearray", data := .bytearray b }) (hz : (f b).size ≤ sizeLine) {Q : Unit → Shared → Prop}
    (h : ∀ h', h'.get? a = some { cls := .type "bytearray", data := .bytearray (f b) } → Heap.SameBut a s.heap h' → Q () { s with heap := h' }) : wpAny M A (Builtin.Bytes.write (.ref a) f) Q E s := by
  have hn : (s.heap.update a (Obj.mapBytearray f)).get? a = some { cls := .type "bytearray", data := .bytearray (f b) } := Heap.get?_update_self _ ho rfl
  show wpAny M A (updateBytearray a f) Q E s
  unfold updateBytearray
  refine wpAny_bind (wpAny_load ho ?_)
  refine wpAny_bind (wpAny_update ho ?_)
  refine wpAny_lookBehind hn ?_ (h _ hn (Heap.SameBut.update ..))
  show (if (f b).size > sizeLine then some "bytearray:memory" else none) = none
  rw [if_neg (by omega)]
theorem asStr_int (n : Int) (t : Tok) : asStr? (.int n t) = pure none := rfl
theorem asIndex_int (n : Int) (t : Tok) : asIndex (.int n t) = pure n := rfl
theorem special_index_int (n : Int) (t : Tok) : specialOf (.int n t) "__index__" = pure (some (.builtin "int.__index__")) := by
  show typeLookup (.type "int") "__index__" = _
  rw [typeLookup_type, builtinLookup_eq_fast]; kernel_rfl
theorem ba_init {a : Addr} {n : Nat} {t : Tok} (ho : s.heap.get? a = some { cls := .type "bytearray", data := .bytearray #[] }) (hn : n ≤ 16777216) {Q : Value → Shared → Prop}
    (h : ∀ h', h'.get? a = some { cls := .type "bytearray", data := .bytearray (Array.replicate n 0) } → Heap.SameBut a s.heap h' → Q .none { s with heap := h' }) :
    wpG (model prog w) A (Builtin.«bytearray.__init__» ⟨[.ref a, .int n t], []⟩) (fun fin s' => ∃ v, fin = .done (.ret v) ∧ Q v s') E s := by
  have hT : s.TypeIs (.ref a) "bytearray" := ⟨_, ho, rfl⟩
  unfold Builtin.«bytearray.__init__»
  dsimp only
  refine wpG_bind1 (ba_ownRelease ho rfl ?_)
  rw [if_neg Bool.false_ne_true]
  refine wpG_bind1 (wpAny_of_eq (a := [some (.int n t), none, none]) (by rfl) ?_)
  dsimp only
  refine wpG_bind1 (wpAny_of_eq (a := ()) (by rfl) ?_)
  refine wpG_bind1 (wpAny_of_eq (a := ()) (by rfl) ?_)
  refine wpG_bind ?_
  unfold orM
  refine wpG_bind (wpG_exported ?_)
  dsimp only [toBool]
  refine wpG_of_any (wpAny_bind ?_)
  unfold Builtin.Bytes.exportsOf
  refine wpAny_bind (wpAny_load ho (wpAny_pure (wpAny_pure ?_)))
  rw [show decide (0 > 0) = false from rfl]
  rw [if_neg Bool.false_ne_true]
  refine wpG_bind1 (ba_write ho (Nat.zero_le _) fun h₁ ho₁ hs₁ => ?_)
  refine wpG_of_any ?_
  simp only [asStr_int, pure_bind, special_index_int, Option.isSome_none, Option.isSome_some, Bool.false_eq_true, if_false, if_true]
  refine wpAny_bind ?_
  refine wpAny_attempt ?_
  rw [asIndex_int]
  refine wpAny_pure ?_
  dsimp only
  have hfit : Builtin.Bytes.fitsIndex (n : Int) = true := by unfold Builtin.Bytes.fitsIndex; simp; omega
  have hlong : Builtin.Bytes.tooLong n = false := by unfold Builtin.Bytes.tooLong; rw [sizeLine_eq]; simp; omega
  have hmax : ((n : Int) == 2 ^ 63 - 1) = false := by rw [beq_eq_false_iff_ne]; omega
  have hneg : ¬ (n : Int) < 0 := by omega
  simp only [hfit, hlong, hmax, hneg, Bool.not_true, Bool.false_eq_true, if_false, Int.toNat_natCast]
  refine wpAny_bind (wpAny_rule ?_)
  by_cases hp : (n : Int) > 0
  · rw [if_pos hp]
    refine wpAny_bind (ba_write ho₁ ?_ fun h₂ ho₂ hs₂ => ?_)
    · rw [Array.size_replicate, sizeLine_eq]; exact hn
    refine wpAny_pure ⟨_, rfl, h h₂ ho₂ ⟨hs₂.1.trans hs₁.1, fun b hb => (hs₂.2 b hb).trans (hs₁.2 b hb)⟩⟩
  · rw [if_neg hp]
    obtain rfl : n = 0 := by omega
    exact wpAny_pure ⟨_, rfl, h h₁ ho₁ hs₁⟩

theorem ba_make {a : Value} {n : Nat} {t : Tok} (hn : n ≤ 16777216) {Q : Value → Shared → Prop}
    (h : ∀ h', (∀ b o, s.heap.get? b = some o → h'.get? b = some o) → h'.get? s.heap.objs.size = some { cls := .type "bytearray", data := .bytearray (Array.replicate n 0) } → Q (.ref s.heap.objs.size) { s with heap := h' }) :
    wpG (model prog w) A (call (.type "bytearray") [.int n t]) Q E s := by
  refine wpG_call (codeG_of_tree ?_)
  show wpG _ _ (callAny (.type "bytearray") _) _ _ _
  refine wpG_pure ⟨Code.quiet_builtin _ (by decide +kernel), wpG_codeBuiltin F.entry_type_call ?_ (okCode_of _ (by decide +kernel))⟩
  rw [Around.under_plain (weight_type_call_type "bytearray" _ []) (units_type_call_type "bytearray" _ []), ba_tree]
  refine wpG_bind1 (wpAny_holding (wpAny_call (codeAny_mono (ba_new (E := E) _ (Q₁ := fun v s' => v = .ref s.heap.objs.size ∧ s' = { s with heap := s.heap.push { cls := .type "bytearray", data := .bytearray #[] } }) ⟨rfl, rfl⟩) fun r s₁ hr => ?_)))
  cases r with
  | error e => exact hr
  | ok fl =>
    cases fl with
    | ret v =>
      obtain ⟨rfl, rfl⟩ := hr
      have ho : (s.heap.push { cls := .type "bytearray", data := .bytearray #[] }).get? s.heap.objs.size = some { cls := .type "bytearray", data := .bytearray #[] } := Heap.get?_push_size _ rfl
      have hT : ({ s with heap := s.heap.push { cls := .type "bytearray", data := .bytearray #[] } } : Shared).TypeIs (.ref s.heap.objs.size) "bytearray" := ⟨_, ho, rfl⟩
      refine wpG_bind1 (wpAny_isInstance hT ba_sub_self ?_)
      simp only [Bool.not_true, Bool.false_eq_true, if_false]
      refine wpG_bind (wpG_holding ?_)
      simp only [callSpecial?]
      refine wpG_bind1 (wpAny_specialOf hT ba_slot_init.lookup ?_)
      simp only [ba_slot_init.bind]
      refine wpG_holding (wpG_bind1 (wpAny_pure (wpG_bind2 ?_)))
      refine wpG_call (codeG_of_tree ?_)
      show wpG _ _ (do checkBuiltinCall "bytearray.__init__" ⟨[.ref s.heap.objs.size, .int n t], []⟩; again (.builtin "bytearray.__init__" ⟨[.ref s.heap.objs.size, .int n t], []⟩)) _ _ _
      refine wpG_bind1 (ba_slot_init.check _ _ _ _ _ _ _ _ hT (ba_args_init _ _) (wpG_pure ⟨plainId_quiet ba_init_plain _, wpG_codeBuiltin ba_entry_init ?_ (okCode_of _ (by decide +kernel))⟩))
      refine wpG_mono (ba_init ho hn (Q := fun v s' => v = .none ∧ Q (.ref s.heap.objs.size) s') fun h' ho' hs' => ⟨rfl, h h' (fun b o e => ?_) ho'⟩) (fun fin s' ⟨v, e1, e2, hq⟩ => ?_) fun _ _ e => e
      · rw [hs'.2 b (Nat.ne_of_lt (Heap.lt_size e))]; exact Heap.get?_push_of_some _ e
      · subst e1; subst e2
        exact wpAny_pure (wpG_pure hq)
    | _ => exact hr.elim
end
end Mine
end

section
open PySem PySem.W PyProof.Rows
open PySem.Sem (wp)
set_option maxRecDepth 100000
namespace Mine
section
variable {prog : Program} {w : World} {A : Around} {E : Value → Shared → Prop} {s : Shared}
theorem ba_no_bytes : typeLookup (.type "bytearray") "__bytes__" = pure none := by rw [typeLookup_type, builtinLookup_eq_fast]; kernel_rfl
theorem ba_no_index : typeLookup (.type "bytearray") "__index__" = pure none := by rw [typeLookup_type, builtinLookup_eq_fast]; kernel_rfl
theorem ba_buffer : typeLookup (.type "bytearray") "__buffer__" = pure (some (.builtin "bytearray.__buffer__")) := by rw [typeLookup_type, builtinLookup_eq_fast]; kernel_rfl
theorem ba_buf_ends : ("bytearray.__buffer__".endsWith ("." ++ "__buffer__")) = true := by decide +kernel
theorem ba_buf_drop : "bytearray.__buffer__".dropRight ("__buffer__".length + 1) = "bytearray" := by decide +kernel
theorem ba_ownBuffer {M : Model} {a : Addr} {o : Obj} (ho : s.heap.get? a = some o) (hc : o.cls = .type "bytearray") {Q : Bool → Shared → Prop} (h : Q true s) : wpAny M A (Builtin.Bytes.slotIsOwn (.ref a) "__buffer__") Q E s := by
  have hT : s.TypeIs (.ref a) "bytearray" := ⟨_, ho, hc⟩
  unfold Builtin.Bytes.slotIsOwn
  refine wpAny_bind (wpAny_specialOf hT ba_buffer ?_)
  dsimp only
  rw [ba_buf_ends, ba_buf_drop]
  simp only [Bool.not_true, Bool.false_eq_true, if_false]
  exact wpAny_isInstance hT ba_sub_self h
theorem ba_bytes_new {a : Addr} {b : Array UInt8} {n : Nat} {Q : Value → Shared → Prop} (ho : s.heap.get? a = some { cls := .type "bytearray", data := .bytearray b n }) (hz : b.size ≤ sizeLine)
    (hQ : ∀ t k, Q (.bytes b t) { s with toks := k }) : codeAny (model prog w) A (.call (.builtin "bytes.__new__") ⟨[.type "bytes", .ref a], []⟩) (wants Q E) s := by
  refine codeAny_of_tree ?_
  show wpAny _ A.in1 (do checkBuiltinCall "bytes.__new__" ⟨[.type "bytes", .ref a], []⟩; again (.builtin "bytes.__new__" ⟨[.type "bytes", .ref a], []⟩)) _ _ s
  refine wpAny_bind (wpAny_of_eq (F.bm_newCall _) (wpAny_pure ⟨plainId_quiet F.bm_plain _, codeAny_builtin F.bm_entry ?_⟩))
  rw [Around.under_plainId F.bm_plain _]
  have hT : s.TypeIs (.ref a) "bytearray" := ⟨_, ho, rfl⟩
  unfold Builtin.«bytes.__new__»
  refine wpAny_bind (wpAny_of_eq (a := true) rfl ?_)
  refine bm_if_false rfl ?_
  refine wpAny_bind (wpAny_of_eq F.bm_sub ?_)
  refine bm_if_false rfl ?_
  refine wpAny_bind (wpAny_of_eq (F.bm_bind _) ?_)
  refine wpAny_bind (wpAny_of_eq (a := ()) rfl ?_)
  refine wpAny_bind (wpAny_of_eq (a := ()) rfl ?_)
  refine bm_if_false rfl ?_
  refine wpAny_bind (wpAny_specialOf hT ba_no_bytes ?_)
  refine wpAny_bind (wpAny_bind ?_)
  show wpAny _ _ (load a >>= _) _ _ _
  refine wpAny_bind (wpAny_load ho ?_)
  refine wpAny_pure (wpAny_pure ?_)
  refine bm_if_false rfl ?_
  refine wpAny_bind (wpAny_specialOf hT ba_no_index ?_)
  refine bm_if_true rfl ?_
  first
    | show wpAny _ _ (Builtin.Bytes.buffer? "bytes.__new__" (.ref a) true >>= _) _ _ _
    | (refine wpAny_bind ?_; show wpAny _ _ (Builtin.Bytes.buffer? "bytes.__new__" (.ref a) true >>= _) _ _ _)
  refine wpAny_bind ?_
  unfold Builtin.Bytes.buffer?
  refine wpAny_bind (wpAny_specialOf hT ba_buffer ?_)
  dsimp only
  refine wpAny_bind (ba_ownBuffer ho rfl ?_)
  refine bm_if_false rfl ?_
  refine wpAny_bind (wpAny_specialOf hT ba_buffer ?_)
  refine wpAny_bind (ba_ownRelease ho rfl ?_)
  refine bm_if_false rfl ?_
  refine wpAny_bind ?_
  unfold Builtin.Bytes.payload Builtin.Bytes.payload?
  refine wpAny_bind (wpAny_bind (wpAny_load ho ?_))
  refine wpAny_pure (wpAny_pure (wpAny_pure ?_))
  dsimp only
  refine wpAny_bind (wpAny_rule ?_)
  refine wpAny_bind (wpAny_mkBytes ?_ hz)
  show wpAny _ _ (if (Value.type "bytes" == Value.type "bytes") = true then _ else _) _ _ _
  refine bm_if_true (by decide) ?_
  first
    | exact wpAny_pure (hQ _ _)
    | exact wpAny_bind (wpAny_pure (wpAny_pure (hQ _ _)))
theorem ba_bytes {a : Addr} {b : Array UInt8} {n : Nat} {Q : Value → Shared → Prop} (ho : s.heap.get? a = some { cls := .type "bytearray", data := .bytearray b n }) (hz : b.size ≤ sizeLine)
    (hQ : ∀ t k, Q (.bytes b t) { s with toks := k }) : wpAny (model prog w) A (call (.type "bytes") [.ref a]) Q E s := by
  refine callType_codes (Q₁ := fun obj s₁ => s₁.TypeIs obj "bytes" ∧ Q obj s₁) F.bm_called (F.bm_typeCall _) F.entry_object_init
    (ba_bytes_new ho hz fun t k => ⟨PySem.W.typeIs_bytes _ _ _, hQ t k⟩) fun obj s₁ h₁ => ?_
  exact ⟨h₁.1, F.args_object_init_2 obj _, object_init_meets F.bm_called.init.lookup F.bm_called.made (by decide) prog w A.in1 _ s₁ ⟨h₁.1, rfl, h₁.2⟩⟩

/-- what the store asks first -/
theorem ba_set_head {a : Addr} {b : Array UInt8} {n : Nat} {k x : Int} {t u : Tok} {Q : Unit → Shared → Prop} (ho : s.heap.get? a = some { cls := .type "bytearray", data := .bytearray b n })
    (h : wpAny (model prog w) A.in1 (Builtin.«bytearray.__setitem__» ⟨[.ref a, .int k t, .int x u], []⟩) (fun fin s' => ∃ v, fin = .done (.ret v) ∧ Q () s') E s) :
    wpAny (model prog w) A (PySem.setItem (.ref a) (.int k t) (.int x u)) Q E s := by
  have hT : s.TypeIs (.ref a) "bytearray" := ⟨_, ho, rfl⟩
  unfold PySem.setItem
  try with_reducible refine wpAny_holding ?_
  first | refine wpAny_bind (wpAny_pure ?_) | skip
  refine wpAny_bind (wpAny_sequenceKey hT (by decide) ?_)
  refine wpAny_bind (wpAny_callSpecial?_slot (name := Str.ofString "__setitem__") hT ba_slot_setitem
    (wpAny_call_entry ba_slot_setitem hT ba_entry_setitem ?_ (ba_args_setitem _ _ _)))
  refine wpAny_mono h (fun fin s' ⟨v, e, q⟩ => ⟨v, e, wpAny_pure q⟩) fun _ _ e => e
theorem ba_set {a : Addr} {b : Array UInt8} {k x : Int} {t u : Tok} {Q : Unit → Shared → Prop} (ho : s.heap.get? a = some { cls := .type "bytearray", data := .bytearray b }) (h0 : 0 ≤ k) (hk : k < b.size) (hz : b.size ≤ sizeLine) (hx0 : 0 ≤ x) (hx1 : x < 256)
    (hQ : ∀ h', h'.get? a = some { cls := .type "bytearray", data := .bytearray (b.setIfInBounds k.toNat x.toNat.toUInt8) } → Heap.SameBut a s.heap h' → Q () { s with heap := h' }) :
    wpAny (model prog w) A (PySem.setItem (.ref a) (.int k t) (.int x u)) Q E s := by
  have hz' : b.size ≤ 16777216 := by rw [sizeLine_eq] at hz; exact hz
  refine ba_set_head ho ?_
  unfold Builtin.«bytearray.__setitem__»
  refine bm_if_false rfl ?_
  refine wpAny_bind ?_
  rw [ba_subscript k t (by unfold Builtin.Bytes.fitsIndex; simp; omega)]
  refine wpAny_pure ?_
  dsimp only
  rw [ba_byteValue x u hx0 hx1]
  refine wpAny_bind (wpAny_pure ?_)
  refine wpAny_bind ?_
  unfold Builtin.Bytes.payload Builtin.Bytes.payload?
  refine wpAny_bind (wpAny_bind (wpAny_load ho ?_))
  refine wpAny_pure (wpAny_pure ?_)
  have hsi : seqIndex? k b.size = some k.toNat := by
    have hk0 : ¬ k < 0 := by omega
    simp only [seqIndex?, hk0, if_false]
    rw [if_pos (by simp; omega)]
  rw [hsi]
  dsimp only
  refine wpAny_bind (ba_write ho (by rw [Array.size_setIfInBounds]; exact hz) fun h' ho' hs' => ?_)
  exact wpAny_pure ⟨_, rfl, hQ h' ho' hs'⟩
theorem ba_set_out {a : Addr} {b : Array UInt8} {k x : Int} {t u : Tok} {Q : Unit → Shared → Prop} (hA : A.handled = none) (ho : s.heap.get? a = some { cls := .type "bytearray", data := .bytearray b }) (h0 : 0 ≤ k) (hk : (b.size : Int) ≤ k) (hk2 : k < 2 ^ 62) (hx0 : 0 ≤ x) (hx1 : x < 256)
    (hE : ∀ h' tk e, Heap.NewExc s.heap h' e "IndexError" → E (.ref e) { s with heap := h', toks := tk }) :
    wpAny (model prog w) A (PySem.setItem (.ref a) (.int k t) (.int x u)) Q E s := by
  refine ba_set_head ho ?_
  unfold Builtin.«bytearray.__setitem__»
  refine bm_if_false rfl ?_
  refine wpAny_bind ?_
  rw [ba_subscript k t (by unfold Builtin.Bytes.fitsIndex; simp; omega)]
  refine wpAny_pure ?_
  dsimp only
  rw [ba_byteValue x u hx0 hx1]
  refine wpAny_bind (wpAny_pure ?_)
  refine wpAny_bind ?_
  unfold Builtin.Bytes.payload Builtin.Bytes.payload?
  refine wpAny_bind (wpAny_bind (wpAny_load ho ?_))
  refine wpAny_pure (wpAny_pure ?_)
  have hsi : seqIndex? k b.size = none := by
    have hk0 : ¬ k < 0 := by omega
    simp only [seqIndex?, hk0, if_false]
    rw [if_neg (by simp; omega)]
  rw [hsi]
  dsimp only
  have hA' : A.in1.handled = none := hA
  refine wpAny_bind ?_
  show wpAny _ _ (do rule "bytearray.subscript.out-of-range"; raiseErrorWords "IndexError" "bytearray index out of range") _ _ _
  exact wpAny_bind (wpAny_rule (by exact_raiseError plainExc_IndexError hA' hE))
end
end Mine
end

section
open PySem PySem.W PyProof.Rows
open PySem.Sem (wp)
namespace Mine

/-! the judgements for contexts without lenders -/
structure EvG (prog : Program) (w : World) (T : Imm) (F : FnCx) (k : Nat) (ρ : List (Option B)) (e : PySem.Expr) (d : D) : Prop where
  go : ∀ (A : Around) (env : Env) (s₀ : Shared) (I₀ I : Imm) (s : Shared), RoomN k A → EnvRep T F env s₀ I₀ I ρ s → ∀ E, wpG (model prog w) A (eval e env) (fun v s' => ∃ I', Ext I s I' s' ∧ Rep I' v d) E s
structure ExG (prog : Program) (w : World) (T : Imm) (F : FnCx) (k : Nat) (L : Around → Env → Prop) (ρ : List (Option B)) (st : Stmt) (Φ : Out → Prop) : Prop where
  go : ∀ (A : Around) (env : Env) (s₀ : Shared) (I₀ I : Imm) (s : Shared), RoomN k A → L A env → EnvRep T F env s₀ I₀ I ρ s → ∀ E, wpG (model prog w) A (exec st env) (Post T F env s₀ I₀ I s Φ) E s
structure ExsG (prog : Program) (w : World) (T : Imm) (F : FnCx) (k : Nat) (L : Around → Env → Prop) (ρ : List (Option B)) (l : List Stmt) (Φ : Out → Prop) : Prop where
  go : ∀ (A : Around) (env : Env) (s₀ : Shared) (I₀ I : Imm) (s : Shared), RoomN k A → L A env → EnvRep T F env s₀ I₀ I ρ s → ∀ E, wpG (model prog w) A (execs l env) (Post T F env s₀ I₀ I s Φ) E s
noncomputable def anyL : Around → Env → Prop := fun _ _ => True
/-- a def, in such a context -/
structure FnG (prog : Program) (w : World) (T : Imm) (k : Nat) (a : Addr) (ds : List D) (d : D) : Prop where
  isf : ∃ o fd, T a = some o ∧ o.data = .func fd
  prim : ∀ (A : Around) (I : Imm) (s : Shared) (vs : List Value), RoomN k A → (∀ a o, T a = some o → I a = some o) → (∀ b o, I b = some o → s.heap.get? b = some o) → Reps I vs ds →
    ∀ E, wpG (model prog w) A (call (.ref a) vs) (fun v s' => ∃ I', Ext I s I' s' ∧ Rep I' v d) E s

section
variable {prog : Program} {w : World} {T : Imm} {F : FnCx} {k : Nat} {L : Around → Env → Prop} {ρ : List (Option B)} {mg mb : Str → Option Value}
theorem Ev.g {e : PySem.Expr} {d : D} (h : Ev prog w T F k ρ e d) : EvG prog w T F k ρ e d := .mk fun A env s₀ I₀ I s hR R E => wpG_of_any (h.go A env s₀ I₀ I s hR R E)
theorem Ex.g {st : Stmt} {Φ : Out → Prop} (h : Ex prog w T F k ρ st Φ) : ExG prog w T F k L ρ st Φ := .mk fun A env s₀ I₀ I s hR _ R E => wpG_of_any (h.go A env s₀ I₀ I s hR R E)
theorem Exs.g {l : List Stmt} {Φ : Out → Prop} (h : Exs prog w T F k ρ l Φ) : ExsG prog w T F k L ρ l Φ := .mk fun A env s₀ I₀ I s hR _ R E => wpG_of_any (h.go A env s₀ I₀ I s hR R E)
theorem ExsG.nil {Φ : Out → Prop} (h : Φ (.next ρ)) : ExsG prog w T F k L ρ [] Φ := (Exs.nil h).g
theorem ExsG.cons {st : Stmt} {rest : List Stmt} {Φ : Out → Prop} (h : ExG prog w T F k L ρ st (fun o => match o with | .next ρ' => ExsG prog w T F k L ρ' rest Φ | .ret d => Φ (.ret d))) : ExsG prog w T F k L ρ (st :: rest) Φ :=
  .mk fun A env s₀ I₀ I s hR hL R E => wpG_execs_cons (wpG_mono (h.go A env s₀ I₀ I s hR hL R E) (fun f s' p => by
    cases f with
    | next => obtain ⟨I', ρ', h1, h2, h3⟩ := p; exact wpG_mono (h1.go A env s₀ I₀ I' s' hR hL h2 E) (fun _ _ q => q.from h3) fun _ _ e => e
    | ret v => exact p
    | brk => exact p.elim
    | cont => exact p.elim) fun _ _ e => e)
theorem ExG.mono {st : Stmt} {Φ Ψ : Out → Prop} (h : ExG prog w T F k L ρ st Φ) (hm : ∀ o, Φ o → Ψ o) : ExG prog w T F k L ρ st Ψ :=
  .mk fun A env s₀ I₀ I s hR hL R E => wpG_mono (h.go A env s₀ I₀ I s hR hL R E) (fun _ _ p => p.mono hm) fun _ _ e => e
theorem ExsG.freeze {i : Nat} {l : List D} {sts : List Stmt} {Φ : Out → Prop} (hi : ρ[i]? = some (some (.own l))) (h : ExsG prog w T F k L (ρ.set i (some (.imm (.lst l)))) sts Φ) : ExsG prog w T F k L ρ sts Φ :=
  .mk fun A env s₀ I₀ I s hR hL R E => by
    obtain ⟨I', R', K'⟩ := R.freeze hi
    exact wpG_mono (h.go A env s₀ I₀ I' s hR hL R' E) (fun _ _ p => p.from K') fun _ _ e => e

theorem EvG.callF {x : Str} {p pos : Pos} {f : Addr} {es : List PySem.Expr} {ds : List D} {d : D} (hf : Ev prog w T F k ρ (.Name x p) (.raw (.ref f))) (ha : Evs prog w T F k ρ es ds) (hp : FnG prog w T k f ds d) (hne : ds ≠ [] := by simp) :
    EvG prog w T F k ρ (.Call (.Name x p) es [] pos) d :=
  .mk fun A env s₀ I₀ I s hR R E => wpG_Call_Name (wpAny_mono (hf.go A env s₀ I₀ I s hR R E) (fun v s₁ ⟨I₁, x₁, r₁⟩ => by
    obtain rfl := r₁.of_raw
    obtain ⟨o, fd, hT, hd⟩ := hp.isf
    refine callWithG_function (o := o) (fd := fd) (wpAny_mono (ha.args hne hR (R.mono x₁) E) (fun a s₂ ⟨hk, I₂, x₂, r₂⟩ => ?_) fun _ _ e => e)
    rw [hk]
    have R₂ := (R.mono x₁).mono x₂
    exact ⟨⟨R₂.heap_top _ _ hT, hd⟩, wpG_mono (hp.prim A I₂ s₂ a.pos hR R₂.top x₂.imm r₂ E) (fun v s' ⟨J, y, r⟩ => ⟨J, (x₁.trans x₂).trans y, r⟩) fun _ _ e => e⟩) fun _ _ e => e)
theorem EvG.bin {l r : PySem.Expr} {op : Operator} {pos : Pos} {d₁ d₂ d : D} (h₁ : Ev prog w T F k ρ l d₁) (h₂ : EvG prog w T F k ρ r d₂) (hp : Prim2 prog w T k (binaryOp op) d₁ d₂ d) : EvG prog w T F k ρ (.BinOp l op r pos) d :=
  .mk fun A env s₀ I₀ I s hR R E => wpG_BinOp (wpAny_mono (h₁.go A env s₀ I₀ I s hR R E) (fun v₁ s₁ ⟨I₁, x₁, r₁⟩ =>
    wpG_mono (h₂.go A env s₀ I₀ I₁ s₁ hR (R.mono x₁) E) (fun v₂ s₂ ⟨I₂, x₂, r₂⟩ =>
      Does.step (x₁.trans x₂) (hp.go A I₂ s₂ v₁ v₂ hR ((R.mono x₁).mono x₂).top x₂.imm (r₁.mono x₂.ge) r₂)) fun _ _ e => e) fun _ _ e => e)
theorem ExG.assign {i : Nat} {x : Str} {p pos : Pos} {e : PySem.Expr} {d : D} {Φ : Out → Prop} (hnd : F.vars.Nodup) (hx : F.vars[i]? = some x) (hk : F.writes x) (h : EvG prog w T F k ρ e d) (hΦ : Φ (.next (ρ.set i (some (.imm d)))))
    (hs : ∀ env : Env, env.scope = F.sc → env.scope.kind = .function → swapsWith e (some (.Name x p)) pos.line env = pure false := by intro _ _ _; rfl) : ExG prog w T F k L ρ (.Assign [.Name x p] e pos) Φ :=
  .mk fun A env s₀ I₀ I s hR _ R E => wpG_Assign_Name (wpG_mono (h.go A env s₀ I₀ I s hR R E) (fun v s₁ ⟨I₁, x₁, r₁⟩ =>
    wp_bindImm hnd (R.mono x₁) hx hk r₁ fun s' R' K => ⟨I₁, _, hΦ, R', x₁.kept.trans K.kept⟩) fun _ _ e => e) (hs env R.scope R.kind)
theorem ExG.ite {t : PySem.Expr} {body orelse : List Stmt} {pos : Pos} {b : Bool} {Φ : Out → Prop} (ht : Tr prog w T F k ρ t b) (h1 : b = true → ExsG prog w T F k L ρ body Φ) (h2 : b = false → ExsG prog w T F k L ρ orelse Φ) : ExG prog w T F k L ρ (.If t body orelse pos) Φ :=
  .mk fun A env s₀ I₀ I s hR hL R E => wpG_If (wpAny_mono (ht.go A env s₀ I₀ I s hR R E) (fun c s₁ ⟨e₁, I₁, x₁⟩ => by
    subst e₁
    cases c with
    | true => exact wpG_mono ((h1 rfl).go A env s₀ I₀ I₁ s₁ hR hL (R.mono x₁) E) (fun _ _ p => p.from x₁.kept) fun _ _ e => e
    | false => exact wpG_mono ((h2 rfl).go A env s₀ I₀ I₁ s₁ hR hL (R.mono x₁) E) (fun _ _ p => p.from x₁.kept) fun _ _ e => e) fun _ _ e => e)
theorem ExG.while {test : PySem.Expr} {body : List Stmt} {pos : Pos} {Φ : Out → Prop} (J : Nat → List (Option B) → Prop) {n₀ : Nat} (h0 : J n₀ ρ)
    (step : ∀ n ρi, J n ρi → ∃ b, Tr prog w T F k ρi test b ∧ (b = true → ExsG prog w T F k anyL ρi body (fun o => match o with | .next ρ' => ∃ m, m < n ∧ J m ρ' | .ret d => Φ (.ret d))) ∧ (b = false → Φ (.next ρi))) :
    ExG prog w T F k L ρ (.While test body [] pos) Φ :=
  .mk fun A env s₀ I₀ I s hR hL R E => by
    refine wpG_While (codeG_whileLoop (fun n s' => ∃ I' ρi, J n ρi ∧ EnvRep T F env s₀ I₀ I' ρi s' ∧ Kept I s I' s') ?_ n₀ ⟨I, ρ, h0, R, Kept.refl⟩)
    rintro n s' ⟨I', ρi, hJ, R', K'⟩
    obtain ⟨b, ht, hb1, hb2⟩ := step n ρi hJ
    refine wpAny_mono (ht.go A env s₀ I₀ I' s' hR R' _) (fun c s₁ ⟨e₁, I₁, x₁⟩ => ?_) fun _ _ e => e
    subst e₁
    cases c with
    | false => exact wpAny_execs_nil ⟨I₁, ρi, hb2 rfl, R'.mono x₁, K'.trans x₁.kept⟩
    | true =>
      refine wpG_mono ((hb1 rfl).go A env s₀ I₀ I₁ s₁ hR trivial (R'.mono x₁) _) (fun f s₅ p => ?_) fun _ _ e => e
      cases f with
      | next =>
        obtain ⟨I₅, ρ₅, ⟨m, hm, hJ₅⟩, R₅, K₅⟩ := p
        exact ⟨m, hm, I₅, ρ₅, hJ₅, R₅, (K'.trans x₁.kept).trans K₅⟩
      | ret v => exact p
      | brk => exact p.elim
      | cont => exact p.elim

/-- the frame of a call -/
theorem fnG_of_body {k : Nat} {a : Addr} {names : List Str} {body : List Stmt} {F : FnCx} {ds : List D} {d : D} {more : Nat} (hT : TopOk T mg mb) (hdef : DefAt T a names body F.sc) (hvars : F.vars.take names.length = names) (hnd : F.vars.Nodup) (hds : ds.length = names.length)
    (hkind : ∀ x ∈ names, F.sc.names.lookup x = some .local ∨ (F.sc.names.lookup x = some .cell ∧ x ∈ F.own)) (hown : ∀ n, F.own.all (fun x => ((cellsFrom n F.sc.names []).lookup x).isSome) = true)
    (hk : F.sc.kind = .function) (hco : F.sc.isCoroutine = false) (hgen : F.sc.isGenerator = false)
    (h : ExsG prog w T F k anyL (ds.map (fun d => some (.imm d)) ++ List.replicate more none) body (fun o => o = .ret d)) : FnG prog w T (k + 1) a ds d := by
  obtain ⟨o, fd, hTa, hfd, hgl, hbl, hclo, hbody, hsc, hcode, hbind⟩ := hdef.ex
  refine ⟨⟨o, fd, hTa, hfd⟩, fun A I s vs hR hTI hI hr E => ?_⟩
  have hTs : ∀ a o, T a = some o → s.heap.get? a = some o := fun a o e => hI a o (hTI a o e)
  have hlen : vs.length = names.length := hr.1.trans hds
  have hcells : ∀ x, x ∈ F.own → ∀ n, ((cellsFrom n F.sc.names []).lookup x).isSome = true := fun x hx n => by simpa using List.all_eq_true.mp (hown n) x hx
  refine wpG_call (codeG_call_cells (by have := hR.depth; omega) (hTs _ _ hTa) hfd (hT.lim _ hTs) (hcode _ hTs) hbody (hbind vs hlen) hclo (fun x hx => ?_) (fun s₁ C => ?_) (by rw [hsc]; exact hco) (by rw [hsc]; exact hgen) (by rw [hsc]; exact hk))
  · have hx1 : x.1 ∈ names := (List.of_mem_zip (a := x.1) (b := x.2) hx).1
    rw [hsc]
    rcases hkind _ hx1 with q | ⟨q, q'⟩
    · exact .inl q
    · exact .inr ⟨q, hcells _ q' _⟩
  · have R := frame_rep (a := a) (more := more) hvars hnd hds hkind hown hk hgl hbl hsc hTI hI hr C
    generalize callEnvC fd s.heap.objs.size a = env at C R
    refine wpG_mono (h.go _ env s I I s₁ (hR.deeper env) trivial R _) (fun f s' p => ?_) fun _ _ e => e
    cases f with
    | next => obtain ⟨_, _, q, _⟩ := p; cases q
    | ret v =>
      obtain ⟨I', d', q, rv, X⟩ := p
      cases q
      exact ⟨I', X, rv⟩
    | brk => exact p.elim
    | cont => exact p.elim
end
end Mine
end

section
open PySem PySem.W PyProof.Rows
open PySem.Sem (wp)
namespace Mine
section
variable {prog : Program} {w : World} {T : Imm} {F : FnCx} {k : Nat} {L : Around → Env → Prop} {ρ : List (Option B)} {mg mb : Str → Option Value}
/-- x = bytearray(e) -/
theorem ExG.newBA {i : Nat} {x y : Str} {p p' pos pos' : Pos} {e : PySem.Expr} {n : Nat} {Φ : Out → Prop} (hnd : F.vars.Nodup) (hx : F.vars[i]? = some x) (hk : F.writes x) (hf : Ev prog w T F k ρ (.Name y p') (.raw (.type "bytearray")))
    (he : Ev prog w T F k ρ e (.int n)) (hst : isStarred e = false) (hn : n ≤ 16777216) (hΦ : Φ (.next (ρ.set i (some (.bya (Array.replicate n 0)))))) (ho : noOwn ρ i = true := by rfl)
    (hs : ∀ env : Env, env.scope = F.sc → env.scope.kind = .function → swapsWith (.Call (.Name y p') [e] [] pos') (some (.Name x p)) pos.line env = pure false := by intro _ _ _; rfl) :
    ExG prog w T F k L ρ (.Assign [.Name x p] (.Call (.Name y p') [e] [] pos') pos) Φ :=
  .mk fun A env s₀ I₀ I s hR _ R E => wpG_Assign_Name (wpG_Call_Name (wpAny_mono (hf.go A env s₀ I₀ I s hR R E) (fun v s₁ ⟨I₁, x₁, r₁⟩ => by
    obtain rfl := r₁.of_raw
    have ha : Evs prog w T F k ρ [e] [.int n] := .cons he hst .nil
    refine callWithG_type (backTo_plain ha env) (wpAny_mono (ha.args (by simp) hR (R.mono x₁) E) (fun a s₂ ⟨hkw, I₂, x₂, r₂⟩ => ?_) fun _ _ e => e)
    rw [hkw]
    obtain ⟨v, hv, rv⟩ := r₂.one
    obtain ⟨t, rfl⟩ := rv.of_int
    rw [hv]
    refine ba_make (a := .none) hn fun h' hkeep hnew => ?_
    have hnone : s₂.heap.get? s₂.heap.objs.size = none := get_size _
    have x₃ : Ext I₂ s₂ I₂ { s₂ with heap := h' } := Ext.heap (tk := s₂.toks) x₂.imm hkeep
    have R₃ := ((R.mono x₁).mono x₂).mono x₃
    have hI : I₂ s₂.heap.objs.size = none := by
      cases e : I₂ s₂.heap.objs.size with
      | none => rfl
      | some o => rw [x₂.imm _ _ e] at hnone; cases hnone
    have h0 : s₀.heap.get? s₂.heap.objs.size = none := by
      cases e : s₀.heap.get? s₂.heap.objs.size with
      | none => rfl
      | some o => rw [((R.mono x₁).mono x₂).ext.keep _ _ e] at hnone; cases hnone
    exact wp_store hnd R₃ hx hk (.bya hnew hI h0) (fun _ => noOwn_spec ho) fun s' R' hF _ => ⟨I₂, _, hΦ, R', ((x₁.trans x₂).trans x₃).kept.trans hF.kept⟩) fun _ _ e => e)) (hs env R.scope R.kind)

/-- x[j] = e, octets -/
theorem Ex.setByte {i : Nat} {x : Str} {p pos' pos : Pos} {e j : PySem.Expr} {b : Array UInt8} {v : Int} {n : Nat} {Φ : Out → Prop} (hx : F.vars[i]? = some x) (hi : ρ[i]? = some (some (.bya b))) (h : Ev prog w T F k ρ e (.int v)) (hj : Ev prog w T F k ρ j (.int n))
    (hv : 0 ≤ v ∧ v < 256) (hn : n < b.size) (hb : b.size ≤ 16777216) (hΦ : Φ (.next (ρ.set i (some (.bya (b.setIfInBounds n v.toNat.toUInt8)))))) (hd : (x == ("__debug__" : Str)) = false := by decide)
    (hs : ∀ env, swapsWith e (some (.Subscript (.Name x p) j pos')) pos.line env = pure false := by intro _; rfl) : Ex prog w T F k ρ (.Assign [.Subscript (.Name x p) j pos'] e pos) Φ :=
  .mk fun A env s₀ I₀ I s hR R E => by
    refine wpAny_Assign_Subscript (wpAny_mono (h.go A env s₀ I₀ I s hR R E) (fun u s₁ ⟨I₁, x₁, rv⟩ => ?_) fun _ _ e => e) (hs env)
    obtain ⟨t', rfl⟩ := rv.of_int
    obtain ⟨a, r, hload, hturn⟩ := (R.mono x₁).turner (prog := prog) (w := w) hx hi rfl
    refine wpAny_Name (hload A E _ ?_) hd
    refine wpAny_mono (hj.go A env s₀ I₀ I₁ s₁ hR (R.mono x₁) E) (fun vj s₂ ⟨I₂, x₂, rj⟩ => ?_) fun _ _ e => e
    obtain ⟨t, rfl⟩ := rj.of_int
    cases r with
    | @bya _ c h1 h3 h4 =>
      refine ba_set (x₂.keep _ _ h1) (by omega) (by omega) (by rw [sizeLine_eq]; exact hb) hv.1 hv.2 (fun h' g1 hsb => ?_)
      have hk : ∀ b o, b ≠ a → s₂.heap.get? b = some o → h'.get? b = some o := fun b o hb e => (hsb.2 b hb).trans e
      obtain ⟨R', K'⟩ := hturn I₂ s₂ x₂ h' s₂.toks (.bya (b.setIfInBounds n v.toNat.toUInt8)) hk (.bya (by rw [Int.toNat_natCast] at g1; exact g1) ((x₂.old _ _ h1).trans h3) h4) rfl
      exact ⟨I₂, _, hΦ, R', (x₁.trans x₂).kept.trans K'⟩
/-- bytes(x), x a bytearray of the frame's own -/
theorem Ev.bytesBA {i : Nat} {x y : Str} {p p' pos : Pos} {b : Array UInt8} (hf : Ev prog w T F k ρ (.Name y p') (.raw (.type "bytes"))) (hx : F.vars[i]? = some x) (hi : ρ[i]? = some (some (.bya b))) (hb : b.size ≤ 16777216) (hd : (x == ("__debug__" : Str)) = false := by decide) :
    Ev prog w T F k ρ (.Call (.Name y p') [.Name x p] [] pos) (.bytes b) :=
  .mk fun A env s₀ I₀ I s hR R E => wpAny_Call_Name_kw (wpAny_mono (hf.go A env s₀ I₀ I s hR R E) (fun v s₁ ⟨I₁, x₁, r₁⟩ => by
    obtain rfl := r₁.of_raw
    refine PySem.callWith_type (by rfl) ?_
    obtain ⟨a, r, hload, hturn⟩ := (R.mono x₁).turner (prog := prog) (w := w) hx hi rfl
    rw [starEach_plain rfl]
    refine Calls.evalArgs_plain (spliced_more (wpAny_Name (hload A E _ ?_) hd) rfl)
    refine spliced_none ?_
    cases r with
    | @bya _ c h1 h3 h4 =>
      exact ba_bytes h1 (by rw [sizeLine_eq]; exact hb) fun t tk => ⟨I₁, x₁.trans (Ext.tok x₁.imm tk), .bytes _ _⟩) fun _ _ e => e)
end
end Mine
end

section
open PySem PySem.W PyProof.Rows
open PySem.Sem (wp)
namespace Mine

/-! statements that raise IndexError -/
noncomputable def RaisedTo (T : Imm) (F : FnCx) (env : Env) (s₀ : Shared) (I₀ : Imm) (E : Value → Shared → Prop) : Prop :=
  ∀ J ρ' s₁ h' tk e, EnvRep T F env s₀ I₀ J ρ' s₁ → Heap.NewExc s₁.heap h' e "IndexError" → E (.ref e) { s₁ with heap := h', toks := tk }
structure ExR (prog : Program) (w : World) (T : Imm) (F : FnCx) (k : Nat) (ρ : List (Option B)) (st : Stmt) : Prop where
  go : ∀ (A : Around) (env : Env) (s₀ : Shared) (I₀ I : Imm) (s : Shared), RoomN k A → EnvRep T F env s₀ I₀ I ρ s → ∀ E, PassesOwn (model prog w) A env E → RaisedTo T F env s₀ I₀ E → wpAny (model prog w) A (exec st env) (fun _ _ => False) E s
structure ExsR (prog : Program) (w : World) (T : Imm) (F : FnCx) (k : Nat) (ρ : List (Option B)) (l : List Stmt) : Prop where
  go : ∀ (A : Around) (env : Env) (s₀ : Shared) (I₀ I : Imm) (s : Shared), RoomN k A → EnvRep T F env s₀ I₀ I ρ s → ∀ E, PassesOwn (model prog w) A env E → RaisedTo T F env s₀ I₀ E → wpAny (model prog w) A (execs l env) (fun _ _ => False) E s
section
variable {prog : Program} {w : World} {T : Imm} {F : FnCx} {k : Nat} {L : Around → Env → Prop} {ρ : List (Option B)} {mg mb : Str → Option Value}
theorem ExsR.here {st : Stmt} {rest : List Stmt} (h : ExR prog w T F k ρ st) : ExsR prog w T F k ρ (st :: rest) :=
  .mk fun A env s₀ I₀ I s hR R E hE hX => wpAny_execs_cons (wpAny_mono (h.go A env s₀ I₀ I s hR R E hE hX) (fun _ _ q => q.elim) fun _ _ e => e)
theorem ExsR.later {st : Stmt} {rest : List Stmt} (h : Ex prog w T F k ρ st (fun o => match o with | .next ρ' => ExsR prog w T F k ρ' rest | .ret _ => False)) : ExsR prog w T F k ρ (st :: rest) :=
  .mk fun A env s₀ I₀ I s hR R E hE hX => wpAny_execs_cons (wpAny_mono (h.go A env s₀ I₀ I s hR R E) (fun f s' p => by
    cases f with
    | next => obtain ⟨I', ρ', h1, h2, h3⟩ := p; exact h1.go A env s₀ I₀ I' s' hR h2 E hE hX
    | ret v => obtain ⟨_, _, q, _⟩ := p; exact q.elim
    | brk => exact p.elim
    | cont => exact p.elim) fun _ _ e => e)
theorem noted_mono {M : Model} {A : Around} {env : Env} {E E' : Value → Shared → Prop} (h : ∀ e s, E e s → E' e s) : ∀ e s, notedBy M A env (cameBackBy M A env E) e s → notedBy M A env (cameBackBy M A env E') e s :=
  fun e s q => wpAny_mono q (fun _ _ q => wpAny_mono q (fun _ _ q => h _ _ q) fun _ _ q => h _ _ q) fun _ _ q => wpAny_mono q (fun _ _ q => h _ _ q) fun _ _ q => h _ _ q
theorem passes_again {M : Model} {A : Around} {env : Env} {E : Value → Shared → Prop} (h : PassesOwn M A env E) : PassesOwn M A env (notedBy M A env (cameBackBy M A env E)) :=
  fun e s q => noted_mono h e s q
theorem ExR.setByte {i : Nat} {x : Str} {p pos' pos : Pos} {e j : PySem.Expr} {b : Array UInt8} {v : Int} {n : Nat} (hx : F.vars[i]? = some x) (hi : ρ[i]? = some (some (.bya b))) (h : Ev prog w T F k ρ e (.int v)) (hj : Ev prog w T F k ρ j (.int n))
    (hv : 0 ≤ v ∧ v < 256) (hn : b.size ≤ n) (hn2 : n < 2 ^ 60) (hd : (x == ("__debug__" : Str)) = false := by decide)
    (hs : ∀ env, swapsWith e (some (.Subscript (.Name x p) j pos')) pos.line env = pure false := by intro _; rfl) : ExR prog w T F k ρ (.Assign [.Subscript (.Name x p) j pos'] e pos) :=
  .mk fun A env s₀ I₀ I s hR R E hE hX => by
    refine wpAny_Assign_Subscript (wpAny_mono (h.go A env s₀ I₀ I s hR R E) (fun u s₁ ⟨I₁, x₁, rv⟩ => ?_) fun _ _ e => e) (hs env)
    obtain ⟨t', rfl⟩ := rv.of_int
    obtain ⟨a, r, hload, hturn⟩ := (R.mono x₁).turner (prog := prog) (w := w) hx hi rfl
    refine wpAny_Name (hload A E _ ?_) hd
    refine wpAny_mono (hj.go A env s₀ I₀ I₁ s₁ hR (R.mono x₁) E) (fun vj s₂ ⟨I₂, x₂, rj⟩ => ?_) fun _ _ e => e
    obtain ⟨t, rfl⟩ := rj.of_int
    cases r with
    | @bya _ c h1 h3 h4 => exact ba_set_out hR.handled (x₂.keep _ _ h1) (by omega) (by omega) (by omega) hv.1 hv.2 fun h' tk e he => hX I₂ ρ s₂ h' tk e ((R.mono x₁).mono x₂) he

theorem ExR.for {target iter : PySem.Expr} {body : List Stmt} {pos : Pos} {d : D} {ds : List D} (hi : Ev prog w T F k ρ iter d) (hit : Iterates d ds) (J : Nat → List (Option B) → Prop) (h0 : J 0 ρ) (i₀ : Nat) (hi₀ : i₀ < ds.length)
    (step : ∀ i di ρi, i < i₀ → ds[i]? = some di → J i ρi → ∃ ρa, As prog w T F k ρi target di ρa ∧ Exs prog w T F k ρa body (fun o => match o with | .next ρ' => J (i + 1) ρ' | .ret d => False))
    (last : ∀ di ρi, ds[i₀]? = some di → J i₀ ρi → ∃ ρa, As prog w T F k ρi target di ρa ∧ ExsR prog w T F k ρa body)
    (hfs : ∀ env x, foldedSetIterable iter env x = pure x := by intro _ _; rfl) : ExR prog w T F k ρ (.For target iter body [] pos) :=
  .mk fun A env s₀ I₀ I s hR R E hE hX => by
    show wpAny _ A (do
      standAt pos
      let x ← foldedSetIterable iter env (← eval iter env)
      standAt iter.pos
      runOwn (.forLoop target (← holding [x] (pyIter x)) body [] env) env) _ E s
    refine wpAny_bind (wpAny_standAt (wpAny_bind (wpAny_mono (hi.go A env s₀ I₀ I s hR R E) (fun v s₁ ⟨I₁, x₁, r₁⟩ => ?_) fun _ _ e => e)))
    rw [hfs]
    refine wpAny_bind (wpAny_pure (wpAny_bind (wpAny_standAt (wpAny_bind (wpAny_holding (it_new x₁.imm r₁ hit fun oi io hfr => ?_))))))
    have hn : s₁.heap.get? s₁.heap.objs.size = none := get_size _
    have hk : ∀ b o, s₁.heap.get? b = some o → (s₁.heap.push oi).get? b = some o := fun b o e => Heap.get?_push_of_some _ e
    have x₂ : Ext I₁ s₁ I₁ { s₁ with heap := s₁.heap.push oi } := Ext.heap (tk := s₁.toks) x₁.imm hk
    have R₂ := (R.mono x₁).mono x₂
    have hI1 : I₁ s₁.heap.objs.size = none := by
      cases e : I₁ s₁.heap.objs.size with
      | none => rfl
      | some o => rw [x₁.imm _ _ e] at hn; cases hn
    have h00 : s₀.heap.get? s₁.heap.objs.size = none := by
      cases e : s₀.heap.get? s₁.heap.objs.size with
      | none => rfl
      | some o => rw [(R.mono x₁).ext.keep _ _ e] at hn; cases hn
    generalize hit' : s₁.heap.objs.size = it at hn hI1 h00
    have hoi : (s₁.heap.push oi).get? it = some oi := by rw [← hit']; exact Heap.get?_push_size _ hfr
    refine wpAny_runOwn ?_
    show codeAny _ A _ _ _
    have hX' : RaisedTo T F env s₀ I₀ (notedBy (model prog w) A env (cameBackBy (model prog w) A env E)) := fun J ρ' s₁ h' tk e a b => hE _ _ (hX J ρ' s₁ h' tk e a b)
    have hE' := passes_again hE
    refine codeAny_forLoop_any (fun n s' => ∃ I' ρi i o, n = ds.length + 1 - i ∧ i ≤ i₀ ∧ J i ρi ∧ EnvRep T F env s₀ I₀ I' ρi s' ∧ s'.heap.get? it = some o ∧ IterObj I' o (ds.drop i) ∧ I' it = none) ?_
      (ds.length + 1) ⟨I₁, ρ, 0, oi, rfl, Nat.zero_le _, h0, R₂, hoi, by simpa using io, hI1⟩
    rintro n s' ⟨I', ρi, i, o, rfl, hile, hJ, R', ho, io', hI'⟩
    have hd : ds[i]? = some (ds[i]'(by omega)) := List.getElem?_eq_getElem _
    generalize ds[i]'(by omega) = di at hd
    have hdr : ds.drop i = di :: ds.drop (i + 1) := by
      rw [List.drop_eq_getElem_cons (List.getElem?_eq_some_iff.mp hd).1]
      congr 1
      exact (List.getElem?_eq_some_iff.mp hd).2
    rw [hdr] at io'
    refine it_cons R'.imm ho io' fun v h' o' tk rv ho' io'' hs => ?_
    have hk' : ∀ b o, b ≠ it → s'.heap.get? b = some o → h'.get? b = some o := fun b o hb e => (hs.2 b hb).trans e
    have R₃ : EnvRep T F env s₀ I₀ I' ρi { s' with heap := h', toks := tk } := R'.plain ho io'.fields hI' h00 hk'
    refine wp_letOwned ho' io'' ?_
    rcases Nat.lt_or_ge i i₀ with hlt | hge
    · obtain ⟨ρa, ha, hb⟩ := step i di ρi hlt hd hJ
      refine wpAny_mono (ha.go A env s₀ I₀ I' _ v hR R₃ rv _) (fun _ s₄ ⟨R₄, S₄⟩ => ?_) fun _ _ e => e
      have K₄ : Kept I' _ I' s₄ := S₄.kept
      refine wpAny_mono (hb.go A env s₀ I₀ I' s₄ hR R₄ _) (fun f s₅ p => ?_) fun _ _ e => e
      cases f with
      | next =>
        obtain ⟨I₅, ρ₅, hJ₅, R₅, K₅⟩ := p
        obtain ⟨g1, g2⟩ := (K₄.trans K₅).keepF it o' ho' io''.fields
        exact ⟨ds.length + 1 - (i + 1), by omega, I₅, ρ₅, i + 1, o', rfl, hlt, hJ₅, R₅, g1, io''.mono (K₄.trans K₅).ge, g2.trans hI'⟩
      | ret v => obtain ⟨_, _, q, _⟩ := p; exact q.elim
      | brk => exact p.elim
      | cont => exact p.elim
    · obtain rfl : i = i₀ := by omega
      obtain ⟨ρa, ha, hb⟩ := last di ρi hd hJ
      refine wpAny_mono (ha.go A env s₀ I₀ I' _ v hR R₃ rv _) (fun _ s₄ ⟨R₄, S₄⟩ => ?_) fun _ _ e => e
      exact wpAny_mono (hb.go A env s₀ I₀ I' s₄ hR R₄ _ hE' hX') (fun _ _ q => q.elim) fun _ _ e => e
end
end Mine
end

section
open PySem PySem.W PyProof.Rows
open PySem.Sem (wp)
namespace Mine
/-- a body that raises -/
structure ExsRG (prog : Program) (w : World) (T : Imm) (F : FnCx) (k : Nat) (ρ : List (Option B)) (l : List Stmt) : Prop where
  go : ∀ (A : Around) (env : Env) (s₀ : Shared) (I₀ I : Imm) (s : Shared), RoomN k A → EnvRep T F env s₀ I₀ I ρ s → ∀ E, PassesOwn (model prog w) A env E → RaisedTo T F env s₀ I₀ E → wpG (model prog w) A (execs l env) (fun _ _ => False) E s
/-- a def that raises IndexError -/
structure FnR (prog : Program) (w : World) (T : Imm) (k : Nat) (a : Addr) (ds : List D) : Prop where
  isf : ∃ o fd, T a = some o ∧ o.data = .func fd
  prim : ∀ (A : Around) (I : Imm) (s : Shared) (vs : List Value), RoomN k A → (∀ a o, T a = some o → I a = some o) → (∀ b o, I b = some o → s.heap.get? b = some o) → Reps I vs ds → ∀ (outer : List Env) (base : Heap), A.frames = some outer →
    base.StaysIn s.heap → s.heap.FunFrames base outer → ∀ E : Value → Shared → Prop, (∀ e a0 h' tk, Heap.FlyingW base outer e (.type "IndexError") a0 h' → s.heap.UpToSlots h' → E (.ref e) { s with heap := h', toks := tk }) →
      wpG (model prog w) A (call (.ref a) vs) (fun _ _ => False) E s
section
variable {prog : Program} {w : World} {T : Imm} {F : FnCx} {k : Nat} {L : Around → Env → Prop} {ρ : List (Option B)} {mg mb : Str → Option Value}
theorem ExsR.g {l : List Stmt} (h : ExsR prog w T F k ρ l) : ExsRG prog w T F k ρ l := .mk fun A env s₀ I₀ I s hR R E hE hX => wpG_of_any (h.go A env s₀ I₀ I s hR R E hE hX)
theorem ExsRG.later {st : Stmt} {rest : List Stmt} (h : ExG prog w T F k anyL ρ st (fun o => match o with | .next ρ' => ExsRG prog w T F k ρ' rest | .ret _ => False)) : ExsRG prog w T F k ρ (st :: rest) :=
  .mk fun A env s₀ I₀ I s hR R E hE hX => wpG_execs_cons (wpG_mono (h.go A env s₀ I₀ I s hR trivial R E) (fun f s' p => by
    cases f with
    | next => obtain ⟨I', ρ', h1, h2, h3⟩ := p; exact h1.go A env s₀ I₀ I' s' hR h2 E hE hX
    | ret v => obtain ⟨_, _, q, _⟩ := p; exact q.elim
    | brk => exact p.elim
    | cont => exact p.elim) fun _ _ e => e)
theorem upTo_mk {h h' : Heap} (x : ∀ b o, h.get? b = some o → (∀ vs, o.data ≠ .fields vs) → ∃ sl, h'.get? b = some { o with slots := sl }) : h.UpToSlots h' := x
theorem fnR_of_body {k : Nat} {a : Addr} {names : List Str} {body : List Stmt} {F : FnCx} {ds : List D} {more : Nat} (hT : TopOk T mg mb) (hdef : DefAt T a names body F.sc) (hvars : F.vars.take names.length = names) (hnd : F.vars.Nodup) (hds : ds.length = names.length)
    (hkind : ∀ x ∈ names, F.sc.names.lookup x = some .local ∨ (F.sc.names.lookup x = some .cell ∧ x ∈ F.own)) (hown : ∀ n, F.own.all (fun x => ((cellsFrom n F.sc.names []).lookup x).isSome) = true)
    (hk : F.sc.kind = .function) (hco : F.sc.isCoroutine = false) (hgen : F.sc.isGenerator = false)
    (h : ExsRG prog w T F k (ds.map (fun d => some (.imm d)) ++ List.replicate more none) body) : FnR prog w T (k + 1) a ds := by
  obtain ⟨o, fd, hTa, hfd, hgl, hbl, hclo, hbody, hsc, hcode, hbind⟩ := hdef.ex
  refine ⟨⟨o, fd, hTa, hfd⟩, fun A I s vs hR hTI hI hr outer base hA hkb hfun E hE => ?_⟩
  have hTs : ∀ a o, T a = some o → s.heap.get? a = some o := fun a o e => hI a o (hTI a o e)
  have hlen : vs.length = names.length := hr.1.trans hds
  have hcells : ∀ x, x ∈ F.own → ∀ n, ((cellsFrom n F.sc.names []).lookup x).isSome = true := fun x hx n => by simpa using List.all_eq_true.mp (hown n) x hx
  refine wpG_call (codeG_call_cells (by have := hR.depth; omega) (hTs _ _ hTa) hfd (hT.lim _ hTs) (hcode _ hTs) hbody (hbind vs hlen) hclo (fun x hx => ?_) (fun s₁ C => ?_) (by rw [hsc]; exact hco) (by rw [hsc]; exact hgen) (by rw [hsc]; exact hk))
  · have hx1 : x.1 ∈ names := (List.of_mem_zip (a := x.1) (b := x.2) hx).1
    rw [hsc]
    rcases hkind _ hx1 with q | ⟨q, q'⟩
    · exact .inl q
    · exact .inr ⟨q, hcells _ q' _⟩
  · have R := frame_rep (a := a) (more := more) hvars hnd hds hkind hown hk hgl hbl hsc hTI hI hr C
    have hframe : (callEnvC fd s.heap.objs.size a).frame = some (callEnvC fd s.heap.objs.size a).locals := rfl
    generalize callEnvC fd s.heap.objs.size a = env at C R hframe
    refine wpG_mono (h.go _ env s I I s₁ (hR.deeper env) R _ PassesOwn.leaving ?_) (fun _ _ q => q.elim) fun _ _ e => e
    intro J ρ' s₂ h' tk e R₂ hx
    obtain ⟨ob, t, he, hcls, hd⟩ := hx.there
    obtain ⟨m, cm, val, ⟨oL, es, ep, hL, hdL, hrL⟩, _⟩ := R₂.fr
    obtain ⟨h₂, tk₂, hst⟩ := R₂.ext.st
    have keep2 : ∀ b o, s.heap.get? b = some o → h'.get? b = some o := fun b o q => hx.keeps _ _ (R₂.ext.keep _ _ q)
    have hbL : base.get? env.locals = none := by
      cases q : base.get? env.locals with
      | none => rfl
      | some o => have := hkb _ _ q; rw [R₂.lnew] at this; cases this
    have hbe : base.get? e = none := by
      cases q : base.get? e with
      | none => rfl
      | some o => have := R₂.ext.keep _ _ (hkb _ _ q); rw [hx.new] at this; cases this
    have hff : h'.FunFrames base (env :: outer) := ⟨by rw [R₂.kind]; decide, ⟨env.locals, oL, hframe, hbL, hx.keeps _ _ hL, fun vs q => by rw [hdL] at q; cases q⟩, hfun.of_keeps fun b o q _ => ⟨o, keep2 b o q, rfl⟩⟩
    refine wpAny_leaving_firstW (s := { s₂ with heap := h', toks := tk }) (base := base) (outer := outer) (Around.frames_deeper hA) hff hframe he (fun b o q => keep2 b o (hkb b o q)) hbe hd rfl rfl fun h'' hLw => ?_
    obtain ⟨k1, ⟨_, _, k2⟩, k3, k4⟩ := hLw
    have := hE e t h'' tk ⟨k1, hbe, k2, by rw [← hcls]; exact k3⟩ ((Heap.UpToSlots.of_keeps keep2).trans (upTo_mk k4))
    rw [hst]; exact this
/-! the frame's own object, up to its slots -/
theorem EnvRep.slots {env : Env} {s₀ : Shared} {I₀ I : Imm} {s : Shared} (R : EnvRep T F env s₀ I₀ I ρ s) {h' : Heap} {tk : Nat} (hk : ∀ b o, b ≠ env.locals → s.heap.get? b = some o → h'.get? b = some o) (hs : s.heap.UpToSlots h') :
    EnvRep T F env s₀ I₀ I ρ { s with heap := h', toks := tk } ∧ Kept I s I { s with heap := h', toks := tk } := by
  obtain ⟨m, cm, val, hn, hc, hv, hw⟩ := R.fr
  obtain ⟨oL, es, ep, hL, hdL, hr⟩ := id hn
  refine ⟨⟨ext_same R R.lI R.lnew hk, R.scope, R.kind, R.glob, R.blt, R.top, R.lnew, R.lI, R.cI, R.cap, R.cown, m, cm, val, hs.ns hn, fun x c e => ?_, fun i b h2 => ⟨(hv i b h2).1, (hv i b h2).2.same hL (ns_plainer hdL) hk⟩, hw⟩, ⟨fun b o e ⟨vs, f⟩ => ⟨hk b o ?_ e, rfl⟩, fun _ _ e => e⟩⟩
  · obtain ⟨oc, h1, h2⟩ := hc x c e
    refine ⟨oc, hk _ _ ?_ h1, h2⟩
    intro q
    rw [q, hL] at h1
    obtain rfl := Option.some.inj h1
    rw [hdL] at h2; cases h2
  · rintro rfl
    rw [hL] at e
    obtain rfl := Option.some.inj e
    rw [hdL] at f; cases f
/-! try -/
noncomputable def inLaw (A : Around) (env : Env) : Prop := A.frames = some [env] ∧ env.frame = some env.locals
theorem wpG_Try {A : Around} {E : Value → Shared → Prop} {s : Shared} {env : Env} {body orelse : List Stmt} {h₀ : ExceptHandler} {hs : List ExceptHandler} {pos : Pos} {Q : Flow → Shared → Prop}
    (h : wpG (model prog w) A (execs body env) (fun f s₁ => match f with | .next => wpAny (model prog w) A (execs orelse env) Q E s₁ | f => Q f s₁)
      (fun e s₁ => wpAny (model prog w) A (noteFrame e env) (fun _ s₂ => wpAny (model prog w) A (setFlight e none) (fun _ s₃ => wpAny (model prog w) A (handleBy e env (h₀ :: hs)) Q E s₃) E s₂) E s₁) s) :
    wpG (model prog w) A (exec (.Try body (h₀ :: hs) orelse [] pos) env) Q E s := by
  rw [arm_exec_Try]
  refine wpG_bind1 (wpAny_standAt ?_)
  unfold tryStmt
  simp only [List.isEmpty_nil, if_true, List.isEmpty_cons, Bool.false_and, Bool.false_eq_true, if_false]
  refine wpG_bind2 (wpG_attempt (wpG_mono h (fun f s₁ h₁ => ?_) fun e s₁ h₁ => ?_))
  · cases f <;> first | exact h₁ | exact wpAny_pure h₁
  · exact wpAny_bind (wpAny_mono h₁ (fun _ _ h₂ => wpAny_bind h₂) fun _ _ x => x)
theorem wpG_Expr {M : Model} {A : Around} {E : Value → Shared → Prop} {s : Shared} {env : Env} {e : PySem.Expr} {pos : Pos} {Q : Flow → Shared → Prop} (h : wpG M A (eval e env) (fun v s' => match v with | .ref _ => False | _ => Q .next s') E s)
    (hi : interactive env = false) (hs : swapsWith e none pos.line env = pure false) : wpG M A (exec (.Expr e pos) env) Q E s := by
  rw [exec_Expr env e pos hi hs]
  refine wpG_bind1 (wpAny_standAt (wpG_bind2 (wpG_mono h (fun v s' h' => ?_) fun _ _ x => x)))
  have hv : ∀ a, v ≠ .ref a := fun a hva => by subst hva; exact h'
  rw [dropValue_plain hv]
  refine wpAny_pure ?_
  cases v <;> first | exact h' | exact (hv _ rfl).elim
theorem EnvRep.notInteractive {env : Env} {s₀ : Shared} {I₀ I : Imm} {s : Shared} (R : EnvRep T F env s₀ I₀ I ρ s) : interactive env = false := by unfold interactive; rw [R.kind]; rfl
theorem ExG.tryOk {e : PySem.Expr} {pe pos : Pos} {h₀ : ExceptHandler} {b : Array UInt8} {Φ : Out → Prop} (h : EvG prog w T F k ρ e (.bytes b)) (hΦ : Φ (.next ρ)) (hs : ∀ env, swapsWith e none pe.line env = pure false := by intro _; rfl) :
    ExG prog w T F k L ρ (.Try [.Expr e pe] [h₀] [] [] pos) Φ :=
  .mk fun A env s₀ I₀ I s hR hL R E => wpG_Try (wpG_execs_cons (wpG_Expr (wpG_mono (h.go A env s₀ I₀ I s hR R _) (fun v s' ⟨I', x, r⟩ => by
    obtain ⟨t, rfl⟩ := r.of_bytes
    exact wpG_of_any (wpAny_execs_nil (wpAny_execs_nil ⟨I', ρ, hΦ, R.mono x, x.kept⟩))) fun _ _ e => e) R.notInteractive (hs env)))
end
end Mine
end

section
open PySem PySem.W PyProof.Rows
open PySem.Sem (wp)
namespace Mine
section
variable {prog : Program} {w : World} {T : Imm} {F : FnCx} {k : Nat} {ρ : List (Option B)} {mg mb : Str → Option Value}
theorem ExG.tryRaise {x y : Str} {p cp pe tp np hps ap bp pos : Pos} {kd : Nat} {es : List PySem.Expr} {ds : List D} {f : Addr} {i : Nat} {Φ : Out → Prop} (hf : Ev prog w T F k ρ (.Name x p) (.raw (.ref f))) (ha : Evs prog w T F k ρ es ds) (hp : FnR prog w T k f ds)
    (hT : TopOk T mg mb) (hIE : mg "IndexError" = none ∧ mb "IndexError" = some (.type "IndexError")) (hkn : F.sc.names.lookup ("IndexError" : Str) = some .globalImplicit)
    (hnd : F.vars.Nodup) (hx : F.vars[i]? = some y) (hk : F.writes y) (hΦ : Φ (.next (ρ.set i (some (.imm (.bool true)))))) (hne : ds ≠ [] := by simp)
    (hs : ∀ env, swapsWith (.Call (.Name x p) es [] cp) none pe.line env = pure false := by intro _; rfl) (hs2 : ∀ env, swapsWith (.Constant (.bool true) kd bp) (some (.Name y tp)) ap.line env = pure false := by intro _; rfl) :
    ExG prog w T F k inLaw ρ (.Try [.Expr (.Call (.Name x p) es [] cp) pe] [.ExceptHandler (some (.Name "IndexError" np)) none [.Assign [.Name y tp] (.Constant (.bool true) kd bp) ap] hps] [] [] pos) Φ :=
  .mk fun A env s₀ I₀ I s hR hL R E => by
    obtain ⟨hfr, hframe⟩ := hL
    refine wpG_Try (wpG_execs_cons (wpG_Expr (wpG_Call_Name (wpAny_mono (hf.go A env s₀ I₀ I s hR R _) (fun v s₁ ⟨I₁, x₁, r₁⟩ => ?_) fun _ _ e => e)) R.notInteractive (hs env)))
    obtain rfl := r₁.of_raw
    obtain ⟨o, fd, hTa, hd⟩ := hp.isf
    refine callWithG_function (o := o) (fd := fd) (wpAny_mono (ha.args hne hR (R.mono x₁) _) (fun a s₂ ⟨hkw, I₂, x₂, r₂⟩ => ?_) fun _ _ e => e)
    rw [hkw]
    have R₂ := (R.mono x₁).mono x₂
    have K₂ := (x₁.trans x₂).kept
    refine ⟨⟨R₂.heap_top _ _ hTa, hd⟩, ?_⟩
    obtain ⟨oL, es', ep, hLo, hdL, hrL⟩ : ∃ oL es ep, s₂.heap.get? env.locals = some oL ∧ oL.data = .dict es ep ∧ True := by
      obtain ⟨m, cm, val, ⟨oL, es, ep, hL, hdL, hr⟩, _⟩ := R₂.fr
      exact ⟨oL, es, ep, hL, hdL, trivial⟩
    refine wpG_mono (hp.prim A I₂ s₂ a.pos hR R₂.top x₂.imm r₂ [env] (hideAll s₂.heap [env.locals]) hfr (fun b o q => of_hideAll _ q)
      ⟨by rw [R₂.kind]; decide, ⟨env.locals, oL, hframe, hideAll_none _ (List.mem_singleton.mpr rfl), hLo, fun vs q => by rw [hdL] at q; cases q⟩, trivial⟩ _ ?_) (fun _ _ q => q.elim) fun _ _ e => e
    intro e a0 h' tk hfl hup
    refine wpAny_looks_onW (s := { s₂ with heap := h', toks := tk }) hfr hframe hfl fun h₄ hheld hup₄ => ?_
    refine wpAny_landsW (s := { s₂ with heap := h₄, toks := tk }) hheld fun h₅ hfl₅ hup₅ => ?_
    have hup₅' : s₂.heap.UpToSlots h₅ := (hup.trans hup₄).trans hup₅
    have hk₅ : ∀ b o, b ≠ env.locals → s₂.heap.get? b = some o → h₅.get? b = some o := fun b o hb q => hfl₅.1 b o (hideAll_get _ q (by simpa using hb))
    obtain ⟨R₅, K₅⟩ := R₂.slots (tk := tk) hk₅ hup₅'
    obtain ⟨ob, hob, hobc⟩ := hfl₅.there
    refine wpAny_handleBy_builtin (s := { s₂ with heap := h₅, toks := tk }) (X := "IndexError") (T := "IndexError") (b := true) PySem.F.isExc_IndexError PySem.F.notTuple_IndexError (by rw [isSubtype_type]; kernel_rfl)
      (wpAny_Name ?_ (by decide))
    rw [loadName_read R₅.kind ((R₅.kindOf _).trans hkn)]
    refine Calls.loadGlobal_builtin (by rw [R₅.glob]; exact hT.g _ R₅.heap_top) hIE.1 (by rw [R₅.blt]; exact hT.b _ R₅.heap_top) hIE.2 ⟨rfl, ⟨ob, hob, hobc⟩, ?_⟩
    refine lands_againW (s := { s₂ with heap := h₅, toks := tk }) hfl₅ fun h₆ hfl₆ hup₆ => ?_
    have hk₆ : ∀ b o, b ≠ env.locals → s₂.heap.get? b = some o → h₆.get? b = some o := fun b o hb q => hfl₆.1 b o (hideAll_get _ q (by simpa using hb))
    obtain ⟨R₆, K₆⟩ := R₂.slots (tk := tk) hk₆ (hup₅'.trans hup₆)
    refine wpAny_execs_cons (wpAny_Assign_Name (wpAny_Constant_bool (wp_bindImm hnd R₆ hx hk (.bool _) fun s' R' S' => ?_)) (hs2 env))
    exact wpAny_execs_nil ⟨I₂, _, hΦ, R', (K₂.trans K₆).trans S'.kept⟩
theorem ExG.for {L : Around → Env → Prop} {target iter : PySem.Expr} {body : List Stmt} {pos : Pos} {d : D} {ds : List D} {Φ : Out → Prop} (hi : Ev prog w T F k ρ iter d) (hit : Iterates d ds) (J : Nat → List (Option B) → Prop) (h0 : J 0 ρ)
    (step : ∀ i di ρi, ds[i]? = some di → J i ρi → ∃ ρa, As prog w T F k ρi target di ρa ∧ ExsG prog w T F k anyL ρa body (fun o => match o with | .next ρ' => J (i + 1) ρ' | .ret d => Φ (.ret d)))
    (hend : ∀ ρ', J ds.length ρ' → Φ (.next ρ')) (hfs : ∀ env x, foldedSetIterable iter env x = pure x := by intro _ _; rfl) : ExG prog w T F k L ρ (.For target iter body [] pos) Φ :=
  .mk fun A env s₀ I₀ I s hR hL R E => by
    show wpG _ A (do
      standAt pos
      let x ← foldedSetIterable iter env (← eval iter env)
      standAt iter.pos
      runOwn (.forLoop target (← holding [x] (pyIter x)) body [] env) env) _ E s
    refine wpG_bind1 (wpAny_standAt (wpG_bind1 (wpAny_mono (hi.go A env s₀ I₀ I s hR R E) (fun v s₁ ⟨I₁, x₁, r₁⟩ => ?_) fun _ _ e => e)))
    rw [hfs]
    refine wpG_bind1 (wpAny_pure (wpG_bind1 (wpAny_standAt (wpG_bind1 (wpAny_holding (it_new x₁.imm r₁ hit fun oi io hfr => ?_))))))
    have hn : s₁.heap.get? s₁.heap.objs.size = none := get_size _
    have hk : ∀ b o, s₁.heap.get? b = some o → (s₁.heap.push oi).get? b = some o := fun b o e => Heap.get?_push_of_some _ e
    have x₂ : Ext I₁ s₁ I₁ { s₁ with heap := s₁.heap.push oi } := Ext.heap (tk := s₁.toks) x₁.imm hk
    have R₂ := (R.mono x₁).mono x₂
    have hI1 : I₁ s₁.heap.objs.size = none := by
      cases e : I₁ s₁.heap.objs.size with
      | none => rfl
      | some o => rw [x₁.imm _ _ e] at hn; cases hn
    have h00 : s₀.heap.get? s₁.heap.objs.size = none := by
      cases e : s₀.heap.get? s₁.heap.objs.size with
      | none => rfl
      | some o => rw [(R.mono x₁).ext.keep _ _ e] at hn; cases hn
    have hss : s.heap.get? s₁.heap.objs.size = none := by
      cases e : s.heap.get? s₁.heap.objs.size with
      | none => rfl
      | some o => rw [x₁.keep _ _ e] at hn; cases hn
    generalize hit' : s₁.heap.objs.size = it at hn hI1 h00 hss
    have hoi : (s₁.heap.push oi).get? it = some oi := by rw [← hit']; exact Heap.get?_push_size _ hfr
    refine wpG_runOwn ?_
    show codeG _ A _ _ _
    refine codeG_forLoop (fun n s' => ∃ I' ρi i o, n = ds.length + 1 - i ∧ i ≤ ds.length ∧ J i ρi ∧ EnvRep T F env s₀ I₀ I' ρi s' ∧ Kept I s I' s' ∧ s'.heap.get? it = some o ∧ IterObj I' o (ds.drop i) ∧ I' it = none) ?_
      (ds.length + 1) ⟨I₁, ρ, 0, oi, rfl, Nat.zero_le _, h0, R₂, (x₁.trans x₂).kept, hoi, by simpa using io, hI1⟩
    rintro n s' ⟨I', ρi, i, o, rfl, hile, hJ, R', K', ho, io', hI'⟩
    cases hd : ds[i]? with
    | none =>
      have hlen : ds.length ≤ i := List.getElem?_eq_none_iff.mp hd
      obtain rfl : i = ds.length := by omega
      rw [List.drop_length] at io'
      refine it_nil hR.handled R'.imm ho io' fun h' hx => ?_
      refine wpAny_execs_nil ?_
      have hk' : ∀ b o, b ≠ it → s'.heap.get? b = some o → h'.get? b = some o := fun b o hb e => hx b o hb e
      refine ⟨I', ρi, hend _ hJ, R'.plain (tk := s'.toks) ho io'.fields hI' h00 hk', K'.but hss hk'⟩
    | some di =>
      have hdr : ds.drop i = di :: ds.drop (i + 1) := by
        rw [List.drop_eq_getElem_cons (List.getElem?_eq_some_iff.mp hd).1]
        congr 1
        exact (List.getElem?_eq_some_iff.mp hd).2
      rw [hdr] at io'
      refine it_cons R'.imm ho io' fun v h' o' tk rv ho' io'' hs => ?_
      have hk' : ∀ b o, b ≠ it → s'.heap.get? b = some o → h'.get? b = some o := fun b o hb e => (hs.2 b hb).trans e
      have R₃ : EnvRep T F env s₀ I₀ I' ρi { s' with heap := h', toks := tk } := R'.plain ho io'.fields hI' h00 hk'
      refine wp_letOwned ho' io'' ?_
      obtain ⟨ρa, ha, hb⟩ := step i di ρi hd hJ
      refine wpAny_mono (ha.go A env s₀ I₀ I' _ v hR R₃ rv _) (fun _ s₄ ⟨R₄, S₄⟩ => ?_) fun _ _ e => e
      have K₄ : Kept I' _ I' s₄ := S₄.kept
      refine wpG_mono (hb.go A env s₀ I₀ I' s₄ hR trivial R₄ _) (fun f s₅ p => ?_) fun _ _ e => e
      cases f with
      | next =>
        obtain ⟨I₅, ρ₅, hJ₅, R₅, K₅⟩ := p
        obtain ⟨g1, g2⟩ := (K₄.trans K₅).keepF it o' ho' io''.fields
        have hlt : i < ds.length := (List.getElem?_eq_some_iff.mp hd).1
        refine ⟨ds.length + 1 - (i + 1), by omega, I₅, ρ₅, i + 1, o', rfl, by omega, hJ₅, R₅, ((K'.but hss hk').trans K₄).trans K₅, g1, io''.mono (K₄.trans K₅).ge, g2.trans hI'⟩
      | ret v => exact p
      | brk => exact p.elim
      | cont => exact p.elim
end
end Mine
end

section
open PySem PySem.W PyProof.Rows
set_option maxRecDepth 100000
namespace Mine
noncomputable def cxSwap : FnCx := ⟨scopeAt 8, ["data", "width", "swapped_data", "i", "j"], []⟩
noncomputable def swapAt (w : Nat) (l : List UInt8) (t : Nat) : UInt8 := l.getD ((t / w) * w + (w - 1 - t % w)) 0
noncomputable def swapL (w : Nat) (l : List UInt8) : List UInt8 := (List.range l.length).map (swapAt w l)
/-- how far the swapping has come -/
noncomputable def swapPart (w : Nat) (l : List UInt8) (c j : Nat) : List UInt8 := (List.range l.length).map fun t => if t / w < c ∨ (t / w = c ∧ w - 1 - t % w < j) then swapAt w l t else 0
theorem swapPart_zero (w : Nat) (l : List UInt8) : swapPart w l 0 0 = List.replicate l.length 0 := by
  unfold swapPart
  rw [List.map_congr_left (g := fun _ => (0 : UInt8)) (fun t _ => if_neg (by rintro (h | ⟨_, h⟩) <;> exact absurd h (Nat.not_lt_zero _))), List.map_const', List.length_range]
theorem swapPart_next {w : Nat} (hw : 0 < w) (l : List UInt8) (c : Nat) : swapPart w l c w = swapPart w l (c + 1) 0 := by
  unfold swapPart
  refine List.map_congr_left fun t _ => ?_
  by_cases h : t / w < c ∨ (t / w = c ∧ w - 1 - t % w < w)
  · rw [if_pos h, if_pos (by omega)]
  · rw [if_neg h, if_neg (by omega)]
theorem swapPart_step {w : Nat} (hw : 0 < w) (l : List UInt8) {c j : Nat} (hj : j < w) (hn : c * w + w ≤ l.length) :
    (swapPart w l c j).set (c * w + (w - 1 - j)) (l.getD (c * w + j) 0) = swapPart w l c (j + 1) := by
  apply List.ext_getElem
  · simp [swapPart]
  · intro t h1 h2
    have ht : t < l.length := by simpa [swapPart] using h2
    rw [List.getElem_set]
    by_cases e : c * w + (w - 1 - j) = t
    · rw [if_pos e]
      have hd : t / w = c := by
        rw [← e, Nat.add_comm, Nat.add_mul_div_right _ _ hw, Nat.div_eq_of_lt (by omega)]; omega
      have hm : t % w = w - 1 - j := by
        rw [← e, Nat.add_comm, Nat.add_mul_mod_self_right, Nat.mod_eq_of_lt (by omega)]
      simp only [swapPart, List.getElem_map, List.getElem_range, swapAt]
      rw [if_pos (by omega), hd, hm]
      congr 1; omega
    · rw [if_neg e]
      simp only [swapPart, List.getElem_map, List.getElem_range]
      by_cases h : t / w < c ∨ (t / w = c ∧ w - 1 - t % w < j)
      · rw [if_pos h, if_pos (by omega)]
      · rw [if_neg h, if_neg]
        intro q
        rcases q with q | ⟨q1, q2⟩
        · exact h (.inl q)
        · have hm := Nat.mod_lt t hw
          have hdm := Nat.div_add_mod t w
          rw [q1, Nat.mul_comm] at hdm
          have : w - 1 - t % w = j := by omega
          omega
theorem swapPart_end {w : Nat} (hw : 0 < w) (l : List UInt8) {q : Nat} (hn : l.length = q * w) : swapPart w l q 0 = swapL w l := by
  unfold swapPart swapL
  refine List.map_congr_left fun t ht => if_pos (.inl ?_)
  rw [List.mem_range, hn] at ht
  exact (Nat.div_lt_iff_lt_mul hw).mpr ht
theorem range_step {n w m : Nat} (hw : 0 < w) (hn : n < 1000000) (hw2 : w < 1000000) (h1 : n ≤ m * w) (h2 : ∀ c, c < m → c * w < n) : Builtin.Range.small 0 (n : Int) (w : Int) = true ∧ Builtin.Range.rangeSize 0 (n : Int) (w : Int) = m := by
  have hs : Builtin.Range.rangeSize 0 (n : Int) (w : Int) = m := by
    unfold Builtin.Range.rangeSize
    rw [if_pos (by omega)]
    rcases Nat.eq_zero_or_pos n with rfl | hp
    · rw [if_neg (by omega)]
      rcases Nat.eq_zero_or_pos m with rfl | hm
      · rfl
      · have := h2 0 hm; omega
    · rw [if_pos (by omega)]
      have hm : 0 < m := by
        rcases Nat.eq_zero_or_pos m with rfl | hm
        · omega
        · exact hm
      have hc := h2 (m - 1) (by omega)
      have e : (n - 1) / w = m - 1 := by
        refine Nat.div_eq_of_lt_le (by omega) ?_
        rw [Nat.sub_add_cancel hm]; omega
      rw [show ((n : Int) - 0 - 1) = ((n - 1 : Nat) : Int) by omega, ← Int.natCast_ediv, e]
      omega
  refine ⟨?_, hs⟩
  have hm : m ≤ 1000000 := by
    rcases Nat.eq_zero_or_pos m with rfl | hm
    · omega
    · have hc := h2 (m - 1) (by omega)
      have : (m - 1) * 1 ≤ (m - 1) * w := Nat.mul_le_mul_left _ hw
      omega
  unfold Builtin.Range.small Builtin.Range.rangeFitsLong
  rw [hs]
  simp only [Bool.and_eq_true, Bool.or_eq_true, decide_eq_true_eq, beq_iff_eq]
  refine ⟨⟨⟨⟨⟨by omega, by omega⟩, by omega, by omega⟩, by omega, by omega⟩, by omega, by omega⟩, .inr ?_⟩
  rw [if_pos (by omega)]
  simp only [Bool.and_eq_true, decide_eq_true_eq]; omega
section
variable {w : World} {T : Imm} {mg mb : Str → Option Value} {f : Fs} {b3f : Int → Option Str} {k : Nat}
theorem swap_fn (G : Glb w T mg mb f b3f) {l : List UInt8} {n q : Nat} (hn : 0 < n) (hl : l.length = q * n) (hb : l.length ≤ 100000) (hn2 : n ≤ 100000) : FnG pw w T (k + 1) f.swap [.bytes l.toArray, .int n] (.bytes (swapL n l).toArray) := by
  have hnd : cxSwap.vars.Nodup := by decide
  refine fnG_of_body (F := cxSwap) (more := 3) G.top G.swap.2 rfl (by decide) rfl (by decide) (fun _ => rfl) rfl rfl rfl ?_
  have hsz : (l.toArray).size = l.length := by simp
  refine ExsG.cons (ExG.newBA (i := 2) (n := l.length) hnd rfl (.inl rfl) (Ev.blt G.top rfl G.bytearray.1 G.bytearray.2) (Ev.cast (Ev.callB (Ev.blt G.top rfl G.len.1 G.len.2) (.cons (Ev.var (i := 0) rfl rfl) rfl .nil) (hp := p_len_bytes (by omega))) (by rw [hsz])) rfl (by omega) ?_)
  refine Exs.g ?_
  obtain ⟨hsm, hrs⟩ := range_step (n := l.length) (w := n) (m := q) hn (by omega) (by omega) (by omega) (fun c hc => by rw [hl]; exact Nat.mul_lt_mul_of_pos_right hc hn)
  refine Exs.cons (Ex.for (d := .rng 0 l.length n) (ds := rangeD 0 q n) (Ev.callT (Ev.blt G.top rfl G.range.1 G.range.2) (.cons Ev.int rfl (.cons (Ev.cast (Ev.callB (Ev.blt G.top rfl G.len.1 G.len.2) (.cons (Ev.var (i := 0) rfl rfl) rfl .nil) (hp := p_len_bytes (by omega))) (by rw [hsz])) rfl (.cons (Ev.var (i := 1) rfl rfl) rfl .nil))) (hp := p_range3 (by omega) (by omega))) (.rng hsm hrs)
    (fun c ρ' => ∃ x y, ρ' = [some (.imm (.bytes l.toArray)), some (.imm (.int n)), some (.bya (swapPart n l c 0).toArray), x, y]) ⟨_, _, by rw [swapPart_zero, List.toArray_replicate]; rfl⟩ ?_ ?_)
  · rintro c dc ρc hdc ⟨x, y, rfl⟩
    have hc : c < q := by have := (List.getElem?_eq_some_iff.mp hdc).1; simpa [rangeD] using this
    obtain rfl : dc = .int (c * n : Nat) := by
      have := (List.getElem?_eq_some_iff.mp hdc).2
      simpa [rangeD] using this.symm
    have hcn : c * n + n ≤ l.length := by
      rw [hl, ← Nat.succ_mul]; exact Nat.mul_le_mul_right _ hc
    refine ⟨_, As.name (i := 3) hnd rfl (.inl rfl), ?_⟩
    refine Exs.cons (Ex.for (d := .rng 0 n 1) (ds := rangeD 0 n 1) (Ev.callT (Ev.blt G.top rfl G.range.1 G.range.2) (.cons (Ev.var (i := 1) rfl rfl) rfl .nil) (hp := p_range1)) (.rng (small_up (by omega) (by omega) (by omega) (by omega)) (size_up (by omega)))
      (fun j ρ' => ∃ y, ρ' = [some (.imm (.bytes l.toArray)), some (.imm (.int n)), some (.bya (swapPart n l c j).toArray), some (.imm (.int (c * n : Nat))), y]) ⟨_, rfl⟩ ?_ ?_)
    · rintro j dj ρj hdj ⟨y, rfl⟩
      have hj : j < n := by have := (List.getElem?_eq_some_iff.mp hdj).1; simpa [rangeD] using this
      obtain rfl : dj = .int j := by
        have := (List.getElem?_eq_some_iff.mp hdj).2
        simpa [rangeD] using this.symm
      refine ⟨_, As.name (i := 4) hnd rfl (.inl rfl), ?_⟩
      have hlt : c * n + j < l.length := by omega
      have hidx : ((c * n : Nat) : Int) + n - 1 - j = ((c * n + (n - 1 - j) : Nat) : Int) := by omega
      have hidx2 : ((c * n : Nat) : Int) + j = ((c * n + j : Nat) : Int) := by omega
      refine Exs.cons (Ex.setByte (i := 2) (n := c * n + (n - 1 - j)) (v := ((l.getD (c * n + j) 0).toNat : Int)) rfl rfl
        (Ev.sub (Ev.var (i := 0) rfl rfl) (Ev.cast (Ev.bin (Ev.var (i := 3) rfl rfl) (Ev.var (i := 4) rfl rfl) p_add) (by rw [hidx2])) (p_item_bytes (by omega) (by rw [Int.toNat_natCast, List.getElem?_toArray, List.getD_eq_getElem?_getD, List.getElem?_eq_getElem hlt]; rfl) (hb := by omega)))
        (Ev.cast (Ev.bin (Ev.bin (Ev.bin (Ev.var (i := 3) rfl rfl) (Ev.var (i := 1) rfl rfl) p_add) Ev.int p_sub) (Ev.var (i := 4) rfl rfl) p_sub) (by rw [hidx]))
        ⟨by omega, by have := (l.getD (c * n + j) 0).toNat_lt; omega⟩ (by simp [swapPart]; omega) (by simp [swapPart]; omega) ?_)
      refine Exs.nil ⟨some (.imm (.int j)), ?_⟩
      rw [← swapPart_step hn l hj hcn]
      rw [show (((l.getD (c * n + j) 0).toNat : Int).toNat.toUInt8) = l.getD (c * n + j) 0 by simp]
      simp
    · rintro ρ' ⟨y, rfl⟩
      have hrd : (rangeD 0 n 1).length = n := by simp [rangeD]
      rw [hrd, swapPart_next hn]
      exact Exs.nil ⟨_, _, rfl⟩
  · rintro ρ' ⟨x, y, rfl⟩
    have hrd : (rangeD 0 q n).length = q := by simp [rangeD]
    rw [hrd, swapPart_end hn l hl]
    exact Exs.cons (Ex.ret (Ev.bytesBA (i := 2) (Ev.blt G.top rfl G.bytes.1 G.bytes.2) rfl rfl (by simp [swapL]; omega)) rfl)
end
end Mine
end

section
open PySem PySem.W PyProof.Rows
set_option maxRecDepth 100000
namespace Mine
noncomputable abbrev Cell := List UInt8 × UInt8
noncomputable def geL (least : Int) (x : Cell) : Bool := decide (least ≤ (x.2.toNat : Int))
noncomputable def flatC (l : List Cell) : List UInt8 := l.flatMap (·.1)
noncomputable def turnC (l : List Cell) : List Cell := l.reverse.map fun x => (x.1.reverse, x.2)
noncomputable def goC (least : Int) : List Cell → List Cell → List Cell
  | run, [] => turnC run
  | run, x :: xs => if geL least x then goC least (run ++ [x]) xs else turnC run ++ x :: goC least [] xs
noncomputable def passC (least : Int) (l : List Cell) : List Cell := goC least [] l
theorem passC_nil (least : Int) : passC least [] = [] := rfl
theorem passC_lo {least : Int} {x : Cell} {xs : List Cell} (h : geL least x = false) : passC least (x :: xs) = x :: passC least xs := by
  show (if geL least x then _ else _) = _
  rw [if_neg (by rw [h]; exact Bool.false_ne_true)]; rfl
theorem goC_run (least : Int) : ∀ (l run : List Cell), goC least run l = turnC (run ++ l.takeWhile (geL least)) ++ passC least (l.dropWhile (geL least))
  | [], run => by
    rw [List.takeWhile_nil, List.dropWhile_nil, List.append_nil, passC_nil, List.append_nil]; rfl
  | x :: xs, run => by
    rw [List.takeWhile_cons, List.dropWhile_cons]
    show (if geL least x then goC least (run ++ [x]) xs else _) = _
    cases h : geL least x with
    | true => rw [if_pos rfl, if_pos rfl, if_pos rfl, goC_run least xs (run ++ [x]), List.append_assoc]; rfl
    | false => rw [if_neg Bool.false_ne_true, if_neg Bool.false_ne_true, if_neg Bool.false_ne_true, passC_lo h, List.append_nil]; rfl
theorem passC_hi {least : Int} {x : Cell} {xs : List Cell} (h : geL least x = true) : passC least (x :: xs) = turnC (x :: xs.takeWhile (geL least)) ++ passC least (xs.dropWhile (geL least)) := by
  show (if geL least x then goC least ([] ++ [x]) xs else _) = _
  rw [if_pos h, goC_run]; rfl
theorem flatC_append (a b : List Cell) : flatC (a ++ b) = flatC a ++ flatC b := by simp [flatC]
theorem flatC_turn (l : List Cell) : flatC (turnC l) = (flatC l).reverse := by
  induction l with
  | nil => rfl
  | cons x l ih =>
    have : turnC (x :: l) = turnC l ++ [(x.1.reverse, x.2)] := by simp [turnC]
    rw [this, flatC_append, ih]
    simp [flatC]
theorem lev_turn (l : List Cell) : (turnC l).map (·.2) = (l.map (·.2)).reverse := by simp [turnC]
theorem flatC_len {n : Nat} {l : List Cell} (h : ∀ x ∈ l, x.1.length = n) : (flatC l).length = n * l.length := by
  induction l with
  | nil => simp [flatC]
  | cons x l ih =>
    have : flatC (x :: l) = x.1 ++ flatC l := rfl
    rw [this, List.length_append, ih (fun y hy => h y (List.mem_cons_of_mem _ hy)), h x List.mem_cons_self, List.length_cons, Nat.mul_succ]; omega
theorem flatC_drop {n : Nat} : ∀ {l : List Cell} (k : Nat), (∀ x ∈ l, x.1.length = n) → (flatC l).drop (n * k) = flatC (l.drop k)
  | l, 0, _ => by simp
  | [], k + 1, _ => by simp [flatC]
  | x :: l, k + 1, h => by
    have e : flatC (x :: l) = x.1 ++ flatC l := rfl
    rw [e, List.drop_succ_cons, ← flatC_drop k (fun y hy => h y (List.mem_cons_of_mem _ hy)), List.drop_append, h x List.mem_cons_self, List.drop_of_length_le (by rw [h x List.mem_cons_self, Nat.mul_succ]; omega), List.nil_append]
    congr 1; rw [Nat.mul_succ]; omega
theorem flatC_take {n : Nat} : ∀ {l : List Cell} (k : Nat), (∀ x ∈ l, x.1.length = n) → (flatC l).take (n * k) = flatC (l.take k)
  | l, 0, _ => by simp [flatC]
  | [], k + 1, _ => by simp [flatC]
  | x :: l, k + 1, h => by
    have e : flatC (x :: l) = x.1 ++ flatC l := rfl
    have e2 : flatC ((x :: l).take (k + 1)) = x.1 ++ flatC (l.take k) := rfl
    rw [e, e2, ← flatC_take k (fun y hy => h y (List.mem_cons_of_mem _ hy)), Nat.mul_succ, List.take_append, h x List.mem_cons_self, List.take_of_length_le (by rw [h x List.mem_cons_self]; omega)]
    congr 2; omega
theorem swapL_whole {w : Nat} {l : List UInt8} (h : l.length = w) : swapL w l = l.reverse := by
  unfold swapL
  apply List.ext_getElem
  · simp
  · intro t h1 h2
    have ht : t < w := by simpa [h] using h1
    simp only [List.getElem_map, List.getElem_range, swapAt, List.getElem_reverse]
    rw [Nat.div_eq_of_lt ht, Nat.mod_eq_of_lt ht, List.getD_eq_getElem?_getD, List.getElem?_eq_getElem (by omega)]
    simp [h]
theorem dropWhile_head {α : Type} {p : α → Bool} : ∀ {l : List α} {y : α} {ys : List α}, l.dropWhile p = y :: ys → p y = false
  | [], _, _, h => by simp at h
  | a :: l, y, ys, h => by
    rw [List.dropWhile_cons] at h
    cases hp : p a with
    | true => rw [hp] at h; exact dropWhile_head h
    | false => rw [hp] at h; simp at h; rw [← h.1]; exact hp
theorem mem_takeWhile {α : Type} {p : α → Bool} : ∀ {l : List α} {y : α}, y ∈ l.takeWhile p → p y = true
  | [], _, h => by simp at h
  | a :: l, y, h => by
    rw [List.takeWhile_cons] at h
    cases hp : p a with
    | true =>
      rw [hp] at h
      rcases List.mem_cons.mp h with rfl | h
      · exact hp
      · exact mem_takeWhile h
    | false => rw [hp] at h; simp at h
noncomputable def cxPassed : FnCx := ⟨scopeAt 14, ["tapes", "size", "least", "cells", "levels", "laid", "beside", "k", "end"], []⟩
noncomputable def levC (l : List Cell) : List UInt8 := l.map (·.2)
noncomputable def tapeD (l : List Cell) : D := .tup [.bytes (flatC l).toArray, .bytes (levC l).toArray]
theorem cut_cells {n : Nat} {l : List Cell} (h : ∀ x ∈ l, x.1.length = n) {a b : Nat} (hab : a ≤ b) (hb : b ≤ l.length) : cutL (flatC l) (some ((n * a : Nat) : Int)) (some ((n * b : Nat) : Int)) = flatC ((l.drop a).take (b - a)) := by
  rw [cut_run _ (Nat.mul_le_mul_left _ hab) (by rw [flatC_len h]; exact Nat.mul_le_mul_left _ hb), flatC_drop a h, ← Nat.mul_sub, flatC_take _ (fun x hx => h x (List.mem_of_mem_drop hx))]
theorem cut_levs {l : List Cell} {a b : Nat} (hab : a ≤ b) (hb : b ≤ l.length) : cutL (levC l) (some (a : Int)) (some (b : Int)) = levC ((l.drop a).take (b - a)) := by
  rw [cut_run _ hab (by simpa [levC] using hb)]
  simp [levC, List.map_take, List.map_drop]
theorem Ev.castG {prog : Program} {w : World} {T : Imm} {F : FnCx} {k : Nat} {ρ : List (Option B)} {e : PySem.Expr} {d d' : D} (h : EvG prog w T F k ρ e d) (q : d = d') : EvG prog w T F k ρ e d' := q ▸ h
section
variable {w : World} {T : Imm} {mg mb : Str → Option Value} {f : Fs} {b3f : Int → Option Str} {k : Nat}
theorem passed_fn (G : Glb w T mg mb f b3f) {l : List Cell} {n : Nat} {least : Int} (hn : 0 < n) (hn3 : n ≤ 3) (hl : ∀ x ∈ l, x.1.length = n) (hlen : l.length ≤ 1000) :
    FnG pw w T (k + 1 + 1) f.passed [tapeD l, .int n, .int least] (tapeD (passC least l)) := by
  have hnd : cxPassed.vars.Nodup := by decide
  refine fnG_of_body (F := cxPassed) (more := 6) G.top G.passed.2 rfl (by decide) rfl (by decide) (fun _ => rfl) rfl rfl rfl ?_
  have hfl := flatC_len hl
  have hfl3 : (flatC l).length ≤ 3000 := by
    rw [hfl]; exact Nat.le_trans (Nat.mul_le_mul hn3 hlen) (by omega)
  have hvl : (levC l).length = l.length := by simp [levC]
  refine ExsG.cons (Ex.g (Ex.unpack (ds := [.bytes (flatC l).toArray, .bytes (levC l).toArray]) (Ev.var (i := 0) rfl rfl) (.cons (As.name (i := 3) hnd rfl (.inl rfl)) rfl (.cons (As.name (i := 4) hnd rfl (.inl rfl)) rfl .nil)) ?_))
  refine ExsG.cons (Ex.g (Ex.assign (i := 5) hnd rfl (.inl rfl) Ev.bytes ?_))
  refine ExsG.cons (Ex.g (Ex.assign (i := 6) hnd rfl (.inl rfl) Ev.bytes ?_))
  refine ExsG.cons (Ex.g (Ex.assign (i := 7) hnd rfl (.inl rfl) Ev.int ?_))
  refine ExsG.cons (ExG.while (fun m ρ' => ∃ (c : Nat) (done : List Cell) (z : Option B), m = l.length - c ∧ c ≤ l.length ∧ done.length = c ∧ (∀ x ∈ done, x.1.length = n) ∧ done ++ passC least (l.drop c) = passC least l ∧
    ρ' = [some (.imm (tapeD l)), some (.imm (.int n)), some (.imm (.int least)), some (.imm (.bytes (flatC l).toArray)), some (.imm (.bytes (levC l).toArray)), some (.imm (.bytes (flatC done).toArray)), some (.imm (.bytes (levC done).toArray)), some (.imm (.int c)), z])
    (n₀ := l.length) ⟨0, [], none, rfl, Nat.zero_le _, rfl, (by intro x hx; cases hx), rfl, rfl⟩ ?_)
  rintro m ρi ⟨c, done, z, rfl, hc, hdl, hdn, hdone, rfl⟩
  have hsz : ((levC l).toArray.size : Int) = (l.length : Nat) := by simp [levC]
  refine ⟨_, Tr.cmp (Ev.var (i := 7) rfl rfl) (Ev.cast (Ev.callB (Ev.blt G.top rfl G.len.1 G.len.2) (.cons (Ev.var (i := 4) rfl rfl) rfl .nil) (hp := p_len_bytes (by omega))) (by rw [hsz])) p_lt, fun hb => ?_, fun hb => ?_⟩
  · have hcl : c < l.length := by simpa using hb
    have hdrop : l.drop c = l[c] :: l.drop (c + 1) := List.drop_eq_getElem_cons hcl
    generalize hx : l[c] = x at hdrop
    have hxl : x ∈ l := by rw [← hx]; exact List.getElem_mem hcl
    have hxn := hl x hxl
    have hlev : ∀ {j : Nat} (hj : j < l.length), (levC l).toArray[((j : Nat) : Int).toNat]? = some (l[j]).2 := fun {j} hj => by
      rw [Int.toNat_natCast, List.getElem?_toArray]; unfold levC; rw [List.getElem?_map, List.getElem?_eq_getElem hj]; rfl
    have hdl1 := flatC_len hdn
    have hdl2 : (flatC done).length ≤ 3000 := by
      rw [hdl1, hdl]; exact Nat.le_trans (Nat.mul_le_mul hn3 (Nat.le_trans hc hlen)) (by omega)
    have hdl3 : (levC done).length = c := by simp [levC, hdl]
    have hm : ∀ a : Nat, (n : Int) * (a : Int) = ((n * a : Nat) : Int) := fun a => by push_cast; rfl
    refine ExsG.cons (Ex.g (Ex.assign (i := 8) (d := .int ((c + 1 : Nat) : Int)) hnd rfl (.inl rfl) (Ev.bin (Ev.var (i := 7) rfl rfl) Ev.int p_add) ?_))
    have hsl : ∀ {ρ : List (Option B)} {e : Nat} {k : Nat} {pp pos p1 p2 p3 p4 p5 p6 p7 pb1 pb2 : Pos}, c ≤ e → e ≤ l.length → ρ[1]? = some (some (.imm (.int n))) → ρ[3]? = some (some (.imm (.bytes (flatC l).toArray))) → ρ[7]? = some (some (.imm (.int c))) → ρ[8]? = some (some (.imm (.int e))) →
        Ev pw w T cxPassed k ρ (.Subscript (.Name "cells" p1) (.Slice (some (.BinOp (.Name "size" p2) .Mult (.Name "k" p3) pb1)) (some (.BinOp (.Name "size" p4) .Mult (.Name "end" p5) pb2)) none pp) pos) (.bytes (flatC ((l.drop c).take (e - c))).toArray) := by
      intro ρ e k pp pos p1 p2 p3 p4 p5 p6 p7 pb1 pb2 h1 h2 g1 g3 g7 g8
      refine Ev.cast (Ev.sliceB (Ev.var (i := 3) rfl g3) (.int (Ev.cast (Ev.bin (Ev.var (i := 1) rfl g1) (Ev.var (i := 7) rfl g7) (p_mul (by omega))) (by rw [hm]))) (.int (Ev.cast (Ev.bin (Ev.var (i := 1) rfl g1) (Ev.var (i := 8) rfl g8) (p_mul (by omega))) (by rw [hm]))) (by simp; omega)) ?_
      show D.bytes (cutL (flatC l) _ _).toArray = _
      rw [cut_cells hl h1 h2]
    have hsv : ∀ {ρ : List (Option B)} {e : Nat} {k : Nat} {pp pos p1 p3 p5 : Pos}, c ≤ e → e ≤ l.length → ρ[4]? = some (some (.imm (.bytes (levC l).toArray))) → ρ[7]? = some (some (.imm (.int c))) → ρ[8]? = some (some (.imm (.int e))) →
        Ev pw w T cxPassed k ρ (.Subscript (.Name "levels" p1) (.Slice (some (.Name "k" p3)) (some (.Name "end" p5)) none pp) pos) (.bytes (levC ((l.drop c).take (e - c))).toArray) := by
      intro ρ e k pp pos p1 p3 p5 h1 h2 g4 g7 g8
      refine Ev.cast (Ev.sliceB (Ev.var (i := 4) rfl g4) (.int (Ev.var (i := 7) rfl g7)) (.int (Ev.var (i := 8) rfl g8)) (by simp; omega)) ?_
      show D.bytes (cutL (levC l) _ _).toArray = _
      rw [cut_levs h1 h2]
    have hcat : ∀ (a b : List UInt8), a.toArray ++ b.toArray = (a ++ b).toArray := fun a b => by simp
    refine ExsG.cons (ExG.ite (Tr.cmp (Ev.sub (Ev.var (i := 4) rfl rfl) (Ev.var (i := 7) rfl rfl) (p_item_bytes (c := x.2) (by omega) (by rw [hlev hcl, hx]) (hb := by simp; omega))) (Ev.var (i := 2) rfl rfl) p_lt) (fun hlo => ?_) (fun hhi => ?_))
    · have hg : geL least x = false := by simp [geL] at hlo ⊢; omega
      have h1 : (l.drop c).take (c + 1 - c) = [x] := by rw [hdrop, show c + 1 - c = 1 by omega]; rfl
      refine ExsG.cons (Ex.g (Ex.assign (i := 5) (d := .bytes (flatC (done ++ [x])).toArray) hnd rfl (.inl rfl) (Ev.cast (Ev.bin (Ev.var (i := 5) rfl rfl) (hsl (e := c + 1) (p6 := default) (p7 := default) (by omega) (by omega) rfl rfl rfl rfl) (p_add_bytes (by rw [h1]; simp [flatC, hxn] at hdl2 ⊢; omega))) (by rw [h1, hcat, flatC_append])) ?_))
      refine ExsG.cons (Ex.g (Ex.assign (i := 6) (d := .bytes (levC (done ++ [x])).toArray) hnd rfl (.inl rfl) (Ev.cast (Ev.bin (Ev.var (i := 6) rfl rfl) (hsv (e := c + 1) (by omega) (by omega) rfl rfl rfl) (p_add_bytes (by rw [h1]; simp [levC] at hdl3 ⊢; omega))) (by rw [h1, hcat]; simp [levC])) ?_))
      refine ExsG.nil (ExsG.cons (Ex.g (Ex.assign (i := 7) hnd rfl (.inl rfl) (Ev.var (i := 8) rfl rfl) ?_)))
      refine ExsG.nil ⟨l.length - (c + 1), by omega, c + 1, done ++ [x], some (.imm (.int ((c + 1 : Nat) : Int))), rfl, by omega, by simp [hdl], ?_, ?_, rfl⟩
      · intro y hy
        rcases List.mem_append.mp hy with hy | hy
        · exact hdn y hy
        · rw [List.mem_singleton.mp hy]; exact hxn
      · rw [List.append_assoc, ← hdone, hdrop, passC_lo hg]; rfl
    · have hg : geL least x = true := by simp [geL] at hhi ⊢; omega
      generalize htw : (l.drop (c + 1)).takeWhile (geL least) = tw
      generalize hdw : (l.drop (c + 1)).dropWhile (geL least) = dw
      have hsplit : l.drop (c + 1) = tw ++ dw := by rw [← htw, ← hdw, List.takeWhile_append_dropWhile]
      have hlen' : l.length = c + 1 + tw.length + dw.length := by
        have := congrArg List.length hsplit
        simp at this; omega
      have hin : ∀ e (h : c + 1 ≤ e) (h2 : e < c + 1 + tw.length), geL least (l[e]'(by omega)) = true := fun e h h2 => by
        have : l[e]'(by omega) = tw[e - (c + 1)]'(by omega) := by
          have h3 : (l.drop (c + 1))[e - (c + 1)]? = some (l[e]'(by omega)) := by rw [List.getElem?_drop, show c + 1 + (e - (c + 1)) = e by omega, List.getElem?_eq_getElem]
          rw [hsplit, List.getElem?_append_left (by omega), List.getElem?_eq_getElem (by omega)] at h3
          exact (Option.some.inj h3).symm
        rw [this]
        exact mem_takeWhile (l := l.drop (c + 1)) (by rw [htw]; exact List.getElem_mem _)
      have hout : ∀ (h2 : c + 1 + tw.length < l.length), geL least (l[c + 1 + tw.length]) = false := fun h2 => by
        have h3 : (l.drop (c + 1))[tw.length]? = some (l[c + 1 + tw.length]) := by rw [List.getElem?_drop, List.getElem?_eq_getElem]
        rw [hsplit, List.getElem?_append_right (Nat.le_refl _), Nat.sub_self] at h3
        cases dw with
        | nil => simp at h3
        | cons y ys =>
          simp at h3
          rw [← h3]
          exact dropWhile_head hdw
      have hrun : (l.drop c).take (c + 1 + tw.length - c) = x :: tw := by
        rw [hdrop, show c + 1 + tw.length - c = tw.length + 1 by omega, List.take_succ_cons, hsplit, List.take_left]
      have hrn : ∀ y ∈ x :: tw, y.1.length = n := fun y hy => hl y (List.mem_of_mem_drop (List.mem_of_mem_take (hrun ▸ hy)))
      have hrl := flatC_len hrn
      rw [List.length_cons] at hrl
      have hrl3 : (flatC (x :: tw)).length ≤ 3000 := by
        rw [hrl]; exact Nat.le_trans (Nat.mul_le_mul hn3 (show tw.length + 1 ≤ 1000 by omega)) (by omega)
      have hrv : (levC (x :: tw)).length = tw.length + 1 := by simp [levC]
      refine ExsG.cons (Ex.g (Ex.while (fun m ρ' => ∃ e : Nat, m = c + 1 + tw.length - e ∧ c + 1 ≤ e ∧ e ≤ c + 1 + tw.length ∧
        ρ' = [some (.imm (tapeD l)), some (.imm (.int n)), some (.imm (.int least)), some (.imm (.bytes (flatC l).toArray)), some (.imm (.bytes (levC l).toArray)), some (.imm (.bytes (flatC done).toArray)), some (.imm (.bytes (levC done).toArray)), some (.imm (.int c)), some (.imm (.int e))])
        (n₀ := tw.length) ⟨c + 1, by omega, Nat.le_refl _, by omega, rfl⟩ ?_))
      rintro m ρi ⟨e, rfl, he1, he2, rfl⟩
      refine ⟨decide ((e : Int) < (l.length : Nat)) && decide ((((levC l).getD e 0).toNat : Int) ≥ least), Tr.and (Tr.cmp (Ev.var (i := 8) rfl rfl) (Ev.cast (Ev.callB (Ev.blt G.top rfl G.len.1 G.len.2) (.cons (Ev.var (i := 4) rfl rfl) rfl .nil) (hp := p_len_bytes (by omega))) (by rw [hsz])) p_lt)
        (fun hh => Tr.cmp (Ev.sub (Ev.var (i := 4) rfl rfl) (Ev.var (i := 8) rfl rfl) (p_item_bytes (c := (levC l).getD e 0) (by omega) (by
          have : e < (levC l).length := by rw [hvl]; simpa using hh
          rw [Int.toNat_natCast, List.getElem?_toArray, List.getD_eq_getElem?_getD, List.getElem?_eq_getElem this]; rfl) (hb := by simp; omega))) (Ev.var (i := 2) rfl rfl) p_ge), fun hb => ?_, fun hb => ?_⟩
      · have hb' : e < l.length ∧ least ≤ (((levC l).getD e 0).toNat : Int) := by simpa using hb
        have hne : e ≠ c + 1 + tw.length := by
          rintro rfl
          obtain ⟨hb1, h2⟩ := hb'
          have := hout hb1
          have hlv : (levC l).getD (c + 1 + tw.length) 0 = (l[c + 1 + tw.length]'hb1).2 := by
            rw [List.getD_eq_getElem?_getD]; unfold levC; rw [List.getElem?_map, List.getElem?_eq_getElem hb1]; rfl
          rw [hlv] at h2
          simp [geL] at this; omega
        refine Exs.cons (Ex.assign (i := 8) (d := .int ((e + 1 : Nat) : Int)) hnd rfl (.inl rfl) (Ev.bin (Ev.var (i := 8) rfl rfl) Ev.int p_add) ?_)
        exact Exs.nil ⟨c + 1 + tw.length - (e + 1), by omega, e + 1, rfl, by omega, by omega, rfl⟩
      · have he : e = c + 1 + tw.length := by
          rcases Nat.lt_or_ge e (c + 1 + tw.length) with h | h
          · exfalso
            have hel : e < l.length := by omega
            have h1 := hin e he1 h
            have hlv : (levC l).getD e 0 = (l[e]'hel).2 := by
              rw [List.getD_eq_getElem?_getD]; unfold levC; rw [List.getElem?_map, List.getElem?_eq_getElem hel]; rfl
            simp only [geL, decide_eq_true_eq] at h1
            rw [hlv] at hb
            have : (decide ((e : Int) < (l.length : Nat)) && decide ((((l[e]'hel).2).toNat : Int) ≥ least)) = true := by simp; exact ⟨hel, h1⟩
            rw [this] at hb; cases hb
          · omega
        subst he
        have hek : ((c + 1 + tw.length : Nat) : Int) - (c : Int) = ((tw.length + 1 : Nat) : Int) := by omega
        refine ExsG.cons (ExG.assign (i := 5) (d := .bytes (flatC (done ++ turnC (x :: tw))).toArray) hnd rfl (.inl rfl) ?_ ?_)
        · refine Ev.castG (EvG.bin (Ev.var (i := 5) rfl rfl) (EvG.callF (Ev.glob G.top rfl G.swap.1) (.cons (hsl (e := c + 1 + tw.length) (p6 := default) (p7 := default) (by omega) (by omega) rfl rfl rfl rfl) rfl (.cons (Ev.cast (Ev.bin (Ev.var (i := 1) rfl rfl) (Ev.cast (Ev.bin (Ev.var (i := 8) rfl rfl) (Ev.var (i := 7) rfl rfl) p_sub) (by rw [hek])) (p_mul (by omega))) (by rw [hm])) rfl .nil))
            (swap_fn G (n := n * (tw.length + 1)) (q := 1) (Nat.mul_pos hn (Nat.succ_pos _)) (by rw [hrun, hrl, Nat.one_mul]) (by rw [hrun]; omega) (by rw [← hrl]; omega))) (p_add_bytes ?_)) ?_
          · rw [hrun, swapL_whole hrl]; simp; omega
          · rw [hrun, swapL_whole hrl, hcat, flatC_append, flatC_turn]
        · refine ExsG.cons (ExG.assign (i := 6) (d := .bytes (levC (done ++ turnC (x :: tw))).toArray) hnd rfl (.inl rfl) ?_ ?_)
          · refine Ev.castG (EvG.bin (Ev.var (i := 6) rfl rfl) (EvG.callF (Ev.glob G.top rfl G.swap.1) (.cons (hsv (e := c + 1 + tw.length) (by omega) (by omega) rfl rfl rfl) rfl (.cons (Ev.cast (Ev.bin (Ev.var (i := 8) rfl rfl) (Ev.var (i := 7) rfl rfl) p_sub) (by rw [hek])) rfl .nil))
              (swap_fn G (n := tw.length + 1) (q := 1) (Nat.succ_pos _) (by rw [hrun, hrv, Nat.one_mul]) (by rw [hrun]; omega) (by omega))) (p_add_bytes ?_)) ?_
            · rw [hrun, swapL_whole hrv]; simp; omega
            · rw [hrun, swapL_whole hrv, hcat]
              have : levC (done ++ turnC (x :: tw)) = levC done ++ (levC (x :: tw)).reverse := by unfold levC; rw [List.map_append, lev_turn]
              rw [this]
          · refine ExsG.nil (ExsG.cons (Ex.g (Ex.assign (i := 7) hnd rfl (.inl rfl) (Ev.var (i := 8) rfl rfl) ?_)))
            refine ExsG.nil ⟨l.length - (c + 1 + tw.length), by omega, c + 1 + tw.length, done ++ turnC (x :: tw), some (.imm (.int ((c + 1 + tw.length : Nat) : Int))), rfl, by omega, by simp [turnC, hdl]; omega, ?_, ?_, rfl⟩
            · intro y hy
              rcases List.mem_append.mp hy with hy | hy
              · exact hdn y hy
              · simp only [turnC, List.mem_map, List.mem_reverse] at hy
                obtain ⟨u, hu, rfl⟩ := hy
                simpa using hrn u hu
            · rw [List.append_assoc, ← hdone, hdrop, passC_hi hg, htw, hdw]
              congr 2
              have : l.drop (c + 1 + tw.length) = dw := by rw [← List.drop_drop, hsplit, List.drop_left]
              rw [this]
  · have hcl : c = l.length := by have : ¬ c < l.length := by simpa using hb
                                  omega
    subst hcl
    rw [List.drop_length, passC_nil, List.append_nil] at hdone
    subst hdone
    exact ExsG.cons (Ex.g (Ex.ret (Ev.tuple (.cons (Ev.var (i := 5) rfl rfl) rfl (.cons (Ev.var (i := 6) rfl rfl) rfl .nil))) rfl))
end
end Mine
end

section
open PySem PySem.W PyProof.Rows
set_option maxRecDepth 100000
namespace Mine
section
variable {w : World} {T : Imm} {mg mb : Str → Option Value} {f : Fs} {b3f : Int → Option Str} {k : Nat}
theorem swap_raises (G : Glb w T mg mb f b3f) {l : List UInt8} {q : Nat} (hq : q * 3 < l.length) (hq2 : l.length < q * 3 + 3) (hb : l.length ≤ 100000) : FnR pw w T (k + 1) f.swap [.bytes l.toArray, .int (3 : Nat)] := by
  have hnd : cxSwap.vars.Nodup := by decide
  generalize hn3 : 3 = n at hq hq2 ⊢
  have hn : 0 < n := by omega
  have hn2 : n ≤ 100000 := by omega
  refine fnR_of_body (F := cxSwap) (more := 3) G.top G.swap.2 rfl (by decide) rfl (by decide) (fun _ => rfl) rfl rfl rfl ?_
  have hsz : (l.toArray).size = l.length := by simp
  refine ExsRG.later (ExG.newBA (i := 2) (n := l.length) hnd rfl (.inl rfl) (Ev.blt G.top rfl G.bytearray.1 G.bytearray.2) (Ev.cast (Ev.callB (Ev.blt G.top rfl G.len.1 G.len.2) (.cons (Ev.var (i := 0) rfl rfl) rfl .nil) (hp := p_len_bytes (by omega))) (by rw [hsz])) rfl (by omega) ?_)
  refine ExsR.g (ExsR.here ?_)
  have hmul : ∀ c, c < q + 1 → c * n < l.length := fun c hc => Nat.lt_of_le_of_lt (Nat.mul_le_mul_right n (Nat.le_of_lt_succ hc)) hq
  obtain ⟨hsm, hrs⟩ := range_step (n := l.length) (w := n) (m := q + 1) hn (by omega) (by omega) (by rw [Nat.succ_mul]; omega) hmul
  refine ExR.for (d := .rng 0 l.length n) (ds := rangeD 0 (q + 1) n) (Ev.callT (Ev.blt G.top rfl G.range.1 G.range.2) (.cons Ev.int rfl (.cons (Ev.cast (Ev.callB (Ev.blt G.top rfl G.len.1 G.len.2) (.cons (Ev.var (i := 0) rfl rfl) rfl .nil) (hp := p_len_bytes (by omega))) (by rw [hsz])) rfl (.cons (Ev.var (i := 1) rfl rfl) rfl .nil))) (hp := p_range3 (by omega) (by omega))) (.rng hsm hrs)
    (fun c ρ' => ∃ x y, ρ' = [some (.imm (.bytes l.toArray)), some (.imm (.int n)), some (.bya (swapPart n l c 0).toArray), x, y]) ⟨_, _, by rw [swapPart_zero, List.toArray_replicate]; rfl⟩ q (by simp [rangeD]) ?_ ?_
  · rintro c dc ρc hc hdc ⟨x, y, rfl⟩
    obtain rfl : dc = .int (c * n : Nat) := by
      have := (List.getElem?_eq_some_iff.mp hdc).2
      simpa [rangeD] using this.symm
    have hcn : c * n + n ≤ l.length := by
      have : c * n + n ≤ q * n := by rw [← Nat.succ_mul]; exact Nat.mul_le_mul_right _ hc
      omega
    refine ⟨_, As.name (i := 3) hnd rfl (.inl rfl), ?_⟩
    refine Exs.cons (Ex.for (d := .rng 0 n 1) (ds := rangeD 0 n 1) (Ev.callT (Ev.blt G.top rfl G.range.1 G.range.2) (.cons (Ev.var (i := 1) rfl rfl) rfl .nil) (hp := p_range1)) (.rng (small_up (by omega) (by omega) (by omega) (by omega)) (size_up (by omega)))
      (fun j ρ' => ∃ y, ρ' = [some (.imm (.bytes l.toArray)), some (.imm (.int n)), some (.bya (swapPart n l c j).toArray), some (.imm (.int (c * n : Nat))), y]) ⟨_, rfl⟩ ?_ ?_)
    · rintro j dj ρj hdj ⟨y, rfl⟩
      have hj : j < n := by have := (List.getElem?_eq_some_iff.mp hdj).1; simpa [rangeD] using this
      obtain rfl : dj = .int j := by
        have := (List.getElem?_eq_some_iff.mp hdj).2
        simpa [rangeD] using this.symm
      refine ⟨_, As.name (i := 4) hnd rfl (.inl rfl), ?_⟩
      have hlt : c * n + j < l.length := by omega
      have hidx : ((c * n : Nat) : Int) + n - 1 - j = ((c * n + (n - 1 - j) : Nat) : Int) := by omega
      have hidx2 : ((c * n : Nat) : Int) + j = ((c * n + j : Nat) : Int) := by omega
      refine Exs.cons (Ex.setByte (i := 2) (n := c * n + (n - 1 - j)) (v := ((l.getD (c * n + j) 0).toNat : Int)) rfl rfl
        (Ev.sub (Ev.var (i := 0) rfl rfl) (Ev.cast (Ev.bin (Ev.var (i := 3) rfl rfl) (Ev.var (i := 4) rfl rfl) p_add) (by rw [hidx2])) (p_item_bytes (by omega) (by rw [Int.toNat_natCast, List.getElem?_toArray, List.getD_eq_getElem?_getD, List.getElem?_eq_getElem hlt]; rfl) (hb := by omega)))
        (Ev.cast (Ev.bin (Ev.bin (Ev.bin (Ev.var (i := 3) rfl rfl) (Ev.var (i := 1) rfl rfl) p_add) Ev.int p_sub) (Ev.var (i := 4) rfl rfl) p_sub) (by rw [hidx]))
        ⟨by omega, by have := (l.getD (c * n + j) 0).toNat_lt; omega⟩ (by simp [swapPart]; omega) (by simp [swapPart]; omega) ?_)
      refine Exs.nil ⟨some (.imm (.int j)), ?_⟩
      rw [← swapPart_step hn l hj hcn]
      rw [show (((l.getD (c * n + j) 0).toNat : Int).toNat.toUInt8) = l.getD (c * n + j) 0 by simp]
      simp
    · rintro ρ' ⟨y, rfl⟩
      have hrd : (rangeD 0 n 1).length = n := by simp [rangeD]
      rw [hrd, swapPart_next hn]
      exact Exs.nil ⟨_, _, rfl⟩
  · rintro dc ρc hdc ⟨x, y, rfl⟩
    obtain rfl : dc = .int (q * n : Nat) := by
      have := (List.getElem?_eq_some_iff.mp hdc).2
      simpa [rangeD] using this.symm
    refine ⟨_, As.name (i := 3) hnd rfl (.inl rfl), ?_⟩
    refine ExsR.here ?_
    refine ExR.for (d := .rng 0 n 1) (ds := rangeD 0 n 1) (Ev.callT (Ev.blt G.top rfl G.range.1 G.range.2) (.cons (Ev.var (i := 1) rfl rfl) rfl .nil) (hp := p_range1)) (.rng (small_up (by omega) (by omega) (by omega) (by omega)) (size_up (by omega)))
      (fun j ρ' => ∃ y, ρ' = [some (.imm (.bytes l.toArray)), some (.imm (.int n)), some (.bya (swapPart n l q 0).toArray), some (.imm (.int (q * n : Nat))), y]) ⟨_, rfl⟩ 0 (by simp [rangeD]; omega) (fun i di ρi hi => absurd hi (Nat.not_lt_zero _)) ?_
    rintro dj ρj hdj ⟨y, rfl⟩
    obtain rfl : dj = .int (0 : Nat) := by
      have := (List.getElem?_eq_some_iff.mp hdj).2
      simpa [rangeD] using this.symm
    refine ⟨_, As.name (i := 4) hnd rfl (.inl rfl), ?_⟩
    have hidx : ((q * n : Nat) : Int) + n - 1 - (0 : Nat) = ((q * n + (n - 1) : Nat) : Int) := by omega
    have hidx2 : ((q * n : Nat) : Int) + (0 : Nat) = ((q * n : Nat) : Int) := by omega
    refine ExsR.here (ExR.setByte (i := 2) (n := q * n + (n - 1)) (v := ((l.getD (q * n) 0).toNat : Int)) rfl rfl
        (Ev.sub (Ev.var (i := 0) rfl rfl) (Ev.cast (Ev.bin (Ev.var (i := 3) rfl rfl) (Ev.var (i := 4) rfl rfl) p_add) (by rw [hidx2])) (p_item_bytes (by omega) (by rw [Int.toNat_natCast, List.getElem?_toArray, List.getD_eq_getElem?_getD, List.getElem?_eq_getElem hq]; rfl) (hb := by omega)))
        (Ev.cast (Ev.bin (Ev.bin (Ev.bin (Ev.var (i := 3) rfl rfl) (Ev.var (i := 1) rfl rfl) p_add) Ev.int p_sub) (Ev.var (i := 4) rfl rfl) p_sub) (by rw [hidx]))
        ⟨by omega, by have := (l.getD (q * n) 0).toNat_lt; omega⟩ (by simp [swapPart]; omega) (by omega))
end
end Mine
end

section
open PySem PySem.W PyProof.Rows
set_option maxRecDepth 100000
namespace Mine
noncomputable def cxLaw : FnCx := ⟨scopeAt 17, ["script", "drawn", "code", "role", "word", "k", "meant", "highest", "drawn_passes", "passes", "shown", "signs", "spelled", "letters", "least", "odd", "due", "refused", "mirror", "told", "cell"], ["drawn", "meant", "passes", "odd"]⟩
noncomputable def lawSt (n : Nat) : Stmt := (bodyAt 17)[n]?.getD (.Pass default)
noncomputable def numsOf (script : List Int) : List Int := [56, 102] ++ (script.take 8).map (· % 1000000) ++ [8, 22, 0, 4]
noncomputable def drOf (script : List Int) : List Dr := (numsOf script).map drawnOf
theorem numsOf_range (script : List Int) : ∀ n ∈ numsOf script, 0 ≤ n ∧ n < 1000000 := by
  intro n hn
  simp only [numsOf, List.mem_append, List.mem_cons, List.mem_map, List.not_mem_nil, or_false] at hn
  rcases hn with ((rfl | rfl) | ⟨x, _, rfl⟩) | (rfl | rfl | rfl | rfl) <;> omega
theorem numsOf_len (script : List Int) : (numsOf script).length ≤ 14 := by simp [numsOf]; omega
theorem drOf_len (script : List Int) : (drOf script).length ≤ 14 := by unfold drOf; rw [List.length_map]; exact numsOf_len script
/-- what is meant: code, level, word -/
structure Mt where
  code : Int
  level : Int
  word : Str
noncomputable def Mt.d (x : Mt) : D := .tup [.int x.code, .int x.level, .str x.word]
noncomputable def mtsD (l : List Mt) : D := .lst (l.map Mt.d)
noncomputable def dr0 : Dr := ⟨0, 0, ""⟩
noncomputable def meantAt (l : List Dr) (k : Nat) : Mt := ⟨(l.getD k dr0).code, levelOf ((l.take k).map Dr.role), (l.getD k dr0).word⟩
noncomputable def meantOf (l : List Dr) : List Mt := ((List.range l.length).filter fun k => (l.getD k dr0).role == 0).map (meantAt l)
noncomputable def downs (h : Nat) : List Int := (List.range h).map fun j => (h : Int) - (j : Nat)
noncomputable def drawnPasses (script : List Int) : List Int := (script.take 4).map fun x => x % 1000000 / 64 % 5
noncomputable def passesOf (dp : List Int) (h : Nat) : List Int := dp.take 2 ++ downs h ++ dp.drop 2
noncomputable def octs (code : Int) (n : Nat) (m : Bool) : List Int := (List.range n).map fun j => code / 256 ^ (if m then j else n - 1 - j) % 256
theorem cellD_octs (code : Int) (n : Nat) (m : Bool) : cellD code n m = (octs code n m).map .int := by unfold cellD octs; rw [List.map_map]; rfl
theorem octs_range (code : Int) (n : Nat) (m : Bool) : ∀ x ∈ octs code n m, 0 ≤ x ∧ x < 256 := by
  intro x hx
  obtain ⟨j, _, rfl⟩ := List.mem_map.mp hx
  omega
noncomputable def u8 (n : Int) : UInt8 := n.toNat.toUInt8
noncomputable def cellU (code : Int) (n : Nat) (m : Bool) : List UInt8 := (octs code n m).map u8
noncomputable def signC (n : Nat) (x : Nat × Int) : Cell := (cellU x.1 n false, u8 x.2)
theorem byteArr_u8 (ns : List Int) : byteArr ns = (ns.map u8).toArray := rfl
theorem small_down0 {p : Nat} (h : p < 1000000) : Builtin.Range.small (p : Int) 0 (-1) = true ∧ Builtin.Range.rangeSize (p : Int) 0 (-1) = p := by
  have hs : Builtin.Range.rangeSize (p : Int) 0 (-1) = p := by
    unfold Builtin.Range.rangeSize
    rw [if_neg (by decide)]
    split
    · simp
    · omega
  refine ⟨?_, hs⟩
  unfold Builtin.Range.small Builtin.Range.rangeFitsLong
  rw [hs]
  simp only [Bool.and_eq_true, Bool.or_eq_true, decide_eq_true_eq, beq_iff_eq]
  refine ⟨⟨⟨⟨⟨by omega, by omega⟩, by decide, by decide⟩, by decide, by decide⟩, by omega, by omega⟩, .inr ?_⟩
  decide
/-- the three of a tuple -/
theorem As.three {prog : Program} {w : World} {T : Imm} {F : FnCx} {k : Nat} {r : List (Option B)} {i j l : Nat} {x y z : Str} {p q s tp : Pos} {kd} {d e g : D} (hnd : F.vars.Nodup) (hx : F.vars[i]? = some x) (hy : F.vars[j]? = some y) (hz : F.vars[l]? = some z)
    (h1 : F.writes x) (h2 : F.writes y) (h3 : F.writes z) : As prog w T F k r (.Tuple [.Name x p, .Name y q, .Name z s] kd tp) (.tup [d, e, g]) (((r.set i (some (.imm d))).set j (some (.imm e))).set l (some (.imm g))) :=
  As.tuple (.cons (As.name hnd hx h1) rfl (.cons (As.name hnd hy h2) rfl (.cons (As.name hnd hz h3) rfl .nil)))
theorem As.two {prog : Program} {w : World} {T : Imm} {F : FnCx} {k : Nat} {r : List (Option B)} {i j : Nat} {x y : Str} {p q tp : Pos} {kd} {d e : D} (hnd : F.vars.Nodup) (hx : F.vars[i]? = some x) (hy : F.vars[j]? = some y)
    (h1 : F.writes x) (h2 : F.writes y) : As prog w T F k r (.Tuple [.Name x p, .Name y q] kd tp) (.tup [d, e]) ((r.set i (some (.imm d))).set j (some (.imm e))) :=
  As.tuple (.cons (As.name hnd hx h1) rfl (.cons (As.name hnd hy h2) rfl .nil))
theorem CompF.cast {prog : Program} {w : World} {T : Imm} {F : FnCx} {k : Nat} {r : List (Option B)} {e : PySem.Expr} {l l' : List D} (h : CompF prog w T F k r e l) (q : l = l') : CompF prog w T F k r e l' := q ▸ h
section
variable {w : World} {T : Imm} {mg mb : Str → Option Value} {f : Fs} {b3f : Int → Option Str} {k : Nat} {ρ : List (Option B)}
variable {x0 x1 x2 x3 x4 x5 x6 x7 x8 x9 x10 x11 x12 x13 x14 x15 x16 x17 x18 x19 x20 : Option B}
theorem law_nd : cxLaw.vars.Nodup := by decide
theorem law_cellw {x : Str} (h : cxLaw.sc.names.lookup x = some .cell := by rfl) (h2 : x ∈ cxLaw.own := by decide) : cxLaw.writes x := .inr ⟨h, h2⟩
theorem law_s0 (G : Glb w T mg mb f b3f) {script : List Int} (hs : script.length ≤ 63) :
    Ex pw w T cxLaw (k + 1 + 1) [some (.imm (intsD script)), x1, x2, x3, x4, x5, x6, x7, x8, x9, x10, x11, x12, x13, x14, x15, x16, x17, x18, x19, x20] (lawSt 0) (fun o => o = .next [some (.imm (intsD script)), some (.imm (drsD (drOf script))), x2, x3, x4, x5, x6, x7, x8, x9, x10, x11, x12, x13, x14, x15, x16, x17, x18, x19, x20]) := by
  have hlen : ((numsOf script)).length ≤ 14 := numsOf_len script
  refine Ex.assign (i := 1) law_nd rfl law_cellw (EvF.ev (CompF.ev (CompF.cast (CompF.mapL (own := ["number"]) (caps := []) (xs := numsOf script) (g := D.int) (h := fun n => (drawnOf n).d) (fun ρ => ∃ a, ρ = slots [a])
      (d := .lst ((numsOf script).map D.int)) ?_ (.lst _) (.mk' [] [] .nil) (by rintro _ ⟨a, rfl⟩; exact slots_no _) (by omega) ⟨none, rfl⟩ ?_) (show (numsOf script).map (fun n => (drawnOf n).d) = (drOf script).map Dr.d by unfold drOf; rw [List.map_map]; rfl)))) rfl (hs := fun env h _ => swaps_cell rfl env h)
  · refine Ev.cast (Ev.bin (Ev.bin (EvF.ev (EvF.list (ds := [.int 56, .int 102]) (.cons Ev.int rfl (.cons Ev.int rfl .nil)))) (EvF.ev (CompF.ev (CompF.mapL (own := ["x"]) (caps := []) (xs := script.take 8) (g := D.int) (h := fun x => D.int (x % 1000000)) (fun ρ => ∃ a, ρ = slots [a])
      (d := .lst ((script.take 8).map D.int)) (Ev.cast (Ev.sliceL (y := some ((8 : Nat) : Int)) (Ev.var (i := 0) rfl rfl) .none (.int Ev.int) (by simp; omega)) (by rw [cut_to, ← List.map_take])) (.lst _) (.mk' [] [] .nil) (by rintro _ ⟨a, rfl⟩; exact slots_no _) (by simp; omega) ⟨none, rfl⟩ ?_))) (p_add_lst (by simp; omega))) (EvF.ev (EvF.list (ds := [.int 8, .int 22, .int 0, .int 4]) (.cons Ev.int rfl (.cons Ev.int rfl (.cons Ev.int rfl (.cons Ev.int rfl .nil)))))) (p_add_lst (by simp; omega))) ?_
    · rintro i x ρi hx ⟨a, rfl⟩
      exact ⟨_, As.name (i := 0) (by decide) rfl (.inl rfl), ⟨some _, rfl⟩, Ev.bin (Ev.var (i := 0) rfl rfl) Ev.int (p_mod (by decide))⟩
    · unfold numsOf; simp; rfl
  · rintro i n ρi hn ⟨a, rfl⟩
    have hr := numsOf_range script n (List.mem_of_getElem? hn)
    exact ⟨_, As.name (i := 0) (by decide) rfl (.inl rfl), ⟨some _, rfl⟩, Ev.callF (Ev.glob G.top rfl G.drawn.1) (.cons (Ev.var (i := 0) rfl rfl) rfl .nil) (drawn_fn G hr.1 hr.2)⟩
/-- the signs are what the tables say -/
structure DrOk (b3f : Int → Option Str) (x : Dr) : Prop where
  lo : 0 ≤ x.code
  hi : x.code ≤ 1114111
  b1 : b1S x.code = (x.role == 4)
  c8 : c8S x.code = ([1, 2, 3, 5].any (· == x.role))
theorem law_s1 (G : Glb w T mg mb f b3f) {l : List Dr} {y2 y3 y4 : Option D} (hl : l.length ≤ 14) (hok : ∀ x ∈ l, DrOk b3f x) :
    Ex pw w T cxLaw (k + 1 + 1) [x0, some (.imm (drsD l)), Option.map B.imm y2, Option.map B.imm y3, Option.map B.imm y4, x5, x6, x7, x8, x9, x10, x11, x12, x13, x14, x15, x16, x17, x18, x19, x20] (lawSt 1) (fun o => ∃ a b c : Option D, o = .next [x0, some (.imm (drsD l)), Option.map B.imm a, Option.map B.imm b, Option.map B.imm c, x5, x6, x7, x8, x9, x10, x11, x12, x13, x14, x15, x16, x17, x18, x19, x20]) := by
  refine Ex.for (d := drsD l) (ds := l.map Dr.d) (Ev.var (i := 1) rfl rfl) (.lst _) (fun i ρ' => ∃ a b c : Option D, ρ' = [x0, some (.imm (drsD l)), Option.map B.imm a, Option.map B.imm b, Option.map B.imm c, x5, x6, x7, x8, x9, x10, x11, x12, x13, x14, x15, x16, x17, x18, x19, x20]) ⟨y2, y3, y4, rfl⟩ ?_ ?_
  · rintro i di ρi hdi ⟨a, b, c, rfl⟩
    rw [List.getElem?_map] at hdi
    obtain ⟨x, hx, rfl⟩ := Option.map_eq_some_iff.mp hdi
    have ho := hok x (List.mem_of_getElem? hx)
    have h1 := ho.lo
    have h2 := ho.hi
    refine ⟨_, As.three (i := 2) (j := 3) (l := 4) law_nd rfl rfl rfl (.inl rfl) (.inl rfl) (.inl rfl), ?_⟩
    have hcode : ((x.code.toNat : Nat) : Int) = x.code := by omega
    refine Exs.cons (Ex.ite (b := false) ?_ (fun q => by cases q) (fun _ => ?_))
    · have hb1 : (b1S ((x.code.toNat : Nat) : Int) != (x.role == 4)) = false := by rw [hcode, ho.b1]; simp
      have hc8 : (c8S ((x.code.toNat : Nat) : Int) != ([1, 2, 3, 5].any (· == x.role))) = false := by rw [hcode, ho.c8]; simp
      refine Eq.subst (motive := fun b => Tr pw w T cxLaw (k + 1 + 1) _ _ b) (show ((b1S ((x.code.toNat : Nat) : Int) != (x.role == 4)) || (c8S ((x.code.toNat : Nat) : Int) != ([1, 2, 3, 5].any (· == x.role)))) = false by rw [hb1, hc8]; rfl)
        (Tr.or (Tr.cmp (Ev.callF (Ev.glob G.top rfl G.b1.1) (.cons (Ev.callB (Ev.blt G.top rfl G.chr.1 G.chr.2) (.cons (Ev.var (i := 2) rfl rfl) rfl .nil) (hp := p_chr h1 h2)) rfl .nil) (b1_fn G)) (Ev.cmp (Ev.var (i := 3) rfl rfl) Ev.int p_eq) p_isNot_bool)
          (fun _ => Tr.cmp (Ev.callF (Ev.glob G.top rfl G.c8.1) (.cons (Ev.callB (Ev.blt G.top rfl G.chr.1 G.chr.2) (.cons (Ev.var (i := 2) rfl rfl) rfl .nil) (hp := p_chr h1 h2)) rfl .nil) (c8_fn G)) (Ev.cmp (Ev.var (i := 3) rfl rfl) (EvF.ev (EvF.list (ds := [.int 1, .int 2, .int 3, .int 5]) (.cons Ev.int rfl (.cons Ev.int rfl (.cons Ev.int rfl (.cons Ev.int rfl .nil)))))) (p_in_list (ns := [1, 2, 3, 5]))) p_isNot_bool))
    · exact Exs.nil (Exs.nil ⟨some _, some _, some _, rfl⟩)
  · rintro ρ' ⟨a, b, c, rfl⟩
    exact ⟨_, _, _, rfl⟩
theorem dr_at {l : List Dr} {k : Nat} (h : k < l.length) : (l.map Dr.d)[((k : Nat) : Int).toNat]? = some (l.getD k dr0).d := by
  rw [Int.toNat_natCast, List.getElem?_map, List.getD_eq_getElem?_getD, List.getElem?_eq_getElem h]; rfl
theorem range_iter {n : Nat} (h : n < 1000000) : Iterates (.rng 0 (n : Nat) 1) ((List.range n).map fun i => D.int (i : Nat)) := by
  rw [← rangeD_up]; exact .rng (small_up (by omega) (by omega) (by omega) (by omega)) (size_up (by omega))
theorem law_s2 (G : Glb w T mg mb f b3f) {l : List Dr} (hl : l.length ≤ 14) :
    Ex pw w T cxLaw (k + 1 + 1) [x0, some (.imm (drsD l)), x2, x3, x4, x5, x6, x7, x8, x9, x10, x11, x12, x13, x14, x15, x16, x17, x18, x19, x20] (lawSt 2) (fun o => o = .next [x0, some (.imm (drsD l)), x2, x3, x4, x5, some (.imm (mtsD (meantOf l))), x7, x8, x9, x10, x11, x12, x13, x14, x15, x16, x17, x18, x19, x20]) := by
  have hln : ((l.map Dr.d).length : Int) = (l.length : Nat) := by simp
  refine Ex.assign (i := 6) law_nd rfl law_cellw (EvF.ev (CompF.ev (CompF.cast (CompF.filterL (own := ["k"]) (caps := [("drawn", drsD l)]) (xs := List.range l.length) (g := fun i : Nat => D.int i) (p := fun k => (l.getD k dr0).role == 0) (h := fun k => (meantAt l k).d) (fun ρ => ∃ a, ρ = slots [a, some (drsD l)])
      (d := .rng 0 (l.length : Nat) 1) (Ev.callT (Ev.blt G.top rfl G.range.1 G.range.2) (.cons (Ev.cast (Ev.callB (Ev.blt G.top rfl G.len.1 G.len.2) (.cons (Ev.var (i := 1) rfl rfl) rfl .nil) (hp := p_len_lst (by simp; omega))) (by rw [hln])) rfl .nil) (hp := p_range1)) (range_iter (by omega)) (.mk' ["drawn"] [] (.cons (.mk 1) .nil)) (by rintro _ ⟨a, rfl⟩; exact slots_no _) (by simp; omega) ⟨none, rfl⟩ ?_)
      (show _ = (meantOf l).map Mt.d by unfold meantOf; rw [List.map_map]; rfl)))) rfl (hs := fun env h _ => swaps_cell rfl env h)
  rintro i j ρi hj ⟨a, rfl⟩
  have hi : j < l.length := by simpa using List.mem_of_getElem? hj
  refine ⟨_, As.name (i := 0) (by decide) rfl (.inl rfl), .one (Tr.cmp (Ev.sub (Ev.sub (Ev.var (i := 1) rfl rfl) (Ev.var (i := 0) rfl rfl) (p_item_lst (by omega) (dr_at hi) (hi := by omega))) Ev.int (p_item_tup (d := .int (l.getD j dr0).role) (by decide) rfl)) Ev.int p_eq), ⟨some _, rfl⟩, fun _ => ?_⟩
  exact Ev.tuple (.cons (Ev.sub (Ev.sub (Ev.var (i := 1) rfl rfl) (Ev.var (i := 0) rfl rfl) (p_item_lst (by omega) (dr_at hi) (hi := by omega))) Ev.int (p_item_tup (d := .int (l.getD j dr0).code) (by decide) rfl)) rfl
    (.cons (Ev.callF (Ev.glob G.top rfl G.level.1) (.cons (Ev.var (i := 1) rfl rfl) rfl (.cons (Ev.var (i := 0) rfl rfl) rfl .nil)) (level_fn G (by omega) (by omega))) rfl
    (.cons (Ev.sub (Ev.sub (Ev.var (i := 1) rfl rfl) (Ev.var (i := 0) rfl rfl) (p_item_lst (by omega) (dr_at hi) (hi := by omega))) Ev.int (p_item_tup (d := .str (l.getD j dr0).word) (by decide) rfl)) rfl .nil)))
/-- the levels of what is meant -/
theorem ev_levels {F : FnCx} {k : Nat} {ρ : List (Option B)} {ms : List Mt} {i : Nat} {p q1 q2 q3 q4 q5 pos : Pos} {kd} (hx : F.vars[i]? = some "meant") (hρ : ρ[i]? = some (some (.imm (mtsD ms)))) (hl : ms.length ≤ 1000)
    : Ev pw w T F k ρ (.ListComp (.Name "level" q1) [⟨.Tuple [.Name "code" q2, .Name "level" q3, .Name "word" q4] kd q5, .Name "meant" p, [], 0⟩] ⟨.function, [(".0", .local), ("code", .local), ("level", .local), ("word", .local)], false, false, []⟩ pos) (intsD (ms.map Mt.level)) := by
  refine EvF.ev (CompF.ev (CompF.cast (CompF.mapL (own := ["code", "level", "word"]) (caps := []) (xs := ms) (g := Mt.d) (h := fun m => .int m.level) (fun ρ => ∃ a b c, ρ = slots [a, b, c])
      (d := mtsD ms) (Ev.var (i := i) hx hρ) (.lst _) (.mk' [] [] .nil) (by rintro _ ⟨a, b, c, rfl⟩; exact slots_no _) (by omega) ⟨none, none, none, rfl⟩ ?_) (by rw [List.map_map]; rfl)))
  rintro j m ρi hm ⟨a, b, c, rfl⟩
  exact ⟨_, As.three (i := 0) (j := 1) (l := 2) (show (["code", "level", "word"] : List Str).Nodup by decide) rfl rfl rfl (.inl rfl) (.inl rfl) (.inl rfl), ⟨some _, some _, some _, rfl⟩, Ev.var (i := 1) rfl rfl⟩
theorem law_s3 (G : Glb w T mg mb f b3f) {ms : List Mt} {h : Int} (hl : ms.length ≤ 14) (hM : h ∈ ms.map Mt.level) (hle : ∀ a ∈ ms.map Mt.level, a ≤ h) :
    Ex pw w T cxLaw (k + 1 + 1) [x0, x1, x2, x3, x4, x5, some (.imm (mtsD ms)), x7, x8, x9, x10, x11, x12, x13, x14, x15, x16, x17, x18, x19, x20] (lawSt 3) (fun o => o = .next [x0, x1, x2, x3, x4, x5, some (.imm (mtsD ms)), some (.imm (.int h)), x8, x9, x10, x11, x12, x13, x14, x15, x16, x17, x18, x19, x20]) :=
  Ex.assign (i := 7) law_nd rfl (.inl rfl) (Ev.callB (Ev.blt G.top rfl G.max.1 G.max.2) (.cons (ev_levels (i := 6) rfl rfl (by omega)) rfl .nil) (hp := p_max hM hle)) rfl
theorem law_s4 (G : Glb w T mg mb f b3f) {script : List Int} (hs : script.length ≤ 63) :
    Ex pw w T cxLaw (k + 1 + 1) [some (.imm (intsD script)), x1, x2, x3, x4, x5, x6, x7, x8, x9, x10, x11, x12, x13, x14, x15, x16, x17, x18, x19, x20] (lawSt 4) (fun o => o = .next [some (.imm (intsD script)), x1, x2, x3, x4, x5, x6, x7, some (.imm (intsD (drawnPasses script))), x9, x10, x11, x12, x13, x14, x15, x16, x17, x18, x19, x20]) := by
  refine Ex.assignC (i := 8) law_nd rfl rfl (CompF.cast (CompF.mapL (own := ["x"]) (caps := []) (xs := script.take 4) (g := D.int) (h := fun x => D.int (x % 1000000 / 64 % 5)) (fun ρ => ∃ a, ρ = slots [a])
      (d := .lst ((script.take 4).map D.int)) (Ev.cast (Ev.sliceL (y := some ((4 : Nat) : Int)) (Ev.var (i := 0) rfl rfl) .none (.int Ev.int) (by simp; omega)) (by rw [cut_to, ← List.map_take])) (.lst _) (.mk' [] [] .nil) (by rintro _ ⟨a, rfl⟩; exact slots_no _) (by simp; omega) ⟨none, rfl⟩ ?_) (show _ = (drawnPasses script).map D.int by unfold drawnPasses; rw [List.map_map]; rfl)) rfl (swaps_local rfl (by decide))
  rintro i x ρi hx ⟨a, rfl⟩
  exact ⟨_, As.name (i := 0) (by decide) rfl (.inl rfl), ⟨some _, rfl⟩, Ev.bin (Ev.bin (Ev.bin (Ev.var (i := 0) rfl rfl) Ev.int (p_mod (by decide))) Ev.int (p_div (by decide) (by decide))) Ev.int (p_mod (by decide))⟩
theorem rangeD_downs (h : Nat) : rangeD (h : Int) h (-1) = (downs h).map D.int := by
  unfold rangeD downs
  rw [List.map_map]
  refine List.map_congr_left fun j _ => ?_
  show D.int ((h : Int) + (j : Int) * (-1)) = D.int ((h : Int) - (j : Nat))
  rw [show (h : Int) + (j : Int) * (-1) = (h : Int) - (j : Nat) by omega]
theorem law_s5 (G : Glb w T mg mb f b3f) {dp : List Int} {h : Nat} (hd : dp.length ≤ 1000) (hh : h < 1000) :
    Ex pw w T cxLaw (k + 1 + 1) [x0, x1, x2, x3, x4, x5, x6, some (.imm (.int h)), some (.imm (intsD dp)), x9, x10, x11, x12, x13, x14, x15, x16, x17, x18, x19, x20] (lawSt 5) (fun o => o = .next [x0, x1, x2, x3, x4, x5, x6, some (.imm (.int h)), some (.imm (intsD dp)), some (.imm (intsD (passesOf dp h))), x10, x11, x12, x13, x14, x15, x16, x17, x18, x19, x20]) := by
  obtain ⟨h1, h2⟩ := small_down0 (p := h) (by omega)
  refine Ex.assign (i := 9) law_nd rfl law_cellw (Ev.cast (Ev.bin (Ev.bin (Ev.cast (Ev.sliceL (y := some ((2 : Nat) : Int)) (Ev.var (i := 8) rfl rfl) .none (.int Ev.int) (by simp; omega)) (by rw [cut_to]))
    (Ev.callT (Ev.blt G.top rfl G.list.1 G.list.2) (.cons (Ev.callT (Ev.blt G.top rfl G.range.1 G.range.2) (.cons (Ev.var (i := 7) rfl rfl) rfl (.cons Ev.int rfl (.cons (Ev.neg Ev.int) rfl .nil))) (hp := p_range3 (by decide) (by decide))) rfl .nil) (hp := p_list_rng h1 h2 (by omega))) (p_add_lst (by simp [rangeD]; omega)))
    (Ev.cast (Ev.sliceL (x := some ((2 : Nat) : Int)) (Ev.var (i := 8) rfl rfl) (.int Ev.int) .none (by simp; omega)) (by rw [cut_from])) (p_add_lst (by simp [rangeD]; omega))) ?_) rfl
  rw [rangeD_downs]
  unfold passesOf intsD
  rw [List.map_append, List.map_append, List.map_take, List.map_drop]
theorem law_s6 (G : Glb w T mg mb f b3f) {l : List Dr} (hl : l.length ≤ 14) (hok : ∀ x ∈ l, DrOk b3f x) :
    Ex pw w T cxLaw (k + 1 + 1) [x0, some (.imm (drsD l)), x2, x3, x4, x5, x6, x7, x8, x9, x10, x11, x12, x13, x14, x15, x16, x17, x18, x19, x20] (lawSt 6) (fun o => o = .next [x0, some (.imm (drsD l)), x2, x3, x4, x5, x6, x7, x8, x9, some (.imm (.lst ((shownOf (l.map fun x => x.code.toNat)).map shD))), x11, x12, x13, x14, x15, x16, x17, x18, x19, x20]) := by
  refine Ex.assign (i := 10) law_nd rfl (.inl rfl) (Ev.callF (Ev.glob G.top rfl G.shown.1) (.cons (EvF.ev (CompF.ev (CompF.cast (CompF.mapL (own := ["code", "role", "word"]) (caps := []) (xs := l) (g := Dr.d) (h := fun x => .str ⟨#[x.code.toNat]⟩) (fun ρ => ∃ a b c, ρ = slots [a, b, c])
      (d := drsD l) (Ev.var (i := 1) rfl rfl) (.lst _) (.mk' [] [] .nil) (by rintro _ ⟨a, b, c, rfl⟩; exact slots_no _) (by omega) ⟨none, none, none, rfl⟩ ?_) (show _ = (l.map fun x => x.code.toNat).map fun c => D.str ⟨#[c]⟩ by rw [List.map_map]; rfl)))) rfl .nil) (shown_fn G (by simp; omega))) rfl
  rintro i x ρi hx ⟨a, b, c, rfl⟩
  have ho := hok x (List.mem_of_getElem? hx)
  exact ⟨_, As.three (i := 0) (j := 1) (l := 2) (by decide) rfl rfl rfl (.inl rfl) (.inl rfl) (.inl rfl), ⟨some _, some _, some _, rfl⟩, Ev.callB (Ev.blt G.top rfl G.chr.1 G.chr.2) (.cons (Ev.var (i := 0) rfl rfl) rfl .nil) (hp := p_chr ho.lo ho.hi)⟩
end
end Mine
end

section
open PySem PySem.W PyProof.Rows
set_option maxRecDepth 100000
namespace Mine
theorem octs_flat_len {α : Type} (c : α → Int) (n : Nat) (m : α → Bool) (xs : List α) : (xs.flatMap fun x => octs (c x) n (m x)).length = n * xs.length := by
  induction xs with
  | nil => simp
  | cons x xs ih => rw [List.flatMap_cons, List.length_append, ih, List.length_cons, Nat.mul_succ]; simp [octs]; omega
theorem octs_flat_range {α : Type} (c : α → Int) (n : Nat) (m : α → Bool) (xs : List α) : ∀ y ∈ xs.flatMap fun x => octs (c x) n (m x), 0 ≤ y ∧ y < 256 := by
  intro y hy
  obtain ⟨x, _, hy⟩ := List.mem_flatMap.mp hy
  exact octs_range _ _ _ y hy
theorem bytes_flat {α : Type} (c : α → Int) (n : Nat) (m : α → Bool) (lv : α → Int) (xs : List α) : byteArr (xs.flatMap fun x => octs (c x) n (m x)) = (flatC (xs.map fun x => (cellU (c x) n (m x), u8 (lv x)))).toArray := by
  rw [byteArr_u8, List.map_flatMap]
  unfold flatC
  rw [List.flatMap_map]
  rfl
theorem bytes_lev {α : Type} (c : α → Int) (n : Nat) (m : α → Bool) (lv : α → Int) (xs : List α) : byteArr (xs.map lv) = (levC (xs.map fun x => (cellU (c x) n (m x), u8 (lv x)))).toArray := by
  rw [byteArr_u8]
  unfold levC
  rw [List.map_map, List.map_map]
  rfl
noncomputable def spelledOf (b3f : Int → Option Str) (sh : List (Nat × Int)) : List (Nat × Int) := sh.flatMap fun x => (mapB3 b3f x.1).cps.toList.map fun c => (c, x.2)
theorem passC_chunks {least : Int} {n : Nat} : ∀ (m : Nat) (l : List Cell), l.length ≤ m → (∀ x ∈ l, x.1.length = n) → (passC least l).length = l.length ∧ ∀ x ∈ passC least l, x.1.length = n
  | 0, l, h, _ => by
    obtain rfl : l = [] := List.length_eq_zero_iff.mp (by omega)
    rw [passC_nil]; exact ⟨rfl, by intro x hx; cases hx⟩
  | m + 1, [], _, _ => by rw [passC_nil]; exact ⟨rfl, by intro x hx; cases hx⟩
  | m + 1, x :: xs, h, hl => by
    have hs := List.takeWhile_append_dropWhile (p := geL least) (l := xs)
    have hlen := congrArg List.length hs
    rw [List.length_append] at hlen
    simp only [List.length_cons] at h
    cases hg : geL least x with
    | false =>
      rw [passC_lo hg]
      obtain ⟨h1, h2⟩ := passC_chunks (least := least) m xs (by omega) (fun y hy => hl y (List.mem_cons_of_mem _ hy))
      refine ⟨by simp [h1], fun y hy => ?_⟩
      rcases List.mem_cons.mp hy with rfl | hy
      · exact hl _ List.mem_cons_self
      · exact h2 y hy
    | true =>
      rw [passC_hi hg]
      obtain ⟨h1, h2⟩ := passC_chunks (least := least) m (xs.dropWhile (geL least)) (by omega) (fun y hy => hl y (List.mem_cons_of_mem _ (by rw [← hs]; exact List.mem_append_right _ hy)))
      refine ⟨by rw [List.length_append, h1]; simp [turnC]; omega, fun y hy => ?_⟩
      rcases List.mem_append.mp hy with hy | hy
      · simp only [turnC, List.mem_map, List.mem_reverse] at hy
        obtain ⟨u, hu, rfl⟩ := hy
        rw [List.length_reverse]
        rcases List.mem_cons.mp hu with rfl | hu
        · exact hl _ List.mem_cons_self
        · exact hl u (List.mem_cons_of_mem _ (by rw [← hs]; exact List.mem_append_left _ hu))
      · exact h2 y hy
noncomputable def passesC (ps : List Int) (l : List Cell) : List Cell := ps.foldl (fun l p => passC p l) l
theorem passesC_chunks {n : Nat} : ∀ (ps : List Int) (l : List Cell), (∀ x ∈ l, x.1.length = n) → (passesC ps l).length = l.length ∧ ∀ x ∈ passesC ps l, x.1.length = n
  | [], l, h => ⟨rfl, h⟩
  | p :: ps, l, h => by
    obtain ⟨h1, h2⟩ := passC_chunks (least := p) l.length l (Nat.le_refl _) h
    obtain ⟨h3, h4⟩ := passesC_chunks ps (passC p l) h2
    exact ⟨h3.trans h1, h4⟩
theorem signC_len (n : Nat) (x : Nat × Int) : (signC n x).1.length = n := by simp [signC, cellU, octs]
noncomputable def oddOf (ps : List Int) (h : Nat) : List Bool := (List.range (h + 1)).map fun lv : Nat => ((ps.filter fun p => decide (p ≤ (lv : Int))).length : Int) % 2 == 1
noncomputable def mt0 : Mt := ⟨0, 0, ""⟩
noncomputable def dueOf (ms : List Mt) (odd : List Bool) : List Mt := (List.range ms.length).map fun i : Nat => ms.getD ((aheadOf (ms.map Mt.level) odd).idxOf (i : Int)) mt0
section
variable {w : World} {T : Imm} {mg mb : Str → Option Value} {f : Fs} {b3f : Int → Option Str} {k : Nat} {ρ : List (Option B)}
variable {x0 x1 x2 x3 x4 x5 x6 x7 x8 x9 x10 x11 x12 x13 x14 x15 x16 x17 x18 x19 x20 : Option B}
theorem law_s7 (G : Glb w T mg mb f b3f) {sh : List (Nat × Int)} (hl : sh.length ≤ 1000) (hlv : ∀ x ∈ sh, 0 ≤ x.2 ∧ x.2 < 256) :
    Ex pw w T cxLaw (k + 1 + 1) [x0, x1, x2, x3, x4, x5, x6, x7, x8, x9, some (.imm (.lst (sh.map shD))), x11, x12, x13, x14, x15, x16, x17, x18, x19, x20] (lawSt 7) (fun o => o = .next [x0, x1, x2, x3, x4, x5, x6, x7, x8, x9, some (.imm (.lst (sh.map shD))), some (.imm (tapeD (sh.map (signC 3)))), x12, x13, x14, x15, x16, x17, x18, x19, x20]) := by
  refine Ex.assign (i := 11) law_nd rfl (.inl rfl) (Ev.cast (Ev.tuple (.cons (Ev.callT (Ev.blt G.top rfl G.bytes.1 G.bytes.2) (.cons (EvF.ev (CompF.ev (CompF.cast (CompF.flatL (own := ["sign", "level", "octet"]) (caps := []) (xs := sh) (g := shD) (ys := fun x => octs x.1 3 false) (d₂ := fun x => .lst (cellD x.1 3 false)) (g₂ := fun x y => .int y) (h := fun x y => .int y)
      (fun ρ => ∃ a b c, ρ = slots [a, b, c]) (fun x ρ => ∃ c, ρ = slots [some (.str ⟨#[x.1]⟩), some (.int x.2), c]) (d := .lst (sh.map shD)) (Ev.var (i := 10) rfl rfl) (.lst _) (.mk' [] [] .nil) (by rintro _ ⟨a, b, c, rfl⟩; exact slots_no _) (by rw [octs_flat_len (fun x : Nat × Int => (x.1 : Int)) 3 (fun _ => false)]; omega) ⟨none, none, none, rfl⟩ ?_ (by rintro x _ ⟨c, rfl⟩; exact ⟨_, _, _, rfl⟩) ?_)
      (show _ = (sh.flatMap fun x => octs x.1 3 false).map D.int by rw [List.map_flatMap])))) rfl .nil) (hp := p_bytes_list (octs_flat_range (fun x : Nat × Int => (x.1 : Int)) 3 (fun _ => false) sh) (by rw [octs_flat_len (fun x : Nat × Int => (x.1 : Int)) 3 (fun _ => false)]; omega))) rfl
    (.cons (Ev.callT (Ev.blt G.top rfl G.bytes.1 G.bytes.2) (.cons (EvF.ev (CompF.ev (CompF.cast (CompF.mapL (own := ["sign", "level"]) (caps := []) (xs := sh) (g := shD) (h := fun x => .int x.2) (fun ρ => ∃ a b, ρ = slots [a, b])
      (d := .lst (sh.map shD)) (Ev.var (i := 10) rfl rfl) (.lst _) (.mk' [] [] .nil) (by rintro _ ⟨a, b, rfl⟩; exact slots_no _) (by omega) ⟨none, none, rfl⟩ ?_) (show _ = (sh.map fun x => x.2).map D.int by rw [List.map_map]; rfl)))) rfl .nil) (hp := p_bytes_list (fun n hn => by obtain ⟨x, hx, rfl⟩ := List.mem_map.mp hn; exact hlv x hx) (by simp; omega))) rfl .nil)))
    (by rw [bytes_flat (fun x : Nat × Int => (x.1 : Int)) 3 (fun _ => false) (fun x => x.2), bytes_lev (fun x : Nat × Int => (x.1 : Int)) 3 (fun _ => false) (fun x => x.2)]; rfl)) rfl
  · rintro i x ρi hx ⟨a, b, c, rfl⟩
    refine ⟨_, As.two (i := 0) (j := 1) (by decide) rfl rfl (.inl rfl) (.inl rfl), Ev.callF (Ev.glob G.top rfl G.cell.1) (.cons (Ev.callB (Ev.blt G.top rfl G.ord.1 G.ord.2) (.cons (Ev.var (i := 0) rfl rfl) rfl .nil) (hp := p_ord)) rfl (.cons Ev.int rfl (.cons Ev.bool rfl .nil))) (cell_fn G (n := 3) (by decide)), ?_, ⟨_, rfl⟩⟩
    rw [← cellD_octs]; exact .lst _
  · rintro i j x y ρi hx hy ⟨c, rfl⟩
    exact ⟨_, As.name (i := 2) (by decide) rfl (.inl rfl), ⟨some _, rfl⟩, Ev.var (i := 2) rfl rfl⟩
  · rintro i x ρi hx ⟨a, b, rfl⟩
    exact ⟨_, As.two (i := 0) (j := 1) (by decide) rfl rfl (.inl rfl) (.inl rfl), ⟨some _, some _, rfl⟩, Ev.var (i := 1) rfl rfl⟩
theorem law_s8 (G : Glb w T mg mb f b3f) {sh : List (Nat × Int)} (hl : (spelledOf b3f sh).length ≤ 1000) (hfit : ∀ x ∈ sh, Builtin.Str.tooLong (Txt.lower ⟨#[x.1]⟩).length = false) :
    Ex pw w T cxLaw (k + 1 + 1) [x0, x1, x2, x3, x4, x5, x6, x7, x8, x9, some (.imm (.lst (sh.map shD))), x11, x12, x13, x14, x15, x16, x17, x18, x19, x20] (lawSt 8) (fun o => o = .next [x0, x1, x2, x3, x4, x5, x6, x7, x8, x9, some (.imm (.lst (sh.map shD))), x11, some (.imm (.lst ((spelledOf b3f sh).map shD))), x13, x14, x15, x16, x17, x18, x19, x20]) := by
  have hlen : (sh.flatMap fun x => (mapB3 b3f x.1).cps.toList).length = (spelledOf b3f sh).length := by
    unfold spelledOf; rw [List.length_flatMap, List.length_flatMap]; simp
  refine Ex.assignC (i := 12) law_nd rfl rfl (CompF.cast (CompF.flatL (own := ["sign", "level", "letter"]) (caps := []) (xs := sh) (g := shD) (ys := fun x => (mapB3 b3f x.1).cps.toList) (d₂ := fun x => .str (mapB3 b3f x.1)) (g₂ := fun x y => .str ⟨#[y]⟩) (h := fun x y => shD (y, x.2))
      (fun ρ => ∃ a b c, ρ = slots [a, b, c]) (fun x ρ => ∃ c, ρ = slots [some (.str ⟨#[x.1]⟩), some (.int x.2), c]) (d := .lst (sh.map shD)) (Ev.var (i := 10) rfl rfl) (.lst _) (.mk' [] [] .nil) (by rintro _ ⟨a, b, c, rfl⟩; exact slots_no _) (by omega) ⟨none, none, none, rfl⟩ ?_ (by rintro x _ ⟨c, rfl⟩; exact ⟨_, _, _, rfl⟩) ?_)
      (show _ = (spelledOf b3f sh).map shD by unfold spelledOf; rw [List.map_flatMap]; congr 1; funext x; rw [List.map_map]; rfl)) rfl (swaps_local rfl (by decide))
  · rintro i x ρi hx ⟨a, b, c, rfl⟩
    exact ⟨_, As.two (i := 0) (j := 1) (by decide) rfl rfl (.inl rfl) (.inl rfl), Ev.callF (Ev.glob G.top rfl G.b3.1) (.cons (Ev.var (i := 0) rfl rfl) rfl .nil) (b3_fn G (hfit x (List.mem_of_getElem? hx))), .str _, ⟨_, rfl⟩⟩
  · rintro i j x y ρi hx hy ⟨c, rfl⟩
    exact ⟨_, As.name (i := 2) (by decide) rfl (.inl rfl), ⟨some _, rfl⟩, Ev.tuple (.cons (Ev.var (i := 2) rfl rfl) rfl (.cons (Ev.var (i := 1) rfl rfl) rfl .nil))⟩
theorem law_s9 (G : Glb w T mg mb f b3f) {sh : List (Nat × Int)} (hl : sh.length ≤ 1000) (hlv : ∀ x ∈ sh, 0 ≤ x.2 ∧ x.2 < 256) :
    Ex pw w T cxLaw (k + 1 + 1) [x0, x1, x2, x3, x4, x5, x6, x7, x8, x9, x10, x11, some (.imm (.lst (sh.map shD))), x13, x14, x15, x16, x17, x18, x19, x20] (lawSt 9) (fun o => o = .next [x0, x1, x2, x3, x4, x5, x6, x7, x8, x9, x10, x11, some (.imm (.lst (sh.map shD))), some (.imm (tapeD (sh.map (signC 2)))), x14, x15, x16, x17, x18, x19, x20]) := by
  refine Ex.assign (i := 13) law_nd rfl (.inl rfl) (Ev.cast (Ev.tuple (.cons (Ev.callT (Ev.blt G.top rfl G.bytes.1 G.bytes.2) (.cons (EvF.ev (CompF.ev (CompF.cast (CompF.flatL (own := ["letter", "level", "octet"]) (caps := []) (xs := sh) (g := shD) (ys := fun x => octs x.1 2 false) (d₂ := fun x => .lst (cellD x.1 2 false)) (g₂ := fun x y => .int y) (h := fun x y => .int y)
      (fun ρ => ∃ a b c, ρ = slots [a, b, c]) (fun x ρ => ∃ c, ρ = slots [some (.str ⟨#[x.1]⟩), some (.int x.2), c]) (d := .lst (sh.map shD)) (Ev.var (i := 12) rfl rfl) (.lst _) (.mk' [] [] .nil) (by rintro _ ⟨a, b, c, rfl⟩; exact slots_no _) (by rw [octs_flat_len (fun x : Nat × Int => (x.1 : Int)) 2 (fun _ => false)]; omega) ⟨none, none, none, rfl⟩ ?_ (by rintro x _ ⟨c, rfl⟩; exact ⟨_, _, _, rfl⟩) ?_)
      (show _ = (sh.flatMap fun x => octs x.1 2 false).map D.int by rw [List.map_flatMap])))) rfl .nil) (hp := p_bytes_list (octs_flat_range (fun x : Nat × Int => (x.1 : Int)) 2 (fun _ => false) sh) (by rw [octs_flat_len (fun x : Nat × Int => (x.1 : Int)) 2 (fun _ => false)]; omega))) rfl
    (.cons (Ev.callT (Ev.blt G.top rfl G.bytes.1 G.bytes.2) (.cons (EvF.ev (CompF.ev (CompF.cast (CompF.mapL (own := ["letter", "level"]) (caps := []) (xs := sh) (g := shD) (h := fun x => .int x.2) (fun ρ => ∃ a b, ρ = slots [a, b])
      (d := .lst (sh.map shD)) (Ev.var (i := 12) rfl rfl) (.lst _) (.mk' [] [] .nil) (by rintro _ ⟨a, b, rfl⟩; exact slots_no _) (by omega) ⟨none, none, rfl⟩ ?_) (show _ = (sh.map fun x => x.2).map D.int by rw [List.map_map]; rfl)))) rfl .nil) (hp := p_bytes_list (fun n hn => by obtain ⟨x, hx, rfl⟩ := List.mem_map.mp hn; exact hlv x hx) (by simp; omega))) rfl .nil)))
    (by rw [bytes_flat (fun x : Nat × Int => (x.1 : Int)) 2 (fun _ => false) (fun x => x.2), bytes_lev (fun x : Nat × Int => (x.1 : Int)) 2 (fun _ => false) (fun x => x.2)]; rfl)) rfl
  · rintro i x ρi hx ⟨a, b, c, rfl⟩
    refine ⟨_, As.two (i := 0) (j := 1) (by decide) rfl rfl (.inl rfl) (.inl rfl), Ev.callF (Ev.glob G.top rfl G.cell.1) (.cons (Ev.callB (Ev.blt G.top rfl G.ord.1 G.ord.2) (.cons (Ev.var (i := 0) rfl rfl) rfl .nil) (hp := p_ord)) rfl (.cons Ev.int rfl (.cons Ev.bool rfl .nil))) (cell_fn G (n := 2) (by decide)), ?_, ⟨_, rfl⟩⟩
    rw [← cellD_octs]; exact .lst _
  · rintro i j x y ρi hx hy ⟨c, rfl⟩
    exact ⟨_, As.name (i := 2) (by decide) rfl (.inl rfl), ⟨some _, rfl⟩, Ev.var (i := 2) rfl rfl⟩
  · rintro i x ρi hx ⟨a, b, rfl⟩
    exact ⟨_, As.two (i := 0) (j := 1) (by decide) rfl rfl (.inl rfl) (.inl rfl), ⟨some _, some _, rfl⟩, Ev.var (i := 1) rfl rfl⟩
theorem law_s10 (G : Glb w T mg mb f b3f) {ps : List Int} {a b : List Cell} {y : Option D} (ha : ∀ x ∈ a, x.1.length = 3) (hb : ∀ x ∈ b, x.1.length = 2) (hal : a.length ≤ 1000) (hbl : b.length ≤ 1000) :
    ExG pw w T cxLaw (k + 1 + 1) inLaw [x0, x1, x2, x3, x4, x5, x6, x7, x8, some (.imm (intsD ps)), x10, some (.imm (tapeD a)), x12, some (.imm (tapeD b)), Option.map B.imm y, x15, x16, x17, x18, x19, x20] (lawSt 10) (fun o => ∃ z : Option D, o = .next [x0, x1, x2, x3, x4, x5, x6, x7, x8, some (.imm (intsD ps)), x10, some (.imm (tapeD (passesC ps a))), x12, some (.imm (tapeD (passesC ps b))), Option.map B.imm z, x15, x16, x17, x18, x19, x20]) := by
  refine ExG.for (d := intsD ps) (ds := ps.map D.int) (Ev.var (i := 9) rfl rfl) (.lst _) (fun i ρ' => ∃ z : Option D, ρ' = [x0, x1, x2, x3, x4, x5, x6, x7, x8, some (.imm (intsD ps)), x10, some (.imm (tapeD (passesC (ps.take i) a))), x12, some (.imm (tapeD (passesC (ps.take i) b))), Option.map B.imm z, x15, x16, x17, x18, x19, x20]) ⟨y, rfl⟩ ?_ ?_
  · rintro i di ρi hdi ⟨z, rfl⟩
    rw [List.getElem?_map] at hdi
    obtain ⟨p, hp, rfl⟩ := Option.map_eq_some_iff.mp hdi
    obtain ⟨a1, a2⟩ := passesC_chunks (ps.take i) a ha
    obtain ⟨b1, b2⟩ := passesC_chunks (ps.take i) b hb
    have e : ∀ c : List Cell, passesC (ps.take (i + 1)) c = passC p (passesC (ps.take i) c) := fun c => foldl_take_succ (fun l p => passC p l) c ps i p hp
    rw [e a, e b]
    generalize passesC (ps.take i) a = a' at *
    generalize passesC (ps.take i) b = b' at *
    refine ⟨_, As.name (i := 14) law_nd rfl (.inl rfl), ?_⟩
    refine ExsG.cons (ExG.assign (i := 11) law_nd rfl (.inl rfl) (EvG.callF (Ev.glob G.top rfl G.passed.1) (.cons (Ev.var (i := 11) rfl rfl) rfl (.cons Ev.int rfl (.cons (Ev.var (i := 14) rfl rfl) rfl .nil))) (passed_fn G (n := 3) (by decide) (by decide) a2 (by omega))) ?_)
    refine ExsG.cons (ExG.assign (i := 13) law_nd rfl (.inl rfl) (EvG.callF (Ev.glob G.top rfl G.passed.1) (.cons (Ev.var (i := 13) rfl rfl) rfl (.cons Ev.int rfl (.cons (Ev.var (i := 14) rfl rfl) rfl .nil))) (passed_fn G (n := 2) (by decide) (by decide) b2 (by omega))) ?_)
    exact ExsG.nil ⟨some _, rfl⟩
  · rintro ρ' ⟨z, rfl⟩
    rw [List.length_map, List.take_length]
    exact ⟨_, rfl⟩
theorem law_s11 (G : Glb w T mg mb f b3f) {ps : List Int} {h : Nat} (hh : h ≤ 1000) (hp : ps.length ≤ 2000) :
    Ex pw w T cxLaw (k + 1 + 1) [x0, x1, x2, x3, x4, x5, x6, some (.imm (.int h)), x8, some (.imm (intsD ps)), x10, x11, x12, x13, x14, x15, x16, x17, x18, x19, x20] (lawSt 11) (fun o => o = .next [x0, x1, x2, x3, x4, x5, x6, some (.imm (.int h)), x8, some (.imm (intsD ps)), x10, x11, x12, x13, x14, some (.imm (.lst ((oddOf ps h).map .bool))), x16, x17, x18, x19, x20]) := by
  have e1 : ((h : Int) + 1) = ((h + 1 : Nat) : Int) := by omega
  refine Ex.assign (i := 15) law_nd rfl law_cellw (EvF.ev (CompF.ev (CompF.cast (CompF.mapL (own := ["level"]) (caps := [("passes", intsD ps)]) (xs := List.range (h + 1)) (g := fun i : Nat => D.int i) (h := fun lv : Nat => .bool (((ps.filter fun p => decide (p ≤ (lv : Int))).length : Int) % 2 == 1)) (fun ρ => ∃ a, ρ = slots [a, some (intsD ps)])
      (d := .rng 0 (h + 1 : Nat) 1) (Ev.callT (Ev.blt G.top rfl G.range.1 G.range.2) (.cons (Ev.cast (Ev.bin (Ev.var (i := 7) rfl rfl) Ev.int p_add) (by rw [e1])) rfl .nil) (hp := p_range1)) (range_iter (by omega)) (.mk' ["passes"] ["level"] (.cons (.mk 9) .nil) (cown := by intro x hx n; simp at hx; subst hx; rfl)) (by rintro _ ⟨a, rfl⟩; exact slots_no _) (by simp; omega) ⟨none, rfl⟩ ?_)
      (show _ = (oddOf ps h).map D.bool by unfold oddOf; rw [List.map_map]; rfl)))) rfl (hs := fun env h _ => swaps_cell rfl env h)
  rintro i lv ρi hlv ⟨a, rfl⟩
  refine ⟨_, As.name (i := 0) (by decide) rfl (.inr ⟨rfl, by decide⟩), ⟨some _, rfl⟩, ?_⟩
  have hfl : (((ps.filter fun p => decide (p ≤ (lv : Int))).map D.int).length : Int) = ((ps.filter fun p => decide (p ≤ (lv : Int))).length : Nat) := by simp
  refine Ev.cmp (Ev.bin (Ev.cast (Ev.callB (Ev.blt G.top rfl G.len.1 G.len.2) (.cons (EvF.ev (CompF.ev (CompF.filterL (own := ["p"]) (caps := [("level", .int (lv : Nat))]) (xs := ps) (g := D.int) (p := fun p => decide (p ≤ (lv : Int))) (h := D.int) (fun ρ => ∃ a, ρ = slots [a, some (.int (lv : Nat))])
      (d := intsD ps) (Ev.var (i := 1) rfl rfl) (.lst _) (.mk' ["level"] [] (.cons (.mk 0) .nil)) (by rintro _ ⟨a, rfl⟩; exact slots_no _) (by omega) ⟨none, rfl⟩ ?_))) rfl .nil) (hp := p_len_lst (by rw [List.length_map]; have := List.length_filter_le (fun p => decide (p ≤ (lv : Int))) ps; omega))) (by rw [hfl])) Ev.int (p_mod (by decide))) Ev.int p_eq
  rintro j p ρj hpj ⟨a', rfl⟩
  exact ⟨_, As.name (i := 0) (by decide) rfl (.inl rfl), .one (Tr.cmp (Ev.var (i := 0) rfl rfl) (Ev.var (i := 1) rfl rfl) p_le), ⟨some _, rfl⟩, fun _ => Ev.var (i := 0) rfl rfl⟩
theorem law_s12 (G : Glb w T mg mb f b3f) {ms : List Mt} {odd : List Bool} (hl : ms.length ≤ 14) (h0 : ∀ x ∈ ms.map Mt.level, 0 ≤ x ∧ x < odd.length) (hperm : ∀ i : Nat, i < (ms.map Mt.level).length → (i : Int) ∈ aheadOf (ms.map Mt.level) odd) (hlay : PyData.layable0 (.list ((aheadOf (ms.map Mt.level) odd).map .int)) = true) (hodd : odd.length ≤ 1000)
    (hidx : ∀ i : Nat, i < ms.length → (aheadOf (ms.map Mt.level) odd).idxOf (i : Int) < ms.length) :
    Ex pw w T cxLaw (k + 1 + 1) [x0, x1, x2, x3, x4, x5, some (.imm (mtsD ms)), x7, x8, x9, x10, x11, x12, x13, x14, some (.imm (.lst (odd.map .bool))), x16, x17, x18, x19, x20] (lawSt 12) (fun o => o = .next [x0, x1, x2, x3, x4, x5, some (.imm (mtsD ms)), x7, x8, x9, x10, x11, x12, x13, x14, some (.imm (.lst (odd.map .bool))), some (.imm (mtsD (dueOf ms odd))), x17, x18, x19, x20]) := by
  have hlm : (ms.map Mt.level).length = ms.length := by simp
  refine Ex.assignC (i := 16) law_nd rfl rfl (CompF.cast (CompF.mapL (own := ["k"]) (caps := [("meant", mtsD ms)]) (xs := List.range ms.length) (g := fun i : Nat => D.int ((aheadOf (ms.map Mt.level) odd).idxOf (i : Int) : Nat)) (h := fun i : Nat => (ms.getD ((aheadOf (ms.map Mt.level) odd).idxOf (i : Int)) mt0).d) (fun ρ => ∃ a, ρ = slots [a, some (mtsD ms)])
      (d := .lst ((List.range ms.length).map fun i : Nat => D.int ((aheadOf (ms.map Mt.level) odd).idxOf (i : Int) : Nat)))
      (Ev.cast (Ev.callF (Ev.glob G.top rfl G.order.1) (.cons (ev_levels (i := 6) rfl rfl (by omega)) rfl (.cons (Ev.var (i := 15) rfl rfl) rfl .nil)) (order_fn G (by omega) h0 hperm hlay hodd)) (by rw [hlm])) (.lst _) (.mk' ["meant"] [] (.cons (.mk 6) .nil)) (by rintro _ ⟨a, rfl⟩; exact slots_no _) (by simp; omega) ⟨none, rfl⟩ ?_)
      (show _ = (dueOf ms odd).map Mt.d by unfold dueOf; rw [List.map_map]; rfl)) rfl (swaps_local rfl (by decide))
  rintro i j ρi hj ⟨a, rfl⟩
  have hi : j < ms.length := by simpa using List.mem_of_getElem? hj
  refine ⟨_, As.name (i := 0) (by decide) rfl (.inl rfl), ⟨some _, rfl⟩, Ev.sub (Ev.var (i := 1) rfl rfl) (Ev.var (i := 0) rfl rfl) (p_item_lst (by omega) ?_ (hi := by have := hidx j hi; omega))⟩
  rw [Int.toNat_natCast, List.getElem?_map, List.getD_eq_getElem?_getD, List.getElem?_eq_getElem (hidx j hi)]; rfl
end
end Mine
end

section
open PySem PySem.W PyProof.Rows
set_option maxRecDepth 100000
namespace Mine
noncomputable def dueC (odd : List Bool) (m : Mt) : Cell := (cellU m.code 3 (oddAt odd m.level), u8 m.level)
noncomputable def spC (odd : List Bool) (x : Nat × Int) : Cell := (cellU x.1 2 (oddAt odd x.2), u8 x.2)
noncomputable def wordAs (odd : List Bool) (m : Mt) : Str := if oddAt odd m.level then revS m.word else m.word
noncomputable def spelledAs (odd : List Bool) (due : List Mt) : List (Nat × Int) := due.flatMap fun m => (wordAs odd m).cps.toList.map fun c => (c, m.level)
theorem odd_at {odd : List Bool} {x : Int} (h : 0 ≤ x ∧ x < odd.length) : (odd.map D.bool)[x.toNat]? = some (.bool (oddAt odd x)) := by
  rw [List.getElem?_map]
  unfold oddAt
  rw [List.getElem?_eq_getElem (by omega)]; rfl
theorem mt_at {due : List Mt} {j : Nat} (h : j < due.length) : (due.map Mt.d)[((j : Nat) : Int).toNat]? = some (due[j]).d := by
  rw [Int.toNat_natCast, List.getElem?_map, List.getElem?_eq_getElem h]; rfl
/-- the mirror of three by three -/
theorem flatC_get {n : Nat} : ∀ {l : List Cell} {c j : Nat} (h : ∀ x ∈ l, x.1.length = n) (hc : c < l.length), j < n → (flatC l).getD (c * n + j) 0 = (l[c]).1.getD j 0
  | [], c, j, _, hc, _ => absurd hc (Nat.not_lt_zero _)
  | x :: l, 0, j, h, _, hj => by
    have e : flatC (x :: l) = x.1 ++ flatC l := rfl
    rw [e, Nat.zero_mul, Nat.zero_add, List.getD_eq_getElem?_getD, List.getElem?_append_left (by rw [h x List.mem_cons_self]; exact hj), ← List.getD_eq_getElem?_getD]; rfl
  | x :: l, c + 1, j, h, hc, hj => by
    have e : flatC (x :: l) = x.1 ++ flatC l := rfl
    have hx := h x List.mem_cons_self
    rw [e, List.getD_eq_getElem?_getD, List.getElem?_append_right (by rw [hx, Nat.succ_mul]; omega), show (c + 1) * n + j - x.1.length = c * n + j by rw [hx, Nat.succ_mul]; omega, ← List.getD_eq_getElem?_getD]
    exact flatC_get (fun y hy => h y (List.mem_cons_of_mem _ hy)) (by simpa using hc) hj
theorem chunk_at {n : Nat} {l : List Cell} {c : Nat} (h : ∀ x ∈ l, x.1.length = n) (hc : c < l.length) : ((flatC l).drop (n * c)).take n = (l[c]).1 := by
  rw [flatC_drop c h, List.drop_eq_getElem_cons hc]
  have e : flatC (l[c] :: l.drop (c + 1)) = (l[c]).1 ++ flatC (l.drop (c + 1)) := rfl
  rw [e, List.take_append_of_le_length (by rw [h _ (List.getElem_mem hc)]; exact Nat.le_refl _), List.take_of_length_le (by rw [h _ (List.getElem_mem hc)]; exact Nat.le_refl _)]
theorem swapL_chunks {n : Nat} (hn : 0 < n) {l : List Cell} (h : ∀ x ∈ l, x.1.length = n) : swapL n (flatC l) = flatC (l.map fun x => (x.1.reverse, x.2)) := by
  have h' : ∀ x ∈ l.map fun x : Cell => (x.1.reverse, x.2), x.1.length = n := fun x hx => by
    obtain ⟨y, hy, rfl⟩ := List.mem_map.mp hx
    rw [List.length_reverse]; exact h y hy
  have hl := flatC_len h
  have hl' := flatC_len h'
  rw [List.length_map] at hl'
  apply List.ext_getElem
  · rw [hl']; simp [swapL, hl]
  · intro t h1 h2
    have ht : t < n * l.length := by simpa [swapL, hl] using h1
    have hc : t / n < l.length := (Nat.div_lt_iff_lt_mul hn).mpr (by rw [Nat.mul_comm]; exact ht)
    have hj := Nat.mod_lt t hn
    have hdm : t / n * n + t % n = t := by rw [Nat.mul_comm]; exact Nat.div_add_mod t n
    have e1 : (swapL n (flatC l))[t] = (flatC l).getD (t / n * n + (n - 1 - t % n)) 0 := by simp [swapL, swapAt]
    have e2 : (flatC (l.map fun x : Cell => (x.1.reverse, x.2)))[t] = (flatC (l.map fun x : Cell => (x.1.reverse, x.2))).getD (t / n * n + t % n) 0 := by
      rw [hdm, List.getD_eq_getElem?_getD, List.getElem?_eq_getElem h2]; rfl
    rw [e1, e2, flatC_get h hc (by omega), flatC_get h' (by simpa using hc) hj, List.getElem_map]
    have hk := h _ (List.getElem_mem hc)
    rw [List.getD_eq_getElem?_getD, List.getD_eq_getElem?_getD, List.getElem?_reverse (by rw [hk]; exact hj), hk]
theorem cellU_rev (code : Int) : (cellU code 3 true).reverse = cellU code 3 false := by rfl
theorem cellU3 (code : Int) : cellU code 3 false = [u8 (code / 65536 % 256), u8 (code / 256 % 256), u8 (code / 1 % 256)] := by rfl
theorem u8_toNat {n : Int} (h : 0 ≤ n ∧ n < 256) : ((u8 n).toNat : Int) = n := by
  unfold u8
  rw [Nat.toUInt8_eq, UInt8.toNat_ofNat']
  omega
section
variable {w : World} {T : Imm} {mg mb : Str → Option Value} {f : Fs} {b3f : Int → Option Str} {k : Nat} {ρ : List (Option B)}
variable {x0 x1 x2 x3 x4 x5 x6 x7 x8 x9 x10 x11 x12 x13 x14 x15 x16 x17 x18 x19 x20 : Option B}
theorem law_s13 (G : Glb w T mg mb f b3f) {due : List Mt} {odd : List Bool} (hl : due.length ≤ 1000) (hlv : ∀ m ∈ due, (0 ≤ m.level ∧ m.level < odd.length) ∧ m.level < 256) (hodd : odd.length ≤ 1000) :
    Ex pw w T cxLaw (k + 1 + 1) [x0, x1, x2, x3, x4, x5, x6, x7, x8, x9, x10, some (.imm (tapeD (due.map (dueC odd)))), x12, x13, x14, some (.imm (.lst (odd.map .bool))), some (.imm (mtsD due)), x17, x18, x19, x20] (lawSt 13) (fun o => o = .next [x0, x1, x2, x3, x4, x5, x6, x7, x8, x9, x10, some (.imm (tapeD (due.map (dueC odd)))), x12, x13, x14, some (.imm (.lst (odd.map .bool))), some (.imm (mtsD due)), x17, x18, x19, x20]) := by
  refine Ex.ite (b := false) (Tr.cmp (Ev.var (i := 11) rfl rfl) (Ev.cast (Ev.tuple (.cons (Ev.callT (Ev.blt G.top rfl G.bytes.1 G.bytes.2) (.cons (EvF.ev (CompF.ev (CompF.cast (CompF.flatL (own := ["code", "level", "word", "octet"]) (caps := [("odd", .lst (odd.map .bool))]) (xs := due) (g := Mt.d) (ys := fun m => octs m.code 3 (oddAt odd m.level)) (d₂ := fun m => .lst (cellD m.code 3 (oddAt odd m.level))) (g₂ := fun x y => .int y) (h := fun x y => .int y)
      (fun ρ => ∃ a b c d, ρ = slots [a, b, c, d, some (.lst (odd.map .bool))]) (fun m ρ => ∃ c d, ρ = slots [some (.int m.code), some (.int m.level), c, d, some (.lst (odd.map .bool))]) (d := mtsD due) (Ev.var (i := 16) rfl rfl) (.lst _) (.mk' ["odd"] [] (.cons (.mk 15) .nil)) (by rintro _ ⟨a, b, c, d, rfl⟩; exact slots_no _) (by rw [octs_flat_len Mt.code 3 (fun m => oddAt odd m.level)]; omega) ⟨none, none, none, none, rfl⟩ ?_ (by rintro x _ ⟨c, d, rfl⟩; exact ⟨_, _, _, _, rfl⟩) ?_)
      (show _ = (due.flatMap fun m => octs m.code 3 (oddAt odd m.level)).map D.int by rw [List.map_flatMap])))) rfl .nil) (hp := p_bytes_list (octs_flat_range Mt.code 3 (fun m => oddAt odd m.level) due) (by rw [octs_flat_len Mt.code 3 (fun m => oddAt odd m.level)]; omega))) rfl
    (.cons (Ev.callT (Ev.blt G.top rfl G.bytes.1 G.bytes.2) (.cons (EvF.ev (CompF.ev (CompF.cast (CompF.mapL (own := ["code", "level", "word"]) (caps := []) (xs := due) (g := Mt.d) (h := fun m => .int m.level) (fun ρ => ∃ a b c, ρ = slots [a, b, c])
      (d := mtsD due) (Ev.var (i := 16) rfl rfl) (.lst _) (.mk' [] [] .nil) (by rintro _ ⟨a, b, c, rfl⟩; exact slots_no _) (by omega) ⟨none, none, none, rfl⟩ ?_) (show _ = (due.map Mt.level).map D.int by rw [List.map_map]; rfl)))) rfl .nil) (hp := p_bytes_list (fun n hn => by obtain ⟨m, hm, rfl⟩ := List.mem_map.mp hn; have := hlv m hm; omega) (by simp; omega))) rfl .nil)))
    (show _ = tapeD (due.map (dueC odd)) by rw [bytes_flat Mt.code 3 (fun m => oddAt odd m.level) Mt.level, bytes_lev Mt.code 3 (fun m => oddAt odd m.level) Mt.level]; rfl)) p_ne_bytes2) (fun q => by cases q) (fun _ => Exs.nil rfl)
  · rintro i m ρi hm ⟨a, b, c, d, rfl⟩
    have hv := hlv m (List.mem_of_getElem? hm)
    refine ⟨_, As.three (i := 0) (j := 1) (l := 2) (by decide) rfl rfl rfl (.inl rfl) (.inl rfl) (.inl rfl), Ev.callF (Ev.glob G.top rfl G.cell.1) (.cons (Ev.var (i := 0) rfl rfl) rfl (.cons Ev.int rfl (.cons (Ev.sub (Ev.var (i := 4) rfl rfl) (Ev.var (i := 1) rfl rfl) (p_item_lst hv.1.1 (odd_at hv.1) (hi := by omega))) rfl .nil))) (cell_fn G (n := 3) (by decide)), ?_, ⟨some _, _, rfl⟩⟩
    rw [← cellD_octs]; exact .lst _
  · rintro i j m y ρi hm hy ⟨c, d, rfl⟩
    exact ⟨_, As.name (i := 3) (by decide) rfl (.inl rfl), ⟨_, some _, rfl⟩, Ev.var (i := 3) rfl rfl⟩
  · rintro i m ρi hm ⟨a, b, c, rfl⟩
    exact ⟨_, As.three (i := 0) (j := 1) (l := 2) (by decide) rfl rfl rfl (.inl rfl) (.inl rfl) (.inl rfl), ⟨some _, some _, some _, rfl⟩, Ev.var (i := 1) rfl rfl⟩
theorem law_s14 (G : Glb w T mg mb f b3f) {due : List Mt} {odd : List Bool} (hl : (spelledAs odd due).length ≤ 1000) (hlv : ∀ m ∈ due, 0 ≤ m.level ∧ m.level < odd.length) (hodd : odd.length ≤ 1000) (hw : ∀ m ∈ due, m.word.cps.size ≤ 100) :
    Ex pw w T cxLaw (k + 1 + 1) [x0, x1, x2, x3, x4, x5, x6, x7, x8, x9, x10, x11, x12, x13, x14, some (.imm (.lst (odd.map .bool))), some (.imm (mtsD due)), x17, x18, x19, x20] (lawSt 14) (fun o => o = .next [x0, x1, x2, x3, x4, x5, x6, x7, x8, x9, x10, x11, some (.imm (.lst ((spelledAs odd due).map shD))), x13, x14, some (.imm (.lst (odd.map .bool))), some (.imm (mtsD due)), x17, x18, x19, x20]) := by
  have hlen : (due.flatMap fun m => (wordAs odd m).cps.toList).length = (spelledAs odd due).length := by
    unfold spelledAs; rw [List.length_flatMap, List.length_flatMap]; simp
  refine Ex.assignC (i := 12) law_nd rfl rfl (CompF.cast (CompF.flatL (own := ["code", "level", "word", "letter"]) (caps := [("odd", .lst (odd.map .bool))]) (xs := due) (g := Mt.d) (ys := fun m => (wordAs odd m).cps.toList) (d₂ := fun m => .str (wordAs odd m)) (g₂ := fun x y => .str ⟨#[y]⟩) (h := fun m y => shD (y, m.level))
      (fun ρ => ∃ a b c d, ρ = slots [a, b, c, d, some (.lst (odd.map .bool))]) (fun m ρ => ∃ d, ρ = slots [some (.int m.code), some (.int m.level), some (.str m.word), d, some (.lst (odd.map .bool))]) (d := mtsD due) (Ev.var (i := 16) rfl rfl) (.lst _) (.mk' ["odd"] [] (.cons (.mk 15) .nil)) (by rintro _ ⟨a, b, c, d, rfl⟩; exact slots_no _) (by omega) ⟨none, none, none, none, rfl⟩ ?_ (by rintro x _ ⟨d, rfl⟩; exact ⟨_, _, _, _, rfl⟩) ?_)
      (show _ = (spelledAs odd due).map shD by unfold spelledAs; rw [List.map_flatMap]; congr 1; funext x; rw [List.map_map]; rfl)) rfl (swaps_local rfl (by decide))
  · rintro i m ρi hm ⟨a, b, c, d, rfl⟩
    have hv := hlv m (List.mem_of_getElem? hm)
    have hwm := hw m (List.mem_of_getElem? hm)
    refine ⟨_, As.three (i := 0) (j := 1) (l := 2) (by decide) rfl rfl rfl (.inl rfl) (.inl rfl) (.inl rfl), ?_, .str _, ⟨_, rfl⟩⟩
    refine Ev.ifExp (Tr.val (Ev.sub (Ev.var (i := 4) rfl rfl) (Ev.var (i := 1) rfl rfl) (p_item_lst hv.1 (odd_at hv) (hi := by omega)))) (fun hb => ?_) (fun hb => ?_)
    · unfold wordAs; rw [if_pos hb]
      exact Ev.callF (Ev.glob G.top rfl G.turned.1) (.cons (Ev.var (i := 2) rfl rfl) rfl .nil) (turned_fn G hwm)
    · unfold wordAs; rw [if_neg (by rw [hb]; decide)]
      exact Ev.var (i := 2) rfl rfl
  · rintro i j m y ρi hm hy ⟨d, rfl⟩
    exact ⟨_, As.name (i := 3) (by decide) rfl (.inl rfl), ⟨some _, rfl⟩, Ev.tuple (.cons (Ev.var (i := 3) rfl rfl) rfl (.cons (Ev.var (i := 1) rfl rfl) rfl .nil))⟩
theorem law_s15 (G : Glb w T mg mb f b3f) {sp : List (Nat × Int)} {odd : List Bool} (hl : sp.length ≤ 1000) (hlv : ∀ x ∈ sp, (0 ≤ x.2 ∧ x.2 < odd.length) ∧ x.2 < 256) (hodd : odd.length ≤ 1000) :
    Ex pw w T cxLaw (k + 1 + 1) [x0, x1, x2, x3, x4, x5, x6, x7, x8, x9, x10, x11, some (.imm (.lst (sp.map shD))), some (.imm (tapeD (sp.map (spC odd)))), x14, some (.imm (.lst (odd.map .bool))), x16, x17, x18, x19, x20] (lawSt 15) (fun o => o = .next [x0, x1, x2, x3, x4, x5, x6, x7, x8, x9, x10, x11, some (.imm (.lst (sp.map shD))), some (.imm (tapeD (sp.map (spC odd)))), x14, some (.imm (.lst (odd.map .bool))), x16, x17, x18, x19, x20]) := by
  refine Ex.ite (b := false) (Tr.cmp (Ev.var (i := 13) rfl rfl) (Ev.cast (Ev.tuple (.cons (Ev.callT (Ev.blt G.top rfl G.bytes.1 G.bytes.2) (.cons (EvF.ev (CompF.ev (CompF.cast (CompF.flatL (own := ["letter", "level", "octet"]) (caps := [("odd", .lst (odd.map .bool))]) (xs := sp) (g := shD) (ys := fun x => octs x.1 2 (oddAt odd x.2)) (d₂ := fun x => .lst (cellD x.1 2 (oddAt odd x.2))) (g₂ := fun x y => .int y) (h := fun x y => .int y)
      (fun ρ => ∃ a b c, ρ = slots [a, b, c, some (.lst (odd.map .bool))]) (fun x ρ => ∃ c, ρ = slots [some (.str ⟨#[x.1]⟩), some (.int x.2), c, some (.lst (odd.map .bool))]) (d := .lst (sp.map shD)) (Ev.var (i := 12) rfl rfl) (.lst _) (.mk' ["odd"] [] (.cons (.mk 15) .nil)) (by rintro _ ⟨a, b, c, rfl⟩; exact slots_no _) (by rw [octs_flat_len (fun x : Nat × Int => (x.1 : Int)) 2 (fun x => oddAt odd x.2)]; omega) ⟨none, none, none, rfl⟩ ?_ (by rintro x _ ⟨c, rfl⟩; exact ⟨_, _, _, rfl⟩) ?_)
      (show _ = (sp.flatMap fun x => octs x.1 2 (oddAt odd x.2)).map D.int by rw [List.map_flatMap])))) rfl .nil) (hp := p_bytes_list (octs_flat_range (fun x : Nat × Int => (x.1 : Int)) 2 (fun x => oddAt odd x.2) sp) (by rw [octs_flat_len (fun x : Nat × Int => (x.1 : Int)) 2 (fun x => oddAt odd x.2)]; omega))) rfl
    (.cons (Ev.callT (Ev.blt G.top rfl G.bytes.1 G.bytes.2) (.cons (EvF.ev (CompF.ev (CompF.cast (CompF.mapL (own := ["letter", "level"]) (caps := []) (xs := sp) (g := shD) (h := fun x => .int x.2) (fun ρ => ∃ a b, ρ = slots [a, b])
      (d := .lst (sp.map shD)) (Ev.var (i := 12) rfl rfl) (.lst _) (.mk' [] [] .nil) (by rintro _ ⟨a, b, rfl⟩; exact slots_no _) (by omega) ⟨none, none, rfl⟩ ?_) (show _ = (sp.map fun x => x.2).map D.int by rw [List.map_map]; rfl)))) rfl .nil) (hp := p_bytes_list (fun n hn => by obtain ⟨x, hx, rfl⟩ := List.mem_map.mp hn; have := hlv x hx; omega) (by simp; omega))) rfl .nil)))
    (show _ = tapeD (sp.map (spC odd)) by rw [bytes_flat (fun x : Nat × Int => (x.1 : Int)) 2 (fun x => oddAt odd x.2) (fun x => x.2), bytes_lev (fun x : Nat × Int => (x.1 : Int)) 2 (fun x => oddAt odd x.2) (fun x => x.2)]; rfl)) p_ne_bytes2) (fun q => by cases q) (fun _ => Exs.nil rfl)
  · rintro i x ρi hx ⟨a, b, c, rfl⟩
    have hv := hlv x (List.mem_of_getElem? hx)
    refine ⟨_, As.two (i := 0) (j := 1) (by decide) rfl rfl (.inl rfl) (.inl rfl), Ev.callF (Ev.glob G.top rfl G.cell.1) (.cons (Ev.callB (Ev.blt G.top rfl G.ord.1 G.ord.2) (.cons (Ev.var (i := 0) rfl rfl) rfl .nil) (hp := p_ord)) rfl (.cons Ev.int rfl (.cons (Ev.sub (Ev.var (i := 3) rfl rfl) (Ev.var (i := 1) rfl rfl) (p_item_lst hv.1.1 (odd_at hv.1) (hi := by omega))) rfl .nil))) (cell_fn G (n := 2) (by decide)), ?_, ⟨_, rfl⟩⟩
    rw [← cellD_octs]; exact .lst _
  · rintro i j x y ρi hx hy ⟨c, rfl⟩
    exact ⟨_, As.name (i := 2) (by decide) rfl (.inl rfl), ⟨some _, rfl⟩, Ev.var (i := 2) rfl rfl⟩
  · rintro i x ρi hx ⟨a, b, rfl⟩
    exact ⟨_, As.two (i := 0) (j := 1) (by decide) rfl rfl (.inl rfl) (.inl rfl), ⟨some _, some _, rfl⟩, Ev.var (i := 1) rfl rfl⟩
theorem law_s16 : Ex pw w T cxLaw (k + 1 + 1) [x0, x1, x2, x3, x4, x5, x6, x7, x8, x9, x10, x11, x12, x13, x14, x15, x16, x17, x18, x19, x20] (lawSt 16) (fun o => o = .next [x0, x1, x2, x3, x4, x5, x6, x7, x8, x9, x10, x11, x12, x13, x14, x15, x16, some (.imm (.bool false)), x18, x19, x20]) := Ex.assign (i := 17) law_nd rfl (.inl rfl) Ev.bool rfl
theorem law_s17 (G : Glb w T mg mb f b3f) {l : List Cell} {m : Nat} (hl : ∀ x ∈ l, x.1.length = 2) (hm : l.length = m) (hm2 : m ≤ 1000) :
    ExG pw w T cxLaw (k + 1 + 1) inLaw [x0, x1, x2, x3, x4, x5, x6, x7, x8, x9, x10, x11, x12, some (.imm (tapeD l)), x14, x15, x16, some (.imm (.bool false)), x18, x19, x20] (lawSt 17) (fun o => o = .next [x0, x1, x2, x3, x4, x5, x6, x7, x8, x9, x10, x11, x12, some (.imm (tapeD l)), x14, x15, x16, some (.imm (.bool (((m : Int) % 3) != 0))), x18, x19, x20]) := by
  have hlen := flatC_len hl
  rw [hm] at hlen
  have harg : ∀ {k : Nat} {p1 p2 : Pos} {kd : Nat}, Ev pw w T cxLaw k [x0, x1, x2, x3, x4, x5, x6, x7, x8, x9, x10, x11, x12, some (.imm (tapeD l)), x14, x15, x16, some (.imm (.bool false)), x18, x19, x20] (.Subscript (.Name "letters" p1) (.Constant (.int 0) kd p2) p1) (.bytes (flatC l).toArray) → True := fun _ => trivial
  by_cases h3 : m % 3 = 0
  · have hb : (((m : Int) % 3) != 0) = false := by simp; omega
    rw [hb]
    exact ExG.tryOk (b := (swapL 3 (flatC l)).toArray) (EvG.callF (Ev.glob G.top rfl G.swap.1) (.cons (Ev.sub (Ev.var (i := 13) rfl rfl) Ev.int (p_item_tup (d := .bytes (flatC l).toArray) (by decide) rfl)) rfl (.cons Ev.int rfl .nil)) (swap_fn G (n := 3) (q := 2 * m / 3) (by decide) (by omega) (by omega) (by decide))) rfl
  · have hb : (((m : Int) % 3) != 0) = true := by simp; omega
    rw [hb]
    exact ExG.tryRaise (i := 17) (Ev.glob G.top rfl G.swap.1) (.cons (Ev.sub (Ev.var (i := 13) rfl rfl) Ev.int (p_item_tup (d := .bytes (flatC l).toArray) (by decide) rfl)) rfl (.cons Ev.int rfl .nil)) (swap_raises G (q := 2 * m / 3) (by omega) (by omega) (by omega)) G.top G.indexError rfl law_nd rfl (.inl rfl) rfl
theorem law_s18 (G : Glb w T mg mb f b3f) {sp : List (Nat × Int)} (hl : sp.length ≤ 1000) :
    Ex pw w T cxLaw (k + 1 + 1) [x0, x1, x2, x3, x4, x5, x6, x7, x8, x9, x10, x11, some (.imm (.lst (sp.map shD))), x13, x14, x15, x16, some (.imm (.bool (((sp.length : Int) % 3) != 0))), x18, x19, x20] (lawSt 18) (fun o => o = .next [x0, x1, x2, x3, x4, x5, x6, x7, x8, x9, x10, x11, some (.imm (.lst (sp.map shD))), x13, x14, x15, x16, some (.imm (.bool (((sp.length : Int) % 3) != 0))), x18, x19, x20]) := by
  have hln : ((sp.map shD).length : Int) = (sp.length : Nat) := by simp
  refine Ex.ite (b := false) ?_ (fun q => by cases q) (fun _ => Exs.nil rfl)
  refine Eq.subst (motive := fun b => Tr pw w T cxLaw (k + 1 + 1) _ _ b) (show ((((sp.length : Int) % 3) != 0) != (((sp.length : Int) % 3) != 0)) = false by simp)
    (Tr.cmp (Ev.var (i := 17) rfl rfl) (Ev.cmp (Ev.bin (Ev.cast (Ev.callB (Ev.blt G.top rfl G.len.1 G.len.2) (.cons (Ev.var (i := 12) rfl rfl) rfl .nil) (hp := p_len_lst (by simp; omega))) (by rw [hln])) Ev.int (p_mod (by decide))) Ev.int p_ne) p_ne_bool)
theorem law_s19 (G : Glb w T mg mb f b3f) {l : List Cell} (hl : ∀ x ∈ l, x.1.length = 3) (hm2 : l.length ≤ 1000) :
    ExG pw w T cxLaw (k + 1 + 1) inLaw [x0, x1, x2, x3, x4, x5, x6, x7, x8, x9, x10, some (.imm (tapeD l)), x12, x13, x14, x15, x16, x17, x18, x19, x20] (lawSt 19) (fun o => o = .next [x0, x1, x2, x3, x4, x5, x6, x7, x8, x9, x10, some (.imm (tapeD l)), x12, x13, x14, x15, x16, x17, some (.imm (.bytes (swapL 3 (flatC l)).toArray)), x19, x20]) := by
  have hlen := flatC_len hl
  exact ExG.assign (i := 18) law_nd rfl (.inl rfl) (EvG.callF (Ev.glob G.top rfl G.swap.1) (.cons (Ev.sub (Ev.var (i := 11) rfl rfl) Ev.int (p_item_tup (d := .bytes (flatC l).toArray) (by decide) rfl)) rfl (.cons Ev.int rfl .nil)) (swap_fn G (n := 3) (q := l.length) (by decide) (by omega) (by omega) (by decide))) rfl
theorem law_s20 (G : Glb w T mg mb f b3f) {b : Array UInt8} :
    Ex pw w T cxLaw (k + 1 + 1) [x0, x1, x2, x3, x4, x5, x6, x7, x8, x9, x10, x11, x12, x13, x14, x15, x16, x17, some (.imm (.bytes b)), x19, x20] (lawSt 20) (fun o => o = .next [x0, x1, x2, x3, x4, x5, x6, x7, x8, x9, x10, x11, x12, x13, x14, x15, x16, x17, some (.imm (.bytes b)), x19, x20]) :=
  Ex.ite (b := false) (Tr.not (Tr.val (Ev.callB (Ev.blt G.top rfl G.isinstance.1 G.isinstance.2) (.cons (Ev.var (i := 18) rfl rfl) rfl (.cons (Ev.blt G.top rfl G.bytes.1 G.bytes.2) rfl .nil)) (hp := p_isinst_bytes)))) (fun q => by cases q) (fun _ => Exs.nil rfl)
theorem law_s21 (hno : noOwn [x0, x1, x2, x3, x4, x5, x6, x7, x8, x9, x10, x11, x12, x13, x14, x15, x16, x17, x18, x19, x20] 19 = true) : Ex pw w T cxLaw (k + 1 + 1) [x0, x1, x2, x3, x4, x5, x6, x7, x8, x9, x10, x11, x12, x13, x14, x15, x16, x17, x18, x19, x20] (lawSt 21) (fun o => o = .next [x0, x1, x2, x3, x4, x5, x6, x7, x8, x9, x10, x11, x12, x13, x14, x15, x16, x17, x18, some (.own []), x20]) := Ex.assignF (i := 19) law_nd rfl (.inl rfl) (EvF.list .nil) rfl hno
theorem law_s22 (G : Glb w T mg mb f b3f) {due : List Mt} {odd : List Bool} (hl : due.length ≤ 1000) (hlv : ∀ m ∈ due, 0 ≤ m.level ∧ m.level < odd.length) (hodd : odd.length ≤ 1000) (hc : ∀ m ∈ due, 0 ≤ m.code ∧ m.code ≤ 1114111) (hw : ∀ m ∈ due, mapB3 b3f m.code.toNat = m.word)
    (hfit : ∀ m ∈ due, Builtin.Str.tooLong (Txt.lower ⟨#[m.code.toNat]⟩).length = false) :
    Ex pw w T cxLaw (k + 1 + 1) [x0, x1, x2, x3, x4, x5, x6, x7, x8, x9, x10, some (.imm (tapeD (due.map (dueC odd)))), x12, x13, x14, some (.imm (.lst (odd.map .bool))), some (.imm (mtsD due)), x17, some (.imm (.bytes (swapL 3 (flatC (due.map (dueC odd)))).toArray)), some (.own []), x20] (lawSt 22)
      (fun o => ∃ a c, o = .next [x0, x1, x2, x3, x4, a, x6, x7, x8, x9, x10, some (.imm (tapeD (due.map (dueC odd)))), x12, x13, x14, some (.imm (.lst (odd.map .bool))), some (.imm (mtsD due)), x17, some (.imm (.bytes (swapL 3 (flatC (due.map (dueC odd)))).toArray)), some (.own (due.map fun m => .str m.word)), c]) := by
  have hch : ∀ x ∈ due.map (dueC odd), x.1.length = 3 := fun x hx => by
    obtain ⟨m, _, rfl⟩ := List.mem_map.mp hx
    simp [dueC, cellU, octs]
  have hfl := flatC_len hch
  rw [List.length_map] at hfl
  have hsw := swapL_chunks (by decide) hch
  have hln : ((due.map Mt.d).length : Int) = (due.length : Nat) := by simp
  refine Ex.for (d := .rng 0 (due.length : Nat) 1) (ds := (List.range due.length).map fun i => D.int (i : Nat)) (Ev.callT (Ev.blt G.top rfl G.range.1 G.range.2) (.cons (Ev.cast (Ev.callB (Ev.blt G.top rfl G.len.1 G.len.2) (.cons (Ev.var (i := 16) rfl rfl) rfl .nil) (hp := p_len_lst (by simp; omega))) (by rw [hln])) rfl .nil) (hp := p_range1)) (range_iter (by omega))
    (fun i ρ' => ∃ a c, ρ' = [x0, x1, x2, x3, x4, a, x6, x7, x8, x9, x10, some (.imm (tapeD (due.map (dueC odd)))), x12, x13, x14, some (.imm (.lst (odd.map .bool))), some (.imm (mtsD due)), x17, some (.imm (.bytes (swapL 3 (flatC (due.map (dueC odd)))).toArray)), some (.own ((due.map fun m => .str m.word).take i)), c]) ⟨_, _, rfl⟩ ?_ ?_
  · rintro i di ρi hdi ⟨a, c, rfl⟩
    rw [List.getElem?_map] at hdi
    obtain ⟨i', hi', rfl⟩ := Option.map_eq_some_iff.mp hdi
    obtain ⟨hi, rfl⟩ : i < due.length ∧ i = i' := by
      have h1 := (List.getElem?_eq_some_iff.mp hi').1
      have h2 := (List.getElem?_eq_some_iff.mp hi').2
      simp at h1 h2; exact ⟨h1, h2⟩
    have hmem : due[i] ∈ due := List.getElem_mem hi
    have hv := hlv _ hmem
    have hcd := hc _ hmem
    have hwd := hw _ hmem
    have hft := hfit _ hmem
    have hat := mt_at hi
    have htake : (due.map fun m => D.str m.word).take (i + 1) = (due.map fun m => D.str m.word).take i ++ [.str (due[i]).word] := by
      rw [List.take_add_one, List.getElem?_map, List.getElem?_eq_getElem hi]; rfl
    have hidx1 : ((3 : Int) * (i : Nat)) = ((3 * i : Nat) : Int) := by omega
    have hidx2 : ((3 : Int) * (i : Nat) + 3) = ((3 * i + 3 : Nat) : Int) := by omega
    have hcutA : cutL (flatC (due.map (dueC odd))) (some ((3 * i : Nat) : Int)) (some ((3 * i + 3 : Nat) : Int)) = (dueC odd due[i]).1 := by
      rw [cut_run _ (by omega) (by omega), show 3 * i + 3 - 3 * i = 3 by omega, chunk_at hch (by simpa using hi), List.getElem_map]
    have hcutM : cutL (swapL 3 (flatC (due.map (dueC odd)))) (some ((3 * i : Nat) : Int)) (some ((3 * i + 3 : Nat) : Int)) = (dueC odd due[i]).1.reverse := by
      have hch' : ∀ x ∈ (due.map (dueC odd)).map fun x : Cell => (x.1.reverse, x.2), x.1.length = 3 := fun x hx => by
        obtain ⟨y, hy, rfl⟩ := List.mem_map.mp hx
        rw [List.length_reverse]; exact hch y hy
      have hfl' := flatC_len hch'
      rw [List.length_map, List.length_map] at hfl'
      rw [hsw, cut_run _ (by omega) (by omega), show 3 * i + 3 - 3 * i = 3 by omega, chunk_at hch' (by simpa using hi), List.getElem_map, List.getElem_map]
    have hcell : (if oddAt odd (due[i]).level then (dueC odd due[i]).1.reverse else (dueC odd due[i]).1) = cellU (due[i]).code 3 false := by
      unfold dueC
      cases oddAt odd (due[i]).level
      · rfl
      · exact cellU_rev _
    generalize due[i] = m at *
    have hszA : (flatC (due.map (dueC odd))).length ≤ 3000 := by omega
    have hszM : (swapL 3 (flatC (due.map (dueC odd)))).length ≤ 3000 := by simp [swapL]; omega
    generalize hMM : swapL 3 (flatC (due.map (dueC odd))) = MM at *
    refine ⟨_, As.name (i := 5) law_nd rfl (.inl rfl), ?_⟩
    have hpart : ∀ {e₁ e₂ : PySem.Expr} {ρ}, Ev pw w T cxLaw (k + 1 + 1) ρ e₁ (.int ((3 : Int) * (i : Nat))) → Ev pw w T cxLaw (k + 1 + 1) ρ e₂ (.int ((3 : Int) * (i : Nat) + 3)) → True := fun _ _ => trivial
    refine Exs.cons (Ex.assign (i := 20) (d := .bytes (cellU m.code 3 false).toArray) law_nd rfl (.inl rfl) ?_ ?_)
    · refine Ev.cast (Ev.sliceB (b := (if oddAt odd m.level then MM else flatC (due.map (dueC odd))).toArray) (x := some ((3 * i : Nat) : Int)) (y := some ((3 * i + 3 : Nat) : Int)) (Ev.ifExp (Tr.val (Ev.sub (Ev.var (i := 15) rfl rfl) (Ev.sub (Ev.sub (Ev.var (i := 16) rfl rfl) (Ev.var (i := 5) rfl rfl) (p_item_lst (by omega) hat (hi := by omega))) Ev.int (p_item_tup (d := .int m.level) (by decide) rfl)) (p_item_lst hv.1 (odd_at hv) (hi := by omega)))) (fun hb => ?_) (fun hb => ?_))
        (.int (Ev.cast (Ev.bin Ev.int (Ev.var (i := 5) rfl rfl) (p_mul (by decide))) (by rw [hidx1]))) (.int (Ev.cast (Ev.bin (Ev.bin Ev.int (Ev.var (i := 5) rfl rfl) (p_mul (by decide))) Ev.int p_add) (by rw [hidx2]))) (by split <;> simp <;> omega)) ?_
      · rw [if_pos hb]; exact Ev.var (i := 18) rfl rfl
      · rw [if_neg (by rw [hb]; decide)]; exact Ev.sub (Ev.var (i := 11) rfl rfl) Ev.int (p_item_tup (d := .bytes (flatC (due.map (dueC odd))).toArray) (by decide) rfl)
      · rw [← hcell]
        show D.bytes (cutL (if oddAt odd m.level = true then MM else flatC (due.map (dueC odd))) _ _).toArray = _
        cases oddAt odd m.level
        · simp only [Bool.false_eq_true, if_false]; rw [hcutA]
        · simp only [if_true]; rw [hcutM]
    · rw [cellU3]
      have g0 := u8_toNat (n := m.code / 65536 % 256) (by omega)
      have g1 := u8_toNat (n := m.code / 256 % 256) (by omega)
      have g2 := u8_toNat (n := m.code / 1 % 256) (by omega)
      have hsum : (65536 : Int) * ((u8 (m.code / 65536 % 256)).toNat : Int) + 256 * ((u8 (m.code / 256 % 256)).toNat : Int) + ((u8 (m.code / 1 % 256)).toNat : Int) = m.code := by rw [g0, g1, g2]; omega
      refine Exs.cons (Ex.append (i := 19) (d := .str m.word) rfl rfl (Ev.cast (Ev.callF (Ev.glob G.top rfl G.b3.1) (.cons (Ev.callB (Ev.blt G.top rfl G.chr.1 G.chr.2) (.cons (Ev.cast (Ev.bin (Ev.bin (Ev.bin Ev.int (Ev.sub (Ev.var (i := 20) rfl rfl) Ev.int (p_item_bytes (c := u8 (m.code / 65536 % 256)) (by decide) rfl (hb := by simp))) (p_mul (by decide))) (Ev.bin Ev.int (Ev.sub (Ev.var (i := 20) rfl rfl) Ev.int (p_item_bytes (c := u8 (m.code / 256 % 256)) (by decide) rfl (hb := by simp))) (p_mul (by decide))) p_add) (Ev.sub (Ev.var (i := 20) rfl rfl) Ev.int (p_item_bytes (c := u8 (m.code / 1 % 256)) (by decide) rfl (hb := by simp))) p_add) (by rw [hsum])) rfl .nil) (hp := p_chr hcd.1 hcd.2)) rfl .nil) (b3_fn G hft)) (by rw [hwd])) ?_ (by simp; omega))
      exact Exs.nil ⟨_, _, by rw [htake]; rfl⟩
  · rintro ρ' ⟨a, c, rfl⟩
    rw [List.length_map, List.length_range, List.take_of_length_le (by simp)]
    exact ⟨_, _, rfl⟩
theorem law_s23 (G : Glb w T mg mb f b3f) {due : List Mt} (hl : due.length ≤ 1000) :
    Ex pw w T cxLaw (k + 1 + 1) [x0, x1, x2, x3, x4, x5, x6, x7, x8, x9, x10, x11, x12, x13, x14, x15, some (.imm (mtsD due)), x17, x18, some (.imm (.lst (due.map fun m => .str m.word))), x20] (lawSt 23) (fun o => o = .ret (.bool true)) := by
  refine Ex.ret (Ev.cmp (Ev.cast (Ev.var (i := 19) rfl rfl) (show _ = D.lst ((due.map Mt.word).map .str) by rw [List.map_map]; rfl)) (EvF.ev (CompF.ev (CompF.cast (CompF.mapL (own := ["code", "level", "word"]) (caps := []) (xs := due) (g := Mt.d) (h := fun m => .str m.word) (fun ρ => ∃ a b c, ρ = slots [a, b, c])
      (d := mtsD due) (Ev.var (i := 16) rfl rfl) (.lst _) (.mk' [] [] .nil) (by rintro _ ⟨a, b, c, rfl⟩; exact slots_no _) (by omega) ⟨none, none, none, rfl⟩ ?_) (show _ = (due.map Mt.word).map D.str by rw [List.map_map]; rfl)))) p_eq_strs) rfl
  rintro i m ρi hm ⟨a, b, c, rfl⟩
  exact ⟨_, As.three (i := 0) (j := 1) (l := 2) (by decide) rfl rfl rfl (.inl rfl) (.inl rfl) (.inl rfl), ⟨some _, some _, some _, rfl⟩, Ev.var (i := 2) rfl rfl⟩
end
end Mine
end

section
open PySem PySem.W PyProof.Rows
set_option maxRecDepth 100000
namespace Mine
noncomputable def highOf (ms : List Mt) : Nat := ((ms.map Mt.level).foldl max 0).toNat
noncomputable def msOf (script : List Int) : List Mt := meantOf (drOf script)
noncomputable def shOf (script : List Int) : List (Nat × Int) := shownOf ((drOf script).map fun x => x.code.toNat)
noncomputable def psOf (script : List Int) : List Int := passesOf (drawnPasses script) (highOf (msOf script))
noncomputable def odOf (script : List Int) : List Bool := oddOf (psOf script) (highOf (msOf script))
noncomputable def duOf (script : List Int) : List Mt := dueOf (msOf script) (odOf script)
/-- what the law leans on, in plain words -/
structure LawFacts (b3f : Int → Option Str) (script : List Int) : Prop where
  ok : ∀ x ∈ drOf script, DrOk b3f x
  high : (highOf (msOf script) : Int) ∈ (msOf script).map Mt.level
  low : ∀ a ∈ (msOf script).map Mt.level, 0 ≤ a ∧ a ≤ (highOf (msOf script) : Nat)
  small : highOf (msOf script) < 256
  shlev : ∀ x ∈ shOf script, 0 ≤ x.2 ∧ x.2 < 256
  shfit : ∀ x ∈ shOf script, Builtin.Str.tooLong (Txt.lower ⟨#[x.1]⟩).length = false
  splen : (spelledOf b3f (shOf script)).length ≤ 1000
  perm : ∀ i : Nat, i < (msOf script).length → (i : Int) ∈ aheadOf ((msOf script).map Mt.level) (odOf script)
  lay : PyData.layable0 (.list ((aheadOf ((msOf script).map Mt.level) (odOf script)).map .int)) = true
  idx : ∀ i : Nat, i < (msOf script).length → (aheadOf ((msOf script).map Mt.level) (odOf script)).idxOf (i : Int) < (msOf script).length
  signs : passesC (psOf script) ((shOf script).map (signC 3)) = (duOf script).map (dueC (odOf script))
  letters : passesC (psOf script) ((spelledOf b3f (shOf script)).map (signC 2)) = (spelledAs (odOf script) (duOf script)).map (spC (odOf script))
  code : ∀ m ∈ msOf script, 0 ≤ m.code ∧ m.code ≤ 1114111
  word : ∀ m ∈ msOf script, mapB3 b3f m.code.toNat = m.word
  wsize : ∀ m ∈ msOf script, m.word.cps.size ≤ 100
  fit : ∀ m ∈ msOf script, Builtin.Str.tooLong (Txt.lower ⟨#[m.code.toNat]⟩).length = false
theorem meantOf_len (l : List Dr) : (meantOf l).length ≤ l.length := by
  unfold meantOf; rw [List.length_map]; exact Nat.le_trans (List.length_filter_le _ _) (by simp)
theorem due_mem {ms : List Mt} {odd : List Bool} (hidx : ∀ i : Nat, i < ms.length → (aheadOf (ms.map Mt.level) odd).idxOf (i : Int) < ms.length) : ∀ m ∈ dueOf ms odd, m ∈ ms := by
  intro m hm
  obtain ⟨i, hi, rfl⟩ := List.mem_map.mp hm
  have h := hidx i (by simpa using hi)
  rw [List.getD_eq_getElem?_getD, List.getElem?_eq_getElem h]
  exact List.getElem_mem h
theorem due_len (ms : List Mt) (odd : List Bool) : (dueOf ms odd).length = ms.length := by simp [dueOf]
section
variable {w : World} {T : Imm} {mg mb : Str → Option Value} {f : Fs} {b3f : Int → Option Str} {k : Nat}
theorem law_stmts : bodyAt 17 = [lawSt 0, lawSt 1, lawSt 2, lawSt 3, lawSt 4, lawSt 5, lawSt 6, lawSt 7, lawSt 8, lawSt 9, lawSt 10, lawSt 11, lawSt 12, lawSt 13, lawSt 14, lawSt 15, lawSt 16, lawSt 17, lawSt 18, lawSt 19, lawSt 20, lawSt 21, lawSt 22, lawSt 23] := rfl
theorem law_body (G : Glb w T mg mb f b3f) {script : List Int} (hs : script.length ≤ 63) (H : LawFacts b3f script) :
    ExsG pw w T cxLaw (k + 1 + 1) inLaw ([some (.imm (intsD script))] ++ List.replicate 20 none) (bodyAt 17) (fun o => o = .ret (.bool true)) := by
  rw [law_stmts]
  have hdl := drOf_len script
  have hml : (msOf script).length ≤ 14 := Nat.le_trans (meantOf_len _) hdl
  have hsl : (shOf script).length ≤ 14 := by
    have := shFold_len ((drOf script).map fun x => x.code.toNat) ([0], []) (by simp)
    have h2 : (shOf script).length ≤ 0 + ((drOf script).map fun x => x.code.toNat).length := this.2.2
    rw [List.length_map] at h2; omega
  have hpl : (psOf script).length ≤ 1000 := by
    have h1 := H.small
    have : (psOf script).length ≤ 4 + highOf (msOf script) + 4 := by simp [psOf, passesOf, downs, drawnPasses]; omega
    omega
  have hdp : (drawnPasses script).length ≤ 1000 := by simp [drawnPasses]; omega
  have hol : (odOf script).length = highOf (msOf script) + 1 := by simp [odOf, oddOf]
  have hsmall := H.small
  have hlev : ∀ m ∈ msOf script, (0 ≤ m.level ∧ m.level < (odOf script).length) ∧ m.level < 256 := fun m hm => by
    have := H.low m.level (List.mem_map_of_mem hm)
    omega
  have hdm := due_mem (ms := msOf script) (odd := odOf script) H.idx
  have hdul : (duOf script).length ≤ 14 := by unfold duOf; rw [due_len]; exact hml
  have hwlen : ∀ m ∈ msOf script, (wordAs (odOf script) m).cps.size ≤ 100 := fun m hm => by
    have := H.wsize m hm
    unfold wordAs; split
    · simpa [revS] using this
    · exact this
  have hspl : (spelledAs (odOf script) (duOf script)).length ≤ 1000 := by
    have e : (passesC (psOf script) ((spelledOf b3f (shOf script)).map (signC 2))).length = ((spelledOf b3f (shOf script)).map (signC 2)).length := (passesC_chunks (n := 2) _ _ (fun x hx => by obtain ⟨y, _, rfl⟩ := List.mem_map.mp hx; exact signC_len _ _)).1
    rw [H.letters, List.length_map, List.length_map] at e
    rw [e]; exact H.splen
  have hsplev : ∀ x ∈ spelledAs (odOf script) (duOf script), (0 ≤ x.2 ∧ x.2 < (odOf script).length) ∧ x.2 < 256 := fun x hx => by
    obtain ⟨m, hm, hx⟩ := List.mem_flatMap.mp hx
    obtain ⟨c, _, rfl⟩ := List.mem_map.mp hx
    exact hlev m (hdm m hm)
  have hspl0 : ∀ x ∈ spelledOf b3f (shOf script), 0 ≤ x.2 ∧ x.2 < 256 := fun x hx => by
    obtain ⟨y, hy, hx⟩ := List.mem_flatMap.mp hx
    obtain ⟨c, _, rfl⟩ := List.mem_map.mp hx
    exact H.shlev y hy
  refine ExsG.cons (Ex.g (Ex.mono (law_s0 G hs) ?_)); rintro _ rfl
  refine ExsG.cons (Ex.g (Ex.mono (law_s1 G (y2 := none) (y3 := none) (y4 := none) hdl H.ok) ?_)); rintro _ ⟨a, b, c, rfl⟩
  refine ExsG.cons (Ex.g (Ex.mono (law_s2 G hdl) ?_)); rintro _ rfl
  refine ExsG.cons (Ex.g (Ex.mono (law_s3 G hml H.high (fun a ha => (H.low a ha).2)) ?_)); rintro _ rfl
  refine ExsG.cons (Ex.g (Ex.mono (law_s4 G hs) ?_)); rintro _ rfl
  refine ExsG.cons (Ex.g (Ex.mono (law_s5 G hdp (by omega)) ?_)); rintro _ rfl
  refine ExsG.cons (Ex.g (Ex.mono (law_s6 G hdl H.ok) ?_)); rintro _ rfl
  refine ExsG.cons (Ex.g (Ex.mono (law_s7 G (sh := shOf script) (by omega) H.shlev) ?_)); rintro _ rfl
  refine ExsG.cons (Ex.g (Ex.mono (law_s8 G (sh := shOf script) H.splen H.shfit) ?_)); rintro _ rfl
  refine ExsG.cons (Ex.g (Ex.mono (law_s9 G (sh := spelledOf b3f (shOf script)) H.splen hspl0) ?_)); rintro _ rfl
  refine ExsG.cons (ExG.mono (law_s10 G (ps := psOf script) (y := none) (fun x hx => by obtain ⟨y, _, rfl⟩ := List.mem_map.mp hx; exact signC_len _ _) (fun x hx => by obtain ⟨y, _, rfl⟩ := List.mem_map.mp hx; exact signC_len _ _) (by simp; omega) (by rw [List.length_map]; exact H.splen)) ?_); rintro _ ⟨z, rfl⟩
  refine ExsG.cons (Ex.g (Ex.mono (law_s11 G (ps := psOf script) (h := highOf (msOf script)) (by omega) (by omega)) ?_)); rintro _ rfl
  refine ExsG.cons (Ex.g (Ex.mono (law_s12 G (ms := msOf script) (odd := odOf script) hml (fun x hx => by obtain ⟨m, hm, rfl⟩ := List.mem_map.mp hx; exact (hlev m hm).1) (by rw [List.length_map]; exact H.perm) H.lay (by omega) H.idx) ?_)); rintro _ rfl
  rw [H.signs, H.letters]
  refine ExsG.cons (Ex.g (Ex.mono (law_s13 G (due := duOf script) (odd := odOf script) (by omega) (fun m hm => hlev m (hdm m hm)) (by omega)) ?_)); rintro _ rfl
  refine ExsG.cons (Ex.g (Ex.mono (law_s14 G (due := duOf script) (odd := odOf script) hspl (fun m hm => (hlev m (hdm m hm)).1) (by omega) (fun m hm => H.wsize m (hdm m hm))) ?_)); rintro _ rfl
  refine ExsG.cons (Ex.g (Ex.mono (law_s15 G hspl hsplev (by omega)) ?_)); rintro _ rfl
  refine ExsG.cons (Ex.g (Ex.mono law_s16 ?_)); rintro _ rfl
  refine ExsG.cons (ExG.mono (law_s17 G (m := (spelledAs (odOf script) (duOf script)).length) (fun x hx => by obtain ⟨y, _, rfl⟩ := List.mem_map.mp hx; simp [spC, cellU, octs]) (by simp) hspl) ?_); rintro _ rfl
  refine ExsG.cons (Ex.g (Ex.mono (law_s18 G hspl) ?_)); rintro _ rfl
  refine ExsG.cons (ExG.mono (law_s19 G (fun x hx => by obtain ⟨y, _, rfl⟩ := List.mem_map.mp hx; simp [dueC, cellU, octs]) (by simp; omega)) ?_); rintro _ rfl
  refine ExsG.cons (Ex.g (Ex.mono (law_s20 G) ?_)); rintro _ rfl
  refine ExsG.cons (Ex.g (Ex.mono (law_s21 (by cases a <;> cases b <;> cases c <;> cases z <;> rfl)) ?_)); rintro _ rfl
  refine ExsG.cons (Ex.g (Ex.mono (law_s22 G (due := duOf script) (odd := odOf script) (by omega) (fun m hm => (hlev m (hdm m hm)).1) (by omega) (fun m hm => H.code m (hdm m hm)) (fun m hm => H.word m (hdm m hm)) (fun m hm => H.fit m (hdm m hm))) ?_)); rintro _ ⟨a', c', rfl⟩
  refine ExsG.freeze (i := 19) rfl (ExsG.cons (Ex.g (Ex.mono (law_s23 G (due := duOf script) (by omega)) ?_))); rintro _ rfl
  rfl
end
end Mine
end

section
open PySem PySem.W PyProof.Rows
namespace Mine
/-- an exact run of a piece of the interpreter at the module's top, in at most n steps -/
structure Run (w : World) (n₀ : Nat) (ann : Option Value) {α : Type} (n : Nat) (s : Shared) (x : Sem α) (s' : Shared) (a : α) : Prop where
  go : ∀ (K : α → Sem Fin) (H : Value → Sem Fin) (gd : Bool → Bool) (lv : List Value → List Value) (code : Code) (pos : Pos) (f : Frame) (st : List Frame), ∃ pos', ∀ N r,
    topRun treeTable pw w n₀ ann N s' ⟨K a, code, pos', f :: st⟩ = some r → topRun treeTable pw w n₀ ann (n + N) s ⟨x.wrap K H gd lv, code, pos, f :: st⟩ = some r
section
variable {w : World} {n₀ : Nat} {ann : Option Value} {α β : Type} {n m : Nat} {s s₁ s₂ : Shared} {a : α} {b : β}
theorem top_step {t t' : Thread} {N : Nat} {r : Shared} (h1 : through t = false) (h2 : stepOk n₀ ann t = true) (h3 : step (denote treeTable) pw w s t = .go s₁ t')
    (h : topRun treeTable pw w n₀ ann N s₁ t' = some r) : topRun treeTable pw w n₀ ann (1 + N) s t = some r := by
  rw [Nat.add_comm]
  unfold topRun
  rw [h1, h2, h3]
  exact h
theorem Run.mono {x : Sem α} (h : Run w n₀ ann n s x s₁ a) (le : n ≤ m) : Run w n₀ ann m s x s₁ a :=
  ⟨fun K H gd lv code pos f st => (h.go K H gd lv code pos f st).imp fun pos' g N r hr => by
    have := topRun_mono (m - n) _ _ _ _ (g N r hr)
    rwa [show n + N + (m - n) = m + N by omega] at this⟩
theorem Run.pure : Run w n₀ ann 0 s (.pure a : Sem α) s a := ⟨fun K H gd lv code pos f st => ⟨pos, fun N r h => by rw [Nat.zero_add]; exact h⟩⟩
theorem Run.bind {x : Sem α} {f : α → Sem β} (hx : Run w n₀ ann n s x s₁ a) (hf : Run w n₀ ann m s₁ (f a) s₂ b) : Run w n₀ ann (n + m) s (x.bind f) s₂ b :=
  ⟨fun K H gd lv code pos fr st => by
    rw [Sem.bind_eq_wrap, Sem.wrap_wrap]
    obtain ⟨p1, g1⟩ := hx.go (fun a => (f a).wrap K H gd lv) (fun e => (Sem.raise e : Sem β).wrap K H gd lv) (fun g => gd (id g)) (fun l => lv (id l)) code pos fr st
    obtain ⟨p2, g2⟩ := hf.go K H gd lv code p1 fr st
    exact ⟨p2, fun N r h => by rw [Nat.add_assoc]; exact g1 _ _ (g2 _ _ h)⟩⟩
theorem Run.bind' {x : Sem α} {f : α → Sem β} (hx : Run w n₀ ann n s x s₁ a) (hf : Run w n₀ ann m s₁ (f a) s₂ b) : Run w n₀ ann (n + m) s (x >>= f) s₂ b := Run.bind hx hf
theorem Run.keep {x : Sem α} {vs : List Value} (hx : Run w n₀ ann n s x s₁ a) : Run w n₀ ann n s (x.keep vs) s₁ a :=
  ⟨fun K H gd lv code pos fr st => by
    rw [Sem.keep_eq_wrap, Sem.wrap_wrap]
    exact hx.go _ _ _ _ _ _ _ _⟩
theorem Run.holding {x : Sem α} {vs : List Value} (hx : Run w n₀ ann n s x s₁ a) : Run w n₀ ann n s (holding vs x) s₁ a := by
  rw [holding_eq_keep]; exact hx.keep
theorem Run.onRaise {x : Sem α} {h : Value → Sem Unit} (hx : Run w n₀ ann n s x s₁ a) : Run w n₀ ann n s (x.onRaise h) s₁ a :=
  ⟨fun K H gd lv code pos fr st => by
    rw [Sem.onRaise_eq_wrap, Sem.wrap_wrap]
    exact hx.go _ _ _ _ _ _ _ _⟩
theorem Run.tryCatch {x : Sem α} {h : Value → Sem α} (hx : Run w n₀ ann n s x s₁ a) : Run w n₀ ann n s (x.tryCatch h) s₁ a :=
  ⟨fun K H gd lv code pos fr st => by
    rw [Sem.tryCatch_eq_wrap, Sem.wrap_wrap]
    exact hx.go _ _ _ _ _ _ _ _⟩
theorem Run.rule {t : String} : Run w n₀ ann 1 s (rule t) s () := ⟨fun K H gd lv code pos f st => ⟨pos, fun N r h => top_step rfl rfl rfl h⟩⟩
theorem Run.standAt {p : Pos} : Run w n₀ ann 1 s (standAt p) s () := ⟨fun K H gd lv code pos f st => ⟨p, fun N r h => top_step rfl rfl rfl h⟩⟩
theorem Run.point : Run w n₀ ann 1 s point s () := ⟨fun K H gd lv code pos f st => ⟨pos, fun N r h => top_step rfl rfl rfl h⟩⟩
theorem Run.fresh : Run w n₀ ann 1 s fresh { s with toks := s.toks + 1 } s.toks := ⟨fun K H gd lv code pos f st => ⟨pos, fun N r h => top_step rfl rfl rfl h⟩⟩
theorem Run.ask : Run w n₀ ann 1 s ask s ⟨pw, w.params⟩ := ⟨fun K H gd lv code pos f st => ⟨pos, fun N r h => top_step rfl rfl rfl h⟩⟩
theorem Run.loadPart {a : Addr} {p : Option Value} {o : Obj} (ho : s.heap.get? a = some o) : Run w n₀ ann 1 s (loadPart a p) s o :=
  ⟨fun K H gd lv code pos f st => ⟨pos, fun N r h => top_step rfl rfl (by obtain ⟨heap, gens, drawn, toks, os⟩ := s; dsimp only at ho; simp only [Sem.wrap, PySem.loadPart, step, ho]) h⟩⟩
theorem Run.load {a : Addr} {o : Obj} (ho : s.heap.get? a = some o) : Run w n₀ ann 1 s (load a) s o := Run.loadPart ho
theorem Run.updatePart {a : Addr} {p : Option Value} {o : Obj} {g : Obj → Obj} (ho : s.heap.get? a = some o) (hn : Nat.ble n₀ a = true) : Run w n₀ ann 1 s (updatePart a p g) { s with heap := s.heap.update a g } () :=
  ⟨fun K H gd lv code pos f st => ⟨pos, fun N r h => top_step rfl (by show (true && (Nat.ble n₀ a || _ || _ || _)) = true; rw [hn]; rfl) (by obtain ⟨heap, gens, drawn, toks, os⟩ := s; dsimp only at ho; simp only [Sem.wrap, PySem.updatePart, step, ho, Option.isSome_some, if_true]) h⟩⟩
theorem Run.alloc {o : Obj} : Run w n₀ ann 1 s (alloc o) { s with heap := s.heap.push o } s.heap.objs.size := ⟨fun K H gd lv code pos f st => ⟨pos, fun N r h => top_step rfl rfl rfl h⟩⟩
end
end Mine
end

section
open PySem PySem.W PyProof.Rows
set_option maxRecDepth 100000
namespace Mine
theorem tree_q : treeTable = PySem.W.Fast.tw14364793385576792824 := PySem.W.Fast.te14364793385576792824
theorem topGo_q : @topGo = PySem.W.Fast.tw15667345088766844465 := PySem.W.Fast.te15667345088766844465
noncomputable def goHash (tb : String → Option Builtin) (go : (String → Option Builtin) → Program → World → Nat → Option Value → Nat → Shared → Thread → Option (Shared × Thread)) (w : World) : Prop :=
  (fun (n₀ : Nat) (ann : Option Value) (k : Int) (t : Tok) (heap : Heap) (gens : Array GenState) (drawn : Drawn) (toks : Nat) (os : OsState) (refuse : Sem Value) (K : Option Value → Sem Fin) (H : Value → Sem Fin) (gd : Bool → Bool) (lv : List Value → List Value) (code : Code) (pos : Pos) (f : Frame) (st : List Frame) =>
   go tb pw w n₀ ann 5 ⟨heap, gens, drawn, toks, os⟩ ⟨(callSpecialIfBoundUnlessNone? (.int k t) "__hash__" refuse).wrap K H gd lv, code, pos, f :: st⟩) =
   (fun n₀ ann k t heap gens drawn toks os refuse K H gd lv code pos f st => some (⟨heap, gens, drawn, toks + 1, os⟩, ⟨K (some (.int (rawHash k) toks)), code, pos, f :: st⟩))
theorem go_hash0 (w : World) : goHash PySem.W.Fast.tw14364793385576792824 PySem.W.Fast.tw15667345088766844465 w :=
  byRow2 "special-get-raises" (P := goHash PySem.W.Fast.tw14364793385576792824 PySem.W.Fast.tw15667345088766844465) (fun w => by unfold goHash; kernel_rfl) (fun w => by unfold goHash; kernel_rfl) w
theorem go_hash (w : World) : goHash treeTable @topGo w := by rw [tree_q, topGo_q]; exact go_hash0 w
section
variable {w : World} {n₀ : Nat} {ann : Option Value} {α β : Type} {n m : Nat} {s s₁ s₂ : Shared} {a : α} {b : β}
theorem Run.ofGo {x : Sem α} {n : Nat} (h : ∀ (K : α → Sem Fin) (H : Value → Sem Fin) (gd : Bool → Bool) (lv : List Value → List Value) (code : Code) (pos : Pos) (f : Frame) (st : List Frame),
    topGo treeTable pw w n₀ ann n s ⟨x.wrap K H gd lv, code, pos, f :: st⟩ = some (s₁, ⟨K a, code, pos, f :: st⟩)) : Run w n₀ ann n s x s₁ a :=
  ⟨fun K H gd lv code pos f st => ⟨pos, fun N r hr => go_top (h K H gd lv code pos f st) hr⟩⟩
theorem Run.hashCall {k : Int} {t : Tok} {refuse : Sem Value} : Run w n₀ ann 5 s (callSpecialIfBoundUnlessNone? (.int k t) "__hash__" refuse) { s with toks := s.toks + 1 } (some (.int (rawHash k) s.toks)) := by
  obtain ⟨heap, gens, drawn, toks, os⟩ := s
  refine Run.ofGo fun K H gd lv code pos f st => ?_
  exact congrFun (congrFun (congrFun (congrFun (congrFun (congrFun (congrFun (congrFun (congrFun (congrFun (congrFun (congrFun (congrFun (congrFun (congrFun (congrFun (congrFun (congrFun (go_hash w) n₀) ann) k) t) heap) gens) drawn) toks) os) refuse) K) H) gd) lv) code) pos) f) st
theorem Run.specialInt {k : Int} {t : Tok} : Run w n₀ ann 0 s (specialOf (.int k t) "__hash__") s (some (.builtin "int.__hash__")) := by
  have e : specialOf (.int k t) "__hash__" = (Sem.pure (some (.builtin "int.__hash__")) : Sem (Option Value)) := by kernel_rfl
  rw [e]; exact Run.pure
theorem Run.pyHashInt {k : Int} {t : Tok} : Run w n₀ ann 5 s (pyHash (.int k t)) { s with toks := s.toks + 1 } (hashInt k) := by
  have hr := rawHash_range k
  unfold pyHash
  have hv : [Value.int k t].any Value.onHeap = false := rfl
  show Run w n₀ ann (0 + (0 + (0 + (5 + 0)))) s (pyHashByItsType (.int k t)) _ _
  unfold pyHashByItsType
  refine Run.bind' (s₁ := s) (a := ()) ?_ ?_
  · rw [cRoomFor, if_neg (by rw [hv]; exact Bool.false_ne_true)]; exact Run.pure
  refine Run.bind' Run.specialInt ?_
  show Run w n₀ ann _ s (if (some (Value.builtin "int.__hash__") == some Value.none) = true then _ else _) _ _
  rw [if_neg (by rw [beq_builtin_none]; exact Bool.false_ne_true)]
  refine Run.bind' Run.specialInt ?_
  show Run w n₀ ann _ s (callSpecialIfBoundUnlessNone? (.int k t) "__hash__" _ >>= _) _ _
  refine Run.bind' Run.hashCall ?_
  show Run w n₀ ann _ _ (if (decide (-(2 : Int) ^ 63 ≤ rawHash k) && decide (rawHash k < 2 ^ 63)) = true then _ else _) _ _
  rw [if_pos (by rw [decide_eq_true hr.1, decide_eq_true hr.2]; rfl)]
  exact Run.pure
end
end Mine
end

section
open PySem PySem.W PyProof.Rows
set_option maxRecDepth 100000
namespace Mine
noncomputable def dObj (es : List DictEntry) : Obj := { cls := .type "dict", data := .dict es.toArray es.length }
theorem dObj_alive {h : Heap} {d : Addr} {es : List DictEntry} (hd : h.objs[d]? = some (dObj es)) : h.get? d = some (dObj es) := by
  unfold Heap.get?; rw [hd]; rfl
theorem places_none {es : Array DictEntry} {h : Int} (hn : ∀ e ∈ es, e.hash ≠ h) : placesWithHash es.size (fun i => es[i]?.map (·.hash)) h = [] := by
  unfold placesWithHash
  rw [List.filter_eq_nil_iff]
  intro i hi
  have hi := List.mem_range.mp hi
  simp only [Array.getElem?_eq_getElem hi, Option.map_some, beq_iff_eq, Option.some.injEq]
  exact hn _ (Array.getElem_mem hi)
theorem heap_update_const {h : Heap} {d : Addr} {g : Obj → Obj} {o : Obj} (ho : h.objs[d]? = some o) : h.update d g = h.update d (fun _ => g o) := by
  obtain ⟨objs, l⟩ := h
  show Heap.mk (objs.modify d g) l = Heap.mk (objs.modify d fun _ => g o) l
  congr 1
  apply Array.ext_getElem?
  intro i
  simp only [Array.getElem?_modify]
  split
  · rename_i h; subst h; rw [show objs[d]? = some o from ho]; rfl
  · rfl
theorem heap_update_update {h : Heap} {d : Addr} {o o' : Obj} : (h.update d (fun _ => o)).update d (fun _ => o') = h.update d (fun _ => o') := by
  obtain ⟨objs, l⟩ := h
  show Heap.mk ((objs.modify d _).modify d _) l = Heap.mk (objs.modify d _) l
  congr 1
  apply Array.ext_getElem?
  intro i
  simp only [Array.getElem?_modify]
  split
  · cases objs[i]? <;> rfl
  · rfl
theorem heap_update_same {h : Heap} {d : Addr} {o : Obj} (ho : h.objs[d]? = some o) : h.update d (fun _ => o) = h := by
  obtain ⟨objs, l⟩ := h
  show Heap.mk (objs.modify d _) l = Heap.mk objs l
  congr 1
  apply Array.ext_getElem?
  intro i
  simp only [Array.getElem?_modify]
  split
  · rename_i h; subst h; rw [show objs[d]? = some o from ho]; rfl
  · rfl
theorem heap_update_at {h : Heap} {d : Addr} {o o' : Obj} (ho : h.objs[d]? = some o) : (h.update d (fun _ => o')).objs[d]? = some o' := by
  obtain ⟨objs, l⟩ := h
  show (objs.modify d _)[d]? = _
  rw [Array.getElem?_modify, if_pos rfl, show objs[d]? = some o from ho]; rfl
theorem heap_update_ne {h : Heap} {d b : Addr} {o' : Obj} (hb : b ≠ d) : (h.update d (fun _ => o')).objs[b]? = h.objs[b]? := by
  obtain ⟨objs, l⟩ := h
  show (objs.modify d _)[b]? = _
  rw [Array.getElem?_modify, if_neg (Ne.symm hb)]
section
variable {w : World} {n₀ : Nat} {ann : Option Value} {α β : Type} {n m : Nat} {s s₁ s₂ : Shared} {a : α} {b : β}
theorem Run.dictEntries {d : Addr} {es : List DictEntry} {p : Option Value} (hd : s.heap.objs[d]? = some (dObj es)) : Run w n₀ ann 1 s (dictEntries d p) s es.toArray := by
  show Run w n₀ ann (1 + 0) s (PySem.loadPart d p >>= _) _ _
  exact Run.bind' (Run.loadPart (dObj_alive hd)) Run.pure
theorem Run.dictEpoch {d : Addr} {es : List DictEntry} {p : Option Value} (hd : s.heap.objs[d]? = some (dObj es)) : Run w n₀ ann 1 s (dictEpoch d p) s es.length := by
  show Run w n₀ ann (1 + 0) s (PySem.loadPart d p >>= _) _ _
  exact Run.bind' (Run.loadPart (dObj_alive hd)) Run.pure
theorem Run.dictFindNew {d : Addr} {es : List DictEntry} {k h : Int} {t : Tok} (hd : s.heap.objs[d]? = some (dObj es)) (hn : ∀ e ∈ es, e.hash ≠ h) :
    Run w n₀ ann 1 s (dictFind d (.int k t) h) s none := by
  unfold dictFind
  refine Run.holding ?_
  show Run w n₀ ann (1 + 0) s (PySem.dictEntries d (keyPart (.int k t)) >>= _) _ _
  refine Run.bind' (Run.dictEntries hd) ?_
  have hp := places_none (es := es.toArray) (h := h) (by simpa using hn)
  dsimp only
  rw [hp]
  exact Run.pure
theorem Run.pushKey {d : Addr} {es : List DictEntry} {e : DictEntry} {p : Option Value} (hd : s.heap.objs[d]? = some (dObj es)) (hm : Nat.ble n₀ d = true) (hsz : es.length < sizeLine) :
    Run w n₀ ann 3 s (updateDictKeys d (·.push e) p) { s with heap := s.heap.update d (fun _ => dObj (es ++ [e])) } () := by
  show Run w n₀ ann (1 + (1 + (1 + 0))) s (PySem.loadPart d p >>= _) _ _
  refine Run.bind' (Run.loadPart (dObj_alive hd)) ?_
  show Run w n₀ ann (1 + (1 + 0)) s (PySem.updatePart d p (Obj.mapDictKeys (·.push e)) >>= _) _ _
  have e1 : s.heap.update d (Obj.mapDictKeys (·.push e)) = s.heap.update d (fun _ => dObj (es ++ [e])) := by
    rw [heap_update_const hd]
    congr 1
    funext _
    show (Obj.mk _ _ _ _ : Obj) = Obj.mk _ _ _ _
    simp
  have r := Run.updatePart (w := w) (n₀ := n₀) (ann := ann) (s := s) (a := d) (p := p) (g := Obj.mapDictKeys (·.push e)) (dObj_alive hd) hm
  rw [e1] at r
  refine Run.bind' r ?_
  show Run w n₀ ann (1 + 0) _ (PySem.loadPart d p >>= _) _ _
  refine Run.bind' (Run.loadPart (dObj_alive (heap_update_at hd))) ?_
  have hp : (dObj (es ++ [e])).data.pastItsLine = none := by
    show (if (es ++ [e]).toArray.size > sizeLine + 1 then some "dict:memory" else none) = none
    rw [if_neg (by simp; omega)]
  rw [hp]
  exact Run.pure
theorem Run.dictSetNew {d : Addr} {es : List DictEntry} {k : Int} {t : Tok} {v : Value} (hd : s.heap.objs[d]? = some (dObj es)) (hm : Nat.ble n₀ d = true) (hsz : es.length < sizeLine) (hn : ∀ e ∈ es, e.hash ≠ hashInt k) :
    Run w n₀ ann 10 s (dictSet d (.int k t) v) { s with heap := s.heap.update d (fun _ => dObj (es ++ [⟨hashInt k, .int k t, v⟩])), toks := s.toks + 1 } () := by
  unfold dictSet
  refine Run.holding ?_
  refine Run.mono (n := 5 + (1 + (1 + 3))) ?_ (by decide)
  refine Run.bind' Run.pyHashInt ?_
  unfold dictSetHashed
  refine Run.holding ?_
  refine Run.bind' (Run.dictFindNew (s := { s with toks := s.toks + 1 }) hd hn) ?_
  exact Run.bind' Run.rule (Run.pushKey (s := { s with toks := s.toks + 1 }) hd hm hsz)
theorem Run.dictPutNew {d : Addr} {es : List DictEntry} {k : Int} {t : Tok} {v : Value} (hd : s.heap.objs[d]? = some (dObj es)) (hm : Nat.ble n₀ d = true) (hsz : es.length < sizeLine) (hn : ∀ e ∈ es, e.hash ≠ hashInt k) :
    Run w n₀ ann 4 s (dictPut d (hashInt k) (.int k t) v) { s with heap := s.heap.update d (fun _ => dObj (es ++ [⟨hashInt k, .int k t, v⟩])) } () := by
  unfold dictPut
  refine Run.mono (n := 1 + 3) ?_ (by decide)
  refine Run.bind' (Run.dictFindNew hd hn) ?_
  exact Run.pushKey hd hm hsz
end
end Mine
end

section
open PySem PySem.W PyProof.Rows
set_option maxRecDepth 100000
namespace Mine
noncomputable def KV := List (Int × Str)
noncomputable def entA (t : Nat) : List (Int × Str) → List DictEntry
  | [] => []
  | (i, x) :: r => ⟨hashInt i, .int i t, .str x (t + 1)⟩ :: entA (t + 3) r
noncomputable def entB (t : Nat) : List (Int × Str) → List DictEntry
  | [] => []
  | (i, x) :: r => ⟨hashInt i, .int i t, .str x (t + 1)⟩ :: entB (t + 2) r
theorem entA_append (a b : List (Int × Str)) : ∀ t, entA t (a ++ b) = entA t a ++ entA (t + 3 * a.length) b := by
  induction a with
  | nil => intro t; simp [entA]
  | cons x l ih => intro t; obtain ⟨i, x⟩ := x; simp only [List.cons_append, entA, ih, List.length_cons]; rw [show t + 3 + 3 * l.length = t + 3 * (l.length + 1) by omega]
theorem entA_length (l : List (Int × Str)) : ∀ t, (entA t l).length = l.length := by
  induction l with
  | nil => intro t; rfl
  | cons x l ih => intro t; obtain ⟨i, x⟩ := x; simp [entA, ih]
theorem entB_length (l : List (Int × Str)) : ∀ t, (entB t l).length = l.length := by
  induction l with
  | nil => intro t; rfl
  | cons x l ih => intro t; obtain ⟨i, x⟩ := x; simp [entB, ih]
theorem entA_hash (l : List (Int × Str)) : ∀ t, (entA t l).map (·.hash) = l.map (hashInt ·.1) := by
  induction l with
  | nil => intro t; rfl
  | cons x l ih => intro t; obtain ⟨i, x⟩ := x; simp [entA, ih]
theorem entB_hash (l : List (Int × Str)) : ∀ t, (entB t l).map (·.hash) = l.map (hashInt ·.1) := by
  induction l with
  | nil => intro t; rfl
  | cons x l ih => intro t; obtain ⟨i, x⟩ := x; simp [entB, ih]
noncomputable def IntE (e : DictEntry) : Prop := ∃ k t, e.key = .int k t ∧ e.hash = hashInt k
theorem entA_int (l : List (Int × Str)) : ∀ t, ∀ e ∈ entA t l, IntE e := by
  induction l with
  | nil => intro t e h; cases h
  | cons x l ih =>
    intro t e h; obtain ⟨i, x⟩ := x
    rcases List.mem_cons.mp h with rfl | h
    · exact ⟨i, t, rfl, rfl⟩
    · exact ih _ e h
theorem entB_int (l : List (Int × Str)) : ∀ t, ∀ e ∈ entB t l, IntE e := by
  induction l with
  | nil => intro t e h; cases h
  | cons x l ih =>
    intro t e h; obtain ⟨i, x⟩ := x
    rcases List.mem_cons.mp h with rfl | h
    · exact ⟨i, t, rfl, rfl⟩
    · exact ih _ e h
section
variable {w : World} {n₀ : Nat} {ann : Option Value} {α β : Type} {n m : Nat} {s s₁ s₂ : Shared} {a : α} {b : β}
structure PairOk (w : World) (n₀ : Nat) (ann : Option Value) (p : Sem Value × Sem Value) (kv : Int × Str) : Prop where
  key : ∀ s : Shared, Run w n₀ ann 1 s p.1 { s with toks := s.toks + 1 } (.int kv.1 s.toks)
  val : ∀ s : Shared, Run w n₀ ann 2 s p.2 { s with toks := s.toks + 1 } (.str kv.2 s.toks)
inductive PairsOk (w : World) (n₀ : Nat) (ann : Option Value) : List (Sem Value × Sem Value) → List (Int × Str) → Prop
  | nil : PairsOk w n₀ ann [] []
  | cons {p : Sem Value × Sem Value} {kv : Int × Str} {l : List (Sem Value × Sem Value)} {r : List (Int × Str)} : PairOk w n₀ ann p kv → PairsOk w n₀ ann l r → PairsOk w n₀ ann (p :: l) (kv :: r)
theorem PairsOk.length_eq {l : List (Sem Value × Sem Value)} {r : List (Int × Str)} (h : PairsOk w n₀ ann l r) : l.length = r.length := by
  induction h with
  | nil => rfl
  | cons _ _ ih => simp [ih]
theorem Run.forCons {ι σ : Type} {f : ι → σ → Sem (ForInStep σ)} {x : ι} {l : List ι} {c c1 c2 : σ} (h1 : Run w n₀ ann n s (f x c) s₁ (.yield c1)) (h2 : Run w n₀ ann m s₁ (forIn l c1 f) s₂ c2) :
    Run w n₀ ann (n + m) s (forIn (x :: l) c f) s₂ c2 := by
  rw [List.forIn_cons]
  exact Run.bind' h1 h2
theorem Run.forNil {ι σ : Type} {f : ι → σ → Sem (ForInStep σ)} {c : σ} : Run w n₀ ann 0 s (forIn ([] : List ι) c f) s c := by
  rw [List.forIn_nil]; exact Run.pure
theorem sh_heap (s : Shared) {h : Heap} {t : Nat} (e1 : h = s.heap) (e2 : t = s.toks) : ({ s with heap := h, toks := t } : Shared) = s := by subst e1 e2; rfl
theorem run_storeA {d : Addr} (hm : Nat.ble n₀ d = true) : ∀ (pairs : List (Sem Value × Sem Value)) (kvs : List (Int × Str)) (es : List DictEntry) (s : Shared), PairsOk w n₀ ann pairs kvs → s.heap.objs[d]? = some (dObj es) → es.length + kvs.length ≤ sizeLine →
    ((es.map (·.hash)) ++ kvs.map (hashInt ·.1)).Nodup →
    Run w n₀ ann (13 * kvs.length) s (forIn pairs PUnit.unit fun x (__s : PUnit) => match x with
      | (k, v) => do
        let kv ← k
        let vv ← holding [kv] v
        holding [kv, vv] (dictSet d kv vv)
        pure (ForInStep.yield PUnit.unit))
      { s with heap := s.heap.update d (fun _ => dObj (es ++ entA s.toks kvs)), toks := s.toks + 3 * kvs.length } PUnit.unit
  | [], [], es, s, _, hd, _, _ => by
    have e := sh_heap s (h := s.heap.update d (fun _ => dObj (es ++ []))) (t := s.toks + 3 * 0) (by rw [List.append_nil]; exact heap_update_same hd) (by omega)
    show Run w n₀ ann 0 s _ { s with heap := s.heap.update d (fun _ => dObj (es ++ [])), toks := s.toks + 3 * 0 } _
    rw [e]
    exact Run.forNil
  | (k, v) :: pairs, (i, x) :: kvs, es, s, .cons hp hr, hd, hsz, hnd => by
    rw [List.length_cons] at hsz
    have hni : ∀ e ∈ es, e.hash ≠ hashInt i := fun e he => by
      have := (List.nodup_append.mp hnd).2.2 _ (List.mem_map_of_mem he) (hashInt i) (by simp)
      exact this
    refine Run.mono (n := (1 + (2 + (10 + 0))) + 13 * kvs.length) ?_ (by simp; omega)
    refine Run.forCons (s₁ := { s with heap := s.heap.update d (fun _ => dObj (es ++ [⟨hashInt i, .int i s.toks, .str x (s.toks + 1)⟩])), toks := s.toks + 3 }) (c1 := PUnit.unit) ?_ ?_
    · refine Run.bind' (hp.key s) ?_
      refine Run.bind' (Run.holding (hp.val _)) ?_
      refine Run.bind' (Run.holding (Run.dictSetNew (s := { s with toks := s.toks + 1 + 1 }) hd hm (by omega) hni)) ?_
      exact Run.pure
    · have ih := run_storeA hm pairs kvs (es ++ [⟨hashInt i, .int i s.toks, .str x (s.toks + 1)⟩]) { s with heap := s.heap.update d (fun _ => dObj (es ++ [⟨hashInt i, .int i s.toks, .str x (s.toks + 1)⟩])), toks := s.toks + 3 } hr (heap_update_at hd) (by simp; omega) (by simpa using hnd)
      dsimp only at ih
      rw [heap_update_update, List.append_assoc] at ih
      rw [show s.toks + 3 * ((i, x) :: kvs).length = s.toks + 3 + 3 * kvs.length by simp; omega]
      exact ih
  | [], _ :: _, _, _, h, _, _, _ => nomatch h
  | _ :: _, [], _, _, h, _, _, _ => nomatch h
theorem push_update {h : Heap} {o o' : Obj} : (h.push o).update h.objs.size (fun _ => o') = h.push o' := by
  obtain ⟨objs, l⟩ := h
  show Heap.mk ((objs.push o).modify objs.size _) l = Heap.mk (objs.push o') l
  congr 1
  apply Array.ext_getElem?
  intro i
  simp only [Array.getElem?_modify, Array.getElem?_push]
  split
  · rename_i h; subst h; simp
  · rename_i h; rw [if_neg (fun e => h e.symm), if_neg (fun e => h e.symm)]
theorem push_at {h : Heap} {o : Obj} : (h.push o).objs[h.objs.size]? = some o := by
  obtain ⟨objs, l⟩ := h
  show (objs.push o)[objs.size]? = some o
  simp
theorem run_subDictA {pairs : List (Sem Value × Sem Value)} {kvs : List (Int × Str)} (hp : PairsOk w n₀ ann pairs kvs) (hl : 15 < kvs.length) (hsz : kvs.length ≤ sizeLine) (hm : n₀ ≤ s.heap.objs.size)
    (hnd : (kvs.map (hashInt ·.1)).Nodup) :
    Run w n₀ ann (2 + 13 * kvs.length) s (subDict pairs) { s with heap := s.heap.push (dObj (entA s.toks kvs)), toks := s.toks + 3 * kvs.length } s.heap.objs.size := by
  unfold subDict
  refine Run.mono (n := 1 + ((1 + (13 * kvs.length + 0)) + 0)) ?_ (by omega)
  refine Run.bind' Run.alloc ?_
  refine Run.bind' (s₁ := { s with heap := s.heap.push (dObj (entA s.toks kvs)), toks := s.toks + 3 * kvs.length }) (a := ()) (Run.holding ?_) Run.pure
  rw [if_neg (by rw [hp.length_eq]; omega)]
  refine Run.bind' Run.rule ?_
  have := run_storeA (w := w) (n₀ := n₀) (ann := ann) (d := s.heap.objs.size) (Nat.ble_eq.mpr hm) pairs kvs [] { s with heap := s.heap.push (dObj []) } hp push_at (by simpa using hsz) (by simpa using hnd)
  dsimp only at this
  rw [push_update, List.nil_append] at this
  exact Run.bind' this Run.pure
end
end Mine
end

section
open PySem PySem.W PyProof.Rows
set_option maxRecDepth 100000
namespace Mine
noncomputable def valsB (t : Nat) : List (Int × Str) → List (Value × Value)
  | [] => []
  | (i, x) :: r => (.int i t, .str x (t + 1)) :: valsB (t + 2) r
section
variable {w : World} {n₀ : Nat} {ann : Option Value} {α β : Type} {n m : Nat} {s s₁ s₂ : Shared} {a : α} {b : β}
theorem valsB_cons (t : Nat) (i : Int) (x : Str) (r : List (Int × Str)) : valsB t ((i, x) :: r) = (.int i t, .str x (t + 1)) :: valsB (t + 1 + 1) r := rfl
theorem evalPairs_cons_eq (k v : Sem Value) (rest : List (Sem Value × Sem Value)) : evalPairs ((k, v) :: rest) = (do
    let kv ← k
    let vv ← holding [kv] v
    return (kv, vv) :: (← holding [kv, vv] (evalPairs rest))) := by rw [evalPairs]
theorem run_evalPairs : ∀ (pairs : List (Sem Value × Sem Value)) (kvs : List (Int × Str)) (s s' : Shared), s' = { s with toks := s.toks + 2 * kvs.length } → PairsOk w n₀ ann pairs kvs →
    Run w n₀ ann (3 * kvs.length) s (evalPairs pairs) s' (valsB s.toks kvs) := by
  intro pairs
  induction pairs with
  | nil =>
    intro kvs s s' hs' h
    cases h
    rw [hs']
    show Run w n₀ ann 0 s (Sem.pure []) { s with toks := s.toks + 0 } []
    exact Run.pure
  | cons p pairs ih =>
    intro kvs s s' hs' h
    cases h with
    | @cons _ kv _ kvs hp hr =>
      obtain ⟨k, v⟩ := p
      obtain ⟨i, x⟩ := kv
      refine Run.mono (n := 1 + (2 + (3 * kvs.length + 0))) ?_ (by simp; omega)
      rw [evalPairs_cons_eq, valsB_cons]
      refine Run.bind' (hp.key s) ?_
      refine Run.bind' (Run.holding (hp.val _)) ?_
      have ih := ih kvs { s with toks := s.toks + 1 + 1 } s' (by rw [hs']; simp; omega) hr
      exact Run.bind' (Run.holding ih) Run.pure
theorem run_storeB {d : Addr} (hm : Nat.ble n₀ d = true) : ∀ (kvs : List (Int × Str)) (t : Nat) (es : List DictEntry) (s : Shared), s.heap.objs[d]? = some (dObj es) → es.length + kvs.length ≤ sizeLine →
    ((es.map (·.hash)) ++ kvs.map (hashInt ·.1)).Nodup →
    Run w n₀ ann (10 * kvs.length) s (forIn (valsB t kvs) PUnit.unit fun x (__s : PUnit) => match x with
      | (k, v) => do
        dictSet d k v
        pure (ForInStep.yield PUnit.unit))
      { s with heap := s.heap.update d (fun _ => dObj (es ++ entB t kvs)), toks := s.toks + kvs.length } PUnit.unit
  | [], t, es, s, hd, _, _ => by
    have e := sh_heap s (h := s.heap.update d (fun _ => dObj (es ++ []))) (t := s.toks + 0) (by rw [List.append_nil]; exact heap_update_same hd) (by omega)
    show Run w n₀ ann 0 s _ { s with heap := s.heap.update d (fun _ => dObj (es ++ [])), toks := s.toks + 0 } _
    rw [e]
    exact Run.forNil
  | (i, x) :: kvs, t, es, s, hd, hsz, hnd => by
    rw [List.length_cons] at hsz
    have hni : ∀ e ∈ es, e.hash ≠ hashInt i := fun e he => by
      have := (List.nodup_append.mp hnd).2.2 _ (List.mem_map_of_mem he) (hashInt i) (by simp)
      exact this
    refine Run.mono (n := (10 + 0) + 10 * kvs.length) ?_ (by simp; omega)
    refine Run.forCons (s₁ := { s with heap := s.heap.update d (fun _ => dObj (es ++ [⟨hashInt i, .int i t, .str x (t + 1)⟩])), toks := s.toks + 1 }) (c1 := PUnit.unit) ?_ ?_
    · refine Run.bind' (Run.dictSetNew hd hm (by omega) hni) ?_
      exact Run.pure
    · have ih := run_storeB hm kvs (t + 2) (es ++ [⟨hashInt i, .int i t, .str x (t + 1)⟩]) { s with heap := s.heap.update d (fun _ => dObj (es ++ [⟨hashInt i, .int i t, .str x (t + 1)⟩])), toks := s.toks + 1 } (heap_update_at hd) (by simp; omega) (by simpa using hnd)
      dsimp only at ih
      rw [heap_update_update, List.append_assoc] at ih
      rw [show s.toks + ((i, x) :: kvs).length = s.toks + 1 + kvs.length by simp; omega]
      exact ih
theorem run_subDictB {pairs : List (Sem Value × Sem Value)} {kvs : List (Int × Str)} (hp : PairsOk w n₀ ann pairs kvs) (hl : kvs.length ≤ 15) (hm : n₀ ≤ s.heap.objs.size)
    (hnd : (kvs.map (hashInt ·.1)).Nodup) :
    Run w n₀ ann (2 + 13 * kvs.length) s (subDict pairs) { s with heap := s.heap.push (dObj (entB s.toks kvs)), toks := s.toks + 3 * kvs.length } s.heap.objs.size := by
  unfold subDict
  refine Run.mono (n := 1 + ((3 * kvs.length + (10 * kvs.length + 0)) + 0)) ?_ (by omega)
  refine Run.bind' Run.alloc ?_
  refine Run.bind' (s₁ := { s with heap := s.heap.push (dObj (entB s.toks kvs)), toks := s.toks + 3 * kvs.length }) (a := ()) (Run.holding ?_) Run.pure
  rw [if_pos (by rw [hp.length_eq]; exact hl)]
  refine Run.bind' (run_evalPairs pairs kvs { s with heap := s.heap.push (dObj []) } _ rfl hp) (Run.holding ?_)
  have hz : ([] : List DictEntry).length + kvs.length ≤ sizeLine := by rw [sizeLine_eq, List.length_nil]; omega
  have := run_storeB (w := w) (n₀ := n₀) (ann := ann) (d := s.heap.objs.size) (Nat.ble_eq.mpr hm) kvs s.toks [] { s with heap := s.heap.push (dObj []), toks := s.toks + 2 * kvs.length } push_at hz (by simpa using hnd)
  dsimp only at this
  rw [push_update, List.nil_append, show s.toks + 2 * kvs.length + kvs.length = s.toks + 3 * kvs.length by omega] at this
  exact Run.bind' this Run.pure
theorem run_typeOf {a : Addr} {es : List DictEntry} (ha : s.heap.objs[a]? = some (dObj es)) : Run w n₀ ann 1 s (typeOf (.ref a)) s (.type "dict") := by
  show Run w n₀ ann (1 + 0) s (PySem.loadPart a (some headPart) >>= _) _ _
  exact Run.bind' (Run.loadPart (dObj_alive ha)) Run.pure
theorem run_isDict {a : Addr} {es : List DictEntry} (ha : s.heap.objs[a]? = some (dObj es)) : Run w n₀ ann 1 s (isInstance (.ref a) (.type "dict")) s true := by
  unfold isInstance
  refine Run.mono (n := 1 + 0) ?_ (by decide)
  refine Run.bind' (run_typeOf ha) ?_
  have e : isSubtype (.type "dict") (.type "dict") = (Sem.pure true : Sem Bool) := by kernel_rfl
  rw [e]; exact Run.pure
theorem run_iterDict {a : Addr} {es : List DictEntry} (ha : s.heap.objs[a]? = some (dObj es)) : Run w n₀ ann 1 s (specialOf (.ref a) "__iter__") s (some (.builtin "dict.__iter__")) := by
  unfold specialOf
  refine Run.mono (n := 1 + 0) ?_ (by decide)
  refine Run.bind' (run_typeOf ha) ?_
  have e : typeLookup (.type "dict") "__iter__" = (Sem.pure (some (.builtin "dict.__iter__")) : Sem (Option Value)) := by kernel_rfl
  rw [e]; exact Run.pure
theorem run_mergeLoop {d a : Addr} {es es2 : List DictEntry} {f : Nat → PUnit → Sem (ForInStep PUnit)}
    (hf : ∀ (s : Shared) (i : Nat) (acc : List DictEntry) (e : DictEntry), s.heap.objs[d]? = some (dObj acc) → s.heap.objs[a]? = some (dObj es2) → es2[i]? = some e → acc.length < sizeLine → (∀ x ∈ acc, x.hash ≠ e.hash) →
      Run w n₀ ann 6 s (f i PUnit.unit) { s with heap := s.heap.update d (fun _ => dObj (acc ++ [e])) } (.yield PUnit.unit)) (had : a ≠ d) (hsz : es.length + es2.length ≤ sizeLine) (hnd : ((es ++ es2).map (·.hash)).Nodup) :
    ∀ (k i : Nat) (s : Shared), i + k = es2.length → s.heap.objs[d]? = some (dObj (es ++ es2.take i)) → s.heap.objs[a]? = some (dObj es2) →
      Run w n₀ ann (6 * k) s (forIn (List.range' i k) PUnit.unit f) { s with heap := s.heap.update d (fun _ => dObj (es ++ es2)) } PUnit.unit
  | 0, i, s, hk, hd, ha => by
    have e := sh_heap s (h := s.heap.update d (fun _ => dObj (es ++ es2))) (t := s.toks) (by rw [List.take_of_length_le (by omega)] at hd; exact heap_update_same hd) rfl
    have e' : ({ s with heap := s.heap.update d (fun _ => dObj (es ++ es2)) } : Shared) = s := e
    rw [e']
    exact Run.forNil
  | k + 1, i, s, hk, hd, ha => by
    have hi : i < es2.length := by omega
    have hsp : es ++ es2 = (es ++ es2.take i) ++ es2.drop i := by rw [List.append_assoc, List.take_append_drop]
    have hdr : es2.drop i = es2[i] :: es2.drop (i + 1) := List.drop_eq_getElem_cons hi
    have hne : ∀ x ∈ es ++ es2.take i, x.hash ≠ (es2[i]).hash := by
      intro x hx
      rw [hsp, List.map_append] at hnd
      exact (List.nodup_append.mp hnd).2.2 _ (List.mem_map_of_mem hx) _ (List.mem_map_of_mem (by rw [hdr]; exact .head _))
    have htk : es ++ es2.take i ++ [es2[i]] = es ++ es2.take (i + 1) := by
      rw [List.append_assoc, List.take_add_one, List.getElem?_eq_getElem hi]; rfl
    refine Run.mono (n := 6 + 6 * k) ?_ (by omega)
    rw [List.range'_succ]
    have h1 := hf s i (es ++ es2.take i) es2[i] hd ha (List.getElem?_eq_getElem hi) (by rw [List.length_append, List.length_take]; omega) hne
    rw [htk] at h1
    refine Run.forCons h1 ?_
    have ih := run_mergeLoop hf had hsz hnd k (i + 1) { s with heap := s.heap.update d (fun _ => dObj (es ++ es2.take (i + 1))) } (by omega) (heap_update_at hd) (by rw [← ha]; exact heap_update_ne had)
    dsimp only at ih
    rw [heap_update_update] at ih
    exact ih
theorem run_merge {d a : Addr} {es es2 : List DictEntry} (hd : s.heap.objs[d]? = some (dObj es)) (ha : s.heap.objs[a]? = some (dObj es2)) (had : a ≠ d) (hm : Nat.ble n₀ d = true) (hsys : (a == sysModules) = false)
    (h0 : es ≠ []) (hi : ∀ e ∈ es2, IntE e) (hsz : es.length + es2.length ≤ sizeLine) (hnd : ((es ++ es2).map (·.hash)).Nodup) :
    Run w n₀ ann (5 + 6 * es2.length) s (mergeMapping d (.ref a) false) { s with heap := s.heap.update d (fun _ => dObj (es ++ es2)) } () := by
  unfold mergeMapping
  refine Run.mono (n := 1 + (1 + (0 + (1 + (1 + (1 + (6 * es2.length + 0))))))) ?_ (by omega)
  refine Run.bind' (run_isDict ha) ?_
  rw [if_pos rfl]
  refine Run.bind' (run_iterDict ha) ?_
  refine Run.bind' (a := true) (s₁ := s) ?_ ?_
  · have : (some (Value.builtin "dict.__iter__") == some (Value.builtin "dict.__iter__")) = true := by simp
    rw [this]; exact Run.pure
  dsimp only
  rw [hsys]
  rw [if_neg Bool.false_ne_true]
  refine Run.bind' (Run.dictEntries hd) ?_
  rw [if_neg (by simpa using h0)]
  refine Run.bind' (Run.dictEntries ha) ?_
  refine Run.bind' (Run.dictEpoch ha) ?_
  refine Run.bind' (a := PUnit.unit) ?_ Run.pure
  have hr : List.range es2.toArray.size = List.range' 0 es2.length := by rw [List.size_toArray, List.range_eq_range']
  rw [hr]
  refine run_mergeLoop (es := es) (es2 := es2) ?_ had hsz hnd es2.length 0 s (by omega) (by simpa using hd) ha
  intro s i acc e hd ha he hz hne
  obtain ⟨k, t, hk1, hk2⟩ := hi e (List.mem_of_getElem? he)
  refine Run.mono (n := 1 + (4 + (1 + 0))) ?_ (by omega)
  refine Run.bind' (Run.dictEntries ha) ?_
  have he' : es2.toArray[i]? = some e := by simpa using he
  rw [he']
  dsimp only
  refine Run.bind' (s₁ := { s with heap := s.heap.update d (fun _ => dObj (acc ++ [e])) }) (a := ()) (Run.holding ?_) ?_
  · rw [if_neg Bool.false_ne_true]
    obtain ⟨hh, kk, vv⟩ := e
    dsimp only at hk1 hk2
    subst hk1 hk2
    exact Run.dictPutNew hd hm hz hne
  · refine Run.bind' (Run.dictEpoch (by rw [← ha]; exact heap_update_ne had)) ?_
    rw [if_neg (by simp)]
    exact Run.pure
end
end Mine
end

section
open PySem PySem.W PyProof.Rows
set_option maxRecDepth 100000
namespace Mine
noncomputable def HS (h : Heap) (es : List DictEntry) (subs : List (List DictEntry)) : Heap := ⟨(h.objs.push (dObj es)) ++ (subs.map dObj).toArray, h.life⟩
theorem HS_size (h : Heap) (es : List DictEntry) (subs : List (List DictEntry)) : (HS h es subs).objs.size = h.objs.size + 1 + subs.length := by simp [HS]; omega
theorem HS_nil (h : Heap) (es : List DictEntry) : HS h es [] = h.push (dObj es) := by
  obtain ⟨objs, l⟩ := h
  show Heap.mk _ _ = Heap.mk _ _
  simp
theorem HS_push (h : Heap) (es c : List DictEntry) (subs : List (List DictEntry)) : (HS h es subs).push (dObj c) = HS h es (subs ++ [c]) := by
  show Heap.mk _ _ = Heap.mk _ _
  congr 1
  apply Array.toList_inj.mp
  simp
theorem HS_at (h : Heap) (es : List DictEntry) (subs : List (List DictEntry)) : (HS h es subs).objs[h.objs.size]? = some (dObj es) := by
  show (_ ++ _)[_]? = _
  rw [Array.getElem?_append_left (by simp)]; simp
theorem HS_last (h : Heap) (es c : List DictEntry) (subs : List (List DictEntry)) : (HS h es (subs ++ [c])).objs[h.objs.size + 1 + subs.length]? = some (dObj c) := by
  show (_ ++ _)[_]? = _
  rw [Array.getElem?_append_right (by simp)]; simp
theorem HS_update (h : Heap) (es es' : List DictEntry) (subs : List (List DictEntry)) : (HS h es subs).update h.objs.size (fun _ => dObj es') = HS h es' subs := by
  show Heap.mk _ _ = Heap.mk _ _
  congr 1
  apply Array.ext_getElem?
  intro i
  rw [Array.getElem?_modify]
  split
  · rename_i hi
    subst hi
    exact (congrArg (Option.map fun _ => dObj es') (HS_at h es subs)).trans (HS_at h es' subs).symm
  · rename_i hi
    show (_ ++ _)[_]? = (_ ++ _)[_]?
    by_cases hl : i < h.objs.size + 1
    · rw [Array.getElem?_append_left (by simpa using hl), Array.getElem?_append_left (by simpa using hl), Array.getElem?_push, Array.getElem?_push, if_neg (fun e => hi e.symm), if_neg (fun e => hi e.symm)]
    · rw [Array.getElem?_append_right (by simp; omega), Array.getElem?_append_right (by simp; omega)]
      simp
noncomputable def subsA (t : Nat) : List (List (Int × Str)) → List (List DictEntry)
  | [] => []
  | c :: r => entA t c :: subsA (t + 3 * c.length) r
noncomputable abbrev Pr := Sem Value × Sem Value
noncomputable def itemsP (ps : List Pr) : List (Option (Sem Value) × Sem Value) := ps.map fun p => (some p.1, p.2)
noncomputable def flushF (run : List Pr) (main : Option Addr) : Sem (Option Addr) :=
  if run.isEmpty = true then pure main
  else match main with
    | none => do
      let x ← subDict run
      pure (some x)
    | some d => do
      let sub ← holding [Value.ref d] (subDict run)
      (holding [Value.ref d, Value.ref sub] (mergeMapping d (Value.ref sub) false)).onRaise fun x => do
        let _ ← holding [Value.ref d, x] (runValue (Code.builtin "proto.let_go" {}))
        pure ()
      pure (some d)
section
variable {w : World} {n₀ : Nat} {ann : Option Value} {n m : Nat} {s s₁ s₂ : Shared}
theorem PairsOk.split : ∀ {r1 r2 : List (Int × Str)} {l : List Pr}, PairsOk w n₀ ann l (r1 ++ r2) → ∃ l1 l2, l = l1 ++ l2 ∧ PairsOk w n₀ ann l1 r1 ∧ PairsOk w n₀ ann l2 r2
  | [], r2, l, h => ⟨[], l, rfl, .nil, h⟩
  | kv :: r1, r2, _, .cons hp hr => by
    obtain ⟨l1, l2, rfl, h1, h2⟩ := hr.split
    exact ⟨_ :: l1, l2, rfl, .cons hp h1, h2⟩
theorem run_flush {h : Heap} {es c : List DictEntry} {subs : List (List DictEntry)} {run : List Pr} {t' k : Nat} (hs : s.heap = HS h es subs) (hr0 : run ≠ []) (hm : n₀ ≤ h.objs.size) (hsys : sysModules < h.objs.size)
    (hsub : Run w n₀ ann k s (subDict run) { s with heap := s.heap.push (dObj c), toks := t' } s.heap.objs.size)
    (h0 : es ≠ []) (hi : ∀ e ∈ c, IntE e) (hsz : es.length + c.length ≤ sizeLine) (hnd : ((es ++ c).map (·.hash)).Nodup) :
    Run w n₀ ann (k + (5 + 6 * c.length)) s (flushF run (some h.objs.size)) { s with heap := HS h (es ++ c) (subs ++ [c]), toks := t' } (some h.objs.size) := by
  unfold flushF
  rw [if_neg (by simpa using hr0)]
  dsimp only
  refine Run.mono (n := k + ((5 + 6 * c.length) + 0)) ?_ (by omega)
  refine Run.bind' (Run.holding hsub) ?_
  have hsize : s.heap.objs.size = h.objs.size + 1 + subs.length := by rw [hs, HS_size]
  have hh : s.heap.push (dObj c) = HS h es (subs ++ [c]) := by rw [hs, HS_push]
  refine Run.bind' (a := ()) (s₁ := { s with heap := HS h (es ++ c) (subs ++ [c]), toks := t' }) (Run.onRaise (Run.holding ?_)) Run.pure
  have := run_merge (w := w) (n₀ := n₀) (ann := ann) (s := { s with heap := s.heap.push (dObj c), toks := t' }) (d := h.objs.size) (a := s.heap.objs.size) (es := es) (es2 := c)
    (by dsimp only; rw [hh]; exact HS_at _ _ _) (by dsimp only; rw [hh, hsize]; exact HS_last _ _ _ _) (Nat.ne_of_gt (by omega)) (Nat.ble_eq.mpr hm) (beq_eq_false_iff_ne.mpr (Nat.ne_of_gt (Nat.lt_of_lt_of_le hsys (by omega)))) h0 hi hsz hnd
  dsimp only at this
  rw [hh, HS_update] at this
  rw [hh]
  exact this
variable {f : (Option (Sem Value) × Sem Value) → (Option Addr × List Pr) → Sem (ForInStep (Option Addr × List Pr))}
  (hA : ∀ (p : Pr) (main : Option Addr) (run : List Pr), run.length + 1 ≠ 17 → f (some p.1, p.2) (main, run) = pure (.yield (main, run ++ [p])))
  (hB : ∀ (p : Pr) (main : Option Addr) (run : List Pr), run.length + 1 = 17 → f (some p.1, p.2) (main, run) = (flushF (run ++ [p]) main >>= fun m => pure (.yield (m, []))))
include hA in
theorem run_acc {main : Option Addr} {rest : List (Option (Sem Value) × Sem Value)} {b2 : Option Addr × List Pr} : ∀ (ps run : List Pr), run.length + ps.length ≤ 16 → Run w n₀ ann m s (forIn rest (main, run ++ ps) f) s₂ b2 →
    Run w n₀ ann m s (forIn (itemsP ps ++ rest) (main, run) f) s₂ b2
  | [], run, _, h => by rw [List.append_nil] at h; exact h
  | p :: ps, run, hl, h => by
    rw [List.length_cons] at hl
    show Run w n₀ ann m s (forIn ((some p.1, p.2) :: (itemsP ps ++ rest)) (main, run) f) s₂ b2
    refine Run.mono (n := 0 + m) (Run.forCons (s₁ := s) (c1 := (main, run ++ [p])) ?_ ?_) (by omega)
    · rw [hA p main run (by omega)]; exact Run.pure
    · exact run_acc ps (run ++ [p]) (by simp; omega) (by rw [List.append_assoc]; exact h)
include hA hB in
theorem run_chunk {main main' : Option Addr} {rest : List (Option (Sem Value) × Sem Value)} {b2 : Option Addr × List Pr} {ps : List Pr} (hl : ps.length = 17) (hf : Run w n₀ ann n s (flushF ps main) s₁ main')
    (h : Run w n₀ ann m s₁ (forIn rest (main', []) f) s₂ b2) : Run w n₀ ann (n + m) s (forIn (itemsP ps ++ rest) (main, []) f) s₂ b2 := by
  have hne : ps ≠ [] := by intro e; rw [e] at hl; cases hl
  have e : ps = ps.dropLast ++ [ps.getLast hne] := (List.dropLast_concat_getLast hne).symm
  have e2 : itemsP ps ++ rest = itemsP ps.dropLast ++ ((some (ps.getLast hne).1, (ps.getLast hne).2) :: rest) := by
    conv => lhs; rw [e]
    simp [itemsP]
  rw [e2]
  refine run_acc hA ps.dropLast [] (by simp; omega) ?_
  rw [List.nil_append]
  refine Run.mono (n := (n + 0) + m) (Run.forCons (s₁ := s₁) (c1 := (main', [])) ?_ h) (by omega)
  rw [hB _ _ _ (by simp; omega), ← e]
  exact Run.bind' hf Run.pure
include hA hB in
theorem run_chunks {h : Heap} (hm : n₀ ≤ h.objs.size) (hsys : sysModules < h.objs.size) {rest : List (Option (Sem Value) × Sem Value)} {b2 : Option Addr × List Pr} : ∀ (CH : List (List (Int × Str))) (ps : List Pr) (es : List DictEntry) (subs : List (List DictEntry)) (s : Shared),
    PairsOk w n₀ ann ps CH.flatten → (∀ c ∈ CH, c.length = 17) → s.heap = HS h es subs → es ≠ [] → es.length + CH.flatten.length ≤ sizeLine → ((es.map (·.hash)) ++ CH.flatten.map (hashInt ·.1)).Nodup →
    Run w n₀ ann m { s with heap := HS h (es ++ entA s.toks CH.flatten) (subs ++ subsA s.toks CH), toks := s.toks + 3 * CH.flatten.length } (forIn rest (some h.objs.size, []) f) s₂ b2 →
    Run w n₀ ann (400 * CH.length + m) s (forIn (itemsP ps ++ rest) (some h.objs.size, []) f) s₂ b2
  | [], ps, es, subs, s, hp, hc, hs, h0, hsz, hnd, hr => by
    cases hp
    refine Run.mono (n := m) ?_ (by omega)
    have e := sh_heap s (h := HS h (es ++ []) (subs ++ [])) (t := s.toks + 3 * 0) (by rw [List.append_nil, List.append_nil, hs]) (by omega)
    have hr' : Run w n₀ ann m { s with heap := HS h (es ++ []) (subs ++ []), toks := s.toks + 3 * 0 } (forIn rest (some h.objs.size, []) f) s₂ b2 := hr
    rw [e] at hr'
    exact hr'
  | c :: CH, ps, es, subs, s, hp, hc, hs, h0, hsz, hnd, hr => by
    rw [List.flatten_cons] at hp hsz hnd hr
    obtain ⟨l1, l2, rfl, hp1, hp2⟩ := hp.split
    have hcl : c.length = 17 := hc c (.head _)
    have hl1 : l1.length = 17 := by rw [hp1.length_eq, hcl]
    rw [List.length_append] at hsz
    have hnd1 : ((es ++ entA s.toks c).map (·.hash) ++ CH.flatten.map (hashInt ·.1)).Nodup := by
      rw [List.map_append, entA_hash, List.append_assoc]
      rw [List.map_append] at hnd
      exact hnd
    have e : itemsP (l1 ++ l2) ++ rest = itemsP l1 ++ (itemsP l2 ++ rest) := by simp [itemsP]
    rw [e]
    have hsub := run_subDictA (w := w) (n₀ := n₀) (ann := ann) (s := s) hp1 (by omega) (by omega) (by rw [hs, HS_size]; omega) (by
      rw [List.map_append] at hnd
      exact (List.nodup_append.mp (List.nodup_append.mp hnd).2.1).1)
    have hfl := run_flush (h := h) (es := es) (c := entA s.toks c) (subs := subs) (run := l1) hs (by intro q; rw [q] at hl1; cases hl1) hm hsys hsub h0 (entA_int c _) (by rw [entA_length]; omega) (List.nodup_append.mp hnd1).1
    rw [entA_length, hcl] at hfl
    refine Run.mono (n := (2 + 13 * 17 + (5 + 6 * 17)) + (400 * CH.length + m)) (run_chunk hA hB hl1 hfl ?_) (by simp; omega)
    refine run_chunks hm hsys CH l2 (es ++ entA s.toks c) (subs ++ [entA s.toks c]) _ hp2 (fun x hx => hc x (.tail _ hx)) rfl (by simp [h0]) (by rw [List.length_append, entA_length]; omega) hnd1 ?_
    dsimp only
    have e1 : es ++ entA s.toks (c ++ CH.flatten) = es ++ entA s.toks c ++ entA (s.toks + 3 * 17) CH.flatten := by rw [entA_append, hcl, List.append_assoc]
    have e2 : subs ++ subsA s.toks (c :: CH) = subs ++ [entA s.toks c] ++ subsA (s.toks + 3 * 17) CH := by
      show subs ++ (entA s.toks c :: subsA (s.toks + 3 * c.length) CH) = _
      rw [hcl]; simp
    have e3 : s.toks + 3 * (c ++ CH.flatten).length = s.toks + 3 * 17 + 3 * CH.flatten.length := by rw [List.length_append, hcl]; omega
    rw [e1, e2, e3] at hr
    exact hr
end
end Mine
end

section
open PySem PySem.W PyProof.Rows
set_option maxRecDepth 100000
namespace Mine
noncomputable def keyInt : Option PySem.Expr → Option Int
  | some (.Constant (.int i) _ _) => some i
  | _ => none
noncomputable def valStr : PySem.Expr → Option Str
  | .Constant (.str x) _ _ => some x
  | _ => none
noncomputable def kvOf : List (Option PySem.Expr) → List PySem.Expr → Option (List (Int × Str))
  | [], [] => some []
  | k :: ks, v :: vs => match keyInt k, valStr v, kvOf ks vs with
    | some i, some x, some r => some ((i, x) :: r)
    | _, _, _ => none
  | _, _ => none
noncomputable def ascB : Int → List (Int × Str) → Bool
  | lo, [] => decide (lo < 2 ^ 60)
  | lo, (i, _) :: r => decide (lo < i) && ascB i r
theorem ascB_spec : ∀ (l : List (Int × Str)) (lo : Int), ascB lo l = true → lo < 2 ^ 60 ∧ (∀ kv ∈ l, lo < kv.1 ∧ kv.1 < 2 ^ 60) ∧ (l.map (·.1)).Nodup
  | [], lo, h => ⟨of_decide_eq_true h, fun _ h => (nomatch h), List.nodup_nil⟩
  | (i, x) :: r, lo, h => by
    obtain ⟨h1, h2⟩ := Bool.and_eq_true_iff.mp h
    have h1 := of_decide_eq_true h1
    obtain ⟨a, b, c⟩ := ascB_spec r i h2
    refine ⟨by omega, fun kv hkv => ?_, ?_⟩
    · rcases List.mem_cons.mp hkv with rfl | hkv
      · exact ⟨h1, a⟩
      · have := b kv hkv; omega
    · rw [List.map_cons, List.nodup_cons]
      refine ⟨fun hi => ?_, c⟩
      obtain ⟨kv, hkv, e⟩ := List.mem_map.mp hi
      have := (b kv hkv).1
      dsimp only at e
      omega
theorem hashInt_self {k : Int} (h0 : 0 ≤ k) (h1 : k < 2 ^ 60) : hashInt k = k := by
  have hr : rawHash k = k := by
    unfold rawHash
    have e : ((k.natAbs : Nat) : Int) % ((2 ^ 61 - 1 : Nat) : Int) = k := by
      have e1 : ((k.natAbs : Nat) : Int) = k := by omega
      rw [e1]
      exact Int.emod_eq_of_lt h0 (by have : ((2 ^ 61 - 1 : Nat) : Int) = 2305843009213693951 := rfl; rw [this]; omega)
    have h1 : ¬ (k < 0) := by omega
    have h2 : ¬ ((k == -1) = true) := by simp; omega
    dsimp only
    rw [if_neg h1, e, if_neg h2]
  unfold hashInt
  rw [hr, if_neg (by simp; omega)]
theorem asc_hash {l : List (Int × Str)} (h : ascB (-1) l = true) : l.map (hashInt ·.1) = l.map (·.1) ∧ (l.map (hashInt ·.1)).Nodup := by
  obtain ⟨_, b, c⟩ := ascB_spec l _ h
  have e : l.map (hashInt ·.1) = l.map (·.1) := List.map_congr_left fun kv hkv => hashInt_self (by have := (b kv hkv).1; omega) (b kv hkv).2
  exact ⟨e, e ▸ c⟩
section
variable {w : World} {n₀ : Nat} {ann : Option Value} {n m : Nat} {s s₁ s₂ : Shared}
theorem pairs_of {env : Env} {pos : Pos} : ∀ (ks : List (Option PySem.Expr)) (vs : List PySem.Expr) (kvs : List (Int × Str)), kvOf ks vs = some kvs →
    ∃ ps : List Pr, (evalEachOpt ks env).zip ((evalEach vs env).map fun v => do let x ← v; standAt pos; pure x) = itemsP ps ∧ PairsOk w n₀ ann ps kvs
  | [], [], kvs, h => by
    obtain rfl := Option.some.inj h
    exact ⟨[], rfl, .nil⟩
  | k :: ks, v :: vs, kvs, h => by
    unfold kvOf at h
    split at h
    · rename_i i x r hk hv hr
      obtain rfl := Option.some.inj h
      obtain ⟨ps, e, hp⟩ := pairs_of (env := env) (pos := pos) ks vs r hr
      unfold keyInt at hk
      unfold valStr at hv
      split at hk
      · rename_i i' a b
        obtain rfl := Option.some.inj hk
        split at hv
        · rename_i x' a' b'
          obtain rfl := Option.some.inj hv
          refine ⟨(eval (.Constant (.int i') a b) env, do let y ← eval (.Constant (.str x') a' b') env; standAt pos; pure y) :: ps, ?_, .cons ⟨fun s => ?_, fun s => ?_⟩ hp⟩
          · unfold evalEachOpt evalEach
            rw [List.map_cons, List.zip_cons_cons, e]
            rfl
          · have e1 : eval (.Constant (.int i') a b) env = (do let t ← fresh; pure (.int i' t)) := by kernel_rfl
            dsimp only
            rw [e1]
            exact Run.bind' (n := 1) (m := 0) Run.fresh Run.pure
          · have e1 : eval (.Constant (.str x') a' b') env = (do let t ← fresh; pure (.str x' t)) := by kernel_rfl
            dsimp only
            rw [e1]
            exact Run.bind' (n := 1) (m := 1) (Run.bind' (n := 1) (m := 0) Run.fresh Run.pure) (Run.bind' (n := 1) (m := 0) Run.standAt Run.pure)
        · cases hv
      · cases hk
    · cases h
  | [], _ :: _, _, h => nomatch h
  | _ :: _, [], _, h => nomatch h
noncomputable def mainE (t : Nat) (c0 : List (Int × Str)) (CH : List (List (Int × Str))) (last : List (Int × Str)) : List DictEntry := entA t (c0 ++ CH.flatten) ++ entB (t + 3 * (c0 ++ CH.flatten).length) last
noncomputable def subsE (t : Nat) (c0 : List (Int × Str)) (CH : List (List (Int × Str))) (last : List (Int × Str)) : List (List DictEntry) := subsA (t + 3 * c0.length) CH ++ [entB (t + 3 * (c0 ++ CH.flatten).length) last]
theorem run_dictDisplay {ps : List Pr} {c0 last : List (Int × Str)} {CH : List (List (Int × Str))} (hp : PairsOk w n₀ ann ps (c0 ++ (CH.flatten ++ last))) (hc0 : c0.length = 17) (hc : ∀ c ∈ CH, c.length = 17)
    (hl0 : last ≠ []) (hl : last.length ≤ 15) (hnd : ((c0 ++ (CH.flatten ++ last)).map (hashInt ·.1)).Nodup) (hsz : (c0 ++ (CH.flatten ++ last)).length ≤ sizeLine) (hm : n₀ ≤ s.heap.objs.size) (hsys : sysModules < s.heap.objs.size) :
    Run w n₀ ann (700 + 400 * CH.length) s (dictDisplay (itemsP ps)) { s with heap := HS s.heap (mainE s.toks c0 CH last) (subsE s.toks c0 CH last), toks := s.toks + 3 * (c0 ++ (CH.flatten ++ last)).length } (.ref s.heap.objs.size) := by
  obtain ⟨p0, p1, rfl, hp0, hp1⟩ := hp.split
  obtain ⟨p1, p2, rfl, hp1, hp2⟩ := hp1.split
  have l0 : p0.length = 17 := by rw [hp0.length_eq, hc0]
  have l2 : p2.length = last.length := hp2.length_eq
  have hne2 : p2 ≠ [] := by intro e; rw [e] at l2; exact hl0 (List.length_eq_zero_iff.mp l2.symm)
  have hcl : (c0 ++ CH.flatten).length = 17 + CH.flatten.length := by rw [List.length_append, hc0]
  have hszz : 17 + (CH.flatten.length + last.length) ≤ sizeLine := by rw [List.length_append, List.length_append, hc0] at hsz; exact hsz
  have hnd0 : (c0.map (hashInt ·.1)).Nodup := by rw [List.map_append] at hnd; exact (List.nodup_append.mp hnd).1
  have hnd1 : ((entA s.toks c0).map (·.hash) ++ CH.flatten.map (hashInt ·.1)).Nodup := by
    rw [entA_hash]
    rw [List.map_append, List.map_append, ← List.append_assoc] at hnd; exact (List.nodup_append.mp hnd).1
  have hnd2 : ((entA s.toks (c0 ++ CH.flatten) ++ entB (s.toks + 3 * (c0 ++ CH.flatten).length) last).map (·.hash)).Nodup := by
    rw [List.map_append, entA_hash, entB_hash, ← List.map_append, List.append_assoc]; exact hnd
  have hndl : (last.map (hashInt ·.1)).Nodup := by rw [List.map_append, List.map_append] at hnd; exact (List.nodup_append.mp (List.nodup_append.mp hnd).2.1).2.1
  unfold dictDisplay
  dsimp only
  have h2 : ((c0 ++ (CH.flatten ++ last)).length : Nat) = 17 + CH.flatten.length + last.length := by rw [List.length_append, List.length_append, hc0]; omega
  have hsubs : subsE s.toks c0 CH last = ([] ++ subsA (s.toks + 3 * 17) CH) ++ [entB (s.toks + 3 * (c0 ++ CH.flatten).length) last] := by unfold subsE; rw [hc0]; rfl
  have et : s.toks + 3 * (c0 ++ (CH.flatten ++ last)).length = s.toks + 3 * (c0 ++ CH.flatten).length + 3 * last.length := by rw [h2, hcl]; omega
  have emain : entA s.toks c0 ++ entA (s.toks + 3 * 17) CH.flatten = entA s.toks (c0 ++ CH.flatten) := by rw [entA_append, hc0]
  -- the state ahead of the last flush
  refine Run.mono (n := (2 + 13 * 17 + 0) + (400 * CH.length + 0) + ((2 + 13 * last.length + (5 + 6 * last.length)) + 0)) ?_ (by omega)
  refine Run.bind' (s₁ := { s with heap := HS s.heap (entA s.toks (c0 ++ CH.flatten)) ([] ++ subsA (s.toks + 3 * 17) CH), toks := s.toks + 3 * (c0 ++ CH.flatten).length }) (a := (some s.heap.objs.size, p2)) ?_ ?_
  · have ei : itemsP (p0 ++ (p1 ++ p2)) = itemsP p0 ++ (itemsP p1 ++ (itemsP p2 ++ [])) := by simp [itemsP]
    rw [ei]
    have hA : ∀ (p : Pr) (main : Option Addr) (run : List Pr), run.length + 1 ≠ 17 → ((run ++ [(p.1, p.2)]).length == 17) = false := fun p main run h => by simp; omega
    have hB : ∀ (p : Pr) (run : List Pr), run.length + 1 = 17 → ((run ++ [(p.1, p.2)]).length == 17) = true := fun p run h => by simp; omega
    refine run_chunk (n := 2 + 13 * 17 + 0) (s₁ := { s with heap := HS s.heap (entA s.toks c0) [], toks := s.toks + 3 * 17 }) (main' := some s.heap.objs.size) ?_ ?_ l0 ?_ ?_
    · intro p main run h
      dsimp only
      rw [if_neg (by rw [hA p main run h]; exact Bool.false_ne_true)]
    · intro p main run h
      dsimp only
      rw [if_pos (hB p run h)]
      rfl
    · unfold flushF
      rw [if_neg (by intro e; rw [List.isEmpty_iff] at e; rw [e] at l0; cases l0)]
      dsimp only
      have := run_subDictA (w := w) (n₀ := n₀) (ann := ann) (s := s) hp0 (by omega) (by rw [hc0]; omega) hm hnd0
      rw [hc0, ← HS_nil] at this
      exact Run.bind' this Run.pure
    · refine run_chunks (n₀ := n₀) (h := s.heap) ?_ ?_ hm hsys CH p1 (entA s.toks c0) [] { s with heap := HS s.heap (entA s.toks c0) [], toks := s.toks + 3 * 17 } hp1 hc rfl
        (by intro e; have := congrArg List.length e; rw [entA_length, hc0] at this; cases this) (by rw [entA_length, hc0]; omega) hnd1 ?_
      · intro p main run h
        dsimp only
        rw [if_neg (by rw [hA p main run h]; exact Bool.false_ne_true)]
      · intro p main run h
        dsimp only
        rw [if_pos (hB p run h)]
        rfl
      · dsimp only
        rw [emain, show s.toks + 3 * 17 + 3 * CH.flatten.length = s.toks + 3 * (c0 ++ CH.flatten).length by rw [hcl]; omega]
        refine run_acc ?_ p2 [] (by rw [l2]; simp; omega) ?_
        · intro p main run h
          dsimp only
          rw [if_neg (by rw [hA p main run h]; exact Bool.false_ne_true)]
        · rw [List.nil_append]; exact Run.forNil
  · have hsub := run_subDictB (w := w) (n₀ := n₀) (ann := ann) (s := { s with heap := HS s.heap (entA s.toks (c0 ++ CH.flatten)) ([] ++ subsA (s.toks + 3 * 17) CH), toks := s.toks + 3 * (c0 ++ CH.flatten).length }) hp2 hl (by dsimp only; rw [HS_size]; omega) hndl
    have hfl := run_flush (h := s.heap) (es := entA s.toks (c0 ++ CH.flatten)) (c := entB (s.toks + 3 * (c0 ++ CH.flatten).length) last) (subs := [] ++ subsA (s.toks + 3 * 17) CH) (run := p2) rfl hne2 hm hsys hsub
      (by intro e; have := congrArg List.length e; rw [entA_length, hcl] at this; simp at this) (entB_int last _) (by rw [entA_length, entB_length, hcl]; omega) hnd2
    rw [entB_length] at hfl
    dsimp only at hfl
    rw [hsubs, et]
    exact Run.bind' hfl Run.pure
end
end Mine
end

section
open PySem PySem.W PyProof.Rows
set_option maxRecDepth 100000
namespace Mine
noncomputable def argsAt (n : Nat) : PySem.Arguments := match pw.main.body[n]? with | some (.FunctionDef _ a _ _ _ _ _ _ _ _) => a | _ => default
noncomputable def b3ks : List (Option PySem.Expr) := match pw.main.body[3]? with | some (Stmt.Assign _ (PySem.Expr.Dict ks _ _) _) => ks | _ => []
noncomputable def b3vs : List PySem.Expr := match pw.main.body[3]? with | some (Stmt.Assign _ (PySem.Expr.Dict _ vs _) _) => vs | _ => []
noncomputable def kAll : List (Int × Str) := (kvOf b3ks b3vs).getD []
noncomputable def k0 : List (Int × Str) := kAll.take 17
noncomputable def kCH : List (List (Int × Str)) := (List.range 37).map fun j => (kAll.drop (17 * (j + 1))).take 17
noncomputable def kL : List (Int × Str) := kAll.drop (17 * 38)
theorem k_all : kvOf b3ks b3vs = some (k0 ++ (kCH.flatten ++ kL)) := by kernel_rfl
theorem k_len0 : k0.length = 17 := by kernel_rfl
theorem k_lenCH : (kCH.all fun c => c.length == 17) = true := by kernel_rfl
theorem k_lenL : kL.length = 4 := by kernel_rfl
theorem k_asc : ascB (-1) (k0 ++ (kCH.flatten ++ kL)) = true := by kernel_rfl
noncomputable def lf : Life := (@PySem.Life.mk ([] : List @Nat) ([] : List @Nat) ([] : List @Nat) (0 : @Nat) ([] : List (@Prod @Nat @Nat)) ([] : List @Nat) false (@List.toArray @Nat ([] : List @Nat)) ([] : List @Nat) (0 : @Nat) false false false (0 : @Int) ([(2000 : @Int), (10 : @Int), (10 : @Int)] : List @Int) false (0 : @Nat) true ([] : List @Nat) ([] : List @Nat) (0 : @Nat) false)
noncomputable def dr : Drawn := ⟨0, 0, 0, 0⟩
noncomputable def topEnv : Env := { scope := pw.main.scope, locals := mainNs, globals := mainNs, cells := [], code := .ref 13, frame := some 14 }
noncomputable def cE : Code := .body (behindTheImports pw) topEnv
noncomputable def stL (n : Nat) : List Stmt := (pw.main.body.drop n).take 1
noncomputable def nt : Option Value := some (.ref 6)
noncomputable def q0 : Pos := ⟨0, 0, 0, 0⟩
noncomputable def sT (tr : Params → BT) (n toks : Nat) (w : World) (os : OsState) : SharedT := ⟨tr w.params, n, lf, Array.mk [], dr, toks, os⟩
noncomputable def sH (hp : Params → Heap) (toks : Nat) (w : World) (os : OsState) : Shared := ⟨hp w.params, Array.mk [], dr, toks, os⟩
noncomputable section
noncomputable def nsPut (o : Obj) (i : Nat) (v : Value) : Obj := o.mapDict (·.modify i fun e => { e with val := v })
noncomputable def nsNew (o : Obj) (e : DictEntry) : Obj := o.mapDictKeys (·.push e)
noncomputable def ob11_a (P : Params) : Obj := (@PySem.Obj.mk (@PySem.Value.type "tuple") (@Option.none @Nat) (@PySem.Data.seq (@List.toArray @PySem.Value ([] : List @PySem.Value)) (0 : @Nat)) (@List.toArray (@Option @PySem.Value) ([] : List (@Option @PySem.Value))))
noncomputable def ob12_a (P : Params) : Obj := (@PySem.Obj.mk @PySem.Value.none (@Option.none @Nat) (@PySem.Data.fields (@List.toArray @PySem.Value ([] : List @PySem.Value))) (@List.toArray (@Option @PySem.Value) ([] : List (@Option @PySem.Value))))
noncomputable def ob13_a (P : Params) : Obj := (@PySem.Obj.mk (@PySem.Value.type "code") (@Option.none @Nat) (@PySem.Data.fields (@List.toArray @PySem.Value ([(@PySem.Value.str (@PySem.Str.ofString "<module>") (182 : @Nat)), (@PySem.Value.str (@PySem.Str.ofString "<module>") (183 : @Nat)), (@PySem.Value.str (@PySem.Str.ofString "/claim/cut.py") (184 : @Nat)), (@PySem.Value.int (1 : @Int) (0 : @Nat)), (@PySem.Value.int (0 : @Int) (0 : @Nat)), (@PySem.Value.int (0 : @Int) (0 : @Nat)), (@PySem.Value.int (0 : @Int) (0 : @Nat)), (@PySem.Value.int (0 : @Int) (0 : @Nat)), (@PySem.Value.ref (11 : @Nat)), (@PySem.Value.bool false), (@PySem.Value.int (181 : @Int) (0 : @Nat)), (@PySem.Value.ref (12 : @Nat)), @PySem.Value.none, @PySem.Value.none, @PySem.Value.none, @PySem.Value.none, (@PySem.Value.int (185 : @Int) (0 : @Nat)), (@PySem.Value.int (1 : @Int) (0 : @Nat)), (@PySem.Value.str (@PySem.Str.ofString "/claim/cut.py") (186 : @Nat))] : List @PySem.Value))) (@List.toArray (@Option @PySem.Value) ([] : List (@Option @PySem.Value))))
noncomputable def ob14_a (P : Params) : Obj := (@PySem.Obj.mk (@PySem.Value.type "frame") (@Option.none @Nat) @PySem.Data.plain (@List.toArray (@Option @PySem.Value) ([(@Option.some @PySem.Value (@PySem.Value.ref (13 : @Nat))), (@Option.some @PySem.Value (@PySem.Value.ref (3 : @Nat))), (@Option.some @PySem.Value (@PySem.Value.ref (3 : @Nat))), (@Option.none @PySem.Value), (@Option.some @PySem.Value (@PySem.Value.str (@PySem.Str.ofString "__main__") (164 : @Nat))), (@Option.none @PySem.Value), (@Option.some @PySem.Value (@PySem.Value.ref (0 : @Nat)))] : List (@Option @PySem.Value))))
noncomputable def hp_a (P : Params) : Heap := Heap.mk (Array.mk [boot_o_0 P, boot_o_1 P, boot_o_2 P, boot_o_3 P, boot_o_4 P, boot_o_5 P, boot_o_6 P, boot_o_7 P, boot_o_8 P, boot_o_9 P, boot_o_10 P, ob11_a P, ob12_a P, ob13_a P, ob14_a P]) lf
noncomputable def tr_b (P : Params) : BT := (.node (boot_o_0 P) (.node (boot_o_1 P) (.node (boot_o_3 P) (.node (boot_o_7 P) .nil .nil) (.node (ob11_a P) .nil .nil)) (.node (boot_o_5 P) (.node (boot_o_9 P) .nil .nil) (.node (ob13_a P) .nil .nil))) (.node (boot_o_2 P) (.node (boot_o_4 P) (.node (boot_o_8 P) .nil .nil) (.node (ob12_a P) .nil .nil)) (.node (boot_o_6 P) (.node (boot_o_10 P) .nil .nil) (.node (ob14_a P) .nil .nil))))
noncomputable def ob3_1 (P : Params) : Obj := nsPut (boot_o_3 P) 0 (@PySem.Value.str (@PySem.Str.ofString "cpy313.stringprep") (187 : @Nat))
noncomputable def tr_1 (P : Params) : BT := (.node (boot_o_0 P) (.node (boot_o_1 P) (.node (ob3_1 P) (.node (boot_o_7 P) .nil .nil) (.node (ob11_a P) .nil .nil)) (.node (boot_o_5 P) (.node (boot_o_9 P) .nil .nil) (.node (ob13_a P) .nil .nil))) (.node (boot_o_2 P) (.node (boot_o_4 P) (.node (boot_o_8 P) .nil .nil) (.node (ob12_a P) .nil .nil)) (.node (boot_o_6 P) (.node (boot_o_10 P) .nil .nil) (.node (ob14_a P) .nil .nil))))
noncomputable def ob3_2 (P : Params) : Obj := nsNew (ob3_1 P) (@PySem.DictEntry.mk (@PySem.PyData.keyHash P (@PySem.Str.ofString "b1_set")) (@PySem.Value.str (@PySem.Str.ofString "b1_set") (248 : @Nat)) (@PySem.Value.ref (22 : @Nat)))
noncomputable def ob15_2 (P : Params) : Obj := (@PySem.Obj.mk (@PySem.Value.type "list") (@Option.none @Nat) (@PySem.Data.seq (@List.toArray @PySem.Value ([(@PySem.Value.int (173 : @Int) (189 : @Nat)), (@PySem.Value.int (847 : @Int) (190 : @Nat)), (@PySem.Value.int (6150 : @Int) (191 : @Nat)), (@PySem.Value.int (6155 : @Int) (192 : @Nat)), (@PySem.Value.int (6156 : @Int) (193 : @Nat)), (@PySem.Value.int (6157 : @Int) (194 : @Nat)), (@PySem.Value.int (8203 : @Int) (195 : @Nat)), (@PySem.Value.int (8204 : @Int) (196 : @Nat)), (@PySem.Value.int (8205 : @Int) (197 : @Nat)), (@PySem.Value.int (8288 : @Int) (198 : @Nat)), (@PySem.Value.int (65279 : @Int) (199 : @Nat))] : List @PySem.Value)) (0 : @Nat)) (@List.toArray (@Option @PySem.Value) ([] : List (@Option @PySem.Value))))
noncomputable def ob16_2 (P : Params) : Obj := (@PySem.Obj.mk (@PySem.Value.type "range") (@Option.none @Nat) (@PySem.Data.fields (@List.toArray @PySem.Value ([(@PySem.Value.int (65024 : @Int) (200 : @Nat)), (@PySem.Value.int (65040 : @Int) (201 : @Nat)), (@PySem.Value.int (1 : @Int) (202 : @Nat))] : List @PySem.Value))) (@List.toArray (@Option @PySem.Value) ([] : List (@Option @PySem.Value))))
noncomputable def ob17_2 (P : Params) : Obj := (@PySem.Obj.mk (@PySem.Value.type "list") (@Option.none @Nat) (@PySem.Data.seq (@List.toArray @PySem.Value ([(@PySem.Value.int (65024 : @Int) (205 : @Nat)), (@PySem.Value.int (65025 : @Int) (206 : @Nat)), (@PySem.Value.int (65026 : @Int) (207 : @Nat)), (@PySem.Value.int (65027 : @Int) (208 : @Nat)), (@PySem.Value.int (65028 : @Int) (209 : @Nat)), (@PySem.Value.int (65029 : @Int) (210 : @Nat)), (@PySem.Value.int (65030 : @Int) (211 : @Nat)), (@PySem.Value.int (65031 : @Int) (212 : @Nat)), (@PySem.Value.int (65032 : @Int) (213 : @Nat)), (@PySem.Value.int (65033 : @Int) (214 : @Nat)), (@PySem.Value.int (65034 : @Int) (215 : @Nat)), (@PySem.Value.int (65035 : @Int) (216 : @Nat)), (@PySem.Value.int (65036 : @Int) (217 : @Nat)), (@PySem.Value.int (65037 : @Int) (218 : @Nat)), (@PySem.Value.int (65038 : @Int) (219 : @Nat)), (@PySem.Value.int (65039 : @Int) (220 : @Nat))] : List @PySem.Value)) (18 : @Nat)) (@List.toArray (@Option @PySem.Value) ([] : List (@Option @PySem.Value))))
noncomputable def ob18_2 (P : Params) : Obj := (@PySem.Obj.mk (@PySem.Value.type "range_iterator") (@Option.none @Nat) (@PySem.Data.fields (@List.toArray @PySem.Value ([(@PySem.Value.int (65040 : @Int) (0 : @Nat)), (@PySem.Value.int (0 : @Int) (0 : @Nat)), (@PySem.Value.int (1 : @Int) (0 : @Nat))] : List @PySem.Value))) (@List.toArray (@Option @PySem.Value) ([] : List (@Option @PySem.Value))))
noncomputable def ob19_2 (P : Params) : Obj := (@PySem.Obj.mk (@PySem.Value.type "tuple") (@Option.none @Nat) (@PySem.Data.seq (@List.toArray @PySem.Value ([] : List @PySem.Value)) (0 : @Nat)) (@List.toArray (@Option @PySem.Value) ([] : List (@Option @PySem.Value))))
noncomputable def ob20_2 (P : Params) : Obj := (@PySem.Obj.mk (@PySem.Value.type "StopIteration") (@Option.none @Nat) (@PySem.Data.fields (@List.toArray @PySem.Value ([(@PySem.Value.ref (19 : @Nat)), @PySem.Value.none, @PySem.Value.none, @PySem.Value.none, (@PySem.Value.bool false), @PySem.Value.none] : List @PySem.Value))) (@List.toArray (@Option @PySem.Value) ([] : List (@Option @PySem.Value))))
noncomputable def ob21_2 (P : Params) : Obj := (@PySem.Obj.mk (@PySem.Value.type "list") (@Option.none @Nat) (@PySem.Data.seq (@List.toArray @PySem.Value ([(@PySem.Value.int (173 : @Int) (189 : @Nat)), (@PySem.Value.int (847 : @Int) (190 : @Nat)), (@PySem.Value.int (6150 : @Int) (191 : @Nat)), (@PySem.Value.int (6155 : @Int) (192 : @Nat)), (@PySem.Value.int (6156 : @Int) (193 : @Nat)), (@PySem.Value.int (6157 : @Int) (194 : @Nat)), (@PySem.Value.int (8203 : @Int) (195 : @Nat)), (@PySem.Value.int (8204 : @Int) (196 : @Nat)), (@PySem.Value.int (8205 : @Int) (197 : @Nat)), (@PySem.Value.int (8288 : @Int) (198 : @Nat)), (@PySem.Value.int (65279 : @Int) (199 : @Nat)), (@PySem.Value.int (65024 : @Int) (205 : @Nat)), (@PySem.Value.int (65025 : @Int) (206 : @Nat)), (@PySem.Value.int (65026 : @Int) (207 : @Nat)), (@PySem.Value.int (65027 : @Int) (208 : @Nat)), (@PySem.Value.int (65028 : @Int) (209 : @Nat)), (@PySem.Value.int (65029 : @Int) (210 : @Nat)), (@PySem.Value.int (65030 : @Int) (211 : @Nat)), (@PySem.Value.int (65031 : @Int) (212 : @Nat)), (@PySem.Value.int (65032 : @Int) (213 : @Nat)), (@PySem.Value.int (65033 : @Int) (214 : @Nat)), (@PySem.Value.int (65034 : @Int) (215 : @Nat)), (@PySem.Value.int (65035 : @Int) (216 : @Nat)), (@PySem.Value.int (65036 : @Int) (217 : @Nat)), (@PySem.Value.int (65037 : @Int) (218 : @Nat)), (@PySem.Value.int (65038 : @Int) (219 : @Nat)), (@PySem.Value.int (65039 : @Int) (220 : @Nat))] : List @PySem.Value)) (0 : @Nat)) (@List.toArray (@Option @PySem.Value) ([] : List (@Option @PySem.Value))))
noncomputable def ob22_2 (P : Params) : Obj := (@PySem.Obj.mk (@PySem.Value.type "set") (@Option.none @Nat) (@PySem.Data.set (@List.toArray (@Prod @Int @PySem.Value) ([(@Prod.mk @Int @PySem.Value (65024 : @Int) (@PySem.Value.int (65024 : @Int) (205 : @Nat))), (@Prod.mk @Int @PySem.Value (65025 : @Int) (@PySem.Value.int (65025 : @Int) (206 : @Nat))), (@Prod.mk @Int @PySem.Value (65026 : @Int) (@PySem.Value.int (65026 : @Int) (207 : @Nat))), (@Prod.mk @Int @PySem.Value (65027 : @Int) (@PySem.Value.int (65027 : @Int) (208 : @Nat))), (@Prod.mk @Int @PySem.Value (65028 : @Int) (@PySem.Value.int (65028 : @Int) (209 : @Nat))), (@Prod.mk @Int @PySem.Value (65029 : @Int) (@PySem.Value.int (65029 : @Int) (210 : @Nat))), (@Prod.mk @Int @PySem.Value (6150 : @Int) (@PySem.Value.int (6150 : @Int) (191 : @Nat))), (@Prod.mk @Int @PySem.Value (65030 : @Int) (@PySem.Value.int (65030 : @Int) (211 : @Nat))), (@Prod.mk @Int @PySem.Value (65031 : @Int) (@PySem.Value.int (65031 : @Int) (212 : @Nat))), (@Prod.mk @Int @PySem.Value (65032 : @Int) (@PySem.Value.int (65032 : @Int) (213 : @Nat))), (@Prod.mk @Int @PySem.Value (65033 : @Int) (@PySem.Value.int (65033 : @Int) (214 : @Nat))), (@Prod.mk @Int @PySem.Value (6155 : @Int) (@PySem.Value.int (6155 : @Int) (192 : @Nat))), (@Prod.mk @Int @PySem.Value (6156 : @Int) (@PySem.Value.int (6156 : @Int) (193 : @Nat))), (@Prod.mk @Int @PySem.Value (6157 : @Int) (@PySem.Value.int (6157 : @Int) (194 : @Nat))), (@Prod.mk @Int @PySem.Value (8203 : @Int) (@PySem.Value.int (8203 : @Int) (195 : @Nat))), (@Prod.mk @Int @PySem.Value (8204 : @Int) (@PySem.Value.int (8204 : @Int) (196 : @Nat))), (@Prod.mk @Int @PySem.Value (8205 : @Int) (@PySem.Value.int (8205 : @Int) (197 : @Nat))), (@Prod.mk @Int @PySem.Value (65034 : @Int) (@PySem.Value.int (65034 : @Int) (215 : @Nat))), (@Prod.mk @Int @PySem.Value (65035 : @Int) (@PySem.Value.int (65035 : @Int) (216 : @Nat))), (@Prod.mk @Int @PySem.Value (65036 : @Int) (@PySem.Value.int (65036 : @Int) (217 : @Nat))), (@Prod.mk @Int @PySem.Value (65037 : @Int) (@PySem.Value.int (65037 : @Int) (218 : @Nat))), (@Prod.mk @Int @PySem.Value (65038 : @Int) (@PySem.Value.int (65038 : @Int) (219 : @Nat))), (@Prod.mk @Int @PySem.Value (65039 : @Int) (@PySem.Value.int (65039 : @Int) (220 : @Nat))), (@Prod.mk @Int @PySem.Value (173 : @Int) (@PySem.Value.int (173 : @Int) (189 : @Nat))), (@Prod.mk @Int @PySem.Value (847 : @Int) (@PySem.Value.int (847 : @Int) (190 : @Nat))), (@Prod.mk @Int @PySem.Value (8288 : @Int) (@PySem.Value.int (8288 : @Int) (198 : @Nat))), (@Prod.mk @Int @PySem.Value (65279 : @Int) (@PySem.Value.int (65279 : @Int) (199 : @Nat)))] : List (@Prod @Int @PySem.Value))) (29 : @Nat) (@PySem.SetTable.mk (127 : @Nat) (@List.toArray @Nat ([(0 : @Nat), (1 : @Nat), (2 : @Nat), (3 : @Nat), (4 : @Nat), (5 : @Nat), (6 : @Nat), (7 : @Nat), (8 : @Nat), (9 : @Nat), (10 : @Nat), (11 : @Nat), (12 : @Nat), (13 : @Nat), (14 : @Nat), (15 : @Nat), (16 : @Nat), (17 : @Nat), (18 : @Nat), (19 : @Nat), (20 : @Nat), (21 : @Nat), (22 : @Nat), (45 : @Nat), (79 : @Nat), (96 : @Nat), (127 : @Nat)] : List @Nat)) (@List.toArray @Nat ([] : List @Nat)) (0 : @Nat) (@Bool.not (@PySem.Params.followText P "set-order")) (2 : @Nat) true)) (@List.toArray (@Option @PySem.Value) ([] : List (@Option @PySem.Value))))
noncomputable def ob23_2 (P : Params) : Obj := (@PySem.Obj.mk (@PySem.Value.type "list_iterator") (@Option.none @Nat) (@PySem.Data.fields (@List.toArray @PySem.Value ([@PySem.Value.none, (@PySem.Value.int (27 : @Int) (0 : @Nat))] : List @PySem.Value))) (@List.toArray (@Option @PySem.Value) ([] : List (@Option @PySem.Value))))
noncomputable def ob24_2 (P : Params) : Obj := (@PySem.Obj.mk (@PySem.Value.type "tuple") (@Option.none @Nat) (@PySem.Data.seq (@List.toArray @PySem.Value ([] : List @PySem.Value)) (0 : @Nat)) (@List.toArray (@Option @PySem.Value) ([] : List (@Option @PySem.Value))))
noncomputable def ob25_2 (P : Params) : Obj := (@PySem.Obj.mk (@PySem.Value.type "StopIteration") (@Option.none @Nat) (@PySem.Data.fields (@List.toArray @PySem.Value ([(@PySem.Value.ref (24 : @Nat)), @PySem.Value.none, @PySem.Value.none, @PySem.Value.none, (@PySem.Value.bool false), @PySem.Value.none] : List @PySem.Value))) (@List.toArray (@Option @PySem.Value) ([] : List (@Option @PySem.Value))))
noncomputable def tr_2 (P : Params) : BT := (.node (boot_o_0 P) (.node (boot_o_1 P) (.node (ob3_2 P) (.node (boot_o_7 P) (.node (ob15_2 P) .nil .nil) (.node (ob23_2 P) .nil .nil)) (.node (ob11_a P) (.node (ob19_2 P) .nil .nil) .nil)) (.node (boot_o_5 P) (.node (boot_o_9 P) (.node (ob17_2 P) .nil .nil) (.node (ob25_2 P) .nil .nil)) (.node (ob13_a P) (.node (ob21_2 P) .nil .nil) .nil))) (.node (boot_o_2 P) (.node (boot_o_4 P) (.node (boot_o_8 P) (.node (ob16_2 P) .nil .nil) (.node (ob24_2 P) .nil .nil)) (.node (ob12_a P) (.node (ob20_2 P) .nil .nil) .nil)) (.node (boot_o_6 P) (.node (boot_o_10 P) (.node (ob18_2 P) .nil .nil) .nil) (.node (ob14_a P) (.node (ob22_2 P) .nil .nil) .nil))))
noncomputable def ob3_3 (P : Params) : Obj := nsNew (ob3_2 P) (@PySem.DictEntry.mk (@PySem.PyData.keyHash P (@PySem.Str.ofString "in_table_b1")) (@PySem.Value.str (@PySem.Str.ofString "in_table_b1") (255 : @Nat)) (@PySem.Value.ref (32 : @Nat)))
noncomputable def ob12_3 (P : Params) : Obj := (@PySem.Obj.mk @PySem.Value.none (@Option.none @Nat) (@PySem.Data.fields (@List.toArray @PySem.Value ([(@PySem.Value.int (3 : @Int) (0 : @Nat)), (@PySem.Value.int (0 : @Int) (0 : @Nat)), (@PySem.Value.ref (31 : @Nat))] : List @PySem.Value))) (@List.toArray (@Option @PySem.Value) ([] : List (@Option @PySem.Value))))
noncomputable def ob26_3 (P : Params) : Obj := (@PySem.Obj.mk (@PySem.Value.type "tuple") (@Option.none @Nat) (@PySem.Data.seq (@List.toArray @PySem.Value ([] : List @PySem.Value)) (0 : @Nat)) (@List.toArray (@Option @PySem.Value) ([] : List (@Option @PySem.Value))))
noncomputable def ob27_3 (P : Params) : Obj := (@PySem.Obj.mk @PySem.Value.none (@Option.none @Nat) (@PySem.Data.fields (@List.toArray @PySem.Value ([] : List @PySem.Value))) (@List.toArray (@Option @PySem.Value) ([] : List (@Option @PySem.Value))))
noncomputable def ob28_3 (P : Params) : Obj := (@PySem.Obj.mk (@PySem.Value.type "tuple") (@Option.none @Nat) (@PySem.Data.seq (@List.toArray @PySem.Value ([(@PySem.Value.str (@PySem.Str.ofString "code") (252 : @Nat))] : List @PySem.Value)) (0 : @Nat)) (@List.toArray (@Option @PySem.Value) ([] : List (@Option @PySem.Value))))
noncomputable def ob29_3 (P : Params) : Obj := (@PySem.Obj.mk (@PySem.Value.type "tuple") (@Option.none @Nat) (@PySem.Data.seq (@List.toArray @PySem.Value ([] : List @PySem.Value)) (0 : @Nat)) (@List.toArray (@Option @PySem.Value) ([] : List (@Option @PySem.Value))))
noncomputable def ob30_3 (P : Params) : Obj := (@PySem.Obj.mk @PySem.Value.none (@Option.none @Nat) (@PySem.Data.func (@PySem.FuncData.mk (@PySem.Str.ofString "in_table_b1") (@PySem.Str.ofString "in_table_b1") (argsAt 2) (@PySem.FuncBody.stmts (bodyAt 2)) (scopeAt 2) (0 : @Nat) ([] : List (@Prod @PySem.Str @Nat)) @PySem.Value.none @PySem.Value.none @PySem.Value.none @PySem.Value.none (@Option.none @Nat) @PySem.Value.none @PySem.Value.none (0 : @Nat))) (@List.toArray (@Option @PySem.Value) ([] : List (@Option @PySem.Value))))
noncomputable def ob31_3 (P : Params) : Obj := (@PySem.Obj.mk (@PySem.Value.type "code") (@Option.none @Nat) (@PySem.Data.fields (@List.toArray @PySem.Value ([(@PySem.Value.str (@PySem.Str.ofString "in_table_b1") (249 : @Nat)), (@PySem.Value.str (@PySem.Str.ofString "in_table_b1") (250 : @Nat)), (@PySem.Value.str (@PySem.Str.ofString "/claim/cut.py") (251 : @Nat)), (@PySem.Value.int (3 : @Int) (0 : @Nat)), (@PySem.Value.int (1 : @Int) (0 : @Nat)), (@PySem.Value.int (0 : @Int) (0 : @Nat)), (@PySem.Value.int (0 : @Int) (0 : @Nat)), (@PySem.Value.int (3 : @Int) (0 : @Nat)), (@PySem.Value.ref (26 : @Nat)), (@PySem.Value.bool true), (@PySem.Value.int (181 : @Int) (0 : @Nat)), (@PySem.Value.ref (27 : @Nat)), @PySem.Value.none, (@PySem.Value.ref (28 : @Nat)), (@PySem.Value.ref (29 : @Nat)), (@PySem.Value.ref (30 : @Nat)), (@PySem.Value.int (253 : @Int) (0 : @Nat)), (@PySem.Value.int (3 : @Int) (0 : @Nat)), (@PySem.Value.str (@PySem.Str.ofString "/claim/cut.py") (254 : @Nat))] : List @PySem.Value))) (@List.toArray (@Option @PySem.Value) ([] : List (@Option @PySem.Value))))
noncomputable def ob32_3 (P : Params) : Obj := (@PySem.Obj.mk (@PySem.Value.type "function") (@Option.none @Nat) (@PySem.Data.func (@PySem.FuncData.mk (@PySem.Str.ofString "in_table_b1") (@PySem.Str.ofString "in_table_b1") (argsAt 2) (@PySem.FuncBody.stmts (bodyAt 2)) (scopeAt 2) (3 : @Nat) ([] : List (@Prod @PySem.Str @Nat)) @PySem.Value.none @PySem.Value.none @PySem.Value.none (@PySem.Value.str (@PySem.Str.ofString "cpy313.stringprep") (187 : @Nat)) (@Option.none @Nat) (@PySem.Value.ref (31 : @Nat)) @PySem.Value.none (0 : @Nat))) (@List.toArray (@Option @PySem.Value) ([] : List (@Option @PySem.Value))))
noncomputable def tr_3 (P : Params) : BT := (.node (boot_o_0 P) (.node (boot_o_1 P) (.node (ob3_3 P) (.node (boot_o_7 P) (.node (ob15_2 P) (.node (ob31_3 P) .nil .nil) .nil) (.node (ob23_2 P) .nil .nil)) (.node (ob11_a P) (.node (ob19_2 P) .nil .nil) (.node (ob27_3 P) .nil .nil))) (.node (boot_o_5 P) (.node (boot_o_9 P) (.node (ob17_2 P) .nil .nil) (.node (ob25_2 P) .nil .nil)) (.node (ob13_a P) (.node (ob21_2 P) .nil .nil) (.node (ob29_3 P) .nil .nil)))) (.node (boot_o_2 P) (.node (boot_o_4 P) (.node (boot_o_8 P) (.node (ob16_2 P) (.node (ob32_3 P) .nil .nil) .nil) (.node (ob24_2 P) .nil .nil)) (.node (ob12_3 P) (.node (ob20_2 P) .nil .nil) (.node (ob28_3 P) .nil .nil))) (.node (boot_o_6 P) (.node (boot_o_10 P) (.node (ob18_2 P) .nil .nil) (.node (ob26_3 P) .nil .nil)) (.node (ob14_a P) (.node (ob22_2 P) .nil .nil) (.node (ob30_3 P) .nil .nil)))))
noncomputable def ob3_4 (P : Params) : Obj := nsNew (ob3_3 P) (@PySem.DictEntry.mk (@PySem.PyData.keyHash P (@PySem.Str.ofString "b3_exceptions")) (@PySem.Value.str (@PySem.Str.ofString "b3_exceptions") (2206 : @Nat)) (@PySem.Value.ref (33 : @Nat)))
noncomputable def ob33_4 (P : Params) : Obj := dObj (mainE 256 k0 kCH kL)
noncomputable def ob34_4 (P : Params) : Obj := dObj ((subsE 256 k0 kCH kL).getD 0 [])
noncomputable def ob35_4 (P : Params) : Obj := dObj ((subsE 256 k0 kCH kL).getD 1 [])
noncomputable def ob36_4 (P : Params) : Obj := dObj ((subsE 256 k0 kCH kL).getD 2 [])
noncomputable def ob37_4 (P : Params) : Obj := dObj ((subsE 256 k0 kCH kL).getD 3 [])
noncomputable def ob38_4 (P : Params) : Obj := dObj ((subsE 256 k0 kCH kL).getD 4 [])
noncomputable def ob39_4 (P : Params) : Obj := dObj ((subsE 256 k0 kCH kL).getD 5 [])
noncomputable def ob40_4 (P : Params) : Obj := dObj ((subsE 256 k0 kCH kL).getD 6 [])
noncomputable def ob41_4 (P : Params) : Obj := dObj ((subsE 256 k0 kCH kL).getD 7 [])
noncomputable def ob42_4 (P : Params) : Obj := dObj ((subsE 256 k0 kCH kL).getD 8 [])
noncomputable def ob43_4 (P : Params) : Obj := dObj ((subsE 256 k0 kCH kL).getD 9 [])
noncomputable def ob44_4 (P : Params) : Obj := dObj ((subsE 256 k0 kCH kL).getD 10 [])
noncomputable def ob45_4 (P : Params) : Obj := dObj ((subsE 256 k0 kCH kL).getD 11 [])
noncomputable def ob46_4 (P : Params) : Obj := dObj ((subsE 256 k0 kCH kL).getD 12 [])
noncomputable def ob47_4 (P : Params) : Obj := dObj ((subsE 256 k0 kCH kL).getD 13 [])
noncomputable def ob48_4 (P : Params) : Obj := dObj ((subsE 256 k0 kCH kL).getD 14 [])
noncomputable def ob49_4 (P : Params) : Obj := dObj ((subsE 256 k0 kCH kL).getD 15 [])
noncomputable def ob50_4 (P : Params) : Obj := dObj ((subsE 256 k0 kCH kL).getD 16 [])
noncomputable def ob51_4 (P : Params) : Obj := dObj ((subsE 256 k0 kCH kL).getD 17 [])
noncomputable def ob52_4 (P : Params) : Obj := dObj ((subsE 256 k0 kCH kL).getD 18 [])
noncomputable def ob53_4 (P : Params) : Obj := dObj ((subsE 256 k0 kCH kL).getD 19 [])
noncomputable def ob54_4 (P : Params) : Obj := dObj ((subsE 256 k0 kCH kL).getD 20 [])
noncomputable def ob55_4 (P : Params) : Obj := dObj ((subsE 256 k0 kCH kL).getD 21 [])
noncomputable def ob56_4 (P : Params) : Obj := dObj ((subsE 256 k0 kCH kL).getD 22 [])
noncomputable def ob57_4 (P : Params) : Obj := dObj ((subsE 256 k0 kCH kL).getD 23 [])
noncomputable def ob58_4 (P : Params) : Obj := dObj ((subsE 256 k0 kCH kL).getD 24 [])
noncomputable def ob59_4 (P : Params) : Obj := dObj ((subsE 256 k0 kCH kL).getD 25 [])
noncomputable def ob60_4 (P : Params) : Obj := dObj ((subsE 256 k0 kCH kL).getD 26 [])
noncomputable def ob61_4 (P : Params) : Obj := dObj ((subsE 256 k0 kCH kL).getD 27 [])
noncomputable def ob62_4 (P : Params) : Obj := dObj ((subsE 256 k0 kCH kL).getD 28 [])
noncomputable def ob63_4 (P : Params) : Obj := dObj ((subsE 256 k0 kCH kL).getD 29 [])
noncomputable def ob64_4 (P : Params) : Obj := dObj ((subsE 256 k0 kCH kL).getD 30 [])
noncomputable def ob65_4 (P : Params) : Obj := dObj ((subsE 256 k0 kCH kL).getD 31 [])
noncomputable def ob66_4 (P : Params) : Obj := dObj ((subsE 256 k0 kCH kL).getD 32 [])
noncomputable def ob67_4 (P : Params) : Obj := dObj ((subsE 256 k0 kCH kL).getD 33 [])
noncomputable def ob68_4 (P : Params) : Obj := dObj ((subsE 256 k0 kCH kL).getD 34 [])
noncomputable def ob69_4 (P : Params) : Obj := dObj ((subsE 256 k0 kCH kL).getD 35 [])
noncomputable def ob70_4 (P : Params) : Obj := dObj ((subsE 256 k0 kCH kL).getD 36 [])
noncomputable def ob71_4 (P : Params) : Obj := dObj ((subsE 256 k0 kCH kL).getD 37 [])
noncomputable def tr_4 (P : Params) : BT := (.node (boot_o_0 P) (.node (boot_o_1 P) (.node (ob3_4 P) (.node (boot_o_7 P) (.node (ob15_2 P) (.node (ob31_3 P) (.node (ob63_4 P) .nil .nil) .nil) (.node (ob47_4 P) .nil .nil)) (.node (ob23_2 P) (.node (ob39_4 P) (.node (ob71_4 P) .nil .nil) .nil) (.node (ob55_4 P) .nil .nil))) (.node (ob11_a P) (.node (ob19_2 P) (.node (ob35_4 P) (.node (ob67_4 P) .nil .nil) .nil) (.node (ob51_4 P) .nil .nil)) (.node (ob27_3 P) (.node (ob43_4 P) .nil .nil) (.node (ob59_4 P) .nil .nil)))) (.node (boot_o_5 P) (.node (boot_o_9 P) (.node (ob17_2 P) (.node (ob33_4 P) (.node (ob65_4 P) .nil .nil) .nil) (.node (ob49_4 P) .nil .nil)) (.node (ob25_2 P) (.node (ob41_4 P) .nil .nil) (.node (ob57_4 P) .nil .nil))) (.node (ob13_a P) (.node (ob21_2 P) (.node (ob37_4 P) (.node (ob69_4 P) .nil .nil) .nil) (.node (ob53_4 P) .nil .nil)) (.node (ob29_3 P) (.node (ob45_4 P) .nil .nil) (.node (ob61_4 P) .nil .nil))))) (.node (boot_o_2 P) (.node (boot_o_4 P) (.node (boot_o_8 P) (.node (ob16_2 P) (.node (ob32_3 P) (.node (ob64_4 P) .nil .nil) .nil) (.node (ob48_4 P) .nil .nil)) (.node (ob24_2 P) (.node (ob40_4 P) .nil .nil) (.node (ob56_4 P) .nil .nil))) (.node (ob12_3 P) (.node (ob20_2 P) (.node (ob36_4 P) (.node (ob68_4 P) .nil .nil) .nil) (.node (ob52_4 P) .nil .nil)) (.node (ob28_3 P) (.node (ob44_4 P) .nil .nil) (.node (ob60_4 P) .nil .nil)))) (.node (boot_o_6 P) (.node (boot_o_10 P) (.node (ob18_2 P) (.node (ob34_4 P) (.node (ob66_4 P) .nil .nil) .nil) (.node (ob50_4 P) .nil .nil)) (.node (ob26_3 P) (.node (ob42_4 P) .nil .nil) (.node (ob58_4 P) .nil .nil))) (.node (ob14_a P) (.node (ob22_2 P) (.node (ob38_4 P) (.node (ob70_4 P) .nil .nil) .nil) (.node (ob54_4 P) .nil .nil)) (.node (ob30_3 P) (.node (ob46_4 P) .nil .nil) (.node (ob62_4 P) .nil .nil))))))
noncomputable def ob3_5 (P : Params) : Obj := nsNew (ob3_4 P) (@PySem.DictEntry.mk (@PySem.PyData.keyHash P (@PySem.Str.ofString "map_table_b3")) (@PySem.Value.str (@PySem.Str.ofString "map_table_b3") (2214 : @Nat)) (@PySem.Value.ref (78 : @Nat)))
noncomputable def ob12_5 (P : Params) : Obj := (@PySem.Obj.mk @PySem.Value.none (@Option.none @Nat) (@PySem.Data.fields (@List.toArray @PySem.Value ([(@PySem.Value.int (3 : @Int) (0 : @Nat)), (@PySem.Value.int (0 : @Int) (0 : @Nat)), (@PySem.Value.ref (31 : @Nat)), (@PySem.Value.int (6 : @Int) (0 : @Nat)), (@PySem.Value.int (0 : @Int) (0 : @Nat)), (@PySem.Value.ref (77 : @Nat))] : List @PySem.Value))) (@List.toArray (@Option @PySem.Value) ([] : List (@Option @PySem.Value))))
noncomputable def ob72_5 (P : Params) : Obj := (@PySem.Obj.mk (@PySem.Value.type "tuple") (@Option.none @Nat) (@PySem.Data.seq (@List.toArray @PySem.Value ([] : List @PySem.Value)) (0 : @Nat)) (@List.toArray (@Option @PySem.Value) ([] : List (@Option @PySem.Value))))
noncomputable def ob73_5 (P : Params) : Obj := (@PySem.Obj.mk @PySem.Value.none (@Option.none @Nat) (@PySem.Data.fields (@List.toArray @PySem.Value ([] : List @PySem.Value))) (@List.toArray (@Option @PySem.Value) ([] : List (@Option @PySem.Value))))
noncomputable def ob74_5 (P : Params) : Obj := (@PySem.Obj.mk (@PySem.Value.type "tuple") (@Option.none @Nat) (@PySem.Data.seq (@List.toArray @PySem.Value ([(@PySem.Value.str (@PySem.Str.ofString "code") (2210 : @Nat)), (@PySem.Value.str (@PySem.Str.ofString "r") (2211 : @Nat))] : List @PySem.Value)) (0 : @Nat)) (@List.toArray (@Option @PySem.Value) ([] : List (@Option @PySem.Value))))
noncomputable def ob75_5 (P : Params) : Obj := (@PySem.Obj.mk (@PySem.Value.type "tuple") (@Option.none @Nat) (@PySem.Data.seq (@List.toArray @PySem.Value ([] : List @PySem.Value)) (0 : @Nat)) (@List.toArray (@Option @PySem.Value) ([] : List (@Option @PySem.Value))))
noncomputable def ob76_5 (P : Params) : Obj := (@PySem.Obj.mk @PySem.Value.none (@Option.none @Nat) (@PySem.Data.func (@PySem.FuncData.mk (@PySem.Str.ofString "map_table_b3") (@PySem.Str.ofString "map_table_b3") (argsAt 4) (@PySem.FuncBody.stmts (bodyAt 4)) (scopeAt 4) (0 : @Nat) ([] : List (@Prod @PySem.Str @Nat)) @PySem.Value.none @PySem.Value.none @PySem.Value.none @PySem.Value.none (@Option.none @Nat) @PySem.Value.none @PySem.Value.none (0 : @Nat))) (@List.toArray (@Option @PySem.Value) ([] : List (@Option @PySem.Value))))
noncomputable def ob77_5 (P : Params) : Obj := (@PySem.Obj.mk (@PySem.Value.type "code") (@Option.none @Nat) (@PySem.Data.fields (@List.toArray @PySem.Value ([(@PySem.Value.str (@PySem.Str.ofString "map_table_b3") (2207 : @Nat)), (@PySem.Value.str (@PySem.Str.ofString "map_table_b3") (2208 : @Nat)), (@PySem.Value.str (@PySem.Str.ofString "/claim/cut.py") (2209 : @Nat)), (@PySem.Value.int (6 : @Int) (0 : @Nat)), (@PySem.Value.int (1 : @Int) (0 : @Nat)), (@PySem.Value.int (0 : @Int) (0 : @Nat)), (@PySem.Value.int (0 : @Int) (0 : @Nat)), (@PySem.Value.int (3 : @Int) (0 : @Nat)), (@PySem.Value.ref (72 : @Nat)), (@PySem.Value.bool true), (@PySem.Value.int (181 : @Int) (0 : @Nat)), (@PySem.Value.ref (73 : @Nat)), @PySem.Value.none, (@PySem.Value.ref (74 : @Nat)), (@PySem.Value.ref (75 : @Nat)), (@PySem.Value.ref (76 : @Nat)), (@PySem.Value.int (2212 : @Int) (0 : @Nat)), (@PySem.Value.int (6 : @Int) (0 : @Nat)), (@PySem.Value.str (@PySem.Str.ofString "/claim/cut.py") (2213 : @Nat))] : List @PySem.Value))) (@List.toArray (@Option @PySem.Value) ([] : List (@Option @PySem.Value))))
noncomputable def ob78_5 (P : Params) : Obj := (@PySem.Obj.mk (@PySem.Value.type "function") (@Option.none @Nat) (@PySem.Data.func (@PySem.FuncData.mk (@PySem.Str.ofString "map_table_b3") (@PySem.Str.ofString "map_table_b3") (argsAt 4) (@PySem.FuncBody.stmts (bodyAt 4)) (scopeAt 4) (3 : @Nat) ([] : List (@Prod @PySem.Str @Nat)) @PySem.Value.none @PySem.Value.none @PySem.Value.none (@PySem.Value.str (@PySem.Str.ofString "cpy313.stringprep") (187 : @Nat)) (@Option.none @Nat) (@PySem.Value.ref (77 : @Nat)) @PySem.Value.none (0 : @Nat))) (@List.toArray (@Option @PySem.Value) ([] : List (@Option @PySem.Value))))
noncomputable def tr_5 (P : Params) : BT := (.node (boot_o_0 P) (.node (boot_o_1 P) (.node (ob3_5 P) (.node (boot_o_7 P) (.node (ob15_2 P) (.node (ob31_3 P) (.node (ob63_4 P) .nil .nil) .nil) (.node (ob47_4 P) .nil .nil)) (.node (ob23_2 P) (.node (ob39_4 P) (.node (ob71_4 P) .nil .nil) .nil) (.node (ob55_4 P) .nil .nil))) (.node (ob11_a P) (.node (ob19_2 P) (.node (ob35_4 P) (.node (ob67_4 P) .nil .nil) .nil) (.node (ob51_4 P) .nil .nil)) (.node (ob27_3 P) (.node (ob43_4 P) (.node (ob75_5 P) .nil .nil) .nil) (.node (ob59_4 P) .nil .nil)))) (.node (boot_o_5 P) (.node (boot_o_9 P) (.node (ob17_2 P) (.node (ob33_4 P) (.node (ob65_4 P) .nil .nil) .nil) (.node (ob49_4 P) .nil .nil)) (.node (ob25_2 P) (.node (ob41_4 P) (.node (ob73_5 P) .nil .nil) .nil) (.node (ob57_4 P) .nil .nil))) (.node (ob13_a P) (.node (ob21_2 P) (.node (ob37_4 P) (.node (ob69_4 P) .nil .nil) .nil) (.node (ob53_4 P) .nil .nil)) (.node (ob29_3 P) (.node (ob45_4 P) (.node (ob77_5 P) .nil .nil) .nil) (.node (ob61_4 P) .nil .nil))))) (.node (boot_o_2 P) (.node (boot_o_4 P) (.node (boot_o_8 P) (.node (ob16_2 P) (.node (ob32_3 P) (.node (ob64_4 P) .nil .nil) .nil) (.node (ob48_4 P) .nil .nil)) (.node (ob24_2 P) (.node (ob40_4 P) (.node (ob72_5 P) .nil .nil) .nil) (.node (ob56_4 P) .nil .nil))) (.node (ob12_5 P) (.node (ob20_2 P) (.node (ob36_4 P) (.node (ob68_4 P) .nil .nil) .nil) (.node (ob52_4 P) .nil .nil)) (.node (ob28_3 P) (.node (ob44_4 P) (.node (ob76_5 P) .nil .nil) .nil) (.node (ob60_4 P) .nil .nil)))) (.node (boot_o_6 P) (.node (boot_o_10 P) (.node (ob18_2 P) (.node (ob34_4 P) (.node (ob66_4 P) .nil .nil) .nil) (.node (ob50_4 P) .nil .nil)) (.node (ob26_3 P) (.node (ob42_4 P) (.node (ob74_5 P) .nil .nil) .nil) (.node (ob58_4 P) .nil .nil))) (.node (ob14_a P) (.node (ob22_2 P) (.node (ob38_4 P) (.node (ob70_4 P) .nil .nil) .nil) (.node (ob54_4 P) .nil .nil)) (.node (ob30_3 P) (.node (ob46_4 P) (.node (ob78_5 P) .nil .nil) .nil) (.node (ob62_4 P) .nil .nil))))))
noncomputable def ob3_6 (P : Params) : Obj := nsNew (ob3_5 P) (@PySem.DictEntry.mk (@PySem.PyData.keyHash P (@PySem.Str.ofString "c8_set")) (@PySem.Value.str (@PySem.Str.ofString "c8_set") (2255 : @Nat)) (@PySem.Value.ref (92 : @Nat)))
noncomputable def ob79_6 (P : Params) : Obj := (@PySem.Obj.mk (@PySem.Value.type "list") (@Option.none @Nat) (@PySem.Data.seq (@List.toArray @PySem.Value ([(@PySem.Value.int (832 : @Int) (2215 : @Nat)), (@PySem.Value.int (833 : @Int) (2216 : @Nat)), (@PySem.Value.int (8206 : @Int) (2217 : @Nat)), (@PySem.Value.int (8207 : @Int) (2218 : @Nat))] : List @PySem.Value)) (0 : @Nat)) (@List.toArray (@Option @PySem.Value) ([] : List (@Option @PySem.Value))))
noncomputable def ob80_6 (P : Params) : Obj := (@PySem.Obj.mk (@PySem.Value.type "range") (@Option.none @Nat) (@PySem.Data.fields (@List.toArray @PySem.Value ([(@PySem.Value.int (8234 : @Int) (2219 : @Nat)), (@PySem.Value.int (8239 : @Int) (2220 : @Nat)), (@PySem.Value.int (1 : @Int) (2221 : @Nat))] : List @PySem.Value))) (@List.toArray (@Option @PySem.Value) ([] : List (@Option @PySem.Value))))
noncomputable def ob81_6 (P : Params) : Obj := (@PySem.Obj.mk (@PySem.Value.type "list") (@Option.none @Nat) (@PySem.Data.seq (@List.toArray @PySem.Value ([(@PySem.Value.int (8234 : @Int) (2224 : @Nat)), (@PySem.Value.int (8235 : @Int) (2225 : @Nat)), (@PySem.Value.int (8236 : @Int) (2226 : @Nat)), (@PySem.Value.int (8237 : @Int) (2227 : @Nat)), (@PySem.Value.int (8238 : @Int) (2228 : @Nat))] : List @PySem.Value)) (7 : @Nat)) (@List.toArray (@Option @PySem.Value) ([] : List (@Option @PySem.Value))))
noncomputable def ob82_6 (P : Params) : Obj := (@PySem.Obj.mk (@PySem.Value.type "range_iterator") (@Option.none @Nat) (@PySem.Data.fields (@List.toArray @PySem.Value ([(@PySem.Value.int (8239 : @Int) (0 : @Nat)), (@PySem.Value.int (0 : @Int) (0 : @Nat)), (@PySem.Value.int (1 : @Int) (0 : @Nat))] : List @PySem.Value))) (@List.toArray (@Option @PySem.Value) ([] : List (@Option @PySem.Value))))
noncomputable def ob83_6 (P : Params) : Obj := (@PySem.Obj.mk (@PySem.Value.type "tuple") (@Option.none @Nat) (@PySem.Data.seq (@List.toArray @PySem.Value ([] : List @PySem.Value)) (0 : @Nat)) (@List.toArray (@Option @PySem.Value) ([] : List (@Option @PySem.Value))))
noncomputable def ob84_6 (P : Params) : Obj := (@PySem.Obj.mk (@PySem.Value.type "StopIteration") (@Option.none @Nat) (@PySem.Data.fields (@List.toArray @PySem.Value ([(@PySem.Value.ref (83 : @Nat)), @PySem.Value.none, @PySem.Value.none, @PySem.Value.none, (@PySem.Value.bool false), @PySem.Value.none] : List @PySem.Value))) (@List.toArray (@Option @PySem.Value) ([] : List (@Option @PySem.Value))))
noncomputable def ob85_6 (P : Params) : Obj := (@PySem.Obj.mk (@PySem.Value.type "list") (@Option.none @Nat) (@PySem.Data.seq (@List.toArray @PySem.Value ([(@PySem.Value.int (832 : @Int) (2215 : @Nat)), (@PySem.Value.int (833 : @Int) (2216 : @Nat)), (@PySem.Value.int (8206 : @Int) (2217 : @Nat)), (@PySem.Value.int (8207 : @Int) (2218 : @Nat)), (@PySem.Value.int (8234 : @Int) (2224 : @Nat)), (@PySem.Value.int (8235 : @Int) (2225 : @Nat)), (@PySem.Value.int (8236 : @Int) (2226 : @Nat)), (@PySem.Value.int (8237 : @Int) (2227 : @Nat)), (@PySem.Value.int (8238 : @Int) (2228 : @Nat))] : List @PySem.Value)) (0 : @Nat)) (@List.toArray (@Option @PySem.Value) ([] : List (@Option @PySem.Value))))
noncomputable def ob86_6 (P : Params) : Obj := (@PySem.Obj.mk (@PySem.Value.type "range") (@Option.none @Nat) (@PySem.Data.fields (@List.toArray @PySem.Value ([(@PySem.Value.int (8298 : @Int) (2229 : @Nat)), (@PySem.Value.int (8304 : @Int) (2230 : @Nat)), (@PySem.Value.int (1 : @Int) (2231 : @Nat))] : List @PySem.Value))) (@List.toArray (@Option @PySem.Value) ([] : List (@Option @PySem.Value))))
noncomputable def ob87_6 (P : Params) : Obj := (@PySem.Obj.mk (@PySem.Value.type "list") (@Option.none @Nat) (@PySem.Data.seq (@List.toArray @PySem.Value ([(@PySem.Value.int (8298 : @Int) (2234 : @Nat)), (@PySem.Value.int (8299 : @Int) (2235 : @Nat)), (@PySem.Value.int (8300 : @Int) (2236 : @Nat)), (@PySem.Value.int (8301 : @Int) (2237 : @Nat)), (@PySem.Value.int (8302 : @Int) (2238 : @Nat)), (@PySem.Value.int (8303 : @Int) (2239 : @Nat))] : List @PySem.Value)) (8 : @Nat)) (@List.toArray (@Option @PySem.Value) ([] : List (@Option @PySem.Value))))
noncomputable def ob88_6 (P : Params) : Obj := (@PySem.Obj.mk (@PySem.Value.type "range_iterator") (@Option.none @Nat) (@PySem.Data.fields (@List.toArray @PySem.Value ([(@PySem.Value.int (8304 : @Int) (0 : @Nat)), (@PySem.Value.int (0 : @Int) (0 : @Nat)), (@PySem.Value.int (1 : @Int) (0 : @Nat))] : List @PySem.Value))) (@List.toArray (@Option @PySem.Value) ([] : List (@Option @PySem.Value))))
noncomputable def ob89_6 (P : Params) : Obj := (@PySem.Obj.mk (@PySem.Value.type "tuple") (@Option.none @Nat) (@PySem.Data.seq (@List.toArray @PySem.Value ([] : List @PySem.Value)) (0 : @Nat)) (@List.toArray (@Option @PySem.Value) ([] : List (@Option @PySem.Value))))
noncomputable def ob90_6 (P : Params) : Obj := (@PySem.Obj.mk (@PySem.Value.type "StopIteration") (@Option.none @Nat) (@PySem.Data.fields (@List.toArray @PySem.Value ([(@PySem.Value.ref (89 : @Nat)), @PySem.Value.none, @PySem.Value.none, @PySem.Value.none, (@PySem.Value.bool false), @PySem.Value.none] : List @PySem.Value))) (@List.toArray (@Option @PySem.Value) ([] : List (@Option @PySem.Value))))
noncomputable def ob91_6 (P : Params) : Obj := (@PySem.Obj.mk (@PySem.Value.type "list") (@Option.none @Nat) (@PySem.Data.seq (@List.toArray @PySem.Value ([(@PySem.Value.int (832 : @Int) (2215 : @Nat)), (@PySem.Value.int (833 : @Int) (2216 : @Nat)), (@PySem.Value.int (8206 : @Int) (2217 : @Nat)), (@PySem.Value.int (8207 : @Int) (2218 : @Nat)), (@PySem.Value.int (8234 : @Int) (2224 : @Nat)), (@PySem.Value.int (8235 : @Int) (2225 : @Nat)), (@PySem.Value.int (8236 : @Int) (2226 : @Nat)), (@PySem.Value.int (8237 : @Int) (2227 : @Nat)), (@PySem.Value.int (8238 : @Int) (2228 : @Nat)), (@PySem.Value.int (8298 : @Int) (2234 : @Nat)), (@PySem.Value.int (8299 : @Int) (2235 : @Nat)), (@PySem.Value.int (8300 : @Int) (2236 : @Nat)), (@PySem.Value.int (8301 : @Int) (2237 : @Nat)), (@PySem.Value.int (8302 : @Int) (2238 : @Nat)), (@PySem.Value.int (8303 : @Int) (2239 : @Nat))] : List @PySem.Value)) (0 : @Nat)) (@List.toArray (@Option @PySem.Value) ([] : List (@Option @PySem.Value))))
noncomputable def ob92_6 (P : Params) : Obj := (@PySem.Obj.mk (@PySem.Value.type "set") (@Option.none @Nat) (@PySem.Data.set (@List.toArray (@Prod @Int @PySem.Value) ([(@Prod.mk @Int @PySem.Value (832 : @Int) (@PySem.Value.int (832 : @Int) (2215 : @Nat))), (@Prod.mk @Int @PySem.Value (833 : @Int) (@PySem.Value.int (833 : @Int) (2216 : @Nat))), (@Prod.mk @Int @PySem.Value (8234 : @Int) (@PySem.Value.int (8234 : @Int) (2224 : @Nat))), (@Prod.mk @Int @PySem.Value (8235 : @Int) (@PySem.Value.int (8235 : @Int) (2225 : @Nat))), (@Prod.mk @Int @PySem.Value (8236 : @Int) (@PySem.Value.int (8236 : @Int) (2226 : @Nat))), (@Prod.mk @Int @PySem.Value (8237 : @Int) (@PySem.Value.int (8237 : @Int) (2227 : @Nat))), (@Prod.mk @Int @PySem.Value (8206 : @Int) (@PySem.Value.int (8206 : @Int) (2217 : @Nat))), (@Prod.mk @Int @PySem.Value (8207 : @Int) (@PySem.Value.int (8207 : @Int) (2218 : @Nat))), (@Prod.mk @Int @PySem.Value (8238 : @Int) (@PySem.Value.int (8238 : @Int) (2228 : @Nat))), (@Prod.mk @Int @PySem.Value (8298 : @Int) (@PySem.Value.int (8298 : @Int) (2234 : @Nat))), (@Prod.mk @Int @PySem.Value (8299 : @Int) (@PySem.Value.int (8299 : @Int) (2235 : @Nat))), (@Prod.mk @Int @PySem.Value (8300 : @Int) (@PySem.Value.int (8300 : @Int) (2236 : @Nat))), (@Prod.mk @Int @PySem.Value (8301 : @Int) (@PySem.Value.int (8301 : @Int) (2237 : @Nat))), (@Prod.mk @Int @PySem.Value (8302 : @Int) (@PySem.Value.int (8302 : @Int) (2238 : @Nat))), (@Prod.mk @Int @PySem.Value (8303 : @Int) (@PySem.Value.int (8303 : @Int) (2239 : @Nat)))] : List (@Prod @Int @PySem.Value))) (16 : @Nat) (@PySem.SetTable.mk (31 : @Nat) (@List.toArray @Nat ([(0 : @Nat), (1 : @Nat), (10 : @Nat), (11 : @Nat), (12 : @Nat), (13 : @Nat), (14 : @Nat), (15 : @Nat), (16 : @Nat), (17 : @Nat), (18 : @Nat), (19 : @Nat), (20 : @Nat), (21 : @Nat), (22 : @Nat)] : List @Nat)) (@List.toArray @Nat ([] : List @Nat)) (0 : @Nat) (@Bool.not (@PySem.Params.followText P "set-order")) (1 : @Nat) true)) (@List.toArray (@Option @PySem.Value) ([] : List (@Option @PySem.Value))))
noncomputable def ob93_6 (P : Params) : Obj := (@PySem.Obj.mk (@PySem.Value.type "list_iterator") (@Option.none @Nat) (@PySem.Data.fields (@List.toArray @PySem.Value ([@PySem.Value.none, (@PySem.Value.int (15 : @Int) (0 : @Nat))] : List @PySem.Value))) (@List.toArray (@Option @PySem.Value) ([] : List (@Option @PySem.Value))))
noncomputable def ob94_6 (P : Params) : Obj := (@PySem.Obj.mk (@PySem.Value.type "tuple") (@Option.none @Nat) (@PySem.Data.seq (@List.toArray @PySem.Value ([] : List @PySem.Value)) (0 : @Nat)) (@List.toArray (@Option @PySem.Value) ([] : List (@Option @PySem.Value))))
noncomputable def ob95_6 (P : Params) : Obj := (@PySem.Obj.mk (@PySem.Value.type "StopIteration") (@Option.none @Nat) (@PySem.Data.fields (@List.toArray @PySem.Value ([(@PySem.Value.ref (94 : @Nat)), @PySem.Value.none, @PySem.Value.none, @PySem.Value.none, (@PySem.Value.bool false), @PySem.Value.none] : List @PySem.Value))) (@List.toArray (@Option @PySem.Value) ([] : List (@Option @PySem.Value))))
noncomputable def tr_6 (P : Params) : BT := (.node (boot_o_0 P) (.node (boot_o_1 P) (.node (ob3_6 P) (.node (boot_o_7 P) (.node (ob15_2 P) (.node (ob31_3 P) (.node (ob63_4 P) .nil .nil) (.node (ob95_6 P) .nil .nil)) (.node (ob47_4 P) (.node (ob79_6 P) .nil .nil) .nil)) (.node (ob23_2 P) (.node (ob39_4 P) (.node (ob71_4 P) .nil .nil) .nil) (.node (ob55_4 P) (.node (ob87_6 P) .nil .nil) .nil))) (.node (ob11_a P) (.node (ob19_2 P) (.node (ob35_4 P) (.node (ob67_4 P) .nil .nil) .nil) (.node (ob51_4 P) (.node (ob83_6 P) .nil .nil) .nil)) (.node (ob27_3 P) (.node (ob43_4 P) (.node (ob75_5 P) .nil .nil) .nil) (.node (ob59_4 P) (.node (ob91_6 P) .nil .nil) .nil)))) (.node (boot_o_5 P) (.node (boot_o_9 P) (.node (ob17_2 P) (.node (ob33_4 P) (.node (ob65_4 P) .nil .nil) .nil) (.node (ob49_4 P) (.node (ob81_6 P) .nil .nil) .nil)) (.node (ob25_2 P) (.node (ob41_4 P) (.node (ob73_5 P) .nil .nil) .nil) (.node (ob57_4 P) (.node (ob89_6 P) .nil .nil) .nil))) (.node (ob13_a P) (.node (ob21_2 P) (.node (ob37_4 P) (.node (ob69_4 P) .nil .nil) .nil) (.node (ob53_4 P) (.node (ob85_6 P) .nil .nil) .nil)) (.node (ob29_3 P) (.node (ob45_4 P) (.node (ob77_5 P) .nil .nil) .nil) (.node (ob61_4 P) (.node (ob93_6 P) .nil .nil) .nil))))) (.node (boot_o_2 P) (.node (boot_o_4 P) (.node (boot_o_8 P) (.node (ob16_2 P) (.node (ob32_3 P) (.node (ob64_4 P) .nil .nil) .nil) (.node (ob48_4 P) (.node (ob80_6 P) .nil .nil) .nil)) (.node (ob24_2 P) (.node (ob40_4 P) (.node (ob72_5 P) .nil .nil) .nil) (.node (ob56_4 P) (.node (ob88_6 P) .nil .nil) .nil))) (.node (ob12_5 P) (.node (ob20_2 P) (.node (ob36_4 P) (.node (ob68_4 P) .nil .nil) .nil) (.node (ob52_4 P) (.node (ob84_6 P) .nil .nil) .nil)) (.node (ob28_3 P) (.node (ob44_4 P) (.node (ob76_5 P) .nil .nil) .nil) (.node (ob60_4 P) (.node (ob92_6 P) .nil .nil) .nil)))) (.node (boot_o_6 P) (.node (boot_o_10 P) (.node (ob18_2 P) (.node (ob34_4 P) (.node (ob66_4 P) .nil .nil) .nil) (.node (ob50_4 P) (.node (ob82_6 P) .nil .nil) .nil)) (.node (ob26_3 P) (.node (ob42_4 P) (.node (ob74_5 P) .nil .nil) .nil) (.node (ob58_4 P) (.node (ob90_6 P) .nil .nil) .nil))) (.node (ob14_a P) (.node (ob22_2 P) (.node (ob38_4 P) (.node (ob70_4 P) .nil .nil) .nil) (.node (ob54_4 P) (.node (ob86_6 P) .nil .nil) .nil)) (.node (ob30_3 P) (.node (ob46_4 P) (.node (ob78_5 P) .nil .nil) .nil) (.node (ob62_4 P) (.node (ob94_6 P) .nil .nil) .nil))))))
noncomputable def ob3_7 (P : Params) : Obj := nsNew (ob3_6 P) (@PySem.DictEntry.mk (@PySem.PyData.keyHash P (@PySem.Str.ofString "in_table_c8")) (@PySem.Value.str (@PySem.Str.ofString "in_table_c8") (2262 : @Nat)) (@PySem.Value.ref (102 : @Nat)))
noncomputable def ob12_7 (P : Params) : Obj := (@PySem.Obj.mk @PySem.Value.none (@Option.none @Nat) (@PySem.Data.fields (@List.toArray @PySem.Value ([(@PySem.Value.int (3 : @Int) (0 : @Nat)), (@PySem.Value.int (0 : @Int) (0 : @Nat)), (@PySem.Value.ref (31 : @Nat)), (@PySem.Value.int (6 : @Int) (0 : @Nat)), (@PySem.Value.int (0 : @Int) (0 : @Nat)), (@PySem.Value.ref (77 : @Nat)), (@PySem.Value.int (12 : @Int) (0 : @Nat)), (@PySem.Value.int (0 : @Int) (0 : @Nat)), (@PySem.Value.ref (101 : @Nat))] : List @PySem.Value))) (@List.toArray (@Option @PySem.Value) ([] : List (@Option @PySem.Value))))
noncomputable def ob96_7 (P : Params) : Obj := (@PySem.Obj.mk (@PySem.Value.type "tuple") (@Option.none @Nat) (@PySem.Data.seq (@List.toArray @PySem.Value ([] : List @PySem.Value)) (0 : @Nat)) (@List.toArray (@Option @PySem.Value) ([] : List (@Option @PySem.Value))))
noncomputable def ob97_7 (P : Params) : Obj := (@PySem.Obj.mk @PySem.Value.none (@Option.none @Nat) (@PySem.Data.fields (@List.toArray @PySem.Value ([] : List @PySem.Value))) (@List.toArray (@Option @PySem.Value) ([] : List (@Option @PySem.Value))))
noncomputable def ob98_7 (P : Params) : Obj := (@PySem.Obj.mk (@PySem.Value.type "tuple") (@Option.none @Nat) (@PySem.Data.seq (@List.toArray @PySem.Value ([(@PySem.Value.str (@PySem.Str.ofString "code") (2259 : @Nat))] : List @PySem.Value)) (0 : @Nat)) (@List.toArray (@Option @PySem.Value) ([] : List (@Option @PySem.Value))))
noncomputable def ob99_7 (P : Params) : Obj := (@PySem.Obj.mk (@PySem.Value.type "tuple") (@Option.none @Nat) (@PySem.Data.seq (@List.toArray @PySem.Value ([] : List @PySem.Value)) (0 : @Nat)) (@List.toArray (@Option @PySem.Value) ([] : List (@Option @PySem.Value))))
noncomputable def ob100_7 (P : Params) : Obj := (@PySem.Obj.mk @PySem.Value.none (@Option.none @Nat) (@PySem.Data.func (@PySem.FuncData.mk (@PySem.Str.ofString "in_table_c8") (@PySem.Str.ofString "in_table_c8") (argsAt 6) (@PySem.FuncBody.stmts (bodyAt 6)) (scopeAt 6) (0 : @Nat) ([] : List (@Prod @PySem.Str @Nat)) @PySem.Value.none @PySem.Value.none @PySem.Value.none @PySem.Value.none (@Option.none @Nat) @PySem.Value.none @PySem.Value.none (0 : @Nat))) (@List.toArray (@Option @PySem.Value) ([] : List (@Option @PySem.Value))))
noncomputable def ob101_7 (P : Params) : Obj := (@PySem.Obj.mk (@PySem.Value.type "code") (@Option.none @Nat) (@PySem.Data.fields (@List.toArray @PySem.Value ([(@PySem.Value.str (@PySem.Str.ofString "in_table_c8") (2256 : @Nat)), (@PySem.Value.str (@PySem.Str.ofString "in_table_c8") (2257 : @Nat)), (@PySem.Value.str (@PySem.Str.ofString "/claim/cut.py") (2258 : @Nat)), (@PySem.Value.int (12 : @Int) (0 : @Nat)), (@PySem.Value.int (1 : @Int) (0 : @Nat)), (@PySem.Value.int (0 : @Int) (0 : @Nat)), (@PySem.Value.int (0 : @Int) (0 : @Nat)), (@PySem.Value.int (3 : @Int) (0 : @Nat)), (@PySem.Value.ref (96 : @Nat)), (@PySem.Value.bool true), (@PySem.Value.int (181 : @Int) (0 : @Nat)), (@PySem.Value.ref (97 : @Nat)), @PySem.Value.none, (@PySem.Value.ref (98 : @Nat)), (@PySem.Value.ref (99 : @Nat)), (@PySem.Value.ref (100 : @Nat)), (@PySem.Value.int (2260 : @Int) (0 : @Nat)), (@PySem.Value.int (12 : @Int) (0 : @Nat)), (@PySem.Value.str (@PySem.Str.ofString "/claim/cut.py") (2261 : @Nat))] : List @PySem.Value))) (@List.toArray (@Option @PySem.Value) ([] : List (@Option @PySem.Value))))
noncomputable def ob102_7 (P : Params) : Obj := (@PySem.Obj.mk (@PySem.Value.type "function") (@Option.none @Nat) (@PySem.Data.func (@PySem.FuncData.mk (@PySem.Str.ofString "in_table_c8") (@PySem.Str.ofString "in_table_c8") (argsAt 6) (@PySem.FuncBody.stmts (bodyAt 6)) (scopeAt 6) (3 : @Nat) ([] : List (@Prod @PySem.Str @Nat)) @PySem.Value.none @PySem.Value.none @PySem.Value.none (@PySem.Value.str (@PySem.Str.ofString "cpy313.stringprep") (187 : @Nat)) (@Option.none @Nat) (@PySem.Value.ref (101 : @Nat)) @PySem.Value.none (0 : @Nat))) (@List.toArray (@Option @PySem.Value) ([] : List (@Option @PySem.Value))))
noncomputable def tr_7 (P : Params) : BT := (.node (boot_o_0 P) (.node (boot_o_1 P) (.node (ob3_7 P) (.node (boot_o_7 P) (.node (ob15_2 P) (.node (ob31_3 P) (.node (ob63_4 P) .nil .nil) (.node (ob95_6 P) .nil .nil)) (.node (ob47_4 P) (.node (ob79_6 P) .nil .nil) .nil)) (.node (ob23_2 P) (.node (ob39_4 P) (.node (ob71_4 P) .nil .nil) .nil) (.node (ob55_4 P) (.node (ob87_6 P) .nil .nil) .nil))) (.node (ob11_a P) (.node (ob19_2 P) (.node (ob35_4 P) (.node (ob67_4 P) .nil .nil) (.node (ob99_7 P) .nil .nil)) (.node (ob51_4 P) (.node (ob83_6 P) .nil .nil) .nil)) (.node (ob27_3 P) (.node (ob43_4 P) (.node (ob75_5 P) .nil .nil) .nil) (.node (ob59_4 P) (.node (ob91_6 P) .nil .nil) .nil)))) (.node (boot_o_5 P) (.node (boot_o_9 P) (.node (ob17_2 P) (.node (ob33_4 P) (.node (ob65_4 P) .nil .nil) (.node (ob97_7 P) .nil .nil)) (.node (ob49_4 P) (.node (ob81_6 P) .nil .nil) .nil)) (.node (ob25_2 P) (.node (ob41_4 P) (.node (ob73_5 P) .nil .nil) .nil) (.node (ob57_4 P) (.node (ob89_6 P) .nil .nil) .nil))) (.node (ob13_a P) (.node (ob21_2 P) (.node (ob37_4 P) (.node (ob69_4 P) .nil .nil) (.node (ob101_7 P) .nil .nil)) (.node (ob53_4 P) (.node (ob85_6 P) .nil .nil) .nil)) (.node (ob29_3 P) (.node (ob45_4 P) (.node (ob77_5 P) .nil .nil) .nil) (.node (ob61_4 P) (.node (ob93_6 P) .nil .nil) .nil))))) (.node (boot_o_2 P) (.node (boot_o_4 P) (.node (boot_o_8 P) (.node (ob16_2 P) (.node (ob32_3 P) (.node (ob64_4 P) .nil .nil) (.node (ob96_7 P) .nil .nil)) (.node (ob48_4 P) (.node (ob80_6 P) .nil .nil) .nil)) (.node (ob24_2 P) (.node (ob40_4 P) (.node (ob72_5 P) .nil .nil) .nil) (.node (ob56_4 P) (.node (ob88_6 P) .nil .nil) .nil))) (.node (ob12_7 P) (.node (ob20_2 P) (.node (ob36_4 P) (.node (ob68_4 P) .nil .nil) (.node (ob100_7 P) .nil .nil)) (.node (ob52_4 P) (.node (ob84_6 P) .nil .nil) .nil)) (.node (ob28_3 P) (.node (ob44_4 P) (.node (ob76_5 P) .nil .nil) .nil) (.node (ob60_4 P) (.node (ob92_6 P) .nil .nil) .nil)))) (.node (boot_o_6 P) (.node (boot_o_10 P) (.node (ob18_2 P) (.node (ob34_4 P) (.node (ob66_4 P) .nil .nil) (.node (ob98_7 P) .nil .nil)) (.node (ob50_4 P) (.node (ob82_6 P) .nil .nil) .nil)) (.node (ob26_3 P) (.node (ob42_4 P) (.node (ob74_5 P) .nil .nil) .nil) (.node (ob58_4 P) (.node (ob90_6 P) .nil .nil) .nil))) (.node (ob14_a P) (.node (ob22_2 P) (.node (ob38_4 P) (.node (ob70_4 P) .nil .nil) (.node (ob102_7 P) .nil .nil)) (.node (ob54_4 P) (.node (ob86_6 P) .nil .nil) .nil)) (.node (ob30_3 P) (.node (ob46_4 P) (.node (ob78_5 P) .nil .nil) .nil) (.node (ob62_4 P) (.node (ob94_6 P) .nil .nil) .nil))))))
noncomputable def ob3_8 (P : Params) : Obj := nsPut (ob3_7 P) 0 (@PySem.Value.str (@PySem.Str.ofString "cpy313.wave") (2263 : @Nat))
noncomputable def tr_8 (P : Params) : BT := (.node (boot_o_0 P) (.node (boot_o_1 P) (.node (ob3_8 P) (.node (boot_o_7 P) (.node (ob15_2 P) (.node (ob31_3 P) (.node (ob63_4 P) .nil .nil) (.node (ob95_6 P) .nil .nil)) (.node (ob47_4 P) (.node (ob79_6 P) .nil .nil) .nil)) (.node (ob23_2 P) (.node (ob39_4 P) (.node (ob71_4 P) .nil .nil) .nil) (.node (ob55_4 P) (.node (ob87_6 P) .nil .nil) .nil))) (.node (ob11_a P) (.node (ob19_2 P) (.node (ob35_4 P) (.node (ob67_4 P) .nil .nil) (.node (ob99_7 P) .nil .nil)) (.node (ob51_4 P) (.node (ob83_6 P) .nil .nil) .nil)) (.node (ob27_3 P) (.node (ob43_4 P) (.node (ob75_5 P) .nil .nil) .nil) (.node (ob59_4 P) (.node (ob91_6 P) .nil .nil) .nil)))) (.node (boot_o_5 P) (.node (boot_o_9 P) (.node (ob17_2 P) (.node (ob33_4 P) (.node (ob65_4 P) .nil .nil) (.node (ob97_7 P) .nil .nil)) (.node (ob49_4 P) (.node (ob81_6 P) .nil .nil) .nil)) (.node (ob25_2 P) (.node (ob41_4 P) (.node (ob73_5 P) .nil .nil) .nil) (.node (ob57_4 P) (.node (ob89_6 P) .nil .nil) .nil))) (.node (ob13_a P) (.node (ob21_2 P) (.node (ob37_4 P) (.node (ob69_4 P) .nil .nil) (.node (ob101_7 P) .nil .nil)) (.node (ob53_4 P) (.node (ob85_6 P) .nil .nil) .nil)) (.node (ob29_3 P) (.node (ob45_4 P) (.node (ob77_5 P) .nil .nil) .nil) (.node (ob61_4 P) (.node (ob93_6 P) .nil .nil) .nil))))) (.node (boot_o_2 P) (.node (boot_o_4 P) (.node (boot_o_8 P) (.node (ob16_2 P) (.node (ob32_3 P) (.node (ob64_4 P) .nil .nil) (.node (ob96_7 P) .nil .nil)) (.node (ob48_4 P) (.node (ob80_6 P) .nil .nil) .nil)) (.node (ob24_2 P) (.node (ob40_4 P) (.node (ob72_5 P) .nil .nil) .nil) (.node (ob56_4 P) (.node (ob88_6 P) .nil .nil) .nil))) (.node (ob12_7 P) (.node (ob20_2 P) (.node (ob36_4 P) (.node (ob68_4 P) .nil .nil) (.node (ob100_7 P) .nil .nil)) (.node (ob52_4 P) (.node (ob84_6 P) .nil .nil) .nil)) (.node (ob28_3 P) (.node (ob44_4 P) (.node (ob76_5 P) .nil .nil) .nil) (.node (ob60_4 P) (.node (ob92_6 P) .nil .nil) .nil)))) (.node (boot_o_6 P) (.node (boot_o_10 P) (.node (ob18_2 P) (.node (ob34_4 P) (.node (ob66_4 P) .nil .nil) (.node (ob98_7 P) .nil .nil)) (.node (ob50_4 P) (.node (ob82_6 P) .nil .nil) .nil)) (.node (ob26_3 P) (.node (ob42_4 P) (.node (ob74_5 P) .nil .nil) .nil) (.node (ob58_4 P) (.node (ob90_6 P) .nil .nil) .nil))) (.node (ob14_a P) (.node (ob22_2 P) (.node (ob38_4 P) (.node (ob70_4 P) .nil .nil) (.node (ob102_7 P) .nil .nil)) (.node (ob54_4 P) (.node (ob86_6 P) .nil .nil) .nil)) (.node (ob30_3 P) (.node (ob46_4 P) (.node (ob78_5 P) .nil .nil) .nil) (.node (ob62_4 P) (.node (ob94_6 P) .nil .nil) .nil))))))
noncomputable def ob3_9 (P : Params) : Obj := nsNew (ob3_8 P) (@PySem.DictEntry.mk (@PySem.PyData.keyHash P (@PySem.Str.ofString "_byteswap")) (@PySem.Value.str (@PySem.Str.ofString "_byteswap") (2275 : @Nat)) (@PySem.Value.ref (109 : @Nat)))
noncomputable def ob12_9 (P : Params) : Obj := (@PySem.Obj.mk @PySem.Value.none (@Option.none @Nat) (@PySem.Data.fields (@List.toArray @PySem.Value ([(@PySem.Value.int (3 : @Int) (0 : @Nat)), (@PySem.Value.int (0 : @Int) (0 : @Nat)), (@PySem.Value.ref (31 : @Nat)), (@PySem.Value.int (6 : @Int) (0 : @Nat)), (@PySem.Value.int (0 : @Int) (0 : @Nat)), (@PySem.Value.ref (77 : @Nat)), (@PySem.Value.int (12 : @Int) (0 : @Nat)), (@PySem.Value.int (0 : @Int) (0 : @Nat)), (@PySem.Value.ref (101 : @Nat)), (@PySem.Value.int (15 : @Int) (0 : @Nat)), (@PySem.Value.int (0 : @Int) (0 : @Nat)), (@PySem.Value.ref (108 : @Nat))] : List @PySem.Value))) (@List.toArray (@Option @PySem.Value) ([] : List (@Option @PySem.Value))))
noncomputable def ob103_9 (P : Params) : Obj := (@PySem.Obj.mk (@PySem.Value.type "tuple") (@Option.none @Nat) (@PySem.Data.seq (@List.toArray @PySem.Value ([] : List @PySem.Value)) (0 : @Nat)) (@List.toArray (@Option @PySem.Value) ([] : List (@Option @PySem.Value))))
noncomputable def ob104_9 (P : Params) : Obj := (@PySem.Obj.mk @PySem.Value.none (@Option.none @Nat) (@PySem.Data.fields (@List.toArray @PySem.Value ([] : List @PySem.Value))) (@List.toArray (@Option @PySem.Value) ([] : List (@Option @PySem.Value))))
noncomputable def ob105_9 (P : Params) : Obj := (@PySem.Obj.mk (@PySem.Value.type "tuple") (@Option.none @Nat) (@PySem.Data.seq (@List.toArray @PySem.Value ([(@PySem.Value.str (@PySem.Str.ofString "data") (2268 : @Nat)), (@PySem.Value.str (@PySem.Str.ofString "width") (2269 : @Nat)), (@PySem.Value.str (@PySem.Str.ofString "swapped_data") (2270 : @Nat)), (@PySem.Value.str (@PySem.Str.ofString "i") (2271 : @Nat)), (@PySem.Value.str (@PySem.Str.ofString "j") (2272 : @Nat))] : List @PySem.Value)) (0 : @Nat)) (@List.toArray (@Option @PySem.Value) ([] : List (@Option @PySem.Value))))
noncomputable def ob106_9 (P : Params) : Obj := (@PySem.Obj.mk (@PySem.Value.type "tuple") (@Option.none @Nat) (@PySem.Data.seq (@List.toArray @PySem.Value ([] : List @PySem.Value)) (0 : @Nat)) (@List.toArray (@Option @PySem.Value) ([] : List (@Option @PySem.Value))))
noncomputable def ob107_9 (P : Params) : Obj := (@PySem.Obj.mk @PySem.Value.none (@Option.none @Nat) (@PySem.Data.func (@PySem.FuncData.mk (@PySem.Str.ofString "_byteswap") (@PySem.Str.ofString "_byteswap") (argsAt 8) (@PySem.FuncBody.stmts (bodyAt 8)) (scopeAt 8) (0 : @Nat) ([] : List (@Prod @PySem.Str @Nat)) @PySem.Value.none @PySem.Value.none @PySem.Value.none @PySem.Value.none (@Option.none @Nat) @PySem.Value.none @PySem.Value.none (0 : @Nat))) (@List.toArray (@Option @PySem.Value) ([] : List (@Option @PySem.Value))))
noncomputable def ob108_9 (P : Params) : Obj := (@PySem.Obj.mk (@PySem.Value.type "code") (@Option.none @Nat) (@PySem.Data.fields (@List.toArray @PySem.Value ([(@PySem.Value.str (@PySem.Str.ofString "_byteswap") (2265 : @Nat)), (@PySem.Value.str (@PySem.Str.ofString "_byteswap") (2266 : @Nat)), (@PySem.Value.str (@PySem.Str.ofString "/claim/cut.py") (2267 : @Nat)), (@PySem.Value.int (15 : @Int) (0 : @Nat)), (@PySem.Value.int (2 : @Int) (0 : @Nat)), (@PySem.Value.int (0 : @Int) (0 : @Nat)), (@PySem.Value.int (0 : @Int) (0 : @Nat)), (@PySem.Value.int (3 : @Int) (0 : @Nat)), (@PySem.Value.ref (103 : @Nat)), (@PySem.Value.bool true), (@PySem.Value.int (181 : @Int) (0 : @Nat)), (@PySem.Value.ref (104 : @Nat)), @PySem.Value.none, (@PySem.Value.ref (105 : @Nat)), (@PySem.Value.ref (106 : @Nat)), (@PySem.Value.ref (107 : @Nat)), (@PySem.Value.int (2273 : @Int) (0 : @Nat)), (@PySem.Value.int (15 : @Int) (0 : @Nat)), (@PySem.Value.str (@PySem.Str.ofString "/claim/cut.py") (2274 : @Nat))] : List @PySem.Value))) (@List.toArray (@Option @PySem.Value) ([] : List (@Option @PySem.Value))))
noncomputable def ob109_9 (P : Params) : Obj := (@PySem.Obj.mk (@PySem.Value.type "function") (@Option.none @Nat) (@PySem.Data.func (@PySem.FuncData.mk (@PySem.Str.ofString "_byteswap") (@PySem.Str.ofString "_byteswap") (argsAt 8) (@PySem.FuncBody.stmts (bodyAt 8)) (scopeAt 8) (3 : @Nat) ([] : List (@Prod @PySem.Str @Nat)) @PySem.Value.none @PySem.Value.none @PySem.Value.none (@PySem.Value.str (@PySem.Str.ofString "cpy313.wave") (2263 : @Nat)) (@Option.none @Nat) (@PySem.Value.ref (108 : @Nat)) @PySem.Value.none (0 : @Nat))) (@List.toArray (@Option @PySem.Value) ([] : List (@Option @PySem.Value))))
noncomputable def tr_9 (P : Params) : BT := (.node (boot_o_0 P) (.node (boot_o_1 P) (.node (ob3_9 P) (.node (boot_o_7 P) (.node (ob15_2 P) (.node (ob31_3 P) (.node (ob63_4 P) .nil .nil) (.node (ob95_6 P) .nil .nil)) (.node (ob47_4 P) (.node (ob79_6 P) .nil .nil) .nil)) (.node (ob23_2 P) (.node (ob39_4 P) (.node (ob71_4 P) .nil .nil) (.node (ob103_9 P) .nil .nil)) (.node (ob55_4 P) (.node (ob87_6 P) .nil .nil) .nil))) (.node (ob11_a P) (.node (ob19_2 P) (.node (ob35_4 P) (.node (ob67_4 P) .nil .nil) (.node (ob99_7 P) .nil .nil)) (.node (ob51_4 P) (.node (ob83_6 P) .nil .nil) .nil)) (.node (ob27_3 P) (.node (ob43_4 P) (.node (ob75_5 P) .nil .nil) (.node (ob107_9 P) .nil .nil)) (.node (ob59_4 P) (.node (ob91_6 P) .nil .nil) .nil)))) (.node (boot_o_5 P) (.node (boot_o_9 P) (.node (ob17_2 P) (.node (ob33_4 P) (.node (ob65_4 P) .nil .nil) (.node (ob97_7 P) .nil .nil)) (.node (ob49_4 P) (.node (ob81_6 P) .nil .nil) .nil)) (.node (ob25_2 P) (.node (ob41_4 P) (.node (ob73_5 P) .nil .nil) (.node (ob105_9 P) .nil .nil)) (.node (ob57_4 P) (.node (ob89_6 P) .nil .nil) .nil))) (.node (ob13_a P) (.node (ob21_2 P) (.node (ob37_4 P) (.node (ob69_4 P) .nil .nil) (.node (ob101_7 P) .nil .nil)) (.node (ob53_4 P) (.node (ob85_6 P) .nil .nil) .nil)) (.node (ob29_3 P) (.node (ob45_4 P) (.node (ob77_5 P) .nil .nil) (.node (ob109_9 P) .nil .nil)) (.node (ob61_4 P) (.node (ob93_6 P) .nil .nil) .nil))))) (.node (boot_o_2 P) (.node (boot_o_4 P) (.node (boot_o_8 P) (.node (ob16_2 P) (.node (ob32_3 P) (.node (ob64_4 P) .nil .nil) (.node (ob96_7 P) .nil .nil)) (.node (ob48_4 P) (.node (ob80_6 P) .nil .nil) .nil)) (.node (ob24_2 P) (.node (ob40_4 P) (.node (ob72_5 P) .nil .nil) (.node (ob104_9 P) .nil .nil)) (.node (ob56_4 P) (.node (ob88_6 P) .nil .nil) .nil))) (.node (ob12_9 P) (.node (ob20_2 P) (.node (ob36_4 P) (.node (ob68_4 P) .nil .nil) (.node (ob100_7 P) .nil .nil)) (.node (ob52_4 P) (.node (ob84_6 P) .nil .nil) .nil)) (.node (ob28_3 P) (.node (ob44_4 P) (.node (ob76_5 P) .nil .nil) (.node (ob108_9 P) .nil .nil)) (.node (ob60_4 P) (.node (ob92_6 P) .nil .nil) .nil)))) (.node (boot_o_6 P) (.node (boot_o_10 P) (.node (ob18_2 P) (.node (ob34_4 P) (.node (ob66_4 P) .nil .nil) (.node (ob98_7 P) .nil .nil)) (.node (ob50_4 P) (.node (ob82_6 P) .nil .nil) .nil)) (.node (ob26_3 P) (.node (ob42_4 P) (.node (ob74_5 P) .nil .nil) (.node (ob106_9 P) .nil .nil)) (.node (ob58_4 P) (.node (ob90_6 P) .nil .nil) .nil))) (.node (ob14_a P) (.node (ob22_2 P) (.node (ob38_4 P) (.node (ob70_4 P) .nil .nil) (.node (ob102_7 P) .nil .nil)) (.node (ob54_4 P) (.node (ob86_6 P) .nil .nil) .nil)) (.node (ob30_3 P) (.node (ob46_4 P) (.node (ob78_5 P) .nil .nil) .nil) (.node (ob62_4 P) (.node (ob94_6 P) .nil .nil) .nil))))))
noncomputable def ob3_10 (P : Params) : Obj := nsPut (ob3_9 P) 0 (@PySem.Value.str (@PySem.Str.ofString "law_ph0141_01") (2276 : @Nat))
noncomputable def tr_10 (P : Params) : BT := (.node (boot_o_0 P) (.node (boot_o_1 P) (.node (ob3_10 P) (.node (boot_o_7 P) (.node (ob15_2 P) (.node (ob31_3 P) (.node (ob63_4 P) .nil .nil) (.node (ob95_6 P) .nil .nil)) (.node (ob47_4 P) (.node (ob79_6 P) .nil .nil) .nil)) (.node (ob23_2 P) (.node (ob39_4 P) (.node (ob71_4 P) .nil .nil) (.node (ob103_9 P) .nil .nil)) (.node (ob55_4 P) (.node (ob87_6 P) .nil .nil) .nil))) (.node (ob11_a P) (.node (ob19_2 P) (.node (ob35_4 P) (.node (ob67_4 P) .nil .nil) (.node (ob99_7 P) .nil .nil)) (.node (ob51_4 P) (.node (ob83_6 P) .nil .nil) .nil)) (.node (ob27_3 P) (.node (ob43_4 P) (.node (ob75_5 P) .nil .nil) (.node (ob107_9 P) .nil .nil)) (.node (ob59_4 P) (.node (ob91_6 P) .nil .nil) .nil)))) (.node (boot_o_5 P) (.node (boot_o_9 P) (.node (ob17_2 P) (.node (ob33_4 P) (.node (ob65_4 P) .nil .nil) (.node (ob97_7 P) .nil .nil)) (.node (ob49_4 P) (.node (ob81_6 P) .nil .nil) .nil)) (.node (ob25_2 P) (.node (ob41_4 P) (.node (ob73_5 P) .nil .nil) (.node (ob105_9 P) .nil .nil)) (.node (ob57_4 P) (.node (ob89_6 P) .nil .nil) .nil))) (.node (ob13_a P) (.node (ob21_2 P) (.node (ob37_4 P) (.node (ob69_4 P) .nil .nil) (.node (ob101_7 P) .nil .nil)) (.node (ob53_4 P) (.node (ob85_6 P) .nil .nil) .nil)) (.node (ob29_3 P) (.node (ob45_4 P) (.node (ob77_5 P) .nil .nil) (.node (ob109_9 P) .nil .nil)) (.node (ob61_4 P) (.node (ob93_6 P) .nil .nil) .nil))))) (.node (boot_o_2 P) (.node (boot_o_4 P) (.node (boot_o_8 P) (.node (ob16_2 P) (.node (ob32_3 P) (.node (ob64_4 P) .nil .nil) (.node (ob96_7 P) .nil .nil)) (.node (ob48_4 P) (.node (ob80_6 P) .nil .nil) .nil)) (.node (ob24_2 P) (.node (ob40_4 P) (.node (ob72_5 P) .nil .nil) (.node (ob104_9 P) .nil .nil)) (.node (ob56_4 P) (.node (ob88_6 P) .nil .nil) .nil))) (.node (ob12_9 P) (.node (ob20_2 P) (.node (ob36_4 P) (.node (ob68_4 P) .nil .nil) (.node (ob100_7 P) .nil .nil)) (.node (ob52_4 P) (.node (ob84_6 P) .nil .nil) .nil)) (.node (ob28_3 P) (.node (ob44_4 P) (.node (ob76_5 P) .nil .nil) (.node (ob108_9 P) .nil .nil)) (.node (ob60_4 P) (.node (ob92_6 P) .nil .nil) .nil)))) (.node (boot_o_6 P) (.node (boot_o_10 P) (.node (ob18_2 P) (.node (ob34_4 P) (.node (ob66_4 P) .nil .nil) (.node (ob98_7 P) .nil .nil)) (.node (ob50_4 P) (.node (ob82_6 P) .nil .nil) .nil)) (.node (ob26_3 P) (.node (ob42_4 P) (.node (ob74_5 P) .nil .nil) (.node (ob106_9 P) .nil .nil)) (.node (ob58_4 P) (.node (ob90_6 P) .nil .nil) .nil))) (.node (ob14_a P) (.node (ob22_2 P) (.node (ob38_4 P) (.node (ob70_4 P) .nil .nil) (.node (ob102_7 P) .nil .nil)) (.node (ob54_4 P) (.node (ob86_6 P) .nil .nil) .nil)) (.node (ob30_3 P) (.node (ob46_4 P) (.node (ob78_5 P) .nil .nil) .nil) (.node (ob62_4 P) (.node (ob94_6 P) .nil .nil) .nil))))))
noncomputable def ob3_11 (P : Params) : Obj := nsNew (ob3_10 P) (@PySem.DictEntry.mk (@PySem.PyData.keyHash P (@PySem.Str.ofString "_law_drawn")) (@PySem.Value.str (@PySem.Str.ofString "_law_drawn") (2295 : @Nat)) (@PySem.Value.ref (116 : @Nat)))
noncomputable def ob12_11 (P : Params) : Obj := (@PySem.Obj.mk @PySem.Value.none (@Option.none @Nat) (@PySem.Data.fields (@List.toArray @PySem.Value ([(@PySem.Value.int (3 : @Int) (0 : @Nat)), (@PySem.Value.int (0 : @Int) (0 : @Nat)), (@PySem.Value.ref (31 : @Nat)), (@PySem.Value.int (6 : @Int) (0 : @Nat)), (@PySem.Value.int (0 : @Int) (0 : @Nat)), (@PySem.Value.ref (77 : @Nat)), (@PySem.Value.int (12 : @Int) (0 : @Nat)), (@PySem.Value.int (0 : @Int) (0 : @Nat)), (@PySem.Value.ref (101 : @Nat)), (@PySem.Value.int (15 : @Int) (0 : @Nat)), (@PySem.Value.int (0 : @Int) (0 : @Nat)), (@PySem.Value.ref (108 : @Nat)), (@PySem.Value.int (22 : @Int) (0 : @Nat)), (@PySem.Value.int (0 : @Int) (0 : @Nat)), (@PySem.Value.ref (115 : @Nat))] : List @PySem.Value))) (@List.toArray (@Option @PySem.Value) ([] : List (@Option @PySem.Value))))
noncomputable def ob110_11 (P : Params) : Obj := (@PySem.Obj.mk (@PySem.Value.type "tuple") (@Option.none @Nat) (@PySem.Data.seq (@List.toArray @PySem.Value ([] : List @PySem.Value)) (0 : @Nat)) (@List.toArray (@Option @PySem.Value) ([] : List (@Option @PySem.Value))))
noncomputable def ob111_11 (P : Params) : Obj := (@PySem.Obj.mk @PySem.Value.none (@Option.none @Nat) (@PySem.Data.fields (@List.toArray @PySem.Value ([] : List @PySem.Value))) (@List.toArray (@Option @PySem.Value) ([] : List (@Option @PySem.Value))))
noncomputable def ob112_11 (P : Params) : Obj := (@PySem.Obj.mk (@PySem.Value.type "tuple") (@Option.none @Nat) (@PySem.Data.seq (@List.toArray @PySem.Value ([(@PySem.Value.str (@PySem.Str.ofString "number") (2281 : @Nat)), (@PySem.Value.str (@PySem.Str.ofString "kind") (2282 : @Nat)), (@PySem.Value.str (@PySem.Str.ofString "place") (2283 : @Nat)), (@PySem.Value.str (@PySem.Str.ofString "runs") (2284 : @Nat)), (@PySem.Value.str (@PySem.Str.ofString "first") (2285 : @Nat)), (@PySem.Value.str (@PySem.Str.ofString "last") (2286 : @Nat)), (@PySem.Value.str (@PySem.Str.ofString "role") (2287 : @Nat)), (@PySem.Value.str (@PySem.Str.ofString "code") (2288 : @Nat)), (@PySem.Value.str (@PySem.Str.ofString "letter") (2289 : @Nat)), (@PySem.Value.str (@PySem.Str.ofString "form") (2290 : @Nat)), (@PySem.Value.str (@PySem.Str.ofString "words") (2291 : @Nat)), (@PySem.Value.str (@PySem.Str.ofString "word") (2292 : @Nat))] : List @PySem.Value)) (0 : @Nat)) (@List.toArray (@Option @PySem.Value) ([] : List (@Option @PySem.Value))))
noncomputable def ob113_11 (P : Params) : Obj := (@PySem.Obj.mk (@PySem.Value.type "tuple") (@Option.none @Nat) (@PySem.Data.seq (@List.toArray @PySem.Value ([] : List @PySem.Value)) (0 : @Nat)) (@List.toArray (@Option @PySem.Value) ([] : List (@Option @PySem.Value))))
noncomputable def ob114_11 (P : Params) : Obj := (@PySem.Obj.mk @PySem.Value.none (@Option.none @Nat) (@PySem.Data.func (@PySem.FuncData.mk (@PySem.Str.ofString "_law_drawn") (@PySem.Str.ofString "_law_drawn") (argsAt 10) (@PySem.FuncBody.stmts (bodyAt 10)) (scopeAt 10) (0 : @Nat) ([] : List (@Prod @PySem.Str @Nat)) @PySem.Value.none @PySem.Value.none @PySem.Value.none @PySem.Value.none (@Option.none @Nat) @PySem.Value.none @PySem.Value.none (0 : @Nat))) (@List.toArray (@Option @PySem.Value) ([] : List (@Option @PySem.Value))))
noncomputable def ob115_11 (P : Params) : Obj := (@PySem.Obj.mk (@PySem.Value.type "code") (@Option.none @Nat) (@PySem.Data.fields (@List.toArray @PySem.Value ([(@PySem.Value.str (@PySem.Str.ofString "_law_drawn") (2278 : @Nat)), (@PySem.Value.str (@PySem.Str.ofString "_law_drawn") (2279 : @Nat)), (@PySem.Value.str (@PySem.Str.ofString "/claim/cut.py") (2280 : @Nat)), (@PySem.Value.int (22 : @Int) (0 : @Nat)), (@PySem.Value.int (1 : @Int) (0 : @Nat)), (@PySem.Value.int (0 : @Int) (0 : @Nat)), (@PySem.Value.int (0 : @Int) (0 : @Nat)), (@PySem.Value.int (3 : @Int) (0 : @Nat)), (@PySem.Value.ref (110 : @Nat)), (@PySem.Value.bool true), (@PySem.Value.int (181 : @Int) (0 : @Nat)), (@PySem.Value.ref (111 : @Nat)), @PySem.Value.none, (@PySem.Value.ref (112 : @Nat)), (@PySem.Value.ref (113 : @Nat)), (@PySem.Value.ref (114 : @Nat)), (@PySem.Value.int (2293 : @Int) (0 : @Nat)), (@PySem.Value.int (22 : @Int) (0 : @Nat)), (@PySem.Value.str (@PySem.Str.ofString "/claim/cut.py") (2294 : @Nat))] : List @PySem.Value))) (@List.toArray (@Option @PySem.Value) ([] : List (@Option @PySem.Value))))
noncomputable def ob116_11 (P : Params) : Obj := (@PySem.Obj.mk (@PySem.Value.type "function") (@Option.none @Nat) (@PySem.Data.func (@PySem.FuncData.mk (@PySem.Str.ofString "_law_drawn") (@PySem.Str.ofString "_law_drawn") (argsAt 10) (@PySem.FuncBody.stmts (bodyAt 10)) (scopeAt 10) (3 : @Nat) ([] : List (@Prod @PySem.Str @Nat)) @PySem.Value.none @PySem.Value.none @PySem.Value.none (@PySem.Value.str (@PySem.Str.ofString "law_ph0141_01") (2276 : @Nat)) (@Option.none @Nat) (@PySem.Value.ref (115 : @Nat)) @PySem.Value.none (0 : @Nat))) (@List.toArray (@Option @PySem.Value) ([] : List (@Option @PySem.Value))))
noncomputable def tr_11 (P : Params) : BT := (.node (boot_o_0 P) (.node (boot_o_1 P) (.node (ob3_11 P) (.node (boot_o_7 P) (.node (ob15_2 P) (.node (ob31_3 P) (.node (ob63_4 P) .nil .nil) (.node (ob95_6 P) .nil .nil)) (.node (ob47_4 P) (.node (ob79_6 P) .nil .nil) (.node (ob111_11 P) .nil .nil))) (.node (ob23_2 P) (.node (ob39_4 P) (.node (ob71_4 P) .nil .nil) (.node (ob103_9 P) .nil .nil)) (.node (ob55_4 P) (.node (ob87_6 P) .nil .nil) .nil))) (.node (ob11_a P) (.node (ob19_2 P) (.node (ob35_4 P) (.node (ob67_4 P) .nil .nil) (.node (ob99_7 P) .nil .nil)) (.node (ob51_4 P) (.node (ob83_6 P) .nil .nil) (.node (ob115_11 P) .nil .nil))) (.node (ob27_3 P) (.node (ob43_4 P) (.node (ob75_5 P) .nil .nil) (.node (ob107_9 P) .nil .nil)) (.node (ob59_4 P) (.node (ob91_6 P) .nil .nil) .nil)))) (.node (boot_o_5 P) (.node (boot_o_9 P) (.node (ob17_2 P) (.node (ob33_4 P) (.node (ob65_4 P) .nil .nil) (.node (ob97_7 P) .nil .nil)) (.node (ob49_4 P) (.node (ob81_6 P) .nil .nil) (.node (ob113_11 P) .nil .nil))) (.node (ob25_2 P) (.node (ob41_4 P) (.node (ob73_5 P) .nil .nil) (.node (ob105_9 P) .nil .nil)) (.node (ob57_4 P) (.node (ob89_6 P) .nil .nil) .nil))) (.node (ob13_a P) (.node (ob21_2 P) (.node (ob37_4 P) (.node (ob69_4 P) .nil .nil) (.node (ob101_7 P) .nil .nil)) (.node (ob53_4 P) (.node (ob85_6 P) .nil .nil) .nil)) (.node (ob29_3 P) (.node (ob45_4 P) (.node (ob77_5 P) .nil .nil) (.node (ob109_9 P) .nil .nil)) (.node (ob61_4 P) (.node (ob93_6 P) .nil .nil) .nil))))) (.node (boot_o_2 P) (.node (boot_o_4 P) (.node (boot_o_8 P) (.node (ob16_2 P) (.node (ob32_3 P) (.node (ob64_4 P) .nil .nil) (.node (ob96_7 P) .nil .nil)) (.node (ob48_4 P) (.node (ob80_6 P) .nil .nil) (.node (ob112_11 P) .nil .nil))) (.node (ob24_2 P) (.node (ob40_4 P) (.node (ob72_5 P) .nil .nil) (.node (ob104_9 P) .nil .nil)) (.node (ob56_4 P) (.node (ob88_6 P) .nil .nil) .nil))) (.node (ob12_11 P) (.node (ob20_2 P) (.node (ob36_4 P) (.node (ob68_4 P) .nil .nil) (.node (ob100_7 P) .nil .nil)) (.node (ob52_4 P) (.node (ob84_6 P) .nil .nil) (.node (ob116_11 P) .nil .nil))) (.node (ob28_3 P) (.node (ob44_4 P) (.node (ob76_5 P) .nil .nil) (.node (ob108_9 P) .nil .nil)) (.node (ob60_4 P) (.node (ob92_6 P) .nil .nil) .nil)))) (.node (boot_o_6 P) (.node (boot_o_10 P) (.node (ob18_2 P) (.node (ob34_4 P) (.node (ob66_4 P) .nil .nil) (.node (ob98_7 P) .nil .nil)) (.node (ob50_4 P) (.node (ob82_6 P) .nil .nil) (.node (ob114_11 P) .nil .nil))) (.node (ob26_3 P) (.node (ob42_4 P) (.node (ob74_5 P) .nil .nil) (.node (ob106_9 P) .nil .nil)) (.node (ob58_4 P) (.node (ob90_6 P) .nil .nil) .nil))) (.node (ob14_a P) (.node (ob22_2 P) (.node (ob38_4 P) (.node (ob70_4 P) .nil .nil) (.node (ob102_7 P) .nil .nil)) (.node (ob54_4 P) (.node (ob86_6 P) .nil .nil) .nil)) (.node (ob30_3 P) (.node (ob46_4 P) (.node (ob78_5 P) .nil .nil) (.node (ob110_11 P) .nil .nil)) (.node (ob62_4 P) (.node (ob94_6 P) .nil .nil) .nil))))))
noncomputable def ob3_12 (P : Params) : Obj := nsNew (ob3_11 P) (@PySem.DictEntry.mk (@PySem.PyData.keyHash P (@PySem.Str.ofString "_law_level")) (@PySem.Value.str (@PySem.Str.ofString "_law_level") (2308 : @Nat)) (@PySem.Value.ref (123 : @Nat)))
noncomputable def ob12_12 (P : Params) : Obj := (@PySem.Obj.mk @PySem.Value.none (@Option.none @Nat) (@PySem.Data.fields (@List.toArray @PySem.Value ([(@PySem.Value.int (3 : @Int) (0 : @Nat)), (@PySem.Value.int (0 : @Int) (0 : @Nat)), (@PySem.Value.ref (31 : @Nat)), (@PySem.Value.int (6 : @Int) (0 : @Nat)), (@PySem.Value.int (0 : @Int) (0 : @Nat)), (@PySem.Value.ref (77 : @Nat)), (@PySem.Value.int (12 : @Int) (0 : @Nat)), (@PySem.Value.int (0 : @Int) (0 : @Nat)), (@PySem.Value.ref (101 : @Nat)), (@PySem.Value.int (15 : @Int) (0 : @Nat)), (@PySem.Value.int (0 : @Int) (0 : @Nat)), (@PySem.Value.ref (108 : @Nat)), (@PySem.Value.int (22 : @Int) (0 : @Nat)), (@PySem.Value.int (0 : @Int) (0 : @Nat)), (@PySem.Value.ref (115 : @Nat)), (@PySem.Value.int (55 : @Int) (0 : @Nat)), (@PySem.Value.int (0 : @Int) (0 : @Nat)), (@PySem.Value.ref (122 : @Nat))] : List @PySem.Value))) (@List.toArray (@Option @PySem.Value) ([] : List (@Option @PySem.Value))))
noncomputable def ob117_12 (P : Params) : Obj := (@PySem.Obj.mk (@PySem.Value.type "tuple") (@Option.none @Nat) (@PySem.Data.seq (@List.toArray @PySem.Value ([] : List @PySem.Value)) (0 : @Nat)) (@List.toArray (@Option @PySem.Value) ([] : List (@Option @PySem.Value))))
noncomputable def ob118_12 (P : Params) : Obj := (@PySem.Obj.mk @PySem.Value.none (@Option.none @Nat) (@PySem.Data.fields (@List.toArray @PySem.Value ([] : List @PySem.Value))) (@List.toArray (@Option @PySem.Value) ([] : List (@Option @PySem.Value))))
noncomputable def ob119_12 (P : Params) : Obj := (@PySem.Obj.mk (@PySem.Value.type "tuple") (@Option.none @Nat) (@PySem.Data.seq (@List.toArray @PySem.Value ([(@PySem.Value.str (@PySem.Str.ofString "drawn") (2299 : @Nat)), (@PySem.Value.str (@PySem.Str.ofString "place") (2300 : @Nat)), (@PySem.Value.str (@PySem.Str.ofString "closed") (2301 : @Nat)), (@PySem.Value.str (@PySem.Str.ofString "opened") (2302 : @Nat)), (@PySem.Value.str (@PySem.Str.ofString "k") (2303 : @Nat)), (@PySem.Value.str (@PySem.Str.ofString "role") (2304 : @Nat)), (@PySem.Value.str (@PySem.Str.ofString "level") (2305 : @Nat))] : List @PySem.Value)) (0 : @Nat)) (@List.toArray (@Option @PySem.Value) ([] : List (@Option @PySem.Value))))
noncomputable def ob120_12 (P : Params) : Obj := (@PySem.Obj.mk (@PySem.Value.type "tuple") (@Option.none @Nat) (@PySem.Data.seq (@List.toArray @PySem.Value ([] : List @PySem.Value)) (0 : @Nat)) (@List.toArray (@Option @PySem.Value) ([] : List (@Option @PySem.Value))))
noncomputable def ob121_12 (P : Params) : Obj := (@PySem.Obj.mk @PySem.Value.none (@Option.none @Nat) (@PySem.Data.func (@PySem.FuncData.mk (@PySem.Str.ofString "_law_level") (@PySem.Str.ofString "_law_level") (argsAt 11) (@PySem.FuncBody.stmts (bodyAt 11)) (scopeAt 11) (0 : @Nat) ([] : List (@Prod @PySem.Str @Nat)) @PySem.Value.none @PySem.Value.none @PySem.Value.none @PySem.Value.none (@Option.none @Nat) @PySem.Value.none @PySem.Value.none (0 : @Nat))) (@List.toArray (@Option @PySem.Value) ([] : List (@Option @PySem.Value))))
noncomputable def ob122_12 (P : Params) : Obj := (@PySem.Obj.mk (@PySem.Value.type "code") (@Option.none @Nat) (@PySem.Data.fields (@List.toArray @PySem.Value ([(@PySem.Value.str (@PySem.Str.ofString "_law_level") (2296 : @Nat)), (@PySem.Value.str (@PySem.Str.ofString "_law_level") (2297 : @Nat)), (@PySem.Value.str (@PySem.Str.ofString "/claim/cut.py") (2298 : @Nat)), (@PySem.Value.int (55 : @Int) (0 : @Nat)), (@PySem.Value.int (2 : @Int) (0 : @Nat)), (@PySem.Value.int (0 : @Int) (0 : @Nat)), (@PySem.Value.int (0 : @Int) (0 : @Nat)), (@PySem.Value.int (3 : @Int) (0 : @Nat)), (@PySem.Value.ref (117 : @Nat)), (@PySem.Value.bool true), (@PySem.Value.int (181 : @Int) (0 : @Nat)), (@PySem.Value.ref (118 : @Nat)), @PySem.Value.none, (@PySem.Value.ref (119 : @Nat)), (@PySem.Value.ref (120 : @Nat)), (@PySem.Value.ref (121 : @Nat)), (@PySem.Value.int (2306 : @Int) (0 : @Nat)), (@PySem.Value.int (55 : @Int) (0 : @Nat)), (@PySem.Value.str (@PySem.Str.ofString "/claim/cut.py") (2307 : @Nat))] : List @PySem.Value))) (@List.toArray (@Option @PySem.Value) ([] : List (@Option @PySem.Value))))
noncomputable def ob123_12 (P : Params) : Obj := (@PySem.Obj.mk (@PySem.Value.type "function") (@Option.none @Nat) (@PySem.Data.func (@PySem.FuncData.mk (@PySem.Str.ofString "_law_level") (@PySem.Str.ofString "_law_level") (argsAt 11) (@PySem.FuncBody.stmts (bodyAt 11)) (scopeAt 11) (3 : @Nat) ([] : List (@Prod @PySem.Str @Nat)) @PySem.Value.none @PySem.Value.none @PySem.Value.none (@PySem.Value.str (@PySem.Str.ofString "law_ph0141_01") (2276 : @Nat)) (@Option.none @Nat) (@PySem.Value.ref (122 : @Nat)) @PySem.Value.none (0 : @Nat))) (@List.toArray (@Option @PySem.Value) ([] : List (@Option @PySem.Value))))
noncomputable def tr_12 (P : Params) : BT := (.node (boot_o_0 P) (.node (boot_o_1 P) (.node (ob3_12 P) (.node (boot_o_7 P) (.node (ob15_2 P) (.node (ob31_3 P) (.node (ob63_4 P) .nil .nil) (.node (ob95_6 P) .nil .nil)) (.node (ob47_4 P) (.node (ob79_6 P) .nil .nil) (.node (ob111_11 P) .nil .nil))) (.node (ob23_2 P) (.node (ob39_4 P) (.node (ob71_4 P) .nil .nil) (.node (ob103_9 P) .nil .nil)) (.node (ob55_4 P) (.node (ob87_6 P) .nil .nil) (.node (ob119_12 P) .nil .nil)))) (.node (ob11_a P) (.node (ob19_2 P) (.node (ob35_4 P) (.node (ob67_4 P) .nil .nil) (.node (ob99_7 P) .nil .nil)) (.node (ob51_4 P) (.node (ob83_6 P) .nil .nil) (.node (ob115_11 P) .nil .nil))) (.node (ob27_3 P) (.node (ob43_4 P) (.node (ob75_5 P) .nil .nil) (.node (ob107_9 P) .nil .nil)) (.node (ob59_4 P) (.node (ob91_6 P) .nil .nil) (.node (ob123_12 P) .nil .nil))))) (.node (boot_o_5 P) (.node (boot_o_9 P) (.node (ob17_2 P) (.node (ob33_4 P) (.node (ob65_4 P) .nil .nil) (.node (ob97_7 P) .nil .nil)) (.node (ob49_4 P) (.node (ob81_6 P) .nil .nil) (.node (ob113_11 P) .nil .nil))) (.node (ob25_2 P) (.node (ob41_4 P) (.node (ob73_5 P) .nil .nil) (.node (ob105_9 P) .nil .nil)) (.node (ob57_4 P) (.node (ob89_6 P) .nil .nil) (.node (ob121_12 P) .nil .nil)))) (.node (ob13_a P) (.node (ob21_2 P) (.node (ob37_4 P) (.node (ob69_4 P) .nil .nil) (.node (ob101_7 P) .nil .nil)) (.node (ob53_4 P) (.node (ob85_6 P) .nil .nil) (.node (ob117_12 P) .nil .nil))) (.node (ob29_3 P) (.node (ob45_4 P) (.node (ob77_5 P) .nil .nil) (.node (ob109_9 P) .nil .nil)) (.node (ob61_4 P) (.node (ob93_6 P) .nil .nil) .nil))))) (.node (boot_o_2 P) (.node (boot_o_4 P) (.node (boot_o_8 P) (.node (ob16_2 P) (.node (ob32_3 P) (.node (ob64_4 P) .nil .nil) (.node (ob96_7 P) .nil .nil)) (.node (ob48_4 P) (.node (ob80_6 P) .nil .nil) (.node (ob112_11 P) .nil .nil))) (.node (ob24_2 P) (.node (ob40_4 P) (.node (ob72_5 P) .nil .nil) (.node (ob104_9 P) .nil .nil)) (.node (ob56_4 P) (.node (ob88_6 P) .nil .nil) (.node (ob120_12 P) .nil .nil)))) (.node (ob12_12 P) (.node (ob20_2 P) (.node (ob36_4 P) (.node (ob68_4 P) .nil .nil) (.node (ob100_7 P) .nil .nil)) (.node (ob52_4 P) (.node (ob84_6 P) .nil .nil) (.node (ob116_11 P) .nil .nil))) (.node (ob28_3 P) (.node (ob44_4 P) (.node (ob76_5 P) .nil .nil) (.node (ob108_9 P) .nil .nil)) (.node (ob60_4 P) (.node (ob92_6 P) .nil .nil) .nil)))) (.node (boot_o_6 P) (.node (boot_o_10 P) (.node (ob18_2 P) (.node (ob34_4 P) (.node (ob66_4 P) .nil .nil) (.node (ob98_7 P) .nil .nil)) (.node (ob50_4 P) (.node (ob82_6 P) .nil .nil) (.node (ob114_11 P) .nil .nil))) (.node (ob26_3 P) (.node (ob42_4 P) (.node (ob74_5 P) .nil .nil) (.node (ob106_9 P) .nil .nil)) (.node (ob58_4 P) (.node (ob90_6 P) .nil .nil) (.node (ob122_12 P) .nil .nil)))) (.node (ob14_a P) (.node (ob22_2 P) (.node (ob38_4 P) (.node (ob70_4 P) .nil .nil) (.node (ob102_7 P) .nil .nil)) (.node (ob54_4 P) (.node (ob86_6 P) .nil .nil) (.node (ob118_12 P) .nil .nil))) (.node (ob30_3 P) (.node (ob46_4 P) (.node (ob78_5 P) .nil .nil) (.node (ob110_11 P) .nil .nil)) (.node (ob62_4 P) (.node (ob94_6 P) .nil .nil) .nil))))))
noncomputable def ob3_13 (P : Params) : Obj := nsNew (ob3_12 P) (@PySem.DictEntry.mk (@PySem.PyData.keyHash P (@PySem.Str.ofString "_law_shown")) (@PySem.Value.str (@PySem.Str.ofString "_law_shown") (2320 : @Nat)) (@PySem.Value.ref (130 : @Nat)))
noncomputable def ob12_13 (P : Params) : Obj := (@PySem.Obj.mk @PySem.Value.none (@Option.none @Nat) (@PySem.Data.fields (@List.toArray @PySem.Value ([(@PySem.Value.int (3 : @Int) (0 : @Nat)), (@PySem.Value.int (0 : @Int) (0 : @Nat)), (@PySem.Value.ref (31 : @Nat)), (@PySem.Value.int (6 : @Int) (0 : @Nat)), (@PySem.Value.int (0 : @Int) (0 : @Nat)), (@PySem.Value.ref (77 : @Nat)), (@PySem.Value.int (12 : @Int) (0 : @Nat)), (@PySem.Value.int (0 : @Int) (0 : @Nat)), (@PySem.Value.ref (101 : @Nat)), (@PySem.Value.int (15 : @Int) (0 : @Nat)), (@PySem.Value.int (0 : @Int) (0 : @Nat)), (@PySem.Value.ref (108 : @Nat)), (@PySem.Value.int (22 : @Int) (0 : @Nat)), (@PySem.Value.int (0 : @Int) (0 : @Nat)), (@PySem.Value.ref (115 : @Nat)), (@PySem.Value.int (55 : @Int) (0 : @Nat)), (@PySem.Value.int (0 : @Int) (0 : @Nat)), (@PySem.Value.ref (122 : @Nat)), (@PySem.Value.int (71 : @Int) (0 : @Nat)), (@PySem.Value.int (0 : @Int) (0 : @Nat)), (@PySem.Value.ref (129 : @Nat))] : List @PySem.Value))) (@List.toArray (@Option @PySem.Value) ([] : List (@Option @PySem.Value))))
noncomputable def ob124_13 (P : Params) : Obj := (@PySem.Obj.mk (@PySem.Value.type "tuple") (@Option.none @Nat) (@PySem.Data.seq (@List.toArray @PySem.Value ([] : List @PySem.Value)) (0 : @Nat)) (@List.toArray (@Option @PySem.Value) ([] : List (@Option @PySem.Value))))
noncomputable def ob125_13 (P : Params) : Obj := (@PySem.Obj.mk @PySem.Value.none (@Option.none @Nat) (@PySem.Data.fields (@List.toArray @PySem.Value ([] : List @PySem.Value))) (@List.toArray (@Option @PySem.Value) ([] : List (@Option @PySem.Value))))
noncomputable def ob126_13 (P : Params) : Obj := (@PySem.Obj.mk (@PySem.Value.type "tuple") (@Option.none @Nat) (@PySem.Data.seq (@List.toArray @PySem.Value ([(@PySem.Value.str (@PySem.Str.ofString "text") (2312 : @Nat)), (@PySem.Value.str (@PySem.Str.ofString "opened") (2313 : @Nat)), (@PySem.Value.str (@PySem.Str.ofString "shown") (2314 : @Nat)), (@PySem.Value.str (@PySem.Str.ofString "sign") (2315 : @Nat)), (@PySem.Value.str (@PySem.Str.ofString "level") (2316 : @Nat)), (@PySem.Value.str (@PySem.Str.ofString "code") (2317 : @Nat))] : List @PySem.Value)) (0 : @Nat)) (@List.toArray (@Option @PySem.Value) ([] : List (@Option @PySem.Value))))
noncomputable def ob127_13 (P : Params) : Obj := (@PySem.Obj.mk (@PySem.Value.type "tuple") (@Option.none @Nat) (@PySem.Data.seq (@List.toArray @PySem.Value ([] : List @PySem.Value)) (0 : @Nat)) (@List.toArray (@Option @PySem.Value) ([] : List (@Option @PySem.Value))))
noncomputable def ob128_13 (P : Params) : Obj := (@PySem.Obj.mk @PySem.Value.none (@Option.none @Nat) (@PySem.Data.func (@PySem.FuncData.mk (@PySem.Str.ofString "_law_shown") (@PySem.Str.ofString "_law_shown") (argsAt 12) (@PySem.FuncBody.stmts (bodyAt 12)) (scopeAt 12) (0 : @Nat) ([] : List (@Prod @PySem.Str @Nat)) @PySem.Value.none @PySem.Value.none @PySem.Value.none @PySem.Value.none (@Option.none @Nat) @PySem.Value.none @PySem.Value.none (0 : @Nat))) (@List.toArray (@Option @PySem.Value) ([] : List (@Option @PySem.Value))))
noncomputable def ob129_13 (P : Params) : Obj := (@PySem.Obj.mk (@PySem.Value.type "code") (@Option.none @Nat) (@PySem.Data.fields (@List.toArray @PySem.Value ([(@PySem.Value.str (@PySem.Str.ofString "_law_shown") (2309 : @Nat)), (@PySem.Value.str (@PySem.Str.ofString "_law_shown") (2310 : @Nat)), (@PySem.Value.str (@PySem.Str.ofString "/claim/cut.py") (2311 : @Nat)), (@PySem.Value.int (71 : @Int) (0 : @Nat)), (@PySem.Value.int (1 : @Int) (0 : @Nat)), (@PySem.Value.int (0 : @Int) (0 : @Nat)), (@PySem.Value.int (0 : @Int) (0 : @Nat)), (@PySem.Value.int (3 : @Int) (0 : @Nat)), (@PySem.Value.ref (124 : @Nat)), (@PySem.Value.bool true), (@PySem.Value.int (181 : @Int) (0 : @Nat)), (@PySem.Value.ref (125 : @Nat)), @PySem.Value.none, (@PySem.Value.ref (126 : @Nat)), (@PySem.Value.ref (127 : @Nat)), (@PySem.Value.ref (128 : @Nat)), (@PySem.Value.int (2318 : @Int) (0 : @Nat)), (@PySem.Value.int (71 : @Int) (0 : @Nat)), (@PySem.Value.str (@PySem.Str.ofString "/claim/cut.py") (2319 : @Nat))] : List @PySem.Value))) (@List.toArray (@Option @PySem.Value) ([] : List (@Option @PySem.Value))))
noncomputable def ob130_13 (P : Params) : Obj := (@PySem.Obj.mk (@PySem.Value.type "function") (@Option.none @Nat) (@PySem.Data.func (@PySem.FuncData.mk (@PySem.Str.ofString "_law_shown") (@PySem.Str.ofString "_law_shown") (argsAt 12) (@PySem.FuncBody.stmts (bodyAt 12)) (scopeAt 12) (3 : @Nat) ([] : List (@Prod @PySem.Str @Nat)) @PySem.Value.none @PySem.Value.none @PySem.Value.none (@PySem.Value.str (@PySem.Str.ofString "law_ph0141_01") (2276 : @Nat)) (@Option.none @Nat) (@PySem.Value.ref (129 : @Nat)) @PySem.Value.none (0 : @Nat))) (@List.toArray (@Option @PySem.Value) ([] : List (@Option @PySem.Value))))
noncomputable def tr_13 (P : Params) : BT := (.node (boot_o_0 P) (.node (boot_o_1 P) (.node (ob3_13 P) (.node (boot_o_7 P) (.node (ob15_2 P) (.node (ob31_3 P) (.node (ob63_4 P) (.node (ob127_13 P) .nil .nil) .nil) (.node (ob95_6 P) .nil .nil)) (.node (ob47_4 P) (.node (ob79_6 P) .nil .nil) (.node (ob111_11 P) .nil .nil))) (.node (ob23_2 P) (.node (ob39_4 P) (.node (ob71_4 P) .nil .nil) (.node (ob103_9 P) .nil .nil)) (.node (ob55_4 P) (.node (ob87_6 P) .nil .nil) (.node (ob119_12 P) .nil .nil)))) (.node (ob11_a P) (.node (ob19_2 P) (.node (ob35_4 P) (.node (ob67_4 P) .nil .nil) (.node (ob99_7 P) .nil .nil)) (.node (ob51_4 P) (.node (ob83_6 P) .nil .nil) (.node (ob115_11 P) .nil .nil))) (.node (ob27_3 P) (.node (ob43_4 P) (.node (ob75_5 P) .nil .nil) (.node (ob107_9 P) .nil .nil)) (.node (ob59_4 P) (.node (ob91_6 P) .nil .nil) (.node (ob123_12 P) .nil .nil))))) (.node (boot_o_5 P) (.node (boot_o_9 P) (.node (ob17_2 P) (.node (ob33_4 P) (.node (ob65_4 P) (.node (ob129_13 P) .nil .nil) .nil) (.node (ob97_7 P) .nil .nil)) (.node (ob49_4 P) (.node (ob81_6 P) .nil .nil) (.node (ob113_11 P) .nil .nil))) (.node (ob25_2 P) (.node (ob41_4 P) (.node (ob73_5 P) .nil .nil) (.node (ob105_9 P) .nil .nil)) (.node (ob57_4 P) (.node (ob89_6 P) .nil .nil) (.node (ob121_12 P) .nil .nil)))) (.node (ob13_a P) (.node (ob21_2 P) (.node (ob37_4 P) (.node (ob69_4 P) .nil .nil) (.node (ob101_7 P) .nil .nil)) (.node (ob53_4 P) (.node (ob85_6 P) .nil .nil) (.node (ob117_12 P) .nil .nil))) (.node (ob29_3 P) (.node (ob45_4 P) (.node (ob77_5 P) .nil .nil) (.node (ob109_9 P) .nil .nil)) (.node (ob61_4 P) (.node (ob93_6 P) .nil .nil) (.node (ob125_13 P) .nil .nil)))))) (.node (boot_o_2 P) (.node (boot_o_4 P) (.node (boot_o_8 P) (.node (ob16_2 P) (.node (ob32_3 P) (.node (ob64_4 P) (.node (ob128_13 P) .nil .nil) .nil) (.node (ob96_7 P) .nil .nil)) (.node (ob48_4 P) (.node (ob80_6 P) .nil .nil) (.node (ob112_11 P) .nil .nil))) (.node (ob24_2 P) (.node (ob40_4 P) (.node (ob72_5 P) .nil .nil) (.node (ob104_9 P) .nil .nil)) (.node (ob56_4 P) (.node (ob88_6 P) .nil .nil) (.node (ob120_12 P) .nil .nil)))) (.node (ob12_13 P) (.node (ob20_2 P) (.node (ob36_4 P) (.node (ob68_4 P) .nil .nil) (.node (ob100_7 P) .nil .nil)) (.node (ob52_4 P) (.node (ob84_6 P) .nil .nil) (.node (ob116_11 P) .nil .nil))) (.node (ob28_3 P) (.node (ob44_4 P) (.node (ob76_5 P) .nil .nil) (.node (ob108_9 P) .nil .nil)) (.node (ob60_4 P) (.node (ob92_6 P) .nil .nil) (.node (ob124_13 P) .nil .nil))))) (.node (boot_o_6 P) (.node (boot_o_10 P) (.node (ob18_2 P) (.node (ob34_4 P) (.node (ob66_4 P) (.node (ob130_13 P) .nil .nil) .nil) (.node (ob98_7 P) .nil .nil)) (.node (ob50_4 P) (.node (ob82_6 P) .nil .nil) (.node (ob114_11 P) .nil .nil))) (.node (ob26_3 P) (.node (ob42_4 P) (.node (ob74_5 P) .nil .nil) (.node (ob106_9 P) .nil .nil)) (.node (ob58_4 P) (.node (ob90_6 P) .nil .nil) (.node (ob122_12 P) .nil .nil)))) (.node (ob14_a P) (.node (ob22_2 P) (.node (ob38_4 P) (.node (ob70_4 P) .nil .nil) (.node (ob102_7 P) .nil .nil)) (.node (ob54_4 P) (.node (ob86_6 P) .nil .nil) (.node (ob118_12 P) .nil .nil))) (.node (ob30_3 P) (.node (ob46_4 P) (.node (ob78_5 P) .nil .nil) (.node (ob110_11 P) .nil .nil)) (.node (ob62_4 P) (.node (ob94_6 P) .nil .nil) (.node (ob126_13 P) .nil .nil)))))))
noncomputable def ob3_14 (P : Params) : Obj := nsNew (ob3_13 P) (@PySem.DictEntry.mk (@PySem.PyData.keyHash P (@PySem.Str.ofString "_law_cell")) (@PySem.Value.str (@PySem.Str.ofString "_law_cell") (2331 : @Nat)) (@PySem.Value.ref (137 : @Nat)))
noncomputable def ob12_14 (P : Params) : Obj := (@PySem.Obj.mk @PySem.Value.none (@Option.none @Nat) (@PySem.Data.fields (@List.toArray @PySem.Value ([(@PySem.Value.int (3 : @Int) (0 : @Nat)), (@PySem.Value.int (0 : @Int) (0 : @Nat)), (@PySem.Value.ref (31 : @Nat)), (@PySem.Value.int (6 : @Int) (0 : @Nat)), (@PySem.Value.int (0 : @Int) (0 : @Nat)), (@PySem.Value.ref (77 : @Nat)), (@PySem.Value.int (12 : @Int) (0 : @Nat)), (@PySem.Value.int (0 : @Int) (0 : @Nat)), (@PySem.Value.ref (101 : @Nat)), (@PySem.Value.int (15 : @Int) (0 : @Nat)), (@PySem.Value.int (0 : @Int) (0 : @Nat)), (@PySem.Value.ref (108 : @Nat)), (@PySem.Value.int (22 : @Int) (0 : @Nat)), (@PySem.Value.int (0 : @Int) (0 : @Nat)), (@PySem.Value.ref (115 : @Nat)), (@PySem.Value.int (55 : @Int) (0 : @Nat)), (@PySem.Value.int (0 : @Int) (0 : @Nat)), (@PySem.Value.ref (122 : @Nat)), (@PySem.Value.int (71 : @Int) (0 : @Nat)), (@PySem.Value.int (0 : @Int) (0 : @Nat)), (@PySem.Value.ref (129 : @Nat)), (@PySem.Value.int (87 : @Int) (0 : @Nat)), (@PySem.Value.int (0 : @Int) (0 : @Nat)), (@PySem.Value.ref (136 : @Nat))] : List @PySem.Value))) (@List.toArray (@Option @PySem.Value) ([] : List (@Option @PySem.Value))))
noncomputable def ob131_14 (P : Params) : Obj := (@PySem.Obj.mk (@PySem.Value.type "tuple") (@Option.none @Nat) (@PySem.Data.seq (@List.toArray @PySem.Value ([] : List @PySem.Value)) (0 : @Nat)) (@List.toArray (@Option @PySem.Value) ([] : List (@Option @PySem.Value))))
noncomputable def ob132_14 (P : Params) : Obj := (@PySem.Obj.mk @PySem.Value.none (@Option.none @Nat) (@PySem.Data.fields (@List.toArray @PySem.Value ([] : List @PySem.Value))) (@List.toArray (@Option @PySem.Value) ([] : List (@Option @PySem.Value))))
noncomputable def ob133_14 (P : Params) : Obj := (@PySem.Obj.mk (@PySem.Value.type "tuple") (@Option.none @Nat) (@PySem.Data.seq (@List.toArray @PySem.Value ([(@PySem.Value.str (@PySem.Str.ofString "code") (2324 : @Nat)), (@PySem.Value.str (@PySem.Str.ofString "size") (2325 : @Nat)), (@PySem.Value.str (@PySem.Str.ofString "mirrored") (2326 : @Nat)), (@PySem.Value.str (@PySem.Str.ofString "octets") (2327 : @Nat)), (@PySem.Value.str (@PySem.Str.ofString "k") (2328 : @Nat))] : List @PySem.Value)) (0 : @Nat)) (@List.toArray (@Option @PySem.Value) ([] : List (@Option @PySem.Value))))
noncomputable def ob134_14 (P : Params) : Obj := (@PySem.Obj.mk (@PySem.Value.type "tuple") (@Option.none @Nat) (@PySem.Data.seq (@List.toArray @PySem.Value ([] : List @PySem.Value)) (0 : @Nat)) (@List.toArray (@Option @PySem.Value) ([] : List (@Option @PySem.Value))))
noncomputable def ob135_14 (P : Params) : Obj := (@PySem.Obj.mk @PySem.Value.none (@Option.none @Nat) (@PySem.Data.func (@PySem.FuncData.mk (@PySem.Str.ofString "_law_cell") (@PySem.Str.ofString "_law_cell") (argsAt 13) (@PySem.FuncBody.stmts (bodyAt 13)) (scopeAt 13) (0 : @Nat) ([] : List (@Prod @PySem.Str @Nat)) @PySem.Value.none @PySem.Value.none @PySem.Value.none @PySem.Value.none (@Option.none @Nat) @PySem.Value.none @PySem.Value.none (0 : @Nat))) (@List.toArray (@Option @PySem.Value) ([] : List (@Option @PySem.Value))))
noncomputable def ob136_14 (P : Params) : Obj := (@PySem.Obj.mk (@PySem.Value.type "code") (@Option.none @Nat) (@PySem.Data.fields (@List.toArray @PySem.Value ([(@PySem.Value.str (@PySem.Str.ofString "_law_cell") (2321 : @Nat)), (@PySem.Value.str (@PySem.Str.ofString "_law_cell") (2322 : @Nat)), (@PySem.Value.str (@PySem.Str.ofString "/claim/cut.py") (2323 : @Nat)), (@PySem.Value.int (87 : @Int) (0 : @Nat)), (@PySem.Value.int (3 : @Int) (0 : @Nat)), (@PySem.Value.int (0 : @Int) (0 : @Nat)), (@PySem.Value.int (0 : @Int) (0 : @Nat)), (@PySem.Value.int (3 : @Int) (0 : @Nat)), (@PySem.Value.ref (131 : @Nat)), (@PySem.Value.bool true), (@PySem.Value.int (181 : @Int) (0 : @Nat)), (@PySem.Value.ref (132 : @Nat)), @PySem.Value.none, (@PySem.Value.ref (133 : @Nat)), (@PySem.Value.ref (134 : @Nat)), (@PySem.Value.ref (135 : @Nat)), (@PySem.Value.int (2329 : @Int) (0 : @Nat)), (@PySem.Value.int (87 : @Int) (0 : @Nat)), (@PySem.Value.str (@PySem.Str.ofString "/claim/cut.py") (2330 : @Nat))] : List @PySem.Value))) (@List.toArray (@Option @PySem.Value) ([] : List (@Option @PySem.Value))))
noncomputable def ob137_14 (P : Params) : Obj := (@PySem.Obj.mk (@PySem.Value.type "function") (@Option.none @Nat) (@PySem.Data.func (@PySem.FuncData.mk (@PySem.Str.ofString "_law_cell") (@PySem.Str.ofString "_law_cell") (argsAt 13) (@PySem.FuncBody.stmts (bodyAt 13)) (scopeAt 13) (3 : @Nat) ([] : List (@Prod @PySem.Str @Nat)) @PySem.Value.none @PySem.Value.none @PySem.Value.none (@PySem.Value.str (@PySem.Str.ofString "law_ph0141_01") (2276 : @Nat)) (@Option.none @Nat) (@PySem.Value.ref (136 : @Nat)) @PySem.Value.none (0 : @Nat))) (@List.toArray (@Option @PySem.Value) ([] : List (@Option @PySem.Value))))
noncomputable def tr_14 (P : Params) : BT := (.node (boot_o_0 P) (.node (boot_o_1 P) (.node (ob3_14 P) (.node (boot_o_7 P) (.node (ob15_2 P) (.node (ob31_3 P) (.node (ob63_4 P) (.node (ob127_13 P) .nil .nil) .nil) (.node (ob95_6 P) .nil .nil)) (.node (ob47_4 P) (.node (ob79_6 P) .nil .nil) (.node (ob111_11 P) .nil .nil))) (.node (ob23_2 P) (.node (ob39_4 P) (.node (ob71_4 P) (.node (ob135_14 P) .nil .nil) .nil) (.node (ob103_9 P) .nil .nil)) (.node (ob55_4 P) (.node (ob87_6 P) .nil .nil) (.node (ob119_12 P) .nil .nil)))) (.node (ob11_a P) (.node (ob19_2 P) (.node (ob35_4 P) (.node (ob67_4 P) (.node (ob131_14 P) .nil .nil) .nil) (.node (ob99_7 P) .nil .nil)) (.node (ob51_4 P) (.node (ob83_6 P) .nil .nil) (.node (ob115_11 P) .nil .nil))) (.node (ob27_3 P) (.node (ob43_4 P) (.node (ob75_5 P) .nil .nil) (.node (ob107_9 P) .nil .nil)) (.node (ob59_4 P) (.node (ob91_6 P) .nil .nil) (.node (ob123_12 P) .nil .nil))))) (.node (boot_o_5 P) (.node (boot_o_9 P) (.node (ob17_2 P) (.node (ob33_4 P) (.node (ob65_4 P) (.node (ob129_13 P) .nil .nil) .nil) (.node (ob97_7 P) .nil .nil)) (.node (ob49_4 P) (.node (ob81_6 P) .nil .nil) (.node (ob113_11 P) .nil .nil))) (.node (ob25_2 P) (.node (ob41_4 P) (.node (ob73_5 P) (.node (ob137_14 P) .nil .nil) .nil) (.node (ob105_9 P) .nil .nil)) (.node (ob57_4 P) (.node (ob89_6 P) .nil .nil) (.node (ob121_12 P) .nil .nil)))) (.node (ob13_a P) (.node (ob21_2 P) (.node (ob37_4 P) (.node (ob69_4 P) (.node (ob133_14 P) .nil .nil) .nil) (.node (ob101_7 P) .nil .nil)) (.node (ob53_4 P) (.node (ob85_6 P) .nil .nil) (.node (ob117_12 P) .nil .nil))) (.node (ob29_3 P) (.node (ob45_4 P) (.node (ob77_5 P) .nil .nil) (.node (ob109_9 P) .nil .nil)) (.node (ob61_4 P) (.node (ob93_6 P) .nil .nil) (.node (ob125_13 P) .nil .nil)))))) (.node (boot_o_2 P) (.node (boot_o_4 P) (.node (boot_o_8 P) (.node (ob16_2 P) (.node (ob32_3 P) (.node (ob64_4 P) (.node (ob128_13 P) .nil .nil) .nil) (.node (ob96_7 P) .nil .nil)) (.node (ob48_4 P) (.node (ob80_6 P) .nil .nil) (.node (ob112_11 P) .nil .nil))) (.node (ob24_2 P) (.node (ob40_4 P) (.node (ob72_5 P) (.node (ob136_14 P) .nil .nil) .nil) (.node (ob104_9 P) .nil .nil)) (.node (ob56_4 P) (.node (ob88_6 P) .nil .nil) (.node (ob120_12 P) .nil .nil)))) (.node (ob12_14 P) (.node (ob20_2 P) (.node (ob36_4 P) (.node (ob68_4 P) (.node (ob132_14 P) .nil .nil) .nil) (.node (ob100_7 P) .nil .nil)) (.node (ob52_4 P) (.node (ob84_6 P) .nil .nil) (.node (ob116_11 P) .nil .nil))) (.node (ob28_3 P) (.node (ob44_4 P) (.node (ob76_5 P) .nil .nil) (.node (ob108_9 P) .nil .nil)) (.node (ob60_4 P) (.node (ob92_6 P) .nil .nil) (.node (ob124_13 P) .nil .nil))))) (.node (boot_o_6 P) (.node (boot_o_10 P) (.node (ob18_2 P) (.node (ob34_4 P) (.node (ob66_4 P) (.node (ob130_13 P) .nil .nil) .nil) (.node (ob98_7 P) .nil .nil)) (.node (ob50_4 P) (.node (ob82_6 P) .nil .nil) (.node (ob114_11 P) .nil .nil))) (.node (ob26_3 P) (.node (ob42_4 P) (.node (ob74_5 P) .nil .nil) (.node (ob106_9 P) .nil .nil)) (.node (ob58_4 P) (.node (ob90_6 P) .nil .nil) (.node (ob122_12 P) .nil .nil)))) (.node (ob14_a P) (.node (ob22_2 P) (.node (ob38_4 P) (.node (ob70_4 P) (.node (ob134_14 P) .nil .nil) .nil) (.node (ob102_7 P) .nil .nil)) (.node (ob54_4 P) (.node (ob86_6 P) .nil .nil) (.node (ob118_12 P) .nil .nil))) (.node (ob30_3 P) (.node (ob46_4 P) (.node (ob78_5 P) .nil .nil) (.node (ob110_11 P) .nil .nil)) (.node (ob62_4 P) (.node (ob94_6 P) .nil .nil) (.node (ob126_13 P) .nil .nil)))))))
noncomputable def ob3_15 (P : Params) : Obj := nsNew (ob3_14 P) (@PySem.DictEntry.mk (@PySem.PyData.keyHash P (@PySem.Str.ofString "_law_passed")) (@PySem.Value.str (@PySem.Str.ofString "_law_passed") (2346 : @Nat)) (@PySem.Value.ref (144 : @Nat)))
noncomputable def ob12_15 (P : Params) : Obj := (@PySem.Obj.mk @PySem.Value.none (@Option.none @Nat) (@PySem.Data.fields (@List.toArray @PySem.Value ([(@PySem.Value.int (3 : @Int) (0 : @Nat)), (@PySem.Value.int (0 : @Int) (0 : @Nat)), (@PySem.Value.ref (31 : @Nat)), (@PySem.Value.int (6 : @Int) (0 : @Nat)), (@PySem.Value.int (0 : @Int) (0 : @Nat)), (@PySem.Value.ref (77 : @Nat)), (@PySem.Value.int (12 : @Int) (0 : @Nat)), (@PySem.Value.int (0 : @Int) (0 : @Nat)), (@PySem.Value.ref (101 : @Nat)), (@PySem.Value.int (15 : @Int) (0 : @Nat)), (@PySem.Value.int (0 : @Int) (0 : @Nat)), (@PySem.Value.ref (108 : @Nat)), (@PySem.Value.int (22 : @Int) (0 : @Nat)), (@PySem.Value.int (0 : @Int) (0 : @Nat)), (@PySem.Value.ref (115 : @Nat)), (@PySem.Value.int (55 : @Int) (0 : @Nat)), (@PySem.Value.int (0 : @Int) (0 : @Nat)), (@PySem.Value.ref (122 : @Nat)), (@PySem.Value.int (71 : @Int) (0 : @Nat)), (@PySem.Value.int (0 : @Int) (0 : @Nat)), (@PySem.Value.ref (129 : @Nat)), (@PySem.Value.int (87 : @Int) (0 : @Nat)), (@PySem.Value.int (0 : @Int) (0 : @Nat)), (@PySem.Value.ref (136 : @Nat)), (@PySem.Value.int (95 : @Int) (0 : @Nat)), (@PySem.Value.int (0 : @Int) (0 : @Nat)), (@PySem.Value.ref (143 : @Nat))] : List @PySem.Value))) (@List.toArray (@Option @PySem.Value) ([] : List (@Option @PySem.Value))))
noncomputable def ob138_15 (P : Params) : Obj := (@PySem.Obj.mk (@PySem.Value.type "tuple") (@Option.none @Nat) (@PySem.Data.seq (@List.toArray @PySem.Value ([] : List @PySem.Value)) (0 : @Nat)) (@List.toArray (@Option @PySem.Value) ([] : List (@Option @PySem.Value))))
noncomputable def ob139_15 (P : Params) : Obj := (@PySem.Obj.mk @PySem.Value.none (@Option.none @Nat) (@PySem.Data.fields (@List.toArray @PySem.Value ([] : List @PySem.Value))) (@List.toArray (@Option @PySem.Value) ([] : List (@Option @PySem.Value))))
noncomputable def ob140_15 (P : Params) : Obj := (@PySem.Obj.mk (@PySem.Value.type "tuple") (@Option.none @Nat) (@PySem.Data.seq (@List.toArray @PySem.Value ([(@PySem.Value.str (@PySem.Str.ofString "tapes") (2335 : @Nat)), (@PySem.Value.str (@PySem.Str.ofString "size") (2336 : @Nat)), (@PySem.Value.str (@PySem.Str.ofString "least") (2337 : @Nat)), (@PySem.Value.str (@PySem.Str.ofString "cells") (2338 : @Nat)), (@PySem.Value.str (@PySem.Str.ofString "levels") (2339 : @Nat)), (@PySem.Value.str (@PySem.Str.ofString "laid") (2340 : @Nat)), (@PySem.Value.str (@PySem.Str.ofString "beside") (2341 : @Nat)), (@PySem.Value.str (@PySem.Str.ofString "k") (2342 : @Nat)), (@PySem.Value.str (@PySem.Str.ofString "end") (2343 : @Nat))] : List @PySem.Value)) (0 : @Nat)) (@List.toArray (@Option @PySem.Value) ([] : List (@Option @PySem.Value))))
noncomputable def ob141_15 (P : Params) : Obj := (@PySem.Obj.mk (@PySem.Value.type "tuple") (@Option.none @Nat) (@PySem.Data.seq (@List.toArray @PySem.Value ([] : List @PySem.Value)) (0 : @Nat)) (@List.toArray (@Option @PySem.Value) ([] : List (@Option @PySem.Value))))
noncomputable def ob142_15 (P : Params) : Obj := (@PySem.Obj.mk @PySem.Value.none (@Option.none @Nat) (@PySem.Data.func (@PySem.FuncData.mk (@PySem.Str.ofString "_law_passed") (@PySem.Str.ofString "_law_passed") (argsAt 14) (@PySem.FuncBody.stmts (bodyAt 14)) (scopeAt 14) (0 : @Nat) ([] : List (@Prod @PySem.Str @Nat)) @PySem.Value.none @PySem.Value.none @PySem.Value.none @PySem.Value.none (@Option.none @Nat) @PySem.Value.none @PySem.Value.none (0 : @Nat))) (@List.toArray (@Option @PySem.Value) ([] : List (@Option @PySem.Value))))
noncomputable def ob143_15 (P : Params) : Obj := (@PySem.Obj.mk (@PySem.Value.type "code") (@Option.none @Nat) (@PySem.Data.fields (@List.toArray @PySem.Value ([(@PySem.Value.str (@PySem.Str.ofString "_law_passed") (2332 : @Nat)), (@PySem.Value.str (@PySem.Str.ofString "_law_passed") (2333 : @Nat)), (@PySem.Value.str (@PySem.Str.ofString "/claim/cut.py") (2334 : @Nat)), (@PySem.Value.int (95 : @Int) (0 : @Nat)), (@PySem.Value.int (3 : @Int) (0 : @Nat)), (@PySem.Value.int (0 : @Int) (0 : @Nat)), (@PySem.Value.int (0 : @Int) (0 : @Nat)), (@PySem.Value.int (3 : @Int) (0 : @Nat)), (@PySem.Value.ref (138 : @Nat)), (@PySem.Value.bool true), (@PySem.Value.int (181 : @Int) (0 : @Nat)), (@PySem.Value.ref (139 : @Nat)), @PySem.Value.none, (@PySem.Value.ref (140 : @Nat)), (@PySem.Value.ref (141 : @Nat)), (@PySem.Value.ref (142 : @Nat)), (@PySem.Value.int (2344 : @Int) (0 : @Nat)), (@PySem.Value.int (95 : @Int) (0 : @Nat)), (@PySem.Value.str (@PySem.Str.ofString "/claim/cut.py") (2345 : @Nat))] : List @PySem.Value))) (@List.toArray (@Option @PySem.Value) ([] : List (@Option @PySem.Value))))
noncomputable def ob144_15 (P : Params) : Obj := (@PySem.Obj.mk (@PySem.Value.type "function") (@Option.none @Nat) (@PySem.Data.func (@PySem.FuncData.mk (@PySem.Str.ofString "_law_passed") (@PySem.Str.ofString "_law_passed") (argsAt 14) (@PySem.FuncBody.stmts (bodyAt 14)) (scopeAt 14) (3 : @Nat) ([] : List (@Prod @PySem.Str @Nat)) @PySem.Value.none @PySem.Value.none @PySem.Value.none (@PySem.Value.str (@PySem.Str.ofString "law_ph0141_01") (2276 : @Nat)) (@Option.none @Nat) (@PySem.Value.ref (143 : @Nat)) @PySem.Value.none (0 : @Nat))) (@List.toArray (@Option @PySem.Value) ([] : List (@Option @PySem.Value))))
noncomputable def tr_15 (P : Params) : BT := (.node (boot_o_0 P) (.node (boot_o_1 P) (.node (ob3_15 P) (.node (boot_o_7 P) (.node (ob15_2 P) (.node (ob31_3 P) (.node (ob63_4 P) (.node (ob127_13 P) .nil .nil) .nil) (.node (ob95_6 P) .nil .nil)) (.node (ob47_4 P) (.node (ob79_6 P) (.node (ob143_15 P) .nil .nil) .nil) (.node (ob111_11 P) .nil .nil))) (.node (ob23_2 P) (.node (ob39_4 P) (.node (ob71_4 P) (.node (ob135_14 P) .nil .nil) .nil) (.node (ob103_9 P) .nil .nil)) (.node (ob55_4 P) (.node (ob87_6 P) .nil .nil) (.node (ob119_12 P) .nil .nil)))) (.node (ob11_a P) (.node (ob19_2 P) (.node (ob35_4 P) (.node (ob67_4 P) (.node (ob131_14 P) .nil .nil) .nil) (.node (ob99_7 P) .nil .nil)) (.node (ob51_4 P) (.node (ob83_6 P) .nil .nil) (.node (ob115_11 P) .nil .nil))) (.node (ob27_3 P) (.node (ob43_4 P) (.node (ob75_5 P) (.node (ob139_15 P) .nil .nil) .nil) (.node (ob107_9 P) .nil .nil)) (.node (ob59_4 P) (.node (ob91_6 P) .nil .nil) (.node (ob123_12 P) .nil .nil))))) (.node (boot_o_5 P) (.node (boot_o_9 P) (.node (ob17_2 P) (.node (ob33_4 P) (.node (ob65_4 P) (.node (ob129_13 P) .nil .nil) .nil) (.node (ob97_7 P) .nil .nil)) (.node (ob49_4 P) (.node (ob81_6 P) .nil .nil) (.node (ob113_11 P) .nil .nil))) (.node (ob25_2 P) (.node (ob41_4 P) (.node (ob73_5 P) (.node (ob137_14 P) .nil .nil) .nil) (.node (ob105_9 P) .nil .nil)) (.node (ob57_4 P) (.node (ob89_6 P) .nil .nil) (.node (ob121_12 P) .nil .nil)))) (.node (ob13_a P) (.node (ob21_2 P) (.node (ob37_4 P) (.node (ob69_4 P) (.node (ob133_14 P) .nil .nil) .nil) (.node (ob101_7 P) .nil .nil)) (.node (ob53_4 P) (.node (ob85_6 P) .nil .nil) (.node (ob117_12 P) .nil .nil))) (.node (ob29_3 P) (.node (ob45_4 P) (.node (ob77_5 P) (.node (ob141_15 P) .nil .nil) .nil) (.node (ob109_9 P) .nil .nil)) (.node (ob61_4 P) (.node (ob93_6 P) .nil .nil) (.node (ob125_13 P) .nil .nil)))))) (.node (boot_o_2 P) (.node (boot_o_4 P) (.node (boot_o_8 P) (.node (ob16_2 P) (.node (ob32_3 P) (.node (ob64_4 P) (.node (ob128_13 P) .nil .nil) .nil) (.node (ob96_7 P) .nil .nil)) (.node (ob48_4 P) (.node (ob80_6 P) (.node (ob144_15 P) .nil .nil) .nil) (.node (ob112_11 P) .nil .nil))) (.node (ob24_2 P) (.node (ob40_4 P) (.node (ob72_5 P) (.node (ob136_14 P) .nil .nil) .nil) (.node (ob104_9 P) .nil .nil)) (.node (ob56_4 P) (.node (ob88_6 P) .nil .nil) (.node (ob120_12 P) .nil .nil)))) (.node (ob12_15 P) (.node (ob20_2 P) (.node (ob36_4 P) (.node (ob68_4 P) (.node (ob132_14 P) .nil .nil) .nil) (.node (ob100_7 P) .nil .nil)) (.node (ob52_4 P) (.node (ob84_6 P) .nil .nil) (.node (ob116_11 P) .nil .nil))) (.node (ob28_3 P) (.node (ob44_4 P) (.node (ob76_5 P) (.node (ob140_15 P) .nil .nil) .nil) (.node (ob108_9 P) .nil .nil)) (.node (ob60_4 P) (.node (ob92_6 P) .nil .nil) (.node (ob124_13 P) .nil .nil))))) (.node (boot_o_6 P) (.node (boot_o_10 P) (.node (ob18_2 P) (.node (ob34_4 P) (.node (ob66_4 P) (.node (ob130_13 P) .nil .nil) .nil) (.node (ob98_7 P) .nil .nil)) (.node (ob50_4 P) (.node (ob82_6 P) .nil .nil) (.node (ob114_11 P) .nil .nil))) (.node (ob26_3 P) (.node (ob42_4 P) (.node (ob74_5 P) (.node (ob138_15 P) .nil .nil) .nil) (.node (ob106_9 P) .nil .nil)) (.node (ob58_4 P) (.node (ob90_6 P) .nil .nil) (.node (ob122_12 P) .nil .nil)))) (.node (ob14_a P) (.node (ob22_2 P) (.node (ob38_4 P) (.node (ob70_4 P) (.node (ob134_14 P) .nil .nil) .nil) (.node (ob102_7 P) .nil .nil)) (.node (ob54_4 P) (.node (ob86_6 P) .nil .nil) (.node (ob118_12 P) .nil .nil))) (.node (ob30_3 P) (.node (ob46_4 P) (.node (ob78_5 P) (.node (ob142_15 P) .nil .nil) .nil) (.node (ob110_11 P) .nil .nil)) (.node (ob62_4 P) (.node (ob94_6 P) .nil .nil) (.node (ob126_13 P) .nil .nil)))))))
noncomputable def ob3_16 (P : Params) : Obj := nsNew (ob3_15 P) (@PySem.DictEntry.mk (@PySem.PyData.keyHash P (@PySem.Str.ofString "_law_order")) (@PySem.Value.str (@PySem.Str.ofString "_law_order") (2352 : @Nat)) (@PySem.Value.ref (149 : @Nat)))
noncomputable def ob12_16 (P : Params) : Obj := (@PySem.Obj.mk @PySem.Value.none (@Option.none @Nat) (@PySem.Data.fields (@List.toArray @PySem.Value ([(@PySem.Value.int (3 : @Int) (0 : @Nat)), (@PySem.Value.int (0 : @Int) (0 : @Nat)), (@PySem.Value.ref (31 : @Nat)), (@PySem.Value.int (6 : @Int) (0 : @Nat)), (@PySem.Value.int (0 : @Int) (0 : @Nat)), (@PySem.Value.ref (77 : @Nat)), (@PySem.Value.int (12 : @Int) (0 : @Nat)), (@PySem.Value.int (0 : @Int) (0 : @Nat)), (@PySem.Value.ref (101 : @Nat)), (@PySem.Value.int (15 : @Int) (0 : @Nat)), (@PySem.Value.int (0 : @Int) (0 : @Nat)), (@PySem.Value.ref (108 : @Nat)), (@PySem.Value.int (22 : @Int) (0 : @Nat)), (@PySem.Value.int (0 : @Int) (0 : @Nat)), (@PySem.Value.ref (115 : @Nat)), (@PySem.Value.int (55 : @Int) (0 : @Nat)), (@PySem.Value.int (0 : @Int) (0 : @Nat)), (@PySem.Value.ref (122 : @Nat)), (@PySem.Value.int (71 : @Int) (0 : @Nat)), (@PySem.Value.int (0 : @Int) (0 : @Nat)), (@PySem.Value.ref (129 : @Nat)), (@PySem.Value.int (87 : @Int) (0 : @Nat)), (@PySem.Value.int (0 : @Int) (0 : @Nat)), (@PySem.Value.ref (136 : @Nat)), (@PySem.Value.int (95 : @Int) (0 : @Nat)), (@PySem.Value.int (0 : @Int) (0 : @Nat)), (@PySem.Value.ref (143 : @Nat)), (@PySem.Value.int (112 : @Int) (0 : @Nat)), (@PySem.Value.int (0 : @Int) (0 : @Nat)), (@PySem.Value.ref (148 : @Nat))] : List @PySem.Value))) (@List.toArray (@Option @PySem.Value) ([] : List (@Option @PySem.Value))))
noncomputable def ob145_16 (P : Params) : Obj := (@PySem.Obj.mk (@PySem.Value.type "tuple") (@Option.none @Nat) (@PySem.Data.seq (@List.toArray @PySem.Value ([] : List @PySem.Value)) (0 : @Nat)) (@List.toArray (@Option @PySem.Value) ([] : List (@Option @PySem.Value))))
noncomputable def ob146_16 (P : Params) : Obj := (@PySem.Obj.mk @PySem.Value.none (@Option.none @Nat) (@PySem.Data.fields (@List.toArray @PySem.Value ([] : List @PySem.Value))) (@List.toArray (@Option @PySem.Value) ([] : List (@Option @PySem.Value))))
noncomputable def ob147_16 (P : Params) : Obj := (@PySem.Obj.mk @PySem.Value.none (@Option.none @Nat) (@PySem.Data.func (@PySem.FuncData.mk (@PySem.Str.ofString "_law_order") (@PySem.Str.ofString "_law_order") (argsAt 15) (@PySem.FuncBody.stmts (bodyAt 15)) (scopeAt 15) (0 : @Nat) ([] : List (@Prod @PySem.Str @Nat)) @PySem.Value.none @PySem.Value.none @PySem.Value.none @PySem.Value.none (@Option.none @Nat) @PySem.Value.none @PySem.Value.none (0 : @Nat))) (@List.toArray (@Option @PySem.Value) ([] : List (@Option @PySem.Value))))
noncomputable def ob148_16 (P : Params) : Obj := (@PySem.Obj.mk (@PySem.Value.type "code") (@Option.none @Nat) (@PySem.Data.fields (@List.toArray @PySem.Value ([(@PySem.Value.str (@PySem.Str.ofString "_law_order") (2347 : @Nat)), (@PySem.Value.str (@PySem.Str.ofString "_law_order") (2348 : @Nat)), (@PySem.Value.str (@PySem.Str.ofString "/claim/cut.py") (2349 : @Nat)), (@PySem.Value.int (112 : @Int) (0 : @Nat)), (@PySem.Value.int (2 : @Int) (0 : @Nat)), (@PySem.Value.int (0 : @Int) (0 : @Nat)), (@PySem.Value.int (0 : @Int) (0 : @Nat)), (@PySem.Value.int (3 : @Int) (0 : @Nat)), (@PySem.Value.ref (145 : @Nat)), (@PySem.Value.bool true), (@PySem.Value.int (181 : @Int) (0 : @Nat)), (@PySem.Value.ref (146 : @Nat)), @PySem.Value.none, @PySem.Value.none, @PySem.Value.none, (@PySem.Value.ref (147 : @Nat)), (@PySem.Value.int (2350 : @Int) (0 : @Nat)), (@PySem.Value.int (112 : @Int) (0 : @Nat)), (@PySem.Value.str (@PySem.Str.ofString "/claim/cut.py") (2351 : @Nat))] : List @PySem.Value))) (@List.toArray (@Option @PySem.Value) ([] : List (@Option @PySem.Value))))
noncomputable def ob149_16 (P : Params) : Obj := (@PySem.Obj.mk (@PySem.Value.type "function") (@Option.none @Nat) (@PySem.Data.func (@PySem.FuncData.mk (@PySem.Str.ofString "_law_order") (@PySem.Str.ofString "_law_order") (argsAt 15) (@PySem.FuncBody.stmts (bodyAt 15)) (scopeAt 15) (3 : @Nat) ([] : List (@Prod @PySem.Str @Nat)) @PySem.Value.none @PySem.Value.none @PySem.Value.none (@PySem.Value.str (@PySem.Str.ofString "law_ph0141_01") (2276 : @Nat)) (@Option.none @Nat) (@PySem.Value.ref (148 : @Nat)) @PySem.Value.none (0 : @Nat))) (@List.toArray (@Option @PySem.Value) ([] : List (@Option @PySem.Value))))
noncomputable def tr_16 (P : Params) : BT := (.node (boot_o_0 P) (.node (boot_o_1 P) (.node (ob3_16 P) (.node (boot_o_7 P) (.node (ob15_2 P) (.node (ob31_3 P) (.node (ob63_4 P) (.node (ob127_13 P) .nil .nil) .nil) (.node (ob95_6 P) .nil .nil)) (.node (ob47_4 P) (.node (ob79_6 P) (.node (ob143_15 P) .nil .nil) .nil) (.node (ob111_11 P) .nil .nil))) (.node (ob23_2 P) (.node (ob39_4 P) (.node (ob71_4 P) (.node (ob135_14 P) .nil .nil) .nil) (.node (ob103_9 P) .nil .nil)) (.node (ob55_4 P) (.node (ob87_6 P) .nil .nil) (.node (ob119_12 P) .nil .nil)))) (.node (ob11_a P) (.node (ob19_2 P) (.node (ob35_4 P) (.node (ob67_4 P) (.node (ob131_14 P) .nil .nil) .nil) (.node (ob99_7 P) .nil .nil)) (.node (ob51_4 P) (.node (ob83_6 P) (.node (ob147_16 P) .nil .nil) .nil) (.node (ob115_11 P) .nil .nil))) (.node (ob27_3 P) (.node (ob43_4 P) (.node (ob75_5 P) (.node (ob139_15 P) .nil .nil) .nil) (.node (ob107_9 P) .nil .nil)) (.node (ob59_4 P) (.node (ob91_6 P) .nil .nil) (.node (ob123_12 P) .nil .nil))))) (.node (boot_o_5 P) (.node (boot_o_9 P) (.node (ob17_2 P) (.node (ob33_4 P) (.node (ob65_4 P) (.node (ob129_13 P) .nil .nil) .nil) (.node (ob97_7 P) .nil .nil)) (.node (ob49_4 P) (.node (ob81_6 P) (.node (ob145_16 P) .nil .nil) .nil) (.node (ob113_11 P) .nil .nil))) (.node (ob25_2 P) (.node (ob41_4 P) (.node (ob73_5 P) (.node (ob137_14 P) .nil .nil) .nil) (.node (ob105_9 P) .nil .nil)) (.node (ob57_4 P) (.node (ob89_6 P) .nil .nil) (.node (ob121_12 P) .nil .nil)))) (.node (ob13_a P) (.node (ob21_2 P) (.node (ob37_4 P) (.node (ob69_4 P) (.node (ob133_14 P) .nil .nil) .nil) (.node (ob101_7 P) .nil .nil)) (.node (ob53_4 P) (.node (ob85_6 P) (.node (ob149_16 P) .nil .nil) .nil) (.node (ob117_12 P) .nil .nil))) (.node (ob29_3 P) (.node (ob45_4 P) (.node (ob77_5 P) (.node (ob141_15 P) .nil .nil) .nil) (.node (ob109_9 P) .nil .nil)) (.node (ob61_4 P) (.node (ob93_6 P) .nil .nil) (.node (ob125_13 P) .nil .nil)))))) (.node (boot_o_2 P) (.node (boot_o_4 P) (.node (boot_o_8 P) (.node (ob16_2 P) (.node (ob32_3 P) (.node (ob64_4 P) (.node (ob128_13 P) .nil .nil) .nil) (.node (ob96_7 P) .nil .nil)) (.node (ob48_4 P) (.node (ob80_6 P) (.node (ob144_15 P) .nil .nil) .nil) (.node (ob112_11 P) .nil .nil))) (.node (ob24_2 P) (.node (ob40_4 P) (.node (ob72_5 P) (.node (ob136_14 P) .nil .nil) .nil) (.node (ob104_9 P) .nil .nil)) (.node (ob56_4 P) (.node (ob88_6 P) .nil .nil) (.node (ob120_12 P) .nil .nil)))) (.node (ob12_16 P) (.node (ob20_2 P) (.node (ob36_4 P) (.node (ob68_4 P) (.node (ob132_14 P) .nil .nil) .nil) (.node (ob100_7 P) .nil .nil)) (.node (ob52_4 P) (.node (ob84_6 P) (.node (ob148_16 P) .nil .nil) .nil) (.node (ob116_11 P) .nil .nil))) (.node (ob28_3 P) (.node (ob44_4 P) (.node (ob76_5 P) (.node (ob140_15 P) .nil .nil) .nil) (.node (ob108_9 P) .nil .nil)) (.node (ob60_4 P) (.node (ob92_6 P) .nil .nil) (.node (ob124_13 P) .nil .nil))))) (.node (boot_o_6 P) (.node (boot_o_10 P) (.node (ob18_2 P) (.node (ob34_4 P) (.node (ob66_4 P) (.node (ob130_13 P) .nil .nil) .nil) (.node (ob98_7 P) .nil .nil)) (.node (ob50_4 P) (.node (ob82_6 P) (.node (ob146_16 P) .nil .nil) .nil) (.node (ob114_11 P) .nil .nil))) (.node (ob26_3 P) (.node (ob42_4 P) (.node (ob74_5 P) (.node (ob138_15 P) .nil .nil) .nil) (.node (ob106_9 P) .nil .nil)) (.node (ob58_4 P) (.node (ob90_6 P) .nil .nil) (.node (ob122_12 P) .nil .nil)))) (.node (ob14_a P) (.node (ob22_2 P) (.node (ob38_4 P) (.node (ob70_4 P) (.node (ob134_14 P) .nil .nil) .nil) (.node (ob102_7 P) .nil .nil)) (.node (ob54_4 P) (.node (ob86_6 P) .nil .nil) (.node (ob118_12 P) .nil .nil))) (.node (ob30_3 P) (.node (ob46_4 P) (.node (ob78_5 P) (.node (ob142_15 P) .nil .nil) .nil) (.node (ob110_11 P) .nil .nil)) (.node (ob62_4 P) (.node (ob94_6 P) .nil .nil) (.node (ob126_13 P) .nil .nil)))))))
noncomputable def ob3_17 (P : Params) : Obj := nsNew (ob3_16 P) (@PySem.DictEntry.mk (@PySem.PyData.keyHash P (@PySem.Str.ofString "_law_turned")) (@PySem.Value.str (@PySem.Str.ofString "_law_turned") (2358 : @Nat)) (@PySem.Value.ref (154 : @Nat)))
noncomputable def ob12_17 (P : Params) : Obj := (@PySem.Obj.mk @PySem.Value.none (@Option.none @Nat) (@PySem.Data.fields (@List.toArray @PySem.Value ([(@PySem.Value.int (3 : @Int) (0 : @Nat)), (@PySem.Value.int (0 : @Int) (0 : @Nat)), (@PySem.Value.ref (31 : @Nat)), (@PySem.Value.int (6 : @Int) (0 : @Nat)), (@PySem.Value.int (0 : @Int) (0 : @Nat)), (@PySem.Value.ref (77 : @Nat)), (@PySem.Value.int (12 : @Int) (0 : @Nat)), (@PySem.Value.int (0 : @Int) (0 : @Nat)), (@PySem.Value.ref (101 : @Nat)), (@PySem.Value.int (15 : @Int) (0 : @Nat)), (@PySem.Value.int (0 : @Int) (0 : @Nat)), (@PySem.Value.ref (108 : @Nat)), (@PySem.Value.int (22 : @Int) (0 : @Nat)), (@PySem.Value.int (0 : @Int) (0 : @Nat)), (@PySem.Value.ref (115 : @Nat)), (@PySem.Value.int (55 : @Int) (0 : @Nat)), (@PySem.Value.int (0 : @Int) (0 : @Nat)), (@PySem.Value.ref (122 : @Nat)), (@PySem.Value.int (71 : @Int) (0 : @Nat)), (@PySem.Value.int (0 : @Int) (0 : @Nat)), (@PySem.Value.ref (129 : @Nat)), (@PySem.Value.int (87 : @Int) (0 : @Nat)), (@PySem.Value.int (0 : @Int) (0 : @Nat)), (@PySem.Value.ref (136 : @Nat)), (@PySem.Value.int (95 : @Int) (0 : @Nat)), (@PySem.Value.int (0 : @Int) (0 : @Nat)), (@PySem.Value.ref (143 : @Nat)), (@PySem.Value.int (112 : @Int) (0 : @Nat)), (@PySem.Value.int (0 : @Int) (0 : @Nat)), (@PySem.Value.ref (148 : @Nat)), (@PySem.Value.int (123 : @Int) (0 : @Nat)), (@PySem.Value.int (0 : @Int) (0 : @Nat)), (@PySem.Value.ref (153 : @Nat))] : List @PySem.Value))) (@List.toArray (@Option @PySem.Value) ([] : List (@Option @PySem.Value))))
noncomputable def ob150_17 (P : Params) : Obj := (@PySem.Obj.mk (@PySem.Value.type "tuple") (@Option.none @Nat) (@PySem.Data.seq (@List.toArray @PySem.Value ([] : List @PySem.Value)) (0 : @Nat)) (@List.toArray (@Option @PySem.Value) ([] : List (@Option @PySem.Value))))
noncomputable def ob151_17 (P : Params) : Obj := (@PySem.Obj.mk @PySem.Value.none (@Option.none @Nat) (@PySem.Data.fields (@List.toArray @PySem.Value ([] : List @PySem.Value))) (@List.toArray (@Option @PySem.Value) ([] : List (@Option @PySem.Value))))
noncomputable def ob152_17 (P : Params) : Obj := (@PySem.Obj.mk @PySem.Value.none (@Option.none @Nat) (@PySem.Data.func (@PySem.FuncData.mk (@PySem.Str.ofString "_law_turned") (@PySem.Str.ofString "_law_turned") (argsAt 16) (@PySem.FuncBody.stmts (bodyAt 16)) (scopeAt 16) (0 : @Nat) ([] : List (@Prod @PySem.Str @Nat)) @PySem.Value.none @PySem.Value.none @PySem.Value.none @PySem.Value.none (@Option.none @Nat) @PySem.Value.none @PySem.Value.none (0 : @Nat))) (@List.toArray (@Option @PySem.Value) ([] : List (@Option @PySem.Value))))
noncomputable def ob153_17 (P : Params) : Obj := (@PySem.Obj.mk (@PySem.Value.type "code") (@Option.none @Nat) (@PySem.Data.fields (@List.toArray @PySem.Value ([(@PySem.Value.str (@PySem.Str.ofString "_law_turned") (2353 : @Nat)), (@PySem.Value.str (@PySem.Str.ofString "_law_turned") (2354 : @Nat)), (@PySem.Value.str (@PySem.Str.ofString "/claim/cut.py") (2355 : @Nat)), (@PySem.Value.int (123 : @Int) (0 : @Nat)), (@PySem.Value.int (1 : @Int) (0 : @Nat)), (@PySem.Value.int (0 : @Int) (0 : @Nat)), (@PySem.Value.int (0 : @Int) (0 : @Nat)), (@PySem.Value.int (3 : @Int) (0 : @Nat)), (@PySem.Value.ref (150 : @Nat)), (@PySem.Value.bool true), (@PySem.Value.int (181 : @Int) (0 : @Nat)), (@PySem.Value.ref (151 : @Nat)), @PySem.Value.none, @PySem.Value.none, @PySem.Value.none, (@PySem.Value.ref (152 : @Nat)), (@PySem.Value.int (2356 : @Int) (0 : @Nat)), (@PySem.Value.int (123 : @Int) (0 : @Nat)), (@PySem.Value.str (@PySem.Str.ofString "/claim/cut.py") (2357 : @Nat))] : List @PySem.Value))) (@List.toArray (@Option @PySem.Value) ([] : List (@Option @PySem.Value))))
noncomputable def ob154_17 (P : Params) : Obj := (@PySem.Obj.mk (@PySem.Value.type "function") (@Option.none @Nat) (@PySem.Data.func (@PySem.FuncData.mk (@PySem.Str.ofString "_law_turned") (@PySem.Str.ofString "_law_turned") (argsAt 16) (@PySem.FuncBody.stmts (bodyAt 16)) (scopeAt 16) (3 : @Nat) ([] : List (@Prod @PySem.Str @Nat)) @PySem.Value.none @PySem.Value.none @PySem.Value.none (@PySem.Value.str (@PySem.Str.ofString "law_ph0141_01") (2276 : @Nat)) (@Option.none @Nat) (@PySem.Value.ref (153 : @Nat)) @PySem.Value.none (0 : @Nat))) (@List.toArray (@Option @PySem.Value) ([] : List (@Option @PySem.Value))))
noncomputable def tr_17 (P : Params) : BT := (.node (boot_o_0 P) (.node (boot_o_1 P) (.node (ob3_17 P) (.node (boot_o_7 P) (.node (ob15_2 P) (.node (ob31_3 P) (.node (ob63_4 P) (.node (ob127_13 P) .nil .nil) .nil) (.node (ob95_6 P) .nil .nil)) (.node (ob47_4 P) (.node (ob79_6 P) (.node (ob143_15 P) .nil .nil) .nil) (.node (ob111_11 P) .nil .nil))) (.node (ob23_2 P) (.node (ob39_4 P) (.node (ob71_4 P) (.node (ob135_14 P) .nil .nil) .nil) (.node (ob103_9 P) .nil .nil)) (.node (ob55_4 P) (.node (ob87_6 P) (.node (ob151_17 P) .nil .nil) .nil) (.node (ob119_12 P) .nil .nil)))) (.node (ob11_a P) (.node (ob19_2 P) (.node (ob35_4 P) (.node (ob67_4 P) (.node (ob131_14 P) .nil .nil) .nil) (.node (ob99_7 P) .nil .nil)) (.node (ob51_4 P) (.node (ob83_6 P) (.node (ob147_16 P) .nil .nil) .nil) (.node (ob115_11 P) .nil .nil))) (.node (ob27_3 P) (.node (ob43_4 P) (.node (ob75_5 P) (.node (ob139_15 P) .nil .nil) .nil) (.node (ob107_9 P) .nil .nil)) (.node (ob59_4 P) (.node (ob91_6 P) .nil .nil) (.node (ob123_12 P) .nil .nil))))) (.node (boot_o_5 P) (.node (boot_o_9 P) (.node (ob17_2 P) (.node (ob33_4 P) (.node (ob65_4 P) (.node (ob129_13 P) .nil .nil) .nil) (.node (ob97_7 P) .nil .nil)) (.node (ob49_4 P) (.node (ob81_6 P) (.node (ob145_16 P) .nil .nil) .nil) (.node (ob113_11 P) .nil .nil))) (.node (ob25_2 P) (.node (ob41_4 P) (.node (ob73_5 P) (.node (ob137_14 P) .nil .nil) .nil) (.node (ob105_9 P) .nil .nil)) (.node (ob57_4 P) (.node (ob89_6 P) (.node (ob153_17 P) .nil .nil) .nil) (.node (ob121_12 P) .nil .nil)))) (.node (ob13_a P) (.node (ob21_2 P) (.node (ob37_4 P) (.node (ob69_4 P) (.node (ob133_14 P) .nil .nil) .nil) (.node (ob101_7 P) .nil .nil)) (.node (ob53_4 P) (.node (ob85_6 P) (.node (ob149_16 P) .nil .nil) .nil) (.node (ob117_12 P) .nil .nil))) (.node (ob29_3 P) (.node (ob45_4 P) (.node (ob77_5 P) (.node (ob141_15 P) .nil .nil) .nil) (.node (ob109_9 P) .nil .nil)) (.node (ob61_4 P) (.node (ob93_6 P) .nil .nil) (.node (ob125_13 P) .nil .nil)))))) (.node (boot_o_2 P) (.node (boot_o_4 P) (.node (boot_o_8 P) (.node (ob16_2 P) (.node (ob32_3 P) (.node (ob64_4 P) (.node (ob128_13 P) .nil .nil) .nil) (.node (ob96_7 P) .nil .nil)) (.node (ob48_4 P) (.node (ob80_6 P) (.node (ob144_15 P) .nil .nil) .nil) (.node (ob112_11 P) .nil .nil))) (.node (ob24_2 P) (.node (ob40_4 P) (.node (ob72_5 P) (.node (ob136_14 P) .nil .nil) .nil) (.node (ob104_9 P) .nil .nil)) (.node (ob56_4 P) (.node (ob88_6 P) (.node (ob152_17 P) .nil .nil) .nil) (.node (ob120_12 P) .nil .nil)))) (.node (ob12_17 P) (.node (ob20_2 P) (.node (ob36_4 P) (.node (ob68_4 P) (.node (ob132_14 P) .nil .nil) .nil) (.node (ob100_7 P) .nil .nil)) (.node (ob52_4 P) (.node (ob84_6 P) (.node (ob148_16 P) .nil .nil) .nil) (.node (ob116_11 P) .nil .nil))) (.node (ob28_3 P) (.node (ob44_4 P) (.node (ob76_5 P) (.node (ob140_15 P) .nil .nil) .nil) (.node (ob108_9 P) .nil .nil)) (.node (ob60_4 P) (.node (ob92_6 P) .nil .nil) (.node (ob124_13 P) .nil .nil))))) (.node (boot_o_6 P) (.node (boot_o_10 P) (.node (ob18_2 P) (.node (ob34_4 P) (.node (ob66_4 P) (.node (ob130_13 P) .nil .nil) .nil) (.node (ob98_7 P) .nil .nil)) (.node (ob50_4 P) (.node (ob82_6 P) (.node (ob146_16 P) .nil .nil) .nil) (.node (ob114_11 P) .nil .nil))) (.node (ob26_3 P) (.node (ob42_4 P) (.node (ob74_5 P) (.node (ob138_15 P) .nil .nil) .nil) (.node (ob106_9 P) .nil .nil)) (.node (ob58_4 P) (.node (ob90_6 P) (.node (ob154_17 P) .nil .nil) .nil) (.node (ob122_12 P) .nil .nil)))) (.node (ob14_a P) (.node (ob22_2 P) (.node (ob38_4 P) (.node (ob70_4 P) (.node (ob134_14 P) .nil .nil) .nil) (.node (ob102_7 P) .nil .nil)) (.node (ob54_4 P) (.node (ob86_6 P) (.node (ob150_17 P) .nil .nil) .nil) (.node (ob118_12 P) .nil .nil))) (.node (ob30_3 P) (.node (ob46_4 P) (.node (ob78_5 P) (.node (ob142_15 P) .nil .nil) .nil) (.node (ob110_11 P) .nil .nil)) (.node (ob62_4 P) (.node (ob94_6 P) .nil .nil) (.node (ob126_13 P) .nil .nil)))))))
noncomputable def ob3_18 (P : Params) : Obj := nsNew (ob3_17 P) (@PySem.DictEntry.mk (@PySem.PyData.keyHash P (@PySem.Str.ofString "law")) (@PySem.Value.str (@PySem.Str.ofString "law") (2364 : @Nat)) (@PySem.Value.ref (159 : @Nat)))
noncomputable def ob12_18 (P : Params) : Obj := (@PySem.Obj.mk @PySem.Value.none (@Option.none @Nat) (@PySem.Data.fields (@List.toArray @PySem.Value ([(@PySem.Value.int (3 : @Int) (0 : @Nat)), (@PySem.Value.int (0 : @Int) (0 : @Nat)), (@PySem.Value.ref (31 : @Nat)), (@PySem.Value.int (6 : @Int) (0 : @Nat)), (@PySem.Value.int (0 : @Int) (0 : @Nat)), (@PySem.Value.ref (77 : @Nat)), (@PySem.Value.int (12 : @Int) (0 : @Nat)), (@PySem.Value.int (0 : @Int) (0 : @Nat)), (@PySem.Value.ref (101 : @Nat)), (@PySem.Value.int (15 : @Int) (0 : @Nat)), (@PySem.Value.int (0 : @Int) (0 : @Nat)), (@PySem.Value.ref (108 : @Nat)), (@PySem.Value.int (22 : @Int) (0 : @Nat)), (@PySem.Value.int (0 : @Int) (0 : @Nat)), (@PySem.Value.ref (115 : @Nat)), (@PySem.Value.int (55 : @Int) (0 : @Nat)), (@PySem.Value.int (0 : @Int) (0 : @Nat)), (@PySem.Value.ref (122 : @Nat)), (@PySem.Value.int (71 : @Int) (0 : @Nat)), (@PySem.Value.int (0 : @Int) (0 : @Nat)), (@PySem.Value.ref (129 : @Nat)), (@PySem.Value.int (87 : @Int) (0 : @Nat)), (@PySem.Value.int (0 : @Int) (0 : @Nat)), (@PySem.Value.ref (136 : @Nat)), (@PySem.Value.int (95 : @Int) (0 : @Nat)), (@PySem.Value.int (0 : @Int) (0 : @Nat)), (@PySem.Value.ref (143 : @Nat)), (@PySem.Value.int (112 : @Int) (0 : @Nat)), (@PySem.Value.int (0 : @Int) (0 : @Nat)), (@PySem.Value.ref (148 : @Nat)), (@PySem.Value.int (123 : @Int) (0 : @Nat)), (@PySem.Value.int (0 : @Int) (0 : @Nat)), (@PySem.Value.ref (153 : @Nat)), (@PySem.Value.int (125 : @Int) (0 : @Nat)), (@PySem.Value.int (0 : @Int) (0 : @Nat)), (@PySem.Value.ref (158 : @Nat))] : List @PySem.Value))) (@List.toArray (@Option @PySem.Value) ([] : List (@Option @PySem.Value))))
noncomputable def ob155_18 (P : Params) : Obj := (@PySem.Obj.mk (@PySem.Value.type "tuple") (@Option.none @Nat) (@PySem.Data.seq (@List.toArray @PySem.Value ([] : List @PySem.Value)) (0 : @Nat)) (@List.toArray (@Option @PySem.Value) ([] : List (@Option @PySem.Value))))
noncomputable def ob156_18 (P : Params) : Obj := (@PySem.Obj.mk @PySem.Value.none (@Option.none @Nat) (@PySem.Data.fields (@List.toArray @PySem.Value ([] : List @PySem.Value))) (@List.toArray (@Option @PySem.Value) ([] : List (@Option @PySem.Value))))
noncomputable def ob157_18 (P : Params) : Obj := (@PySem.Obj.mk @PySem.Value.none (@Option.none @Nat) (@PySem.Data.func (@PySem.FuncData.mk (@PySem.Str.ofString "law") (@PySem.Str.ofString "law") (argsAt 17) (@PySem.FuncBody.stmts (bodyAt 17)) (scopeAt 17) (0 : @Nat) ([] : List (@Prod @PySem.Str @Nat)) @PySem.Value.none @PySem.Value.none @PySem.Value.none @PySem.Value.none (@Option.none @Nat) @PySem.Value.none @PySem.Value.none (0 : @Nat))) (@List.toArray (@Option @PySem.Value) ([] : List (@Option @PySem.Value))))
noncomputable def ob158_18 (P : Params) : Obj := (@PySem.Obj.mk (@PySem.Value.type "code") (@Option.none @Nat) (@PySem.Data.fields (@List.toArray @PySem.Value ([(@PySem.Value.str (@PySem.Str.ofString "law") (2359 : @Nat)), (@PySem.Value.str (@PySem.Str.ofString "law") (2360 : @Nat)), (@PySem.Value.str (@PySem.Str.ofString "/claim/cut.py") (2361 : @Nat)), (@PySem.Value.int (125 : @Int) (0 : @Nat)), (@PySem.Value.int (1 : @Int) (0 : @Nat)), (@PySem.Value.int (0 : @Int) (0 : @Nat)), (@PySem.Value.int (0 : @Int) (0 : @Nat)), (@PySem.Value.int (3 : @Int) (0 : @Nat)), (@PySem.Value.ref (155 : @Nat)), (@PySem.Value.bool true), (@PySem.Value.int (181 : @Int) (0 : @Nat)), (@PySem.Value.ref (156 : @Nat)), @PySem.Value.none, @PySem.Value.none, @PySem.Value.none, (@PySem.Value.ref (157 : @Nat)), (@PySem.Value.int (2362 : @Int) (0 : @Nat)), (@PySem.Value.int (125 : @Int) (0 : @Nat)), (@PySem.Value.str (@PySem.Str.ofString "/claim/cut.py") (2363 : @Nat))] : List @PySem.Value))) (@List.toArray (@Option @PySem.Value) ([] : List (@Option @PySem.Value))))
noncomputable def ob159_18 (P : Params) : Obj := (@PySem.Obj.mk (@PySem.Value.type "function") (@Option.none @Nat) (@PySem.Data.func (@PySem.FuncData.mk (@PySem.Str.ofString "law") (@PySem.Str.ofString "law") (argsAt 17) (@PySem.FuncBody.stmts (bodyAt 17)) (scopeAt 17) (3 : @Nat) ([] : List (@Prod @PySem.Str @Nat)) @PySem.Value.none @PySem.Value.none @PySem.Value.none (@PySem.Value.str (@PySem.Str.ofString "law_ph0141_01") (2276 : @Nat)) (@Option.none @Nat) (@PySem.Value.ref (158 : @Nat)) @PySem.Value.none (0 : @Nat))) (@List.toArray (@Option @PySem.Value) ([] : List (@Option @PySem.Value))))
noncomputable def tr_18 (P : Params) : BT := (.node (boot_o_0 P) (.node (boot_o_1 P) (.node (ob3_18 P) (.node (boot_o_7 P) (.node (ob15_2 P) (.node (ob31_3 P) (.node (ob63_4 P) (.node (ob127_13 P) .nil .nil) .nil) (.node (ob95_6 P) (.node (ob159_18 P) .nil .nil) .nil)) (.node (ob47_4 P) (.node (ob79_6 P) (.node (ob143_15 P) .nil .nil) .nil) (.node (ob111_11 P) .nil .nil))) (.node (ob23_2 P) (.node (ob39_4 P) (.node (ob71_4 P) (.node (ob135_14 P) .nil .nil) .nil) (.node (ob103_9 P) .nil .nil)) (.node (ob55_4 P) (.node (ob87_6 P) (.node (ob151_17 P) .nil .nil) .nil) (.node (ob119_12 P) .nil .nil)))) (.node (ob11_a P) (.node (ob19_2 P) (.node (ob35_4 P) (.node (ob67_4 P) (.node (ob131_14 P) .nil .nil) .nil) (.node (ob99_7 P) .nil .nil)) (.node (ob51_4 P) (.node (ob83_6 P) (.node (ob147_16 P) .nil .nil) .nil) (.node (ob115_11 P) .nil .nil))) (.node (ob27_3 P) (.node (ob43_4 P) (.node (ob75_5 P) (.node (ob139_15 P) .nil .nil) .nil) (.node (ob107_9 P) .nil .nil)) (.node (ob59_4 P) (.node (ob91_6 P) (.node (ob155_18 P) .nil .nil) .nil) (.node (ob123_12 P) .nil .nil))))) (.node (boot_o_5 P) (.node (boot_o_9 P) (.node (ob17_2 P) (.node (ob33_4 P) (.node (ob65_4 P) (.node (ob129_13 P) .nil .nil) .nil) (.node (ob97_7 P) .nil .nil)) (.node (ob49_4 P) (.node (ob81_6 P) (.node (ob145_16 P) .nil .nil) .nil) (.node (ob113_11 P) .nil .nil))) (.node (ob25_2 P) (.node (ob41_4 P) (.node (ob73_5 P) (.node (ob137_14 P) .nil .nil) .nil) (.node (ob105_9 P) .nil .nil)) (.node (ob57_4 P) (.node (ob89_6 P) (.node (ob153_17 P) .nil .nil) .nil) (.node (ob121_12 P) .nil .nil)))) (.node (ob13_a P) (.node (ob21_2 P) (.node (ob37_4 P) (.node (ob69_4 P) (.node (ob133_14 P) .nil .nil) .nil) (.node (ob101_7 P) .nil .nil)) (.node (ob53_4 P) (.node (ob85_6 P) (.node (ob149_16 P) .nil .nil) .nil) (.node (ob117_12 P) .nil .nil))) (.node (ob29_3 P) (.node (ob45_4 P) (.node (ob77_5 P) (.node (ob141_15 P) .nil .nil) .nil) (.node (ob109_9 P) .nil .nil)) (.node (ob61_4 P) (.node (ob93_6 P) (.node (ob157_18 P) .nil .nil) .nil) (.node (ob125_13 P) .nil .nil)))))) (.node (boot_o_2 P) (.node (boot_o_4 P) (.node (boot_o_8 P) (.node (ob16_2 P) (.node (ob32_3 P) (.node (ob64_4 P) (.node (ob128_13 P) .nil .nil) .nil) (.node (ob96_7 P) .nil .nil)) (.node (ob48_4 P) (.node (ob80_6 P) (.node (ob144_15 P) .nil .nil) .nil) (.node (ob112_11 P) .nil .nil))) (.node (ob24_2 P) (.node (ob40_4 P) (.node (ob72_5 P) (.node (ob136_14 P) .nil .nil) .nil) (.node (ob104_9 P) .nil .nil)) (.node (ob56_4 P) (.node (ob88_6 P) (.node (ob152_17 P) .nil .nil) .nil) (.node (ob120_12 P) .nil .nil)))) (.node (ob12_18 P) (.node (ob20_2 P) (.node (ob36_4 P) (.node (ob68_4 P) (.node (ob132_14 P) .nil .nil) .nil) (.node (ob100_7 P) .nil .nil)) (.node (ob52_4 P) (.node (ob84_6 P) (.node (ob148_16 P) .nil .nil) .nil) (.node (ob116_11 P) .nil .nil))) (.node (ob28_3 P) (.node (ob44_4 P) (.node (ob76_5 P) (.node (ob140_15 P) .nil .nil) .nil) (.node (ob108_9 P) .nil .nil)) (.node (ob60_4 P) (.node (ob92_6 P) (.node (ob156_18 P) .nil .nil) .nil) (.node (ob124_13 P) .nil .nil))))) (.node (boot_o_6 P) (.node (boot_o_10 P) (.node (ob18_2 P) (.node (ob34_4 P) (.node (ob66_4 P) (.node (ob130_13 P) .nil .nil) .nil) (.node (ob98_7 P) .nil .nil)) (.node (ob50_4 P) (.node (ob82_6 P) (.node (ob146_16 P) .nil .nil) .nil) (.node (ob114_11 P) .nil .nil))) (.node (ob26_3 P) (.node (ob42_4 P) (.node (ob74_5 P) (.node (ob138_15 P) .nil .nil) .nil) (.node (ob106_9 P) .nil .nil)) (.node (ob58_4 P) (.node (ob90_6 P) (.node (ob154_17 P) .nil .nil) .nil) (.node (ob122_12 P) .nil .nil)))) (.node (ob14_a P) (.node (ob22_2 P) (.node (ob38_4 P) (.node (ob70_4 P) (.node (ob134_14 P) .nil .nil) .nil) (.node (ob102_7 P) .nil .nil)) (.node (ob54_4 P) (.node (ob86_6 P) (.node (ob150_17 P) .nil .nil) .nil) (.node (ob118_12 P) .nil .nil))) (.node (ob30_3 P) (.node (ob46_4 P) (.node (ob78_5 P) (.node (ob142_15 P) .nil .nil) .nil) (.node (ob110_11 P) .nil .nil)) (.node (ob62_4 P) (.node (ob94_6 P) (.node (ob158_18 P) .nil .nil) .nil) (.node (ob126_13 P) .nil .nil)))))))
noncomputable def hp_f (P : Params) : Heap := Heap.mk (Array.mk [boot_o_0 P, boot_o_1 P, boot_o_2 P, ob3_18 P, boot_o_4 P, boot_o_5 P, boot_o_6 P, boot_o_7 P, boot_o_8 P, boot_o_9 P, boot_o_10 P, ob11_a P, ob12_18 P, ob13_a P, ob14_a P, ob15_2 P, ob16_2 P, ob17_2 P, ob18_2 P, ob19_2 P, ob20_2 P, ob21_2 P, ob22_2 P, ob23_2 P, ob24_2 P, ob25_2 P, ob26_3 P, ob27_3 P, ob28_3 P, ob29_3 P, ob30_3 P, ob31_3 P, ob32_3 P, ob33_4 P, ob34_4 P, ob35_4 P, ob36_4 P, ob37_4 P, ob38_4 P, ob39_4 P, ob40_4 P, ob41_4 P, ob42_4 P, ob43_4 P, ob44_4 P, ob45_4 P, ob46_4 P, ob47_4 P, ob48_4 P, ob49_4 P, ob50_4 P, ob51_4 P, ob52_4 P, ob53_4 P, ob54_4 P, ob55_4 P, ob56_4 P, ob57_4 P, ob58_4 P, ob59_4 P, ob60_4 P, ob61_4 P, ob62_4 P, ob63_4 P, ob64_4 P, ob65_4 P, ob66_4 P, ob67_4 P, ob68_4 P, ob69_4 P, ob70_4 P, ob71_4 P, ob72_5 P, ob73_5 P, ob74_5 P, ob75_5 P, ob76_5 P, ob77_5 P, ob78_5 P, ob79_6 P, ob80_6 P, ob81_6 P, ob82_6 P, ob83_6 P, ob84_6 P, ob85_6 P, ob86_6 P, ob87_6 P, ob88_6 P, ob89_6 P, ob90_6 P, ob91_6 P, ob92_6 P, ob93_6 P, ob94_6 P, ob95_6 P, ob96_7 P, ob97_7 P, ob98_7 P, ob99_7 P, ob100_7 P, ob101_7 P, ob102_7 P, ob103_9 P, ob104_9 P, ob105_9 P, ob106_9 P, ob107_9 P, ob108_9 P, ob109_9 P, ob110_11 P, ob111_11 P, ob112_11 P, ob113_11 P, ob114_11 P, ob115_11 P, ob116_11 P, ob117_12 P, ob118_12 P, ob119_12 P, ob120_12 P, ob121_12 P, ob122_12 P, ob123_12 P, ob124_13 P, ob125_13 P, ob126_13 P, ob127_13 P, ob128_13 P, ob129_13 P, ob130_13 P, ob131_14 P, ob132_14 P, ob133_14 P, ob134_14 P, ob135_14 P, ob136_14 P, ob137_14 P, ob138_15 P, ob139_15 P, ob140_15 P, ob141_15 P, ob142_15 P, ob143_15 P, ob144_15 P, ob145_16 P, ob146_16 P, ob147_16 P, ob148_16 P, ob149_16 P, ob150_17 P, ob151_17 P, ob152_17 P, ob153_17 P, ob154_17 P, ob155_18 P, ob156_18 P, ob157_18 P, ob158_18 P, ob159_18 P]) lf
noncomputable def tr_3d (P : Params) : BT := (.node (boot_o_0 P) (.node (boot_o_1 P) (.node (ob3_3 P) (.node (boot_o_7 P) (.node (ob15_2 P) (.node (ob31_3 P) (.node (ob63_4 P) .nil .nil) .nil) (.node (ob47_4 P) .nil .nil)) (.node (ob23_2 P) (.node (ob39_4 P) (.node (ob71_4 P) .nil .nil) .nil) (.node (ob55_4 P) .nil .nil))) (.node (ob11_a P) (.node (ob19_2 P) (.node (ob35_4 P) (.node (ob67_4 P) .nil .nil) .nil) (.node (ob51_4 P) .nil .nil)) (.node (ob27_3 P) (.node (ob43_4 P) .nil .nil) (.node (ob59_4 P) .nil .nil)))) (.node (boot_o_5 P) (.node (boot_o_9 P) (.node (ob17_2 P) (.node (ob33_4 P) (.node (ob65_4 P) .nil .nil) .nil) (.node (ob49_4 P) .nil .nil)) (.node (ob25_2 P) (.node (ob41_4 P) .nil .nil) (.node (ob57_4 P) .nil .nil))) (.node (ob13_a P) (.node (ob21_2 P) (.node (ob37_4 P) (.node (ob69_4 P) .nil .nil) .nil) (.node (ob53_4 P) .nil .nil)) (.node (ob29_3 P) (.node (ob45_4 P) .nil .nil) (.node (ob61_4 P) .nil .nil))))) (.node (boot_o_2 P) (.node (boot_o_4 P) (.node (boot_o_8 P) (.node (ob16_2 P) (.node (ob32_3 P) (.node (ob64_4 P) .nil .nil) .nil) (.node (ob48_4 P) .nil .nil)) (.node (ob24_2 P) (.node (ob40_4 P) .nil .nil) (.node (ob56_4 P) .nil .nil))) (.node (ob12_3 P) (.node (ob20_2 P) (.node (ob36_4 P) (.node (ob68_4 P) .nil .nil) .nil) (.node (ob52_4 P) .nil .nil)) (.node (ob28_3 P) (.node (ob44_4 P) .nil .nil) (.node (ob60_4 P) .nil .nil)))) (.node (boot_o_6 P) (.node (boot_o_10 P) (.node (ob18_2 P) (.node (ob34_4 P) (.node (ob66_4 P) .nil .nil) .nil) (.node (ob50_4 P) .nil .nil)) (.node (ob26_3 P) (.node (ob42_4 P) .nil .nil) (.node (ob58_4 P) .nil .nil))) (.node (ob14_a P) (.node (ob22_2 P) (.node (ob38_4 P) (.node (ob70_4 P) .nil .nil) .nil) (.node (ob54_4 P) .nil .nil)) (.node (ob30_3 P) (.node (ob46_4 P) .nil .nil) (.node (ob62_4 P) .nil .nil))))))

end
end Mine
end

section
open PySem PySem.W PyProof.Rows
set_option maxRecDepth 100000
namespace Mine
noncomputable abbrev twT : String → Option Builtin := PySem.W.Fast.tw14364793385576792824
noncomputable abbrev SR := (String → Option Builtin) → Program → World → Nat → Option Value → Nat → Nat → SharedT → Thread → Option (Flow × SharedT × Code × Pos)
noncomputable abbrev twS : SR := PySem.W.Fast.tw10110043849684766642
theorem segRunT_q : @segRunT = twS := PySem.W.Fast.te10110043849684766642
noncomputable def PC (tb : String → Option Builtin) (sr : SR) (l : List Stmt) (steps : Nat) (tr tr' : Params → BT) (n t n' t' : Nat) (p p' : Pos) (w : World) : Prop :=
  (fun os => sr tb pw w 11 nt 1 steps (sT tr n t w os) (piecesOf l topEnv cE p [topFrame q0])) = fun os => some (.next, sT tr' n' t' w os, cE, p')
theorem pc_of {l : List Stmt} {steps : Nat} {tr tr' : Params → BT} {n t n' t' : Nat} {p p' : Pos} {w : World} (h : PC twT twS l steps tr tr' n t n' t' p p' w) (os : OsState) :
    segRun treeTable pw w 11 nt 1 steps (sT tr n t w os).abs (piecesOf l topEnv cE p [topFrame q0]) = some (.next, (sT tr' n' t' w os).abs, cE, p') := by
  have h' : PC treeTable @segRunT l steps tr tr' n t n' t' p p' w := by rw [tree_q, segRunT_q]; exact h
  exact segRun_of (congrFun h' os)
theorem pc_0 (w : World) : PC twT twS (stL 0) 10 tr_b tr_1 15 187 15 189 ⟨0, 0, 0, 0⟩ ⟨1, 0, 1, 8⟩ w := by unfold PC; kernel_rfl
theorem pc_1_false_false (w : World) : PC twT twS (stL 1) 999 tr_1 tr_2 15 189 26 249 ⟨1, 0, 1, 8⟩ ⟨2, 0, 2, 6⟩ ((w.withFollow "special-get-raises" false).withFollow "set-order" false) := by unfold PC; kernel_rfl
theorem pc_1_false_true (w : World) : PC twT twS (stL 1) 999 tr_1 tr_2 15 189 26 249 ⟨1, 0, 1, 8⟩ ⟨2, 0, 2, 6⟩ ((w.withFollow "special-get-raises" true).withFollow "set-order" false) := by unfold PC; kernel_rfl
theorem pc_1_true_false (w : World) : PC twT twS (stL 1) 999 tr_1 tr_2 15 189 26 249 ⟨1, 0, 1, 8⟩ ⟨2, 0, 2, 6⟩ ((w.withFollow "special-get-raises" false).withFollow "set-order" true) := by unfold PC; kernel_rfl
theorem pc_1_true_true (w : World) : PC twT twS (stL 1) 999 tr_1 tr_2 15 189 26 249 ⟨1, 0, 1, 8⟩ ⟨2, 0, 2, 6⟩ ((w.withFollow "special-get-raises" true).withFollow "set-order" true) := by unfold PC; kernel_rfl
theorem pc_1 (w : World) : PC twT twS (stL 1) 999 tr_1 tr_2 15 189 26 249 ⟨1, 0, 1, 8⟩ ⟨2, 0, 2, 6⟩ w :=
  byRow2 "set-order" (P := PC twT twS (stL 1) 999 tr_1 tr_2 15 189 26 249 ⟨1, 0, 1, 8⟩ ⟨2, 0, 2, 6⟩)
    (byRow2 "special-get-raises" (P := fun w => PC twT twS (stL 1) 999 tr_1 tr_2 15 189 26 249 ⟨1, 0, 1, 8⟩ ⟨2, 0, 2, 6⟩ (w.withFollow "set-order" false)) pc_1_false_false pc_1_false_true)
    (byRow2 "special-get-raises" (P := fun w => PC twT twS (stL 1) 999 tr_1 tr_2 15 189 26 249 ⟨1, 0, 1, 8⟩ ⟨2, 0, 2, 6⟩ (w.withFollow "set-order" true)) pc_1_true_false pc_1_true_true) w
theorem pc_2 (w : World) : PC twT twS (stL 2) 30 tr_2 tr_3 26 249 33 256 ⟨2, 0, 2, 6⟩ ⟨3, 0, 4, 30⟩ w := by unfold PC; kernel_rfl
theorem pc_4 (w : World) : PC twT twS (stL 4) 31 tr_4 tr_5 72 2207 79 2215 ⟨5, 0, 5, 13⟩ ⟨6, 0, 10, 23⟩ w := by unfold PC; kernel_rfl
theorem pc_5_false_false (w : World) : PC twT twS (stL 5) 775 tr_5 tr_6 79 2215 96 2256 ⟨6, 0, 10, 23⟩ ⟨11, 0, 11, 6⟩ ((w.withFollow "special-get-raises" false).withFollow "set-order" false) := by unfold PC; kernel_rfl
theorem pc_5_false_true (w : World) : PC twT twS (stL 5) 775 tr_5 tr_6 79 2215 96 2256 ⟨6, 0, 10, 23⟩ ⟨11, 0, 11, 6⟩ ((w.withFollow "special-get-raises" true).withFollow "set-order" false) := by unfold PC; kernel_rfl
theorem pc_5_true_false (w : World) : PC twT twS (stL 5) 775 tr_5 tr_6 79 2215 96 2256 ⟨6, 0, 10, 23⟩ ⟨11, 0, 11, 6⟩ ((w.withFollow "special-get-raises" false).withFollow "set-order" true) := by unfold PC; kernel_rfl
theorem pc_5_true_true (w : World) : PC twT twS (stL 5) 775 tr_5 tr_6 79 2215 96 2256 ⟨6, 0, 10, 23⟩ ⟨11, 0, 11, 6⟩ ((w.withFollow "special-get-raises" true).withFollow "set-order" true) := by unfold PC; kernel_rfl
theorem pc_5 (w : World) : PC twT twS (stL 5) 775 tr_5 tr_6 79 2215 96 2256 ⟨6, 0, 10, 23⟩ ⟨11, 0, 11, 6⟩ w :=
  byRow2 "set-order" (P := PC twT twS (stL 5) 775 tr_5 tr_6 79 2215 96 2256 ⟨6, 0, 10, 23⟩ ⟨11, 0, 11, 6⟩)
    (byRow2 "special-get-raises" (P := fun w => PC twT twS (stL 5) 775 tr_5 tr_6 79 2215 96 2256 ⟨6, 0, 10, 23⟩ ⟨11, 0, 11, 6⟩ (w.withFollow "set-order" false)) pc_5_false_false pc_5_false_true)
    (byRow2 "special-get-raises" (P := fun w => PC twT twS (stL 5) 775 tr_5 tr_6 79 2215 96 2256 ⟨6, 0, 10, 23⟩ ⟨11, 0, 11, 6⟩ (w.withFollow "set-order" true)) pc_5_true_false pc_5_true_true) w
theorem pc_6 (w : World) : PC twT twS (stL 6) 30 tr_6 tr_7 96 2256 103 2263 ⟨11, 0, 11, 6⟩ ⟨12, 0, 13, 30⟩ w := by unfold PC; kernel_rfl
theorem pc_7 (w : World) : PC twT twS (stL 7) 10 tr_7 tr_8 103 2263 103 2265 ⟨12, 0, 13, 30⟩ ⟨14, 0, 14, 8⟩ w := by unfold PC; kernel_rfl
theorem pc_8 (w : World) : PC twT twS (stL 8) 34 tr_8 tr_9 103 2265 110 2276 ⟨14, 0, 14, 8⟩ ⟨15, 0, 20, 30⟩ w := by unfold PC; kernel_rfl
theorem pc_9 (w : World) : PC twT twS (stL 9) 10 tr_9 tr_10 110 2276 110 2278 ⟨15, 0, 20, 30⟩ ⟨21, 0, 21, 8⟩ w := by unfold PC; kernel_rfl
theorem pc_10 (w : World) : PC twT twS (stL 10) 41 tr_10 tr_11 110 2278 117 2296 ⟨21, 0, 21, 8⟩ ⟨22, 0, 54, 26⟩ w := by unfold PC; kernel_rfl
theorem pc_11 (w : World) : PC twT twS (stL 11) 36 tr_11 tr_12 117 2296 124 2309 ⟨22, 0, 54, 26⟩ ⟨55, 0, 70, 16⟩ w := by unfold PC; kernel_rfl
theorem pc_12 (w : World) : PC twT twS (stL 12) 35 tr_12 tr_13 124 2309 131 2321 ⟨55, 0, 70, 16⟩ ⟨71, 0, 86, 16⟩ w := by unfold PC; kernel_rfl
theorem pc_13 (w : World) : PC twT twS (stL 13) 34 tr_13 tr_14 131 2321 138 2332 ⟨71, 0, 86, 16⟩ ⟨87, 0, 94, 17⟩ w := by unfold PC; kernel_rfl
theorem pc_14 (w : World) : PC twT twS (stL 14) 38 tr_14 tr_15 138 2332 145 2347 ⟨87, 0, 94, 17⟩ ⟨95, 0, 111, 25⟩ w := by unfold PC; kernel_rfl
theorem pc_15 (w : World) : PC twT twS (stL 15) 27 tr_15 tr_16 145 2347 150 2353 ⟨95, 0, 111, 25⟩ ⟨112, 0, 122, 55⟩ w := by unfold PC; kernel_rfl
theorem pc_16 (w : World) : PC twT twS (stL 16) 27 tr_16 tr_17 150 2353 155 2359 ⟨112, 0, 122, 55⟩ ⟨123, 0, 124, 71⟩ w := by unfold PC; kernel_rfl
theorem pc_17 (w : World) : PC twT twS (stL 17) 27 tr_17 tr_18 155 2359 160 2365 ⟨123, 0, 124, 71⟩ ⟨125, 0, 162, 54⟩ w := by unfold PC; kernel_rfl
end Mine
end

section
open PySem PySem.W PyProof.Rows
set_option maxRecDepth 100000
namespace Mine
noncomputable def tg3 : List PySem.Expr := match pw.main.body[3]? with | some (Stmt.Assign t _ _) => t | _ => []
noncomputable def dp3 : Pos := match pw.main.body[3]? with | some (Stmt.Assign _ (PySem.Expr.Dict _ _ p) _) => p | _ => default
noncomputable def ps3 : Pos := match pw.main.body[3]? with | some (Stmt.Assign _ _ p) => p | _ => default
theorem st3_eq : stL 3 = [.Assign tg3 (.Dict b3ks b3vs dp3) ps3] := rfl
theorem sw3 : swapsWithSole tg3 (.Dict b3ks b3vs dp3) ps3.line topEnv = (Sem.pure false : Sem Bool) := by kernel_rfl
noncomputable def store3 (v : Value) : Sem Flow := swappedStores tg3 (.Dict b3ks b3vs dp3) topEnv >>= fun x => assignStores topEnv v x ((assignEach tg3 topEnv).map (·.2))
theorem exec3 : exec (.Assign tg3 (.Dict b3ks b3vs dp3) ps3) topEnv = ((standAt ps3 >>= fun _ => eval (.Dict b3ks b3vs dp3) topEnv) >>= store3) := by
  rw [arm_exec_Assign, sw3]
  rfl
theorem top_seg {w : World} {n₀ n N : Nat} {ann : Option Value} {s s' r : Shared} {x : Sem Flow} {K : Flow → Sem Fin} {H : Value → Sem Fin} {c c' : Code} {p p' q : Pos} {f : Flow}
    (h : segRun treeTable pw w n₀ ann 1 n s ⟨x.wrap doneF deadEnd id id, c, p, [topFrame q]⟩ = some (f, s', c', p')) (k : topRun treeTable pw w n₀ ann N s' ⟨K f, c', p', [topFrame q]⟩ = some r) :
    topRun treeTable pw w n₀ ann (n + N) s ⟨x.wrap K H id id, c, p, [topFrame q]⟩ = some r := by
  obtain ⟨a, ha, hN⟩ := seg_top (res := id) (K' := K) (H' := H) (B := [topFrame q]) rfl n s ⟨x.wrap doneF deadEnd id id, c, p, [topFrame q]⟩ ⟨x.wrap K H id id, c, p, [topFrame q]⟩ _ _ _ _ ⟨rfl, rfl, .inl ⟨rfl, rfl, _, rfl, rfl⟩⟩ h
  obtain rfl : a = f := ha
  exact hN N r k
theorem h3d (P : Params) : HS (absHeap (tr_3 P) 33 lf) (mainE 256 k0 kCH kL) (subsE 256 k0 kCH kL) = absHeap (tr_3d P) 72 lf := by kernel_rfl

noncomputable abbrev SR2 := (String → Option Builtin) → Program → World → Nat → Option Value → Nat → Nat → SharedT → Thread → Option (Flow × SharedT × Code × Pos)
noncomputable abbrev twT2 : String → Option Builtin := PySem.W.Fast.tw14364793385576792824
noncomputable abbrev twS2 : SR2 := PySem.W.Fast.tw10110043849684766642
theorem segRunT_q2 : @segRunT = twS2 := PySem.W.Fast.te10110043849684766642
noncomputable def ST3 (tb : String → Option Builtin) (sr : SR2) (w : World) : Prop :=
  (fun (p : Pos) (os : OsState) => sr tb pw w 11 nt 1 30 (sT tr_3d 72 2206 w os) ⟨(store3 (.ref 33)).wrap doneF deadEnd id id, cE, p, [topFrame q0]⟩) = fun p os => some (.next, sT tr_4 72 2207 w os, cE, ⟨5, 0, 5, 13⟩)
theorem st3_q (w : World) : ST3 twT2 twS2 w := by unfold ST3; kernel_rfl
theorem st3_run (w : World) (p : Pos) (os : OsState) : segRun treeTable pw w 11 nt 1 30 (sT tr_3d 72 2206 w os).abs ⟨(store3 (.ref 33)).wrap doneF deadEnd id id, cE, p, [topFrame q0]⟩ = some (.next, (sT tr_4 72 2207 w os).abs, cE, ⟨5, 0, 5, 13⟩) := by
  have h : ST3 treeTable @segRunT w := by rw [tree_q, segRunT_q2]; exact st3_q w
  exact segRun_of (congrFun (congrFun h p) os)
theorem run3 (w : World) (os : OsState) : Run w 11 nt 16000 (sT tr_3 33 256 w os).abs (standAt ps3 >>= fun _ => eval (.Dict b3ks b3vs dp3) topEnv) (sT tr_3d 72 2206 w os).abs (.ref 33) := by
  obtain ⟨ps, e, hp⟩ := pairs_of (w := w) (n₀ := 11) (ann := nt) (env := topEnv) (pos := dp3) b3ks b3vs _ k_all
  have hsz : (sT tr_3 33 256 w os).abs.heap.objs.size = 33 := absHeap_size _ _ _
  have hlc : ∀ c ∈ kCH, c.length = 17 := fun c hc => by simpa using List.all_eq_true.mp k_lenCH c hc
  have hfl : kCH.flatten.length = 629 := by kernel_rfl
  have hlen : (k0 ++ (kCH.flatten ++ kL)).length = 650 := by rw [List.length_append, List.length_append, k_len0, hfl, k_lenL]
  have hch : kCH.length = 37 := rfl
  have h := run_dictDisplay (s := (sT tr_3 33 256 w os).abs) hp k_len0 hlc (by intro e; have := congrArg List.length e; rw [k_lenL] at this; cases this) (by rw [k_lenL]; decide) (asc_hash k_asc).2
    (by rw [hlen, sizeLine_eq]; decide) (by rw [hsz]; decide) (by rw [hsz]; decide)
  rw [hsz, hlen, hch] at h
  have hh : ({ (sT tr_3 33 256 w os).abs with heap := HS (sT tr_3 33 256 w os).abs.heap (mainE (sT tr_3 33 256 w os).abs.toks k0 kCH kL) (subsE (sT tr_3 33 256 w os).abs.toks k0 kCH kL), toks := (sT tr_3 33 256 w os).abs.toks + 3 * 650 } : Shared) = (sT tr_3d 72 2206 w os).abs := by
    show Shared.mk (HS (absHeap (tr_3 w.params) 33 lf) (mainE 256 k0 kCH kL) (subsE 256 k0 kCH kL)) _ _ _ _ = Shared.mk (absHeap (tr_3d w.params) 72 lf) _ _ _ _
    rw [h3d]
    rfl
  rw [hh] at h
  refine Run.mono (n := 1 + (1 + (700 + 400 * 37))) ?_ (by decide)
  refine Run.bind' Run.standAt ?_
  rw [arm_eval_Dict, e]
  exact Run.bind' Run.standAt h
theorem dict_step (w : World) (os : OsState) {rest : List Stmt} {N : Nat} {r : Shared} (h : topRun treeTable pw w 11 nt N (sT tr_4 72 2207 w os).abs (restOf rest topEnv cE ⟨5, 0, 5, 13⟩ [topFrame q0]) = some r) :
    topRun treeTable pw w 11 nt (16000 + (30 + N)) (sT tr_3 33 256 w os).abs (restOf (stL 3 ++ rest) topEnv cE ⟨3, 0, 4, 30⟩ [topFrame q0]) = some r := by
  rw [st3_eq]
  show topRun treeTable pw w 11 nt (16000 + (30 + N)) _ ⟨(execs (.Assign tg3 (.Dict b3ks b3vs dp3) ps3 :: rest) topEnv).wrap doneF (leaveH topEnv) id id, cE, ⟨3, 0, 4, 30⟩, [topFrame q0]⟩ = some r
  rw [execs_cons_wrap, exec3, Sem.bind_eq_wrap', Sem.wrap_wrap]
  obtain ⟨p1, g⟩ := (run3 w os).go _ _ _ _ cE ⟨3, 0, 4, 30⟩ (topFrame q0) []
  exact g _ _ (top_seg (st3_run w p1 os) h)
end Mine
end

section
open PySem PySem.W PyProof.Rows
set_option maxRecDepth 100000
namespace Mine
noncomputable section
noncomputable abbrev GO := (String → Option Builtin) → Program → World → Nat → Option Value → Nat → Shared → Thread → Option (Shared × Thread)
noncomputable abbrev SG := (String → Option Builtin) → Program → World → Nat → Option Value → Nat → Nat → Shared → Thread → Option (Flow × Shared × Code × Pos)
noncomputable abbrev TR := (String → Option Builtin) → Program → World → Nat → Option Value → Nat → Shared → Thread → Option Shared
noncomputable abbrev DE := (String → Option Builtin) → Code → Sem Fin
theorem segRun_q : @segRun = (PySem.W.Fast.tw14374325043358763698 : SG) := PySem.W.Fast.te14374325043358763698
theorem topRun_q : @topRun = (PySem.W.Fast.tw14082659384304107361 : TR) := PySem.W.Fast.te14082659384304107361
theorem denote_q : @denote = (PySem.W.Fast.tw11892475500146522536 : DE) := PySem.W.Fast.te11892475500146522536
noncomputable def PRE (tb : String → Option Builtin) (go : GO) (de : DE) (w : World) : Prop :=
  (fun os => go tb pw w 11 nt 12 ⟨boot_heap w.params, Array.mk [], boot_drawn, boot_toks, os⟩ (topStub pw)) = fun os => some (sH hp_a 187 w os, ⟨de tb cE, cE, q0, [topFrame q0]⟩)
theorem pre_q (w : World) : PRE PySem.W.Fast.tw14364793385576792824 PySem.W.Fast.tw15667345088766844465 PySem.W.Fast.tw11892475500146522536 w := by unfold PRE; kernel_rfl
theorem pre_run (w : World) (os : OsState) : topGo treeTable pw w 11 nt 12 ⟨boot_heap w.params, Array.mk [], boot_drawn, boot_toks, os⟩ (topStub pw) = some (sH hp_a 187 w os, ⟨denote treeTable cE, cE, q0, [topFrame q0]⟩) := by
  have h : PRE treeTable @topGo @denote w := by rw [tree_q, topGo_q, denote_q]; exact pre_q w
  exact congrFun h os
noncomputable def BLK (tb : String → Option Builtin) (sg : SG) (w : World) : Prop :=
  (fun os => sg tb pw w 11 nt 1 1 (sH hp_a 187 w os) (blockOf (behindTheImports pw) topEnv cE q0 [topFrame q0])) = fun os => some (.next, (sT tr_b 15 187 w os).abs, cE, q0)
theorem blk_q (w : World) : BLK PySem.W.Fast.tw14364793385576792824 PySem.W.Fast.tw14374325043358763698 w := by unfold BLK; kernel_rfl
theorem blk_run (w : World) (os : OsState) : segRun treeTable pw w 11 nt 1 1 (sH hp_a 187 w os) (blockOf (behindTheImports pw) topEnv cE q0 [topFrame q0]) = some (.next, (sT tr_b 15 187 w os).abs, cE, q0) := by
  have h : BLK treeTable @segRun w := by rw [tree_q, segRun_q]; exact blk_q w
  exact congrFun h os
noncomputable def FIN (tb : String → Option Builtin) (tr : TR) (w : World) : Prop :=
  (fun os => tr tb pw w 11 nt 2 (sT tr_18 160 2365 w os).abs ⟨doneF .next, cE, ⟨125, 0, 162, 54⟩, [topFrame q0]⟩) = fun os => some (sH hp_f 2365 w os)
theorem fin_q (w : World) : FIN PySem.W.Fast.tw14364793385576792824 PySem.W.Fast.tw14082659384304107361 w := by unfold FIN; kernel_rfl
theorem fin_run (w : World) (os : OsState) : topRun treeTable pw w 11 nt 2 (sT tr_18 160 2365 w os).abs ⟨doneF .next, cE, ⟨125, 0, 162, 54⟩, [topFrame q0]⟩ = some (sH hp_f 2365 w os) := by
  have h : FIN treeTable @topRun w := by rw [tree_q, topRun_q]; exact fin_q w
  exact congrFun h os
end
end Mine
end

section
open PySem PySem.W PyProof.Rows
set_option maxRecDepth 100000
namespace Mine
theorem body_parts : behindTheImports pw = (stL 0 ++ (stL 1 ++ (stL 2 ++ (stL 3 ++ (stL 4 ++ (stL 5 ++ (stL 6 ++ (stL 7 ++ (stL 8 ++ (stL 9 ++ (stL 10 ++ (stL 11 ++ (stL 12 ++ (stL 13 ++ (stL 14 ++ (stL 15 ++ (stL 16 ++ (stL 17 ++ [])))))))))))))))))) := by kernel_rfl
noncomputable def topM : Nat := 12 + (1 + (10 + (999 + (30 + (16000 + (30 + (31 + (775 + (30 + (10 + (34 + (10 + (41 + (36 + (35 + (34 + (38 + (27 + (27 + (27 + 2))))))))))))))))))))
theorem top_run (w : World) (os : OsState) : topRun treeTable pw w 11 nt topM ⟨boot_heap w.params, Array.mk [], boot_drawn, boot_toks, os⟩ (topStub pw) = some (sH hp_f 2365 w os) := by
  refine go_top (pre_run w os) (piece_block (blk_run w os) ?_)
  rw [body_parts]
  exact (piece_app (pc_of (pc_0 w) os) (piece_app (pc_of (pc_1 w) os) (piece_app (pc_of (pc_2 w) os) (dict_step w os (piece_app (pc_of (pc_4 w) os) (piece_app (pc_of (pc_5 w) os) (piece_app (pc_of (pc_6 w) os) (piece_app (pc_of (pc_7 w) os) (piece_app (pc_of (pc_8 w) os) (piece_app (pc_of (pc_9 w) os) (piece_app (pc_of (pc_10 w) os) (piece_app (pc_of (pc_11 w) os) (piece_app (pc_of (pc_12 w) os) (piece_app (pc_of (pc_13 w) os) (piece_app (pc_of (pc_14 w) os) (piece_app (pc_of (pc_15 w) os) (piece_app (pc_of (pc_16 w) os) (piece_app (pc_of (pc_17 w) os) (piece_nil (fin_run w os))))))))))))))))))))
end Mine
end

section
open PySem PySem.W PyProof.Rows
set_option maxRecDepth 100000
namespace Mine
noncomputable section
noncomputable def qv : Program := view pw [1, 2, 4, 5, 6, 8, 10, 11, 12, 13, 14, 15, 16, 17]
noncomputable def looseL : List Str := [Str.ofString "b1_set", Str.ofString "b3_exceptions", Str.ofString "c8_set"]
noncomputable def XtL (s : Shared) : Bool := xlAt qv [] s && recOk [] s
noncomputable def YfL (s : Shared) : List (Option Obj) := (List.range 160).map s.heap.get?
noncomputable def YaL (w : World) : List (Option Obj) := (hp_f w.params).objs.toList.map some
theorem lk0 (w : World) : staticsOk (importedModules pw.main.body) (boot_heap w.params) (hp_f w.params) = true := by kernel_rfl
theorem lk1 (w : World) : namesBound pw (hp_f w.params) = true := by kernel_rfl
theorem lk2 (w : World) : (fun os => gensDone (sH hp_f 2365 w os)) = fun _ => true := by kernel_rfl
theorem lk3 (w : World) : laidKept (boot_heap w.params) (hp_f w.params) = true := by kernel_rfl
theorem lkY (w : World) : (fun os => YfL (sH hp_f 2365 w os)) = fun _ => YaL w := by kernel_rfl
theorem lkS (w : World) : ((boot_heap w.params).isNs mainGlobals && (Array.mk [] : Array GenState).size == 0, (boot_heap w.params).objs.size, (boot_heap w.params).nsMap mainGlobals "__annotations__") = (true, 11, nt) := by kernel_rfl
theorem lkO : opening pw = plainProg pw.main.scope.names := by kernel_rfl
theorem lkF (s : Shared) : fenceModules? pw s = some s := by kernel_rfl
noncomputable abbrev S1 (w : World) (os : OsState) : Shared := sH hp_f 2365 w os
theorem ls0 (w : World) : (fun os => seen ((recsOf qv).map (·.name)) (ownsOf qv) [] { S1 w os with gens := #[] }) = fun _ => expectedOf qv := by kernel_rfl
theorem ls1 (w : World) : (hp_f w.params).bltView = bltViewBooted := by kernel_rfl
theorem ls2a (w : World) : (hp_f w.params).keysOk (looseW qv looseL) ((recsOf qv).map (·.name)) ((litsOf qv).map (·.1)) ((clssOf qv (looseW qv looseL)).map (·.name)) = true := by kernel_rfl
theorem ls2b (w : World) : (hp_f w.params).accountedOkI (importedModules pw.main.body) = true := by kernel_rfl
theorem ls2c (w : World) : ((hp_f w.params).isNs mainGlobals && (hp_f w.params).isNs builtinsNs) = true := by kernel_rfl
theorem ls2d (w : World) : tablesOk qv (hp_f w.params) = true := by kernel_rfl
theorem ls2e (w : World) : (fun os => XtL (S1 w os)) = fun _ => true := by kernel_rfl
theorem ls3 (w : World) : (fun os => tabsOk qv (S1 w os)) = fun _ => true := by kernel_rfl
theorem ls4 (w : World) : (fun os => pinSeenD qv (drecsOf qv) (S1 w os)) = fun _ => pinGoodD (drecsOf qv) := by kernel_rfl
theorem ls5 (w : World) : (fun os => plainSeenE qv (looseW qv looseL) (S1 w os)) = fun _ => plainGoodE qv (looseW qv looseL) := by kernel_rfl
theorem ls6 (w : World) : (fun os => plainSeenD qv looseL (S1 w os)) = fun _ => plainGoodD qv looseL := by kernel_rfl
theorem ls7 (w : World) : (fun os => wideSeen qv (S1 w os)) = fun _ => wideGood qv := by kernel_rfl
theorem ls8 (w : World) : (fun os => clsSeenW qv looseL (S1 w os)) = fun _ => clsGoodW qv looseL := by kernel_rfl

theorem ls2 (w : World) (os : OsState) : ((S1 w os).heap.keysOk (looseW qv looseL) ((recsOf qv).map (·.name)) ((litsOf qv).map (·.1)) ((clssOf qv (looseW qv looseL)).map (·.name)) && (S1 w os).heap.accountedOkI (importedModules pw.main.body) && (S1 w os).heap.isNs mainGlobals && (S1 w os).heap.isNs builtinsNs && tablesOk qv (S1 w os).heap && XtL (S1 w os) && (if true then (S1 w os).gens.size == 0 else !leftWithCleanup (S1 w os).gens)) = true := by
  have h := Bool.and_eq_true_iff.mp (ls2c w)
  exact look_both (look_both (look_both (look_both (look_both (look_both (ls2a w) (ls2b w)) h.1) h.2) (ls2d w)) (congrFun (ls2e w) os)) rfl
theorem ls_all (w : World) (os : OsState) : openSeen qv looseL (importedModules pw.main.body) XtL true (S1 w os) = openGood qv looseL :=
  looks_pair (congrFun (ls0 w) os) (looks_pair (ls1 w) (looks_pair (ls2 w os) (looks_pair (congrFun (ls3 w) os) (looks_pair (congrFun (ls4 w) os) (looks_pair (congrFun (ls5 w) os) (looks_pair (congrFun (ls6 w) os) (looks_pair (congrFun (ls7 w) os) (congrFun (ls8 w) os))))))))
theorem lk_all (w : World) (os : OsState) : (staticsOk (importedModules pw.main.body) (boot_heap w.params) (hp_f w.params) && namesBound pw (hp_f w.params) && gensDone (S1 w os) && laidKept (boot_heap w.params) (hp_f w.params)) = true :=
  look_both (look_both (look_both (lk0 w) (lk1 w)) (congrFun (lk2 w) os)) (lk3 w)
theorem left_ok : LeftO pw qv looseL XtL YfL YaL 100000 true :=
  LeftO.of_pieces (H₀ := boot_heap) (H₁ := hp_f) (gs₀ := Array.mk []) (gs₁ := Array.mk []) (d₀ := boot_drawn) (d₁ := dr) (k₀ := boot_toks) (k₁ := 2365) (m₀ := 11) (ann := nt) (M := topM)
    (boot_open lkO (by decide) lkF) lkS top_run (by decide) (fun w => funext fun os => looks_pair (lk_all w os) (looks_pair (ls_all w os) (congrFun (lkY w) os)))
end
end Mine
end

section
open PySem PySem.W PyProof.Rows
set_option maxRecDepth 100000
namespace Mine
noncomputable abbrev kvs3 : List (Int × Str) := k0 ++ (kCH.flatten ++ kL)
noncomputable def b3F (n : Int) : Option Str := (kvs3.find? fun kv => kv.1 == n).map (·.2)
/-- what stands in the heap that the law leans on -/
structure YH (w : World) (h : Heap) : Prop where
  ns : h.get? 3 = some (ob3_18 w.params)
  b1 : h.get? 22 = some (ob22_2 w.params)
  b3 : h.get? 33 = some (ob33_4 w.params)
  c8 : h.get? 92 = some (ob92_6 w.params)
theorem YH.keeps (w : World) (h h' : Heap) (x : YH w h) (k : ∀ b o, h.get? b = some o → h'.get? b = some o) : YH w h' := ⟨k _ _ x.ns, k _ _ x.b1, k _ _ x.b3, k _ _ x.c8⟩
theorem YH.of (w : World) (s : Shared) (e : YfL s = YaL w) : YH w s.heap := by
  have hx : ∀ (i : Nat) (o : Obj), (List.range 160)[i]? = some i → (YaL w)[i]? = some (some o) → s.heap.get? i = some o := fun i o h1 h2 => by
    have h3 : (YfL s)[i]? = some (some o) := by rw [e]; exact h2
    unfold YfL at h3
    rw [List.getElem?_map, h1] at h3
    exact Option.some.inj h3
  exact ⟨hx 3 _ rfl (by kernel_rfl), hx 22 _ rfl (by kernel_rfl), hx 33 _ rfl (by kernel_rfl), hx 92 _ rfl (by kernel_rfl)⟩
noncomputable def setOk (es : List (Int × Value)) : Bool := es.all fun e => match e.2 with | .int k _ => e.1 == hashInt k && decide (0 ≤ k) | _ => false
noncomputable def setKeys (es : List (Int × Value)) : List Int := es.filterMap fun e => match e.2 with | .int k _ => some k | _ => none
theorem setOf_of {w : World} {h : Heap} {a : Addr} {es : Array (Int × Value)} {ep : Nat} {t : SetTable} {S : Int → Bool} (ha : h.get? a = some { cls := .type "set", dict := none, data := .set es ep t, slots := #[] }) (h1 : setOk es.toList = true)
    (h2 : ∀ k, S k = true ↔ k ∈ setKeys es.toList) (h3 : es.size < scanBound) (h4 : t.fits es.size = true) : h.SetOf (intKind pw w) a S es.size := by
  refine ⟨_, es, ep, t, ha, ⟨rfl, rfl, rfl⟩, rfl, fun e he => ?_, fun k => ?_, h3, h4, rfl⟩
  · have := List.all_eq_true.mp h1 e he
    obtain ⟨x, v⟩ := e
    dsimp only at this ⊢
    split at this
    · rename_i k t
      simp only [Bool.and_eq_true, beq_iff_eq] at this
      exact ⟨⟨k, by simp [intKind, Value.isInt], this.1⟩, rfl⟩
    · cases this
  · rw [h2 k]
    constructor
    · intro hk
      obtain ⟨e, he, hek⟩ := List.mem_filterMap.mp hk
      refine ⟨e, he, ?_⟩
      obtain ⟨x, v⟩ := e
      dsimp only at hek ⊢
      split at hek
      · obtain rfl := Option.some.inj hek; simp [intKind, Value.isInt]
      · cases hek
    · rintro ⟨⟨x, v⟩, he, hk⟩
      obtain ⟨t, rfl⟩ := Value.isInt_shape hk
      exact List.mem_filterMap.mpr ⟨_, he, rfl⟩
theorem mem_iv {K : List Int} {a b : Int} (n : Nat) (h : ((List.range n).all fun j => K.contains (a + (j : Int))) = true) (hb : b = a + n) {k : Int} (h1 : a ≤ k) (h2 : k < b) : k ∈ K := by
  have := List.all_eq_true.mp h (k - a).toNat (List.mem_range.mpr (by omega))
  rw [show a + (((k - a).toNat : Nat) : Int) = k by omega] at this
  exact List.contains_iff_mem.mp this
theorem mem_sub {K L : List Int} (h : (L.all fun x => K.contains x) = true) {k : Int} (hk : L.contains k = true) : k ∈ K :=
  List.contains_iff_mem.mp (List.all_eq_true.mp h k (List.contains_iff_mem.mp hk))
noncomputable def setEs (o : Obj) : List (Int × Value) := match o.data with | .set es _ _ => es.toList | _ => []
theorem b1_keys (P : Params) (k : Int) : b1S k = true ↔ k ∈ setKeys (setEs (ob22_2 P)) := by
  constructor
  · intro h
    rcases Bool.or_eq_true_iff.mp h with h | h
    · exact mem_sub (by kernel_rfl) h
    · have h := Bool.and_eq_true_iff.mp h
      exact mem_iv 16 (by kernel_rfl) rfl (of_decide_eq_true h.1) (of_decide_eq_true h.2)
  · intro h
    have e : ((setKeys (setEs (ob22_2 P))).all b1S) = true := by kernel_rfl
    exact List.all_eq_true.mp e k h
theorem c8_keys (P : Params) (k : Int) : c8S k = true ↔ k ∈ setKeys (setEs (ob92_6 P)) := by
  constructor
  · intro h
    rcases Bool.or_eq_true_iff.mp h with h | h
    · rcases Bool.or_eq_true_iff.mp h with h | h
      · exact mem_sub (by kernel_rfl) h
      · have h := Bool.and_eq_true_iff.mp h
        exact mem_iv 5 (by kernel_rfl) rfl (of_decide_eq_true h.1) (of_decide_eq_true h.2)
    · have h := Bool.and_eq_true_iff.mp h
      exact mem_iv 6 (by kernel_rfl) rfl (of_decide_eq_true h.1) (of_decide_eq_true h.2)
  · intro h
    have e : ((setKeys (setEs (ob92_6 P))).all c8S) = true := by kernel_rfl
    exact List.all_eq_true.mp e k h
theorem b1_set {w : World} {h : Heap} (Y : YH w h) : h.SetOf (intKind pw w) 22 b1S 27 :=
  setOf_of (es := _) (ep := _) (t := _) Y.b1 (by kernel_rfl) (b1_keys w.params) (by decide +kernel) (by kernel_rfl)
theorem c8_set {w : World} {h : Heap} (Y : YH w h) : h.SetOf (intKind pw w) 92 c8S 15 :=
  setOf_of (es := _) (ep := _) (t := _) Y.c8 (by kernel_rfl) (c8_keys w.params) (by decide +kernel) (by kernel_rfl)
/-- entries that bear the pairs -/
inductive Bears : List DictEntry → List (Int × Str) → Prop
  | nil : Bears [] []
  | cons {i : Int} {x : Str} {t t' : Nat} {l : List DictEntry} {r : List (Int × Str)} : Bears l r → Bears (⟨hashInt i, .int i t, .str x t'⟩ :: l) ((i, x) :: r)
theorem bears_A : ∀ (l : List (Int × Str)) (t : Nat), Bears (entA t l) l
  | [], _ => .nil
  | (_, _) :: r, t => .cons (bears_A r (t + 3))
theorem bears_B : ∀ (l : List (Int × Str)) (t : Nat), Bears (entB t l) l
  | [], _ => .nil
  | (_, _) :: r, t => .cons (bears_B r (t + 2))
theorem Bears.append {l1 l2 : List DictEntry} {r1 r2 : List (Int × Str)} (h1 : Bears l1 r1) (h2 : Bears l2 r2) : Bears (l1 ++ l2) (r1 ++ r2) := by
  induction h1 with
  | nil => exact h2
  | cons _ ih => exact .cons ih
theorem Bears.find {l : List DictEntry} {r : List (Int × Str)} (h : Bears l r) (n : Int) : match (r.find? fun kv => kv.1 == n).map (·.2) with
    | some x => ∃ t, (l.find? fun e => Value.isInt n e.key).map (·.val) = some (.str x t)
    | none => (l.find? fun e => Value.isInt n e.key).map (·.val) = none := by
  induction h with
  | nil => rfl
  | @cons i x t t' l r _ ih =>
    by_cases hi : i = n
    · subst hi
      simp [List.find?_cons, Value.isInt]
    · have h1 : (i == n) = false := beq_eq_false_iff_ne.mpr hi
      simp only [List.find?_cons, Value.isInt, h1]
      exact ih
theorem Bears.int {l : List DictEntry} {r : List (Int × Str)} (h : Bears l r) : ∀ e ∈ l, ∃ k, Value.isInt k e.key = true ∧ e.hash = hashInt k := by
  induction h with
  | nil => intro e he; cases he
  | @cons i x t t' l r _ ih =>
    intro e he
    rcases List.mem_cons.mp he with rfl | he
    · exact ⟨i, by simp [Value.isInt], rfl⟩
    · exact ih e he
theorem bears_main : Bears (mainE 256 k0 kCH kL) kvs3 := by
  have := (bears_A (k0 ++ kCH.flatten) 256).append (bears_B kL (256 + 3 * (k0 ++ kCH.flatten).length))
  rw [List.append_assoc] at this
  exact this
noncomputable def g3 (n : Int) : Option Value := ((mainE 256 k0 kCH kL).find? fun e => Value.isInt n e.key).map (·.val)
theorem b3_dict {w : World} {h : Heap} (Y : YH w h) : h.MapOf (intKind pw w) 33 g3 := by
  refine ⟨_, (mainE 256 k0 kCH kL).toArray, (mainE 256 k0 kCH kL).length, Y.b3, ⟨rfl, rfl, rfl⟩, rfl, fun e he => bears_main.int e (by simpa using he), fun k => ?_⟩
  show findBy Value.isInt (mainE 256 k0 kCH kL).toArray k = g3 k
  unfold findBy g3
  rw [List.find?_toArray]
end Mine
end

section
open PySem PySem.W PySem.Calls PyProof.Rows
set_option maxRecDepth 100000
namespace Mine
noncomputable def esOf (o : Obj) : Array DictEntry := match o.data with | .dict es _ => es | _ => #[]
section
variable {w : World} {s₀ s₁ : Shared} {mg mb : Str → Option Value} {R : WRecords} {XP : (Str → Option Value) → Heap → Prop}
theorem mg_at {h : Heap} (Y : YH w h) (hns : h.Ns mainGlobals mg) {x : Str} {v : Option Value} (e : ∀ P : Params, nsFind (esOf (ob3_18 P)) x = v) : mg x = v := by
  obtain ⟨o, es, ep, ho, hd, _, hf⟩ := hns
  have : o = ob3_18 w.params := Option.some.inj (ho.symm.trans Y.ns)
  subst this
  have he : esOf (ob3_18 w.params) = es := by unfold esOf; rw [hd]
  rw [← hf x, ← he]
  exact e w.params
noncomputable def bindsOk (n : Nat) (name : Str) (names : List Str) : Prop := ∀ (pm cd doc : Value) (vs : List Value), vs.length = names.length → bindArgs (docDef name (argsAt n) (bodyAt n) (scopeAt n) pm cd doc) ⟨vs, []⟩ = pure (names.zip vs)
theorem def_at (G : Ground qv looseL R XP w s₀ mg mb s₁.heap) {name : Str} {n : Nat} {names : List Str} (e0 : (defOf qv name).map (fun x => (x.1.name, x.1.params, x.1.body, x.1.scope, x.2)) = some (name, argsAt n, bodyAt n, scopeAt n, [])) (hdf : (argsAt n).defaults = [])
    (hbind : bindsOk n name names) {a : Addr} (hmg : mg name = some (.ref a)) : mg name = some (.ref a) ∧ DefAt (fun b => s₁.heap.get? b) a names (bodyAt n) (scopeAt n) := by
  refine ⟨hmg, ?_⟩
  obtain ⟨⟨d, kw⟩, e, e1⟩ := Option.map_eq_some_iff.mp e0
  obtain ⟨hn, ha, hb, hs, hkw⟩ : d.name = name ∧ d.params = argsAt n ∧ d.body = bodyAt n ∧ d.scope = scopeAt n ∧ kw = [] := by simpa using e1
  subst hkw
  obtain ⟨a', o, pm, cd, doc, dV, kV, h1, h2, h3, h4, h5⟩ := G.fn e
  rw [hmg] at h1
  obtain rfl : a = a' := by cases h1; rfl
  have hdV : dV = .none := by
    rcases h5.pos with ⟨_, q⟩ | ⟨q, _⟩
    · exact q
    · rw [ha, hdf] at q; exact absurd rfl q
  have hkV : kV = .none := by
    rcases h5.kw with ⟨_, q⟩ | ⟨q, _⟩
    · exact q
    · exact absurd rfl q
  subst hdV hkV
  rw [hn, ha, hb, hs] at h3
  refine ⟨o, docDef name (argsAt n) (bodyAt n) (scopeAt n) pm cd doc, h2, h3, rfl, rfl, rfl, rfl, rfl, fun h hk => ?_, fun vs hv => hbind pm cd doc vs hv⟩
  have := h4.keeps (h' := h) (fun b o q => hk b o q)
  rw [hn] at this
  exact this
theorem binds1 {n : Nat} {name x : Str} (h : ∀ (pm cd doc v : Value), bindArgs (docDef name (argsAt n) (bodyAt n) (scopeAt n) pm cd doc) ⟨[v], []⟩ = pure [(x, v)]) : bindsOk n name [x] := fun pm cd doc vs hv => by
  match vs, hv with
  | [v], _ => exact h pm cd doc v
theorem binds2 {n : Nat} {name x y : Str} (h : ∀ (pm cd doc v u : Value), bindArgs (docDef name (argsAt n) (bodyAt n) (scopeAt n) pm cd doc) ⟨[v, u], []⟩ = pure [(x, v), (y, u)]) : bindsOk n name [x, y] := fun pm cd doc vs hv => by
  match vs, hv with
  | [v, u], _ => exact h pm cd doc v u
theorem binds3 {n : Nat} {name x y z : Str} (h : ∀ (pm cd doc v u t : Value), bindArgs (docDef name (argsAt n) (bodyAt n) (scopeAt n) pm cd doc) ⟨[v, u, t], []⟩ = pure [(x, v), (y, u), (z, t)]) : bindsOk n name [x, y, z] := fun pm cd doc vs hv => by
  match vs, hv with
  | [v, u, t], _ => exact h pm cd doc v u t
noncomputable def theFs : Fs := { b1 := 32, b3 := 78, c8 := 102, swap := 109, drawn := 116, level := 123, shown := 130, cell := 137, passed := 144, order := 149, turned := 154, law := 159 }
theorem glb (G : Ground qv looseL R XP w s₀ mg mb s₁.heap) (Y : YH w s₁.heap) : Glb w (fun b => s₁.heap.get? b) mg mb theFs b3F := by
  have hb : ∀ (x : Str) (v : Option Value), x ≠ "__name__" → bootBuiltins x = v → mb x = v := fun x v hx e => (G.T.builtins x hx).trans e
  have hf : ∀ (x : Str) (v : Option Value), x ≠ "__name__" → (∀ P : Params, nsFind (esOf (ob3_18 P)) x = none) → bootBuiltins x = v → mg x = none ∧ mb x = v := fun x v hx e1 e2 => ⟨mg_at Y G.T.g e1, hb x v hx e2⟩
  exact {
    top := ⟨fun h hk => G.T.g.keeps fun b o q => hk b o q, fun h hk => G.T.b.keeps fun b o q => hk b o q, fun h hk => G.T.nolimit.keeps fun b o q => hk b o q⟩
    range := hf _ _ (by decide +kernel) (fun P => by kernel_rfl) (by kernel_rfl)
    len := hf _ _ (by decide +kernel) (fun P => by kernel_rfl) (by kernel_rfl)
    chr := hf _ _ (by decide +kernel) (fun P => by kernel_rfl) (by kernel_rfl)
    ord := hf _ _ (by decide +kernel) (fun P => by kernel_rfl) (by kernel_rfl)
    min := hf _ _ (by decide +kernel) (fun P => by kernel_rfl) (by kernel_rfl)
    max := hf _ _ (by decide +kernel) (fun P => by kernel_rfl) (by kernel_rfl)
    bytes := hf _ _ (by decide +kernel) (fun P => by kernel_rfl) (by kernel_rfl)
    bytearray := hf _ _ (by decide +kernel) (fun P => by kernel_rfl) (by kernel_rfl)
    isinstance := hf _ _ (by decide +kernel) (fun P => by kernel_rfl) (by kernel_rfl)
    list := hf _ _ (by decide +kernel) (fun P => by kernel_rfl) (by kernel_rfl)
    indexError := hf _ _ (by decide +kernel) (fun P => by kernel_rfl) (by kernel_rfl)
    b1 := def_at G (by kernel_rfl) rfl (binds1 fun _ _ _ _ => by kernel_rfl) (mg_at Y G.T.g fun P => by kernel_rfl)
    b3 := def_at G (by kernel_rfl) rfl (binds1 fun _ _ _ _ => by kernel_rfl) (mg_at Y G.T.g fun P => by kernel_rfl)
    c8 := def_at G (by kernel_rfl) rfl (binds1 fun _ _ _ _ => by kernel_rfl) (mg_at Y G.T.g fun P => by kernel_rfl)
    swap := def_at G (by kernel_rfl) rfl (binds2 fun _ _ _ _ _ => by kernel_rfl) (mg_at Y G.T.g fun P => by kernel_rfl)
    drawn := def_at G (by kernel_rfl) rfl (binds1 fun _ _ _ _ => by kernel_rfl) (mg_at Y G.T.g fun P => by kernel_rfl)
    level := def_at G (by kernel_rfl) rfl (binds2 fun _ _ _ _ _ => by kernel_rfl) (mg_at Y G.T.g fun P => by kernel_rfl)
    shown := def_at G (by kernel_rfl) rfl (binds1 fun _ _ _ _ => by kernel_rfl) (mg_at Y G.T.g fun P => by kernel_rfl)
    cell := def_at G (by kernel_rfl) rfl (binds3 fun _ _ _ _ _ _ => by kernel_rfl) (mg_at Y G.T.g fun P => by kernel_rfl)
    passed := def_at G (by kernel_rfl) rfl (binds3 fun _ _ _ _ _ _ => by kernel_rfl) (mg_at Y G.T.g fun P => by kernel_rfl)
    order := def_at G (by kernel_rfl) rfl (binds2 fun _ _ _ _ _ => by kernel_rfl) (mg_at Y G.T.g fun P => by kernel_rfl)
    turned := def_at G (by kernel_rfl) rfl (binds1 fun _ _ _ _ => by kernel_rfl) (mg_at Y G.T.g fun P => by kernel_rfl)
    b1set := ⟨22, 27, mg_at Y G.T.g fun P => by kernel_rfl, fun h hk => b1_set (Y.keeps w _ h fun b o q => hk b o q)⟩
    c8set := ⟨92, 15, mg_at Y G.T.g fun P => by kernel_rfl, fun h hk => c8_set (Y.keeps w _ h fun b o q => hk b o q)⟩
    b3dict := ⟨33, g3, mg_at Y G.T.g fun P => by kernel_rfl, by decide, fun h hk => b3_dict (Y.keeps w _ h fun b o q => hk b o q), fun n => bears_main.find n⟩
  }
end
end Mine
end

section
open PySem PySem.W PySem.Calls PyProof.Rows
open PySem.Sem (wp)
set_option maxRecDepth 100000
namespace Mine
noncomputable abbrev rO : OpenRow := PySem.Challenge.rw_ph0141_01.row
noncomputable abbrev rW : RowW := rO.toRowW
theorem reps_well {P : Params} {h : Heap} {I : Imm} : ∀ {xs : List Int} {vs : List Value}, WellAll P h vs (ofPys (xs.map .int)) → vs.length = xs.length ∧ ∀ (i : Nat) (v : Value) (d : D), vs[i]? = some v → (xs.map D.int)[i]? = some d → Rep I v d
  | [], _, hw => by
    have hw : WellAll P h _ [] := hw
    cases hw; exact ⟨rfl, fun i v d h _ => by simp at h⟩
  | x :: xs, _, hw => by
    have hw : WellAll P h _ (.int x :: ofPys (xs.map .int)) := hw
    cases hw with
    | cons h1 h2 =>
      cases h1
      obtain ⟨e, r⟩ := reps_well (I := I) h2
      refine ⟨by simp [e], fun i v d p q => ?_⟩
      cases i with
      | zero => simp at p q; subst p q; exact .int _ _
      | succ i => exact r i v d (by simpa using p) (by simpa using q)
theorem args_of (w : World) (s₀ s₁ : Shared) (args : List WData) (vals : List Value) (as : List Addr) (hpre : rW.claim.pre args = true) (hlay : WData.layableAll args = true) (hrd : ReadsAllW rW.records (classAt s₀.heap) s₁.heap vals args as) (hwl : WellAll w.params s₁.heap vals args) (hlo : ∀ a ∈ as, (a == sysModules) = false) : ∃ xs : List Int, ∃ v : Value, vals = [v] ∧ xs.length ≤ 63 ∧ Rep (fun b => s₁.heap.get? b) v (.lst (xs.map .int)) ∧ rW.claim.post args (ofPy (.bool true)) args = true ∧ ∀ cls, rW.claim.raises args cls = false := by
  wrow_args hpre hlay hrd hwl hlo
  rename_i xs _ _ _ _ _ _ _ a vs _ hL _ w1 _ hI _ hle _
  refine ⟨xs, .ref a, rfl, by omega, ?_, ?_, fun cls => rfl⟩
  · have w2 : Well w.params s₁.heap (.ref a) (.list (ofPys (xs.map .int))) := w1
    cases w2 with
    | list h1 h2 =>
      obtain ⟨e, r⟩ := reps_well (I := fun b => s₁.heap.get? b) h2
      exact .lst (n := 0) h1 rfl rfl rfl (by simpa using e) fun i v d p q => r i v d (by simpa using p) q
  · wrow_post

section
variable {w : World} {T : Imm} {mg mb : Str → Option Value} {f : Fs} {b3f : Int → Option Str}
theorem law_call (G : Glb w T mg mb f b3f) (hdef : DefAt T f.law ["script"] (bodyAt 17) (scopeAt 17)) {script : List Int} (hs : script.length ≤ 63) (H : LawFacts b3f script) {A : Around} {I : Imm} {s : Shared} {v : Value} (hR : RoomN 3 A) (hA : A.frames = some [])
    (hTI : ∀ a o, T a = some o → I a = some o) (hI : ∀ b o, I b = some o → s.heap.get? b = some o) (hr : Rep I v (intsD script)) (E : Value → Shared → Prop) :
    wpG (model pw w) A (call (.ref f.law) [v]) (fun v s' => v = .bool true ∧ ∃ I', Ext I s I' s') E s := by
  obtain ⟨o, fd, hTa, hfd, hgl, hbl, hclo, hbody, hsc, hcode, hbind⟩ := hdef.ex
  have hTs : ∀ a o, T a = some o → s.heap.get? a = some o := fun a o e => hI a o (hTI a o e)
  have hrs : Reps I [v] [intsD script] := ⟨rfl, fun i a b p q => by
    cases i with
    | zero => simp at p q; subst p q; exact hr
    | succ i => simp at p⟩
  have hown : ∀ n, cxLaw.own.all (fun x => ((cellsFrom n cxLaw.sc.names []).lookup x).isSome) = true := fun n => by kernel_rfl
  have hkind : ∀ x ∈ (["script"] : List Str), cxLaw.sc.names.lookup x = some .local ∨ (cxLaw.sc.names.lookup x = some .cell ∧ x ∈ cxLaw.own) := fun x hx => by
    obtain rfl : x = "script" := by simpa using hx
    exact .inl rfl
  have hcells : ∀ x, x ∈ cxLaw.own → ∀ n, ((cellsFrom n cxLaw.sc.names []).lookup x).isSome = true := fun x hx n => by simpa using List.all_eq_true.mp (hown n) x hx
  refine wpG_call (codeG_call_cells (by have := hR.depth; omega) (hTs _ _ hTa) hfd (G.top.lim _ hTs) (hcode _ hTs) hbody (hbind [v] rfl) hclo (fun x hx => ?_) (fun s₁ C => ?_) (by rw [hsc]; rfl) (by rw [hsc]; rfl) (by rw [hsc]; rfl))
  · have hx1 : x.1 ∈ (["script"] : List Str) := (List.of_mem_zip (a := x.1) (b := x.2) hx).1
    rw [hsc]
    rcases hkind _ hx1 with q | ⟨q, q'⟩
    · exact .inl q
    · exact .inr ⟨q, hcells _ q' _⟩
  · have R := frame_rep (T := T) (F := cxLaw) (names := ["script"]) (ds := [intsD script]) (more := 20) (a := f.law) (by rfl) law_nd rfl hkind hown (by rfl) hgl hbl hsc hTI hI hrs C
    have hframe : (callEnvC fd s.heap.objs.size f.law).frame = some (callEnvC fd s.heap.objs.size f.law).locals := rfl
    generalize callEnvC fd s.heap.objs.size f.law = env at C R hframe
    have hin : inLaw (A.deeper env) env := ⟨Around.frames_deeper hA, hframe⟩
    refine wpG_mono ((law_body (k := 0) G hs H).go _ env s I I s₁ (hR.deeper env) hin R _) (fun fl s' p => ?_) fun _ _ e => e
    cases fl with
    | next => obtain ⟨_, _, q, _⟩ := p; cases q
    | ret v =>
      obtain ⟨I', d', q, rv, X⟩ := p
      cases q
      exact ⟨rv.of_bool, I', X⟩
    | brk => exact p.elim
    | cont => exact p.elim
end
end Mine
end

section
open PySem PySem.W PySem.Calls PyProof.Rows
open PySem.Sem (wp)
set_option maxRecDepth 100000
namespace Mine
theorem wp_of_wpG_done {M : Model} {A : Around} {Γ : Ctx} {t : Sem Fin} {R : Result → Shared → Prop} {s : Shared} (hin : Γ.In A) (hg : GoodC Γ)
    (h : wpG M A t (fun fin s' => ∃ f, fin = .done f ∧ R (.ok f) s') (fun e s' => R (.error e) s') s) (p : Pos) :
    wp M Γ t (Sem.finPost M Γ R) (fun e _ s' => R (.error e) s') p s := by
  refine Sem.wp_mono M Γ t (fun fin p' s' h' => ?_) (fun _ _ _ h' => h') p s (h Γ p hin hg)
  obtain ⟨f, rfl, hf⟩ := h'
  exact hf
theorem good_caller : GoodC (⟨.builtin "claim.caller" {}, none, none, [], none⟩ : Ctx) := ⟨by decide +kernel, fun x hx => nomatch hx⟩
theorem thread_endsG {prog : Program} {w : World} {t : Sem Fin} {s : Shared} {R : Result → Shared → Prop} (hreg : s.asleep)
    (h : wpG (model prog w) callerA t (fun fin s' => ∃ f, fin = .done f ∧ (R (.ok f) s' ∧ leftWithCleanup s'.gens = false)) (fun e s' => R (.error e) s' ∧ leftWithCleanup s'.gens = false) s) :
    ∃ n r s' s'', runN (denote table) prog w n s ⟨t, .builtin "claim.caller" {}, default, []⟩ = .halted (outcomeOf r) s' ∧
      schedN (denote table) prog w n (.single s ⟨t, .builtin "claim.caller" {}, default, []⟩) = .halted (outcomeOf r) s' ∧ s'.forget = s''.forget ∧ R r s'' := by
  obtain ⟨n, r, s₁, s₂, hs, hn, hfo, hR⟩ := wp_halts_full (M := model prog w) (R := R) hreg (wp_of_wpG_done (R := fun r s' => R r s' ∧ leftWithCleanup s'.gens = false) caller_in good_caller h default)
  exact ⟨n, r, s₂, s₁, hn, hs, hfo, hR⟩
theorem callFromG {c : ClaimW} {tree : List Value → Sem Fin} {w : World} {s : Shared} {free : Addr → Prop} {gens : Prop} {kept : Heap → Prop} (hz : s.asleep) (hgens : s.gens = #[])
    (hspec : ∀ args, c.pre args = true → WData.layableAll args = true →
      ∀ ord : List DictEntry → List DictEntry, (∀ l, (ord l).Perm l) →
      ∃ vs s₁, layAllW c.records (classAt s.heap) w.params ord args s = some (vs, s₁) ∧
        wpG (model c.prog w) callerA (tree vs) (fun fin s' => ∃ f, fin = .done f ∧ (c.Ends s args vs s₁ (.ok f) s' ∧ s'.os = s.os ∧ AllBare s'.gens ∧ kept s'.heap))
          (fun e s' => c.Ends s args vs s₁ (.error e) s' ∧ s'.os = s.os ∧ AllBare s'.gens ∧ kept s'.heap) s₁) :
    c.CallFrom (fun vs => ⟨tree vs, .builtin "claim.caller" {}, default, []⟩) w free gens kept s := by
  intro args hpre hlay ord hord
  obtain ⟨vs, s₁, hlaid, hcode⟩ := hspec args hpre hlay ord hord
  have hal := layAllW_rest _ _ _ hlaid
  obtain ⟨k, r, s', s'', hrun, hsched, hfo, hcase, hos, hkp⟩ := thread_endsG (prog := c.prog) (w := w) (t := tree vs) (s := s₁)
    (R := fun r s' => c.Ends s args vs s₁ r s' ∧ s'.os = s.os ∧ kept s'.heap)
    (Shared.asleep_of_life hal.2.2.2 hz)
    (wpG_mono hcode (by
      rintro fin s' ⟨f, e, h1, h2, h3, h4⟩
      exact ⟨f, e, ⟨h1, h2, h4⟩, leftWithCleanup_false_of_bare h3⟩) (by
      rintro e s' ⟨h1, h2, h3, h4⟩
      exact ⟨⟨h1, h2, h4⟩, leftWithCleanup_false_of_bare h3⟩))
  obtain ⟨eh, _, _, eo, _⟩ := Shared.forget_eq hfo
  have hcase := hcase.congr eh
  have hkp : kept s'.heap := by rw [eh]; exact hkp
  rw [← eo] at hos
  have hlife : s'.heap.life = s.heap.life := (runN_life _ _ _ hrun).trans hal.2.2.2
  refine ⟨vs, s₁, hlaid, k, _, s', hsched, ?_, (fun _ i x hx => by rw [hgens] at hx; simp at hx), hkp, by rw [hlife], Shared.rest_eq hos⟩
  rcases hcase with ⟨v, rfl, d1, d2, d3, d4, d5⟩ | ⟨e, ob, cls, rfl, d1, d2, d3, d4, d5⟩
  · exact .inl ⟨v, rfl, d1, d2, d3, fun b o y _ => d4 b o y, d5⟩
  · exact .inr ⟨e, ob, cls, rfl, d1, d2, d3, d4, fun b o y _ => d5 b o y⟩
noncomputable abbrev lawTree (vs : List Value) : Sem Fin := do match ← nsGet mainNs rO.name with
  | some f => do ret (← PySem.call f vs)
  | none => unsupported "claim.caller:no-such-global"
theorem law_mg {w : World} {h : Heap} {mg : Str → Option Value} (Y : YH w h) (hns : h.Ns mainGlobals mg) : mg "law" = some (.ref 159) := mg_at Y hns fun P => by kernel_rfl
theorem holds_of (HF : ∀ script : List Int, script.length ≤ 63 → LawFacts b3F script) (k1 : rO.wellSaid = true) : rO.Holds := by
  have hw : rW.promised := ⟨[.list []], by decide +kernel, by decide +kernel⟩
  have k6 : rW.within.isEmpty = true := rfl
  have hfr : frees rW = true := by decide +kernel
  have hch : chainsOk qv = true := by kernel_rfl
  have ho1 : opensWell rW.prog = true := by kernel_rfl
  have hb : rW.prog.bare := ⟨rfl, rfl, rfl, rfl, rfl, by decide +kernel⟩
  obtain ⟨hsame, hu, ha, hap, hm⟩ := frees_parts hfr
  refine ⟨k1, hw, ⟨⟨hb, ho1, by show rW.makers.map rW.maker = []; rw [hm]; rfl⟩, hw.witness, fun w => ⟨?_, fun s' hs' => ?_⟩⟩⟩
  · exact (LeftO.behind left_ok (XP := fun mg h => XL qv [] mg h ∧ RecFacts rW.records h) (fun s hs => ⟨xl_of s (Bool.and_eq_true_iff.mp hs).1, recFacts_of (Bool.and_eq_true_iff.mp hs).2⟩) hch w).1
  obtain ⟨s₀, hf, hg0, s, hT, hz, hgens, hg, G00, y⟩ := (LeftO.behind left_ok (XP := fun mg h => XL qv [] mg h ∧ RecFacts rW.records h) (fun s hs => ⟨xl_of s (Bool.and_eq_true_iff.mp hs).1, recFacts_of (Bool.and_eq_true_iff.mp hs).2⟩) hch w).2 s' hs'
  have G0 : Ground qv looseL [] (XL qv []) w s (s.heap.nsMap mainGlobals) (s.heap.nsMap builtinsNs) s.heap := ⟨G00.T, G00.B, G00.D, G00.TE, G00.TD, G00.W, G00.X.1, G00.cls, G00.has, G00.apart, G00.once, G00.K⟩
  have RF := G00.X.2
  have hT' := hT
  refine ⟨s₀, hf, hg0, s, hT, ?_, RF.1, RF.2.1, ?_⟩
  · intro n hn
    obtain rfl : n = rO.name := by simpa [rO, OpenLaw.row] using hn
    have e0 : (defOf qv rO.name).map (fun x => (x.1.name, x.1.params, x.1.body, x.1.scope, x.2)) = some (rO.name, argsAt 17, bodyAt 17, scopeAt 17, []) := by kernel_rfl
    obtain ⟨⟨d, kwd⟩, hdef, e1⟩ := Option.map_eq_some_iff.mp e0
    obtain ⟨hn, ha', hb', hs', hkw⟩ : d.name = rO.name ∧ d.params = argsAt 17 ∧ d.body = bodyAt 17 ∧ d.scope = scopeAt 17 ∧ kwd = [] := by simpa using e1
    have hp : rW.prog.theDef rO.name = some (argsAt 17, bodyAt 17, scopeAt 17) := by kernel_rfl
    have hk : kwWritten? (argsAt 17).kwonlyargs (argsAt 17).kw_defaults = some [] := by kernel_rfl
    exact pinned_of_view hg G0 hdef (by rw [ha', hb', hs']; exact hp) (by rw [ha', hkw]; exact hk)
  have hgens : s.gens = #[] := Array.eq_empty_of_size_eq_zero (beq_iff_eq.mp hgens)
  have G : Ground qv looseL rW.records (XL qv []) w s _ _ s.heap := RF.ground G0
  refine callFromG (c := rW.claim) (tree := lawTree) hz hgens fun args hpre hlay ord hord => ?_
  obtain ⟨⟨vs, s₁⟩, hlaid⟩ := Option.isSome_iff_exists.mp (layAllW_isSome (P := w.params) (ord := ord) G.has args rW.args s (pre_splitW hpre).1)
  have keeps := layAllW_keeps _ _ _ hlaid
  have hal := layAllW_rest _ _ _ hlaid
  obtain ⟨as, hrd, hin, hold⟩ := reads_layAllW hord _ _ _ hlaid hlay s₁.heap (fun _ _ e => e)
  have L : Laid rW.records w s s₁ args vs as := ⟨⟨ord, hord, hlaid⟩, hrd, hin, hold, keeps, hal.1.trans hgens, hal.2.2.1⟩
  have G₁ := G.keeps XL.keeps keeps
  have Y : YH w s₁.heap := (YH.of w s y).keeps w _ _ keeps
  have hi := ident_freeW hu ha hap
  have hwi : rW.claim.within = [] := List.isEmpty_iff.mp k6
  refine ⟨vs, s₁, hlaid, ?_⟩
  obtain ⟨xs, v, rfl, hle, hrep, hpost, hraise⟩ := args_of w s s₁ args vs as hpre hlay L.reads L.well (L.low G.low)
  have GL := glb G₁ Y
  have hmg := law_mg Y G₁.T.g
  have hdef := (def_at (names := ["script"]) (n := 17) G₁ (by kernel_rfl) rfl (binds1 fun _ _ _ _ => by kernel_rfl) hmg).2
  have R3 : RoomN 3 callerA := ⟨rfl, by decide +kernel, by decide +kernel⟩
  have hcall := law_call GL hdef hle (HF xs hle) (A := callerA) (I := fun b => s₁.heap.get? b) (s := s₁) R3 rfl (fun _ _ e => e) (fun _ _ e => e) hrep
    (fun e s' => GoodWG rW.claim (classAt s.heap) (ExcName.means s.heap) args s₁ (.error e) s')
  have hgood : ∀ v s', (v = Value.bool true ∧ ∃ I', Ext (fun b => s₁.heap.get? b) s₁ I' s') → GoodWG rW.claim (classAt s.heap) (ExcName.means s.heap) args s₁ (.ok (.ret v)) s' := by
    rintro v s' ⟨rfl, I', X⟩
    obtain ⟨h', tk, hst⟩ := X.st
    exact (GoodW.toG ⟨.inl ⟨.bool true, ofPy (.bool true), [], rfl, hraise, .bool _, hpost, fun _ => ⟨List.nodup_nil, fun a ha => nomatch ha⟩⟩, fun b o e => X.keep b o e, by rw [hst], by rw [hst]; exact hal.1.trans hgens⟩)
  refine wpG_bind1 (wpAny_nsGet G₁.T.g ?_)
  have e : (s.heap.nsMap mainGlobals) rO.name = some (.ref 159) := hmg
  rw [e]
  refine wpG_bind (wpG_mono hcall (fun v s' q => wpG_pure ?_) fun e s' g => ?_)
  · have g := hgood v s' q
    exact ⟨_, rfl, have z := g.laid (c := rW.claim) hsame hwi hi L; ⟨z.1, z.2.1, z.2.2, fun q => ⟨namesKept_of hT' hg rO.keeps keeps g.2.1.old, noTable (by rfl) q⟩⟩⟩
  · exact have z := g.laid (c := rW.claim) hsame hwi hi L; ⟨z.1, z.2.1, z.2.2, fun q => ⟨namesKept_of hT' hg rO.keeps keeps g.2.1.old, noTable (by rfl) q⟩⟩
end Mine
end

section
open PySem PySem.W PyProof.Rows
set_option maxRecDepth 100000
namespace Mine
noncomputable def drCheck (x : Dr) : Bool :=
  decide (0 ≤ x.code) && decide (x.code ≤ 1114111) && (b1S x.code == (x.role == 4)) && (c8S x.code == ([1, 2, 3, 5].any (· == x.role))) &&
  ((x.role == 1) == (x.code == 8235 || x.code == 8238)) && ((x.role == 2) == (x.code == 8234 || x.code == 8237)) && ((x.role == 3) == (x.code == 8236)) &&
  (!(x.role == 0) || (decide (mapB3 b3F x.code.toNat = x.word) && decide (1 ≤ x.word.cps.size) && decide (x.word.cps.size ≤ 8) && !(Builtin.Str.tooLong (Txt.lower ⟨#[x.code.toNat]⟩).length))) && ([0, 1, 2, 3, 4, 5].any (· == x.role))
noncomputable def k3 (form letter : Int) : Dr := if form > 9 then ⟨atI [65, 1040, 65313] (form - 10) + letter, 0, chrS (atI [65, 1040, 65313] (form - 10) + 32 + letter)⟩
    else ⟨119808 + 52 * atI [0, 1, 2, 4, 7, 8, 9, 10, 11, 12] form + letter, 0, chrS (97 + letter)⟩
noncomputable def k5 (p : Int) : Dr := ⟨8064 + p, 0, chrS (atI [7936, 7968, 8032] (p / 16) + p % 8) ++ chrS 953⟩
noncomputable def k6 (i : Nat) : Dr := ⟨(wordsL[i]?.getD (0, "")).1, 0, (wordsL[i]?.getD (0, "")).2⟩
noncomputable def runAt (i : Nat) : Int × Int × Int := runsL[i]?.getD (0, 0, 0)
theorem chk1 : drCheck (ofCode 8236) = true := by kernel_rfl
theorem chk1b : ((List.range 4).all fun j : Nat => drCheck (ofCode (atI [8234, 8235, 8237, 8238] (j : Int)))) = true := by kernel_rfl
theorem chk2 : ((List.range 12).all fun i => decide (0 < (runAt i).2.1 - (runAt i).1 + 3) && decide ((runAt i).2.1 - (runAt i).1 + 3 ≤ 20) && ((List.range 20).all fun j : Nat => !(decide ((j : Int) < (runAt i).2.1 - (runAt i).1 + 3)) || drCheck (ofCode ((runAt i).1 - 1 + (j : Int))))) = true := by kernel_rfl
/-- the letters of one form are looked up among the entries between the form's first and last letter -/
noncomputable def b3In (lo hi n : Int) : Option Str := ((kvs3.filter fun kv => decide (lo ≤ kv.1) && decide (kv.1 ≤ hi)).find? fun kv => kv.1 == n).map (·.2)
theorem b3In_eq {lo hi n : Int} (h : (decide (lo ≤ n) && decide (n ≤ hi)) = true) : b3F n = b3In lo hi n := by
  unfold b3F b3In
  rw [List.find?_filter]
  congr 2
  funext kv
  cases e : kv.1 == n with
  | false => exact (decide_eq_false fun h => nomatch h.2).symm
  | true => rw [beq_iff_eq.mp e, h]; rfl
noncomputable def drCheckW (x : Dr) (r : Option Str) : Bool :=
  decide (0 ≤ x.code) && decide (x.code ≤ 1114111) && (b1S x.code == (x.role == 4)) && (c8S x.code == ([1, 2, 3, 5].any (· == x.role))) &&
  ((x.role == 1) == (x.code == 8235 || x.code == 8238)) && ((x.role == 2) == (x.code == 8234 || x.code == 8237)) && ((x.role == 3) == (x.code == 8236)) &&
  (!(x.role == 0) || (decide (r.getD (Txt.lower ⟨#[x.code.toNat]⟩) = x.word) && decide (1 ≤ x.word.cps.size) && decide (x.word.cps.size ≤ 8) && !(Builtin.Str.tooLong (Txt.lower ⟨#[x.code.toNat]⟩).length))) && ([0, 1, 2, 3, 4, 5].any (· == x.role))
theorem drCheck_eq (x : Dr) : drCheck x = drCheckW x (b3F (x.code.toNat : Nat)) := rfl
noncomputable def k3lo (f : Nat) : Int := (k3 (f : Int) 0).code
noncomputable def k3hi (f : Nat) : Int := (k3 (f : Int) 25).code
noncomputable def chkF (f : Nat) : Bool := (List.range 26).all fun l : Nat => (decide (k3lo f ≤ ((k3 (f : Int) (l : Int)).code.toNat : Nat)) && decide (((k3 (f : Int) (l : Int)).code.toNat : Nat) ≤ k3hi f)) && drCheckW (k3 (f : Int) (l : Int)) (b3In (k3lo f) (k3hi f) ((k3 (f : Int) (l : Int)).code.toNat : Nat))
theorem chkFs : ((List.range 13).all chkF) = true := by kernel_rfl
theorem chk3 : ((List.range 13).all fun f : Nat => (List.range 26).all fun l : Nat => drCheck (k3 (f : Int) (l : Int))) = true := by
  rw [List.all_eq_true]
  intro f hf
  rw [List.all_eq_true]
  intro l hl
  obtain ⟨h1, h2⟩ := Bool.and_eq_true_iff.mp (List.all_eq_true.mp (List.all_eq_true.mp chkFs f hf) l hl)
  rw [drCheck_eq, b3In_eq h1]; exact h2
theorem chk4 : ((List.range 3).all fun j : Nat => drCheck (three[j]?.getD ⟨0, 0, ""⟩)) = true := by kernel_rfl
theorem chk5 : ((List.range 48).all fun j : Nat => drCheck (k5 (j : Int))) = true := by kernel_rfl
theorem chk6 : ((List.range 14).all fun j : Nat => drCheck (k6 j)) = true := by kernel_rfl
theorem all_range {N : Nat} {P : Nat → Bool} (h : (List.range N).all P = true) {j : Int} (h0 : 0 ≤ j) (h1 : j < (N : Int)) : P j.toNat = true :=
  List.all_eq_true.mp h _ (List.mem_range.mpr (by omega))
theorem dr_all {n : Int} (hn : 0 ≤ n) : drCheck (drawnOf n) = true := by
  unfold drawnOf
  dsimp only
  have hk0 : 0 ≤ n % 8 := by omega
  have hp0 : 0 ≤ n / 8 := by omega
  generalize hk : n % 8 = kind at *
  generalize hp : n / 8 = place at *
  have hk8 : kind < 8 := by omega
  split
  · unfold codeOf
    split
    · have h12 := all_range chk2 (j := place % 12) (by omega) (by omega)
      simp only [Bool.and_eq_true, decide_eq_true_eq] at h12
      obtain ⟨⟨a1, a2⟩, a3⟩ := h12
      have e : (runsL[(place % 12).toNat]?.getD (0, 0, 0)) = runAt (place % 12).toNat := rfl
      rw [e]
      generalize runAt (place % 12).toNat = r at *
      have b0 : 0 ≤ place / 12 % (r.2.1 - r.1 + 3) := Int.emod_nonneg _ (by omega)
      have b1 : place / 12 % (r.2.1 - r.1 + 3) < r.2.1 - r.1 + 3 := Int.emod_lt_of_pos _ a1
      generalize place / 12 % (r.2.1 - r.1 + 3) = j at *
      have h := all_range a3 b0 (by omega)
      have ej : ((j.toNat : Nat) : Int) = j := by omega
      rw [ej] at h
      simpa [b1] using h
    · split
      · exact chk1
      · have h := all_range chk1b (j := place / 2 % 4) (by omega) (by omega)
        have ej : (((place / 2 % 4).toNat : Nat) : Int) = place / 2 % 4 := by omega
        rw [ej] at h
        exact h
  · split
    · have h := all_range (all_range chk3 (j := place / 26 % 13) (by omega) (by omega)) (j := place % 26) (by omega) (by omega)
      have e1 : (((place / 26 % 13).toNat : Nat) : Int) = place / 26 % 13 := by omega
      have e2 : (((place % 26).toNat : Nat) : Int) = place % 26 := by omega
      rw [e1, e2] at h
      exact h
    · split
      · exact all_range chk4 (j := place % 3) (by omega) (by omega)
      · split
        · have h := all_range chk5 (j := place % 48) (by omega) (by omega)
          have e1 : (((place % 48).toNat : Nat) : Int) = place % 48 := by omega
          rw [e1] at h
          exact h
        · exact all_range chk6 (j := place % 14) (by omega) (by omega)
end Mine
end

section
open PySem PySem.W PyProof.Rows
set_option maxRecDepth 100000
namespace Mine
noncomputable def sF (S : List Int) (r : Int) : List Int := if r = 3 then S.dropLast else if r = 1 ∨ r = 2 then S ++ [r] else S
theorem back_stack : ∀ (n : Nat) (rs : List Int) (c : Nat) (o : List Int), rs.length = n → (rs.reverse.foldl lvStep ((c : Int), o)).2 = (rs.foldl sF []).take ((rs.foldl sF []).length - c) ++ o
  | 0, rs, c, o, h => by
    obtain rfl : rs = [] := List.length_eq_zero_iff.mp h
    simp
  | n + 1, rs, c, o, h => by
    have hne : rs ≠ [] := by intro e; rw [e] at h; cases h
    obtain ⟨rs', r, rfl⟩ : ∃ rs' r, rs = rs' ++ [r] := ⟨rs.dropLast, rs.getLast hne, (List.dropLast_concat_getLast hne).symm⟩
    have hl : rs'.length = n := by simpa using h
    rw [List.reverse_append, List.foldl_append, List.foldl_append]
    simp only [List.reverse_cons, List.reverse_nil, List.nil_append, List.foldl_cons, List.foldl_nil]
    generalize hS : rs'.foldl sF [] = S
    by_cases h3 : r = 3
    · have e1 : lvStep ((c : Int), o) r = (((c + 1 : Nat) : Int), o) := by unfold lvStep; rw [if_pos h3]; simp
      rw [e1, back_stack n rs' (c + 1) o hl, hS]
      have e2 : sF S r = S.dropLast := by unfold sF; rw [if_pos h3]
      rw [e2, List.length_dropLast, List.dropLast_eq_take, List.take_take]
      congr 2
      omega
    · by_cases h12 : r = 1 ∨ r = 2
      · have e2 : sF S r = S ++ [r] := by unfold sF; rw [if_neg h3, if_pos h12]
        rw [e2, List.length_append, List.length_singleton]
        by_cases hc : c = 0
        · subst hc
          have e1 : lvStep (((0 : Nat) : Int), o) r = (((0 : Nat) : Int), r :: o) := by unfold lvStep; rw [if_neg h3, if_pos h12, if_neg (by simp)]
          rw [e1, back_stack n rs' 0 (r :: o) hl, hS]
          simp
          rw [List.take_of_length_le (by simp)]
          simp
        · have e1 : lvStep ((c : Int), o) r = (((c - 1 : Nat) : Int), o) := by
            unfold lvStep; rw [if_neg h3, if_pos h12, if_pos (by simp; omega)]
            congr 1; simp; omega
          rw [e1, back_stack n rs' (c - 1) o hl, hS]
          congr 1
          rw [List.take_append_of_le_length (by omega)]
          by_cases hlen : c - 1 ≤ S.length
          · rw [show S.length - (c - 1) = S.length + 1 - c by omega]
          · rw [show S.length - (c - 1) = 0 by omega, show S.length + 1 - c = 0 by omega]
      · have e1 : lvStep ((c : Int), o) r = ((c : Int), o) := by unfold lvStep; rw [if_neg h3, if_neg h12]
        have e2 : sF S r = S := by unfold sF; rw [if_neg h3, if_neg h12]
        rw [e1, e2, back_stack n rs' c o hl, hS]
theorem levelOf_eq (rs : List Int) : levelOf rs = (rs.foldl sF []).foldl lvUp 0 := by
  unfold levelOf lvBack
  have := back_stack rs.length rs 0 [] rfl
  rw [show (((0 : Nat) : Int), ([] : List Int)) = ((0 : Int), []) from rfl] at this
  rw [this, Nat.sub_zero, List.take_length, List.append_nil]
noncomputable def lvs (S : List Int) : List Int := (List.range (S.length + 1)).map fun i => (S.take i).foldl lvUp 0
theorem lvs_len (S : List Int) : (lvs S).length = S.length + 1 := by simp [lvs]
theorem lvs_push (S : List Int) (r : Int) : lvs (S ++ [r]) = lvs S ++ [lvUp (S.foldl lvUp 0) r] := by
  unfold lvs
  rw [List.length_append, List.length_singleton, List.range_succ, List.map_append]
  congr 1
  · apply List.map_congr_left
    intro i hi
    have := List.mem_range.mp hi
    rw [List.take_append_of_le_length (by omega)]
  · rw [List.map_singleton, List.take_of_length_le (by simp), List.foldl_append]; rfl
theorem lvs_pop (S : List Int) (h : S ≠ []) : lvs S.dropLast = (lvs S).take ((lvs S).length - 1) := by
  have hp : 0 < S.length := List.length_pos_iff.mpr h
  rw [lvs_len]
  unfold lvs
  rw [List.length_dropLast, ← List.map_take, List.take_range, show min (S.length + 1 - 1) (S.length + 1) = S.length - 1 + 1 by omega]
  apply List.map_congr_left
  intro i hi
  have := List.mem_range.mp hi
  rw [List.dropLast_eq_take, List.take_take, show min i (S.length - 1) = i by omega]
theorem lvs_last (S : List Int) : (lvs S).getLastD 0 = S.foldl lvUp 0 := by
  unfold lvs
  rw [List.range_succ, List.map_append, List.map_singleton, List.take_length]
  simp
theorem shOp_eq (S : List Int) {x : Dr} (hx : drCheck x = true) (h8 : c8S x.code = true) : shOp (lvs S) x.code.toNat = lvs (sF S x.role) := by
  unfold drCheck at hx
  simp only [Bool.and_eq_true, decide_eq_true_eq, beq_iff_eq] at hx
  obtain ⟨⟨⟨⟨⟨⟨⟨⟨c0, c1⟩, hb1⟩, hc8⟩, r1⟩, r2⟩, r3⟩, _⟩, hany⟩ := hx
  have hc : ((x.code.toNat : Nat) : Int) = x.code := by omega
  unfold shOp shOp1 shOp2 shOp3
  rw [hc, lvs_last]
  unfold sF
  by_cases h1 : x.role = 1
  · rw [h1] at r1 r2 r3 ⊢
    have q1 : (x.code == 8235 || x.code == 8238) = true := by rw [← r1]; rfl
    have q2 : (x.code == 8234 || x.code == 8237) = false := by rw [← r2]; rfl
    have q3 : (x.code == 8236) = false := by rw [← r3]; rfl
    rw [q1, q2, q3]
    simp only [if_true, Bool.false_and, Bool.false_eq_true, if_false]
    rw [if_neg (by decide), if_pos (by decide), lvs_push]
    congr 2
    unfold lvUp
    omega
  · by_cases h2 : x.role = 2
    · rw [h2] at r1 r2 r3 ⊢
      have q1 : (x.code == 8235 || x.code == 8238) = false := by rw [← r1]; rfl
      have q2 : (x.code == 8234 || x.code == 8237) = true := by rw [← r2]; rfl
      have q3 : (x.code == 8236) = false := by rw [← r3]; rfl
      rw [q1, q2, q3]
      simp only [if_true, Bool.false_and, Bool.false_eq_true, if_false]
      rw [if_neg (by decide), if_pos (by decide), lvs_push]
      congr 2
      unfold lvUp
      omega
    · have q1 : (x.code == 8235 || x.code == 8238) = false := by rw [← r1]; simpa using h1
      have q2 : (x.code == 8234 || x.code == 8237) = false := by rw [← r2]; simpa using h2
      rw [q1, q2]
      simp only [Bool.false_eq_true, if_false]
      by_cases h3 : x.role = 3
      · have q3 : (x.code == 8236) = true := by rw [← r3, h3]; rfl
        rw [q3, if_pos h3, Bool.true_and]
        by_cases hS : S = []
        · subst hS
          rw [if_neg (by simp [lvs_len])]; rfl
        · have hp : 0 < S.length := List.length_pos_iff.mpr hS
          rw [if_pos (by rw [lvs_len]; simp; omega), lvs_pop S hS]
      · have q3 : (x.code == 8236) = false := by rw [← r3]; simpa using h3
        rw [q3, if_neg h3, if_neg (show ¬ (x.role = 1 ∨ x.role = 2) from fun q => q.elim h1 h2)]
        rfl
noncomputable def shR (S : List Int) : List Dr → List (Nat × Int)
  | [] => []
  | x :: r => if x.role = 0 then (x.code.toNat, S.foldl lvUp 0) :: shR S r else shR (sF S x.role) r
theorem shown_eq : ∀ (l : List Dr) (S : List Int) (acc : List (Nat × Int)), (∀ x ∈ l, drCheck x = true) → ((l.map fun x => x.code.toNat).foldl shStep (lvs S, acc)).2 = acc ++ shR S l
  | [], S, acc, _ => by simp [shR]
  | x :: l, S, acc, h => by
    have hx := h x List.mem_cons_self
    have hx' := hx
    unfold drCheck at hx'
    simp only [Bool.and_eq_true, decide_eq_true_eq, beq_iff_eq] at hx'
    obtain ⟨⟨⟨⟨⟨⟨⟨⟨c0, c1⟩, hb1⟩, hc8⟩, r1⟩, r2⟩, r3⟩, _⟩, hany⟩ := hx'
    have hc : ((x.code.toNat : Nat) : Int) = x.code := by omega
    rw [List.map_cons, List.foldl_cons]
    unfold shStep
    rw [hc]
    have ih := fun S acc => shown_eq l S acc (fun y hy => h y (List.mem_cons_of_mem _ hy))
    unfold shStep at ih
    unfold shR
    cases h8 : c8S x.code with
    | true =>
      rw [if_pos rfl]
      dsimp only
      rw [shOp_eq S hx h8, ih]
      rw [h8] at hc8
      rw [if_neg (by intro e; rw [e] at hc8; cases hc8)]
    | false =>
      rw [if_neg Bool.false_ne_true]
      rw [h8] at hc8
      cases hb : b1S x.code with
      | true =>
        rw [if_pos rfl, ih]
        have e4 : x.role = 4 := by rw [hb] at hb1; simpa using hb1.symm
        rw [e4, if_neg (by decide)]
        rfl
      | false =>
        rw [if_neg Bool.false_ne_true]
        dsimp only
        rw [ih, lvs_last]
        have e0 : x.role = 0 := by
          rw [hb] at hb1
          simp at hany hb1 hc8
          omega
        rw [e0, if_pos rfl, List.append_assoc]
        rfl
noncomputable def mtR (p : List Int) : List Dr → List Mt
  | [] => []
  | x :: r => if x.role = 0 then ⟨x.code, levelOf p, x.word⟩ :: mtR (p ++ [x.role]) r else mtR (p ++ [x.role]) r
theorem meant_from (l : List Dr) : ∀ (r pre : List Dr), l = pre ++ r → ((List.range' pre.length r.length).filter fun k => (l.getD k dr0).role == 0).map (meantAt l) = mtR (pre.map Dr.role) r
  | [], pre, _ => rfl
  | x :: r, pre, e => by
    have hget : l.getD pre.length dr0 = x := by
      rw [e, List.getD_eq_getElem?_getD, List.getElem?_append_right (Nat.le_refl _)]; simp
    have htake : l.take pre.length = pre := by rw [e, List.take_left']; rfl
    have ih := meant_from l r (pre ++ [x]) (by rw [e]; simp)
    rw [List.length_append, List.length_singleton, List.map_append] at ih
    rw [List.length_cons, List.range'_succ, List.filter_cons]
    unfold mtR
    rw [hget]
    by_cases h : x.role = 0
    · rw [if_pos (by simpa using h), if_pos h, List.map_cons, ih]
      congr 1
      unfold meantAt
      rw [hget, htake]
    · rw [if_neg (by simpa using h), if_neg h, ih]
      rfl
theorem meantOf_eq (l : List Dr) : meantOf l = mtR [] l := by
  unfold meantOf
  have := meant_from l l [] rfl
  rw [List.range_eq_range']
  exact this
theorem shR_eq : ∀ (l : List Dr) (p : List Int), shR (p.foldl sF []) l = (mtR p l).map fun m => (m.code.toNat, m.level)
  | [], p => rfl
  | x :: l, p => by
    have ih := shR_eq l (p ++ [x.role])
    rw [List.foldl_append] at ih
    simp only [List.foldl_cons, List.foldl_nil] at ih
    unfold shR mtR
    by_cases h : x.role = 0
    · rw [if_pos h, if_pos h, List.map_cons, ← ih, ← levelOf_eq]
      have e : sF (p.foldl sF []) x.role = p.foldl sF [] := by rw [h]; rfl
      rw [e]
    · rw [if_neg h, if_neg h, ← ih]
theorem sh_ms {script : List Int} : shOf script = (msOf script).map fun m => (m.code.toNat, m.level) := by
  unfold shOf msOf shownOf
  have h : ∀ x ∈ drOf script, drCheck x = true := fun x hx => by
    obtain ⟨n, hn, rfl⟩ := List.mem_map.mp hx
    exact dr_all (numsOf_range script n hn).1
  have := shown_eq (drOf script) [] [] h
  rw [show lvs [] = [0] from rfl] at this
  rw [this, List.nil_append, meantOf_eq]
  exact shR_eq (drOf script) []
/-- what is meant: its facts -/
structure MtF (m : Mt) : Prop where
  lo : 0 ≤ m.code
  hi : m.code ≤ 1114111
  word : mapB3 b3F m.code.toNat = m.word
  w1 : 1 ≤ m.word.cps.size
  w2 : m.word.cps.size ≤ 8
  fit : Builtin.Str.tooLong (Txt.lower ⟨#[m.code.toNat]⟩).length = false
theorem mtR_facts : ∀ (l : List Dr) (p : List Int), (∀ x ∈ l, drCheck x = true) → ∀ m ∈ mtR p l, MtF m
  | [], p, _, m, hm => nomatch hm
  | x :: l, p, h, m, hm => by
    unfold mtR at hm
    have ih := mtR_facts l (p ++ [x.role]) (fun y hy => h y (List.mem_cons_of_mem _ hy)) m
    by_cases h0 : x.role = 0
    · rw [if_pos h0] at hm
      rcases List.mem_cons.mp hm with rfl | hm
      · have hx := h x List.mem_cons_self
        unfold drCheck at hx
        simp only [Bool.and_eq_true, decide_eq_true_eq, beq_iff_eq] at hx
        obtain ⟨⟨⟨⟨⟨⟨⟨⟨c0, c1⟩, hb1⟩, hc8⟩, r1⟩, r2⟩, r3⟩, w0⟩, hany⟩ := hx
        rw [h0] at w0
        have w0 : (decide (mapB3 b3F x.code.toNat = x.word) && decide (1 ≤ x.word.cps.size) && decide (x.word.cps.size ≤ 8) && !(Builtin.Str.tooLong (Txt.lower ⟨#[x.code.toNat]⟩).length)) = true := w0
        simp only [Bool.and_eq_true, decide_eq_true_eq, Bool.not_eq_true'] at w0
        obtain ⟨⟨⟨w1, w2⟩, w3⟩, w4⟩ := w0
        exact ⟨c0, c1, w1, w2, w3, w4⟩
      · exact ih hm
    · rw [if_neg h0] at hm; exact ih hm
end Mine
end

section
open PySem PySem.W PyProof.Rows
set_option maxRecDepth 100000
namespace Mine
noncomputable abbrev It := Nat × Bool
noncomputable def geI (lv : Nat → Int) (p : Int) (x : It) : Bool := decide (p ≤ lv x.1)
noncomputable def flipI (x : It) : It := (x.1, !x.2)
noncomputable def turnI (l : List It) : List It := l.reverse.map flipI
noncomputable def goI (lv : Nat → Int) (p : Int) : List It → List It → List It
  | run, [] => turnI run
  | run, x :: xs => if geI lv p x = true then goI lv p (run ++ [x]) xs else turnI run ++ x :: goI lv p [] xs
noncomputable def passI (lv : Nat → Int) (p : Int) (l : List It) : List It := goI lv p [] l
theorem turnI_append (a b : List It) : turnI (a ++ b) = turnI b ++ turnI a := by simp [turnI]
theorem turnI_cons (x : It) (b : List It) : turnI (x :: b) = turnI b ++ [flipI x] := by simp [turnI]
/-! from cells to items -/
theorem turnC_append (a b : List Cell) : turnC (a ++ b) = turnC b ++ turnC a := by simp [turnC]
theorem takeWhile_high {q : Cell → Bool} {c : Cell} {W : List Cell} (hc : q c = false) : ∀ R : List Cell, (∀ x ∈ R, q x = true) → (R ++ c :: W).takeWhile q = R ∧ (R ++ c :: W).dropWhile q = c :: W
  | [], _ => by simp [List.takeWhile_cons, List.dropWhile_cons, hc]
  | r :: R, h => by
    obtain ⟨a, b⟩ := takeWhile_high (q := q) (c := c) (W := W) hc R (fun x hx => h x (List.mem_cons_of_mem _ hx))
    have hr := h r List.mem_cons_self
    simp [List.takeWhile_cons, List.dropWhile_cons, hr, a, b]
theorem takeWhile_all {q : Cell → Bool} : ∀ R : List Cell, (∀ x ∈ R, q x = true) → R.takeWhile q = R ∧ R.dropWhile q = []
  | [], _ => ⟨rfl, rfl⟩
  | r :: R, h => by
    obtain ⟨a, b⟩ := takeWhile_all (q := q) R (fun x hx => h x (List.mem_cons_of_mem _ hx))
    have hr := h r List.mem_cons_self
    simp [List.takeWhile_cons, List.dropWhile_cons, hr, a, b]
theorem passC_all {p : Int} : ∀ {R : List Cell}, (∀ x ∈ R, geL p x = true) → passC p R = turnC R
  | [], _ => by rw [passC_nil]; rfl
  | r :: R, h => by
    rw [passC_hi (h r List.mem_cons_self), (takeWhile_all R fun x hx => h x (List.mem_cons_of_mem _ hx)).1, (takeWhile_all R fun x hx => h x (List.mem_cons_of_mem _ hx)).2, passC_nil, List.append_nil]
theorem passC_split {p : Int} {c : Cell} {W : List Cell} (hc : geL p c = false) : ∀ {R : List Cell}, (∀ x ∈ R, geL p x = true) → passC p (R ++ c :: W) = turnC R ++ c :: passC p W
  | [], _ => by rw [List.nil_append, passC_lo hc]; rfl
  | r :: R, h => by
    rw [List.cons_append, passC_hi (h r List.mem_cons_self), (takeWhile_high hc R fun x hx => h x (List.mem_cons_of_mem _ hx)).1, (takeWhile_high hc R fun x hx => h x (List.mem_cons_of_mem _ hx)).2, passC_lo hc]
theorem passC_lows {p : Int} {W : List Cell} : ∀ {R : List Cell}, (∀ x ∈ R, geL p x = false) → passC p (R ++ W) = R ++ passC p W
  | [], _ => rfl
  | r :: R, h => by rw [List.cons_append, passC_lo (h r List.mem_cons_self), passC_lows fun x hx => h x (List.mem_cons_of_mem _ hx)]; rfl
structure ExOk (lv : Nat → Int) (ex : It → List Cell) (ok : It → Prop) : Prop where
  ne : ∀ x, ok x → ex x ≠ []
  ge : ∀ x p, ok x → ∀ c ∈ ex x, geL p c = geI lv p x
  flip : ∀ x, ok x → ex (flipI x) = turnC (ex x)
theorem turn_flat {lv : Nat → Int} {ex : It → List Cell} {ok : It → Prop} (h : ExOk lv ex ok) : ∀ l : List It, (∀ x ∈ l, ok x) → turnC (l.flatMap ex) = (turnI l).flatMap ex
  | [], _ => rfl
  | x :: l, hl => by
    rw [List.flatMap_cons, turnC_append, turnI_cons, List.flatMap_append, turn_flat h l (fun y hy => hl y (List.mem_cons_of_mem _ hy))]
    simp [h.flip x (hl x List.mem_cons_self)]
theorem pass_flat {lv : Nat → Int} {ex : It → List Cell} {ok : It → Prop} (h : ExOk lv ex ok) {p : Int} : ∀ (l run : List It), (∀ x ∈ run, ok x ∧ geI lv p x = true) → (∀ x ∈ l, ok x) → passC p ((run ++ l).flatMap ex) = (goI lv p run l).flatMap ex
  | [], run, hr, _ => by
    rw [List.append_nil]
    unfold goI
    rw [passC_all, turn_flat h run fun x hx => (hr x hx).1]
    intro c hc
    obtain ⟨x, hx, hcx⟩ := List.mem_flatMap.mp hc
    rw [h.ge x p (hr x hx).1 c hcx]; exact (hr x hx).2
  | x :: l, run, hr, hl => by
    unfold goI
    have hx := hl x List.mem_cons_self
    have hl' : ∀ y ∈ l, ok y := fun y hy => hl y (List.mem_cons_of_mem _ hy)
    by_cases hg : geI lv p x = true
    · rw [if_pos hg, ← pass_flat h l (run ++ [x]) (fun y hy => by
        rcases List.mem_append.mp hy with hy | hy
        · exact hr y hy
        · obtain rfl : y = x := by simpa using hy
          exact ⟨hx, hg⟩) hl', List.append_assoc]
      rfl
    · rw [if_neg hg]
      have hgf : geI lv p x = false := by simpa using hg
      rw [List.flatMap_append, List.flatMap_cons, List.flatMap_append, List.flatMap_cons]
      obtain ⟨c, cs, hcs⟩ := List.exists_cons_of_ne_nil (h.ne x hx)
      have hlow : ∀ d ∈ ex x, geL p d = false := fun d hd => by rw [h.ge x p hx d hd]; exact hgf
      rw [hcs] at hlow ⊢
      rw [List.cons_append, passC_split (hlow c List.mem_cons_self), passC_lows (fun d hd => hlow d (List.mem_cons_of_mem _ hd)), turn_flat h run fun y hy => (hr y hy).1]
      · have := pass_flat h (p := p) l [] (fun y hy => nomatch hy) hl'
        rw [List.nil_append] at this
        rw [this]
        rfl
      · intro d hd
        obtain ⟨y, hy, hdy⟩ := List.mem_flatMap.mp hd
        rw [h.ge y p (hr y hy).1 d hdy]; exact (hr y hy).2
/-! the items -/
section
variable {lv : Nat → Int} {p : Int}
theorem goI_high : ∀ (U run : List It), (∀ x ∈ U, geI lv p x = true) → goI lv p run U = turnI (run ++ U)
  | [], run, _ => by rw [List.append_nil]; rfl
  | x :: U, run, h => by
    unfold goI
    rw [if_pos (h x List.mem_cons_self), goI_high U (run ++ [x]) fun y hy => h y (List.mem_cons_of_mem _ hy), List.append_assoc]
    rfl
theorem goI_split {z : It} (hz : geI lv p z = false) (V : List It) : ∀ (U run : List It), goI lv p run (U ++ z :: V) = goI lv p run U ++ z :: passI lv p V
  | [], run => by
    rw [List.nil_append]
    unfold goI
    rw [if_neg (by rw [hz]; exact Bool.false_ne_true)]
    rfl
  | x :: U, run => by
    rw [List.cons_append]
    unfold goI
    by_cases h : geI lv p x = true
    · rw [if_pos h, if_pos h, goI_split hz V U (run ++ [x])]
    · rw [if_neg h, if_neg h, goI_split hz V U [], List.append_assoc]
      rfl
theorem passI_split {z : It} (hz : geI lv p z = false) (U V : List It) : passI lv p (U ++ z :: V) = passI lv p U ++ z :: passI lv p V := goI_split hz V U []
theorem passI_high {U : List It} (h : ∀ x ∈ U, geI lv p x = true) : passI lv p U = turnI U := by unfold passI; rw [goI_high U [] h]; rfl
theorem passI_nil : passI lv p [] = [] := rfl
theorem split_left : ∀ U : List It, ∃ U1 U2, U = U1 ++ U2 ∧ (∀ x ∈ U2, geI lv p x = true) ∧ (U1 = [] ∨ ∃ A z, U1 = A ++ [z] ∧ geI lv p z = false)
  | [] => ⟨[], [], rfl, (fun x hx => nomatch hx), .inl rfl⟩
  | u :: U => by
    obtain ⟨U1, U2, e, h2, hs⟩ := split_left U
    rcases hs with rfl | ⟨A, z, rfl, hz⟩
    · by_cases hg : geI lv p u = true
      · exact ⟨[], u :: U2, by rw [e]; rfl, fun x hx => by
          rcases List.mem_cons.mp hx with rfl | hx
          · exact hg
          · exact h2 x hx, .inl rfl⟩
      · exact ⟨[u], U2, by rw [e]; rfl, h2, .inr ⟨[], u, rfl, by simpa using hg⟩⟩
    · exact ⟨u :: (A ++ [z]), U2, by rw [e]; rfl, h2, .inr ⟨u :: A, z, rfl, hz⟩⟩
theorem split_right : ∀ V : List It, ∃ V1 V2, V = V1 ++ V2 ∧ (∀ x ∈ V1, geI lv p x = true) ∧ (V2 = [] ∨ ∃ z Z, V2 = z :: Z ∧ geI lv p z = false)
  | [] => ⟨[], [], rfl, (fun x hx => nomatch hx), .inl rfl⟩
  | u :: V => by
    by_cases hg : geI lv p u = true
    · obtain ⟨V1, V2, e, h1, hs⟩ := split_right V
      exact ⟨u :: V1, V2, by rw [e]; rfl, fun x hx => by
          rcases List.mem_cons.mp hx with rfl | hx
          · exact hg
          · exact h1 x hx, hs⟩
    · exact ⟨[], u :: V, rfl, (fun x hx => nomatch hx), .inr ⟨u, V, rfl, by simpa using hg⟩⟩
theorem passI_mid {U1 W V2 : List It} (hU : U1 = [] ∨ ∃ A z, U1 = A ++ [z] ∧ geI lv p z = false) (hW : ∀ x ∈ W, geI lv p x = true) (hV : V2 = [] ∨ ∃ z Z, V2 = z :: Z ∧ geI lv p z = false) :
    passI lv p (U1 ++ (W ++ V2)) = passI lv p U1 ++ (turnI W ++ passI lv p V2) := by
  have base : passI lv p (W ++ V2) = turnI W ++ passI lv p V2 := by
    rcases hV with rfl | ⟨z, Z, rfl, hz⟩
    · rw [List.append_nil, passI_high hW, passI_nil, List.append_nil]
    · have := passI_split (lv := lv) (p := p) hz [] Z
      rw [List.nil_append, passI_nil, List.nil_append] at this
      rw [passI_split hz, passI_high hW, this]
  rcases hU with rfl | ⟨A, z, rfl, hz⟩
  · rw [List.nil_append, base, passI_nil, List.nil_append]
  · have e1 : A ++ [z] ++ (W ++ V2) = A ++ z :: (W ++ V2) := by simp
    have e2 := passI_split (lv := lv) (p := p) hz A []
    rw [passI_nil] at e2
    rw [e1, passI_split hz, base, e2]
    simp
/-- what stands below p -/
noncomputable def lows (lv : Nat → Int) (p : Int) (l : List It) : List It := l.filter fun x => !geI lv p x
theorem lows_append (a b : List It) : lows lv p (a ++ b) = lows lv p a ++ lows lv p b := by simp [lows]
theorem lows_high {l : List It} (h : ∀ x ∈ l, geI lv p x = true) : lows lv p l = [] := by
  unfold lows; rw [List.filter_eq_nil_iff]; intro x hx; simp [h x hx]
theorem geI_flip (x : It) : geI lv p (flipI x) = geI lv p x := rfl
theorem turnI_high {l : List It} (h : ∀ x ∈ l, geI lv p x = true) : ∀ x ∈ turnI l, geI lv p x = true := by
  intro x hx
  simp only [turnI, List.mem_map, List.mem_reverse] at hx
  obtain ⟨y, hy, rfl⟩ := hx
  exact h y hy
theorem lows_pass : ∀ (n : Nat) (l : List It), l.length ≤ n → lows lv p (passI lv p l) = lows lv p l
  | 0, l, h => by
    obtain rfl : l = [] := List.length_eq_zero_iff.mp (by omega)
    rfl
  | n + 1, l, h => by
    obtain ⟨V1, V2, rfl, h1, hV⟩ := split_right (lv := lv) (p := p) l
    have e := passI_mid (lv := lv) (p := p) (U1 := []) (W := V1) (V2 := V2) (.inl rfl) h1 hV
    rw [List.nil_append, passI_nil, List.nil_append] at e
    rw [e, lows_append, lows_append, lows_high h1, lows_high (turnI_high h1)]
    rcases hV with rfl | ⟨z, Z, rfl, hz⟩
    · rfl
    · have e2 := passI_split (lv := lv) (p := p) hz [] Z
      rw [List.nil_append, passI_nil, List.nil_append] at e2
      rw [e2]
      have e3 : ∀ Y : List It, lows lv p (z :: Y) = z :: lows lv p Y := fun Y => by simp [lows, hz]
      rw [e3, e3, lows_pass n Z (by simp at h; omega)]
/-- an item keeps its place among what is low -/
theorem keep_place (U V : List It) (x : It) : ∃ U' V' x', passI lv p (U ++ x :: V) = U' ++ x' :: V' ∧ x'.1 = x.1 ∧ (geI lv p x = false → x' = x) ∧ lows lv p U' = lows lv p U ∧ lows lv p V' = lows lv p V := by
  by_cases hx : geI lv p x = true
  · obtain ⟨U1, U2, rfl, hU2, hU1⟩ := split_left (lv := lv) (p := p) U
    obtain ⟨V1, V2, rfl, hV1, hV2⟩ := split_right (lv := lv) (p := p) V
    have hW : ∀ y ∈ U2 ++ x :: V1, geI lv p y = true := fun y hy => by
      rcases List.mem_append.mp hy with hy | hy
      · exact hU2 y hy
      · rcases List.mem_cons.mp hy with rfl | hy
        · exact hx
        · exact hV1 y hy
    have e := passI_mid (lv := lv) (p := p) hU1 hW hV2
    refine ⟨passI lv p U1 ++ turnI V1, turnI U2 ++ passI lv p V2, flipI x, ?_, rfl, (fun h => by rw [hx] at h; cases h), ?_, ?_⟩
    · have e1 : U1 ++ U2 ++ x :: (V1 ++ V2) = U1 ++ (U2 ++ x :: V1 ++ V2) := by simp
      rw [e1, e, turnI_append, turnI_cons]
      simp
    · rw [lows_append, lows_append, lows_pass _ U1 (Nat.le_refl _), lows_high hU2, lows_high (turnI_high hV1)]
    · rw [lows_append, lows_append, lows_pass _ V2 (Nat.le_refl _), lows_high hV1, lows_high (turnI_high hU2)]
  · have hf : geI lv p x = false := by simpa using hx
    exact ⟨passI lv p U, passI lv p V, x, passI_split hf U V, rfl, fun _ => rfl, lows_pass _ U (Nat.le_refl _), lows_pass _ V (Nat.le_refl _)⟩
/-- i stands ahead of j, and the least from the one to the other is m -/
structure Seg (lv : Nat → Int) (L : List It) (i j : Nat) (m : Int) : Prop where
  ex : ∃ A M C x y, L = A ++ x :: (M ++ y :: C) ∧ x.1 = i ∧ y.1 = j ∧ (m ≤ lv i ∧ m ≤ lv j ∧ ∀ z ∈ M, m ≤ lv z.1) ∧ (m = lv i ∨ m = lv j ∨ ∃ z ∈ M, m = lv z.1)
theorem seg_turn {L : List It} {i j : Nat} {m : Int} (h : Seg lv L i j m) (hp : p ≤ m) : Seg lv (passI lv p L) j i m := by
  obtain ⟨A, M, C, x, y, rfl, rfl, rfl, ⟨b1, b2, b3⟩, h4⟩ := h.ex
  obtain ⟨A1, A2, rfl, hA2, hA1⟩ := split_left (lv := lv) (p := p) A
  obtain ⟨C1, C2, rfl, hC1, hC2⟩ := split_right (lv := lv) (p := p) C
  have hge : ∀ z : It, m ≤ lv z.1 → geI lv p z = true := fun z hz => by unfold geI; exact decide_eq_true (by omega)
  have hW : ∀ z ∈ A2 ++ x :: (M ++ y :: C1), geI lv p z = true := fun z hz => by
    rcases List.mem_append.mp hz with hz | hz
    · exact hA2 z hz
    · rcases List.mem_cons.mp hz with rfl | hz
      · exact hge _ b1
      · rcases List.mem_append.mp hz with hz | hz
        · exact hge _ (b3 z hz)
        · rcases List.mem_cons.mp hz with rfl | hz
          · exact hge _ b2
          · exact hC1 z hz
  have e := passI_mid (lv := lv) (p := p) hA1 hW hC2
  have e1 : A1 ++ A2 ++ x :: (M ++ y :: (C1 ++ C2)) = A1 ++ (A2 ++ x :: (M ++ y :: C1) ++ C2) := by simp
  refine ⟨passI lv p A1 ++ turnI C1, turnI M, turnI A2 ++ passI lv p C2, flipI y, flipI x, ?_, rfl, rfl, ⟨b2, b1, fun z hz => ?_⟩, ?_⟩
  · rw [e1, e, turnI_append, turnI_cons, turnI_append, turnI_cons]
    simp
  · simp only [turnI, List.mem_map, List.mem_reverse] at hz
    obtain ⟨u, hu, rfl⟩ := hz
    exact b3 u hu
  · rcases h4 with h | h | ⟨z, hz, h⟩
    · exact .inr (.inl h)
    · exact .inl h
    · exact .inr (.inr ⟨flipI z, by simp only [turnI, List.mem_map, List.mem_reverse]; exact ⟨z, hz, rfl⟩, h⟩)
theorem seg_keep {L : List It} {i j : Nat} {m : Int} (h : Seg lv L i j m) (hp : m < p) : Seg lv (passI lv p L) i j m := by
  obtain ⟨A, M, C, x, y, rfl, rfl, rfl, ⟨b1, b2, b3⟩, h4⟩ := h.ex
  -- it is enough that what is low between them stays
  have fin : ∀ (A' M' C' : List It) (x' y' : It), passI lv p (A ++ x :: (M ++ y :: C)) = A' ++ x' :: (M' ++ y' :: C') → x'.1 = x.1 → y'.1 = y.1 → lows lv p M' = lows lv p M → Seg lv (passI lv p (A ++ x :: (M ++ y :: C))) x.1 y.1 m := by
    intro A' M' C' x' y' e ex ey el
    refine ⟨A', M', C', x', y', e, ex, ey, ⟨b1, b2, fun z hz => ?_⟩, ?_⟩
    · by_cases hg : geI lv p z = true
      · have := of_decide_eq_true hg; omega
      · have : z ∈ lows lv p M' := List.mem_filter.mpr ⟨hz, by simpa using hg⟩
        rw [el] at this
        exact b3 z (List.mem_filter.mp this).1
    · rcases h4 with h | h | ⟨z, hz, h⟩
      · exact .inl h
      · exact .inr (.inl h)
      · have : z ∈ lows lv p M := List.mem_filter.mpr ⟨hz, by simp [geI]; omega⟩
        rw [← el] at this
        exact .inr (.inr ⟨z, (List.mem_filter.mp this).1, h⟩)
  rcases h4 with h | h | ⟨z, hz, h⟩
  · have hx : geI lv p x = false := decide_eq_false (by omega)
    obtain ⟨M', C', y', e, ey, _, hl, _⟩ := keep_place (lv := lv) (p := p) M C y
    exact fin (passI lv p A) M' C' x y' (by rw [passI_split hx, e]) rfl ey hl
  · have hy : geI lv p y = false := decide_eq_false (by omega)
    obtain ⟨A', M', x', e, ex, _, _, hl⟩ := keep_place (lv := lv) (p := p) A M x
    have e1 : A ++ x :: (M ++ y :: C) = (A ++ x :: M) ++ y :: C := by simp
    exact fin A' M' (passI lv p C) x' y (by rw [e1, passI_split hy, e]; simp) ex rfl hl
  · have hzl : geI lv p z = false := decide_eq_false (by omega)
    obtain ⟨M1, M2, rfl⟩ := List.append_of_mem hz
    obtain ⟨A', M1', x', e1, ex, _, _, hl1⟩ := keep_place (lv := lv) (p := p) A M1 x
    obtain ⟨M2', C', y', e2, ey, _, hl2, _⟩ := keep_place (lv := lv) (p := p) M2 C y
    have e3 : A ++ x :: (M1 ++ z :: M2 ++ y :: C) = (A ++ x :: M1) ++ z :: (M2 ++ y :: C) := by simp
    refine fin A' (M1' ++ z :: M2') C' x' y' (by rw [e3, passI_split hzl, e1, e2]; simp) ex ey ?_
    have e4 : ∀ Y : List It, lows lv p (z :: Y) = z :: lows lv p Y := fun Y => by simp [lows, hzl]
    rw [lows_append, lows_append, e4, e4, hl1, hl2]
end
end Mine
end

section
open PySem PySem.W PyProof.Rows
set_option maxRecDepth 100000
namespace Mine
noncomputable def passesI (lv : Nat → Int) (ps : List Int) (L : List It) : List It := ps.foldl (fun L p => passI lv p L) L
noncomputable def cntP (ps : List Int) (m : Int) : Nat := (ps.filter fun p => decide (p ≤ m)).length
noncomputable def parP (ps : List Int) (m : Int) : Bool := cntP ps m % 2 == 1
section
variable {lv : Nat → Int} {p : Int}
theorem cntP_cons (p : Int) (ps : List Int) (m : Int) : cntP (p :: ps) m = (if p ≤ m then 1 else 0) + cntP ps m := by
  unfold cntP
  rw [List.filter_cons]
  split
  · rename_i h; rw [if_pos (by simpa using h), List.length_cons]; omega
  · rename_i h; rw [if_neg (by simpa using h)]; omega
theorem parP_hi {ps : List Int} {m : Int} (h : p ≤ m) : parP (p :: ps) m = !parP ps m := by
  unfold parP; rw [cntP_cons, if_pos h]
  rcases Nat.mod_two_eq_zero_or_one (cntP ps m) with e | e <;> simp [e] <;> omega
theorem parP_lo {ps : List Int} {m : Int} (h : m < p) : parP (p :: ps) m = parP ps m := by
  unfold parP; rw [cntP_cons, if_neg (by omega), Nat.zero_add]
theorem passes_seg : ∀ (ps : List Int) (L : List It) (i j : Nat) (m : Int), Seg lv L i j m → (parP ps m = true → Seg lv (passesI lv ps L) j i m) ∧ (parP ps m = false → Seg lv (passesI lv ps L) i j m)
  | [], L, i, j, m, h => ⟨fun e => absurd (show false = true from e) Bool.false_ne_true, fun _ => h⟩
  | p :: ps, L, i, j, m, h => by
    by_cases hp : p ≤ m
    · have ih := passes_seg ps (passI lv p L) j i m (seg_turn h hp)
      rw [parP_hi hp]
      exact ⟨fun e => ih.2 (by simpa using e), fun e => ih.1 (by simpa using e)⟩
    · have ih := passes_seg ps (passI lv p L) i j m (seg_keep h (by omega))
      rw [parP_lo (by omega)]
      exact ih
theorem goI_mem : ∀ (l run : List It), (∀ x ∈ run, geI lv p x = true) → ∀ x ∈ goI lv p run l, ∃ y ∈ run ++ l, x = if geI lv p y = true then flipI y else y
  | [], run, hr, x, hx => by
    have hx : x ∈ turnI run := hx
    simp only [turnI, List.mem_map, List.mem_reverse] at hx
    obtain ⟨y, hy, rfl⟩ := hx
    exact ⟨y, by simpa using hy, by rw [if_pos (hr y hy)]⟩
  | z :: l, run, hr, x, hx => by
    unfold goI at hx
    by_cases hz : geI lv p z = true
    · rw [if_pos hz] at hx
      obtain ⟨y, hy, e⟩ := goI_mem l (run ++ [z]) (fun u hu => by
        rcases List.mem_append.mp hu with hu | hu
        · exact hr u hu
        · obtain rfl : u = z := by simpa using hu
          exact hz) x hx
      exact ⟨y, by simpa using hy, e⟩
    · rw [if_neg hz] at hx
      rcases List.mem_append.mp hx with hx | hx
      · simp only [turnI, List.mem_map, List.mem_reverse] at hx
        obtain ⟨y, hy, rfl⟩ := hx
        exact ⟨y, List.mem_append_left _ hy, by rw [if_pos (hr y hy)]⟩
      · rcases List.mem_cons.mp hx with rfl | hx
        · exact ⟨x, by simp, by rw [if_neg hz]⟩
        · obtain ⟨y, hy, e⟩ := goI_mem l [] (fun u hu => nomatch hu) x hx
          exact ⟨y, by simp at hy; simp [hy], e⟩
theorem goI_perm : ∀ (l run : List It), ((goI lv p run l).map Prod.fst).Perm ((run ++ l).map Prod.fst)
  | [], run => by
    show ((turnI run).map Prod.fst).Perm _
    have e : (turnI run).map Prod.fst = (run.map Prod.fst).reverse := by
      unfold turnI; rw [List.map_map, ← List.map_reverse]; rfl
    rw [e, List.append_nil]
    exact List.reverse_perm _
  | z :: l, run => by
    unfold goI
    split
    · have := goI_perm l (run ++ [z])
      rw [List.append_assoc] at this
      exact this
    · rw [List.map_append, List.map_append, List.map_cons, List.map_cons]
      have e : (turnI run).map Prod.fst = (run.map Prod.fst).reverse := by
        unfold turnI; rw [List.map_map, ← List.map_reverse]; rfl
      rw [e]
      have := goI_perm l []
      rw [List.nil_append] at this
      exact (List.reverse_perm _).append (this.cons _)
theorem passes_perm : ∀ (ps : List Int) (L : List It), ((passesI lv ps L).map Prod.fst).Perm (L.map Prod.fst)
  | [], L => List.Perm.refl _
  | p :: ps, L => (passes_perm ps (passI lv p L)).trans (by have := goI_perm (lv := lv) (p := p) L []; rwa [List.nil_append] at this)
theorem passes_flag : ∀ (ps : List Int) (L : List It) (q : Int → Bool), (∀ x ∈ L, x.2 = q (lv x.1)) → ∀ x ∈ passesI lv ps L, x.2 = (q (lv x.1) != parP ps (lv x.1))
  | [], L, q, h, x, hx => by rw [h x hx]; show q (lv x.1) = (q (lv x.1) != false); simp
  | p :: ps, L, q, h, x, hx => by
    have ih := passes_flag ps (passI lv p L) (fun v => q v != decide (p ≤ v)) (fun y hy => by
      obtain ⟨z, hz, e⟩ := goI_mem (lv := lv) (p := p) L [] (fun u hu => nomatch hu) y hy
      rw [List.nil_append] at hz
      have hq := h z hz
      by_cases hg : geI lv p z = true
      · rw [if_pos hg] at e
        subst e
        have : decide (p ≤ lv z.1) = true := hg
        show (!z.2) = (q (lv z.1) != decide (p ≤ lv z.1))
        rw [this, hq]; simp
      · rw [if_neg hg] at e
        subst e
        have : decide (p ≤ lv y.1) = false := by simpa [geI] using hg
        rw [this, hq]; simp) x hx
    rw [ih]
    by_cases hp : p ≤ lv x.1
    · rw [parP_hi hp, decide_eq_true hp]
      cases q (lv x.1) <;> cases parP ps (lv x.1) <;> rfl
    · rw [parP_lo (by omega), decide_eq_false hp]
      cases q (lv x.1) <;> cases parP ps (lv x.1) <;> rfl
theorem passes_flat {ex : It → List Cell} {ok : It → Prop} (h : ExOk lv ex ok) (hflip : ∀ x, ok x → ok (flipI x)) : ∀ (ps : List Int) (L : List It), (∀ x ∈ L, ok x) → passesC ps (L.flatMap ex) = (passesI lv ps L).flatMap ex
  | [], L, _ => rfl
  | p :: ps, L, hL => by
    have e := pass_flat h (p := p) L [] (fun x hx => nomatch hx) hL
    rw [List.nil_append] at e
    have ih := passes_flat h hflip ps (passI lv p L) (fun x hx => by
      obtain ⟨z, hz, e⟩ := goI_mem (lv := lv) (p := p) L [] (fun u hu => nomatch hu) x hx
      rw [List.nil_append] at hz
      split at e
      · rw [e]; exact hflip z (hL z hz)
      · rw [e]; exact hL z hz)
    show passesC ps (passC p (L.flatMap ex)) = _
    rw [e]
    exact ih
end
/-! what stands ahead -/
theorem two_places {T P Q A R : List Nat} {t u : Nat} (hnd : T.Nodup) (h1 : T = P ++ t :: Q) (hu : u ∈ P) (h2 : T = A ++ t :: R) (hr : u ∈ R) : False := by
  have hidx : ∀ {P Q : List Nat}, T = P ++ t :: Q → t ∉ P := fun {P Q} e hm => by
    rw [e] at hnd
    exact (List.nodup_append.mp hnd).2.2 t hm t (by simp) rfl
  have hp : P = A := by
    have a := hidx h1
    have b := hidx h2
    have e : P ++ t :: Q = A ++ t :: R := h1.symm.trans h2
    have i1 : (P ++ t :: Q).idxOf t = P.length := by rw [List.idxOf_append, if_neg a]; simp
    have i2 : (A ++ t :: R).idxOf t = A.length := by rw [List.idxOf_append, if_neg b]; simp
    have hl : P.length = A.length := by rw [← i1, e, i2]
    exact (List.append_inj e hl).1
  subst hp
  have e : P ++ t :: Q = P ++ t :: R := h1.symm.trans h2
  have hq : Q = R := by simpa using e
  subst hq
  rw [h1] at hnd
  exact (List.nodup_append.mp hnd).2.2 u hu u (by simp [hr]) rfl
theorem ahead_count {T : List Nat} {n : Nat} {bef : Nat → Nat → Bool} (hperm : T.Perm (List.range n)) (hnd : T.Nodup) (hself : ∀ t, bef t t = false) (htot : ∀ u t, u < n → t < n → u ≠ t → bef u t = false → bef t u = true)
    (hbef : ∀ u t, u < n → t < n → bef u t = true → ∃ A M C, T = A ++ u :: (M ++ t :: C)) {P Q : List Nat} {t : Nat} (hT : T = P ++ t :: Q) : ((List.range n).filter (bef · t)).length = P.length := by
  have hmem : ∀ x, x ∈ T ↔ x < n := fun x => by rw [hperm.mem_iff, List.mem_range]
  have htn : t < n := (hmem t).mp (by rw [hT]; simp)
  rw [← (hperm.filter (bef · t)).length_eq, hT, List.filter_append, List.filter_cons, hself]
  have h1 : P.filter (bef · t) = P := List.filter_eq_self.mpr fun u hu => by
    have hun : u < n := (hmem u).mp (by rw [hT]; simp [hu])
    have hut : u ≠ t := by rintro rfl; rw [hT] at hnd; exact (List.nodup_append.mp hnd).2.2 u hu u (by simp) rfl
    cases hb : bef u t with
    | true => rfl
    | false =>
      obtain ⟨A, M, C, e⟩ := hbef t u htn hun (htot u t hun htn hut hb)
      exact (two_places hnd hT hu e (by simp)).elim
  have h2 : Q.filter (bef · t) = [] := List.filter_eq_nil_iff.mpr fun u hu hb => by
    have hun : u < n := (hmem u).mp (by rw [hT]; simp [hu])
    obtain ⟨A, M, C, e⟩ := hbef u t hun htn hb
    have e2 : T = (A ++ u :: M) ++ t :: C := by rw [e]; simp
    exact two_places hnd e2 (by simp) hT hu
  rw [h1, h2]
  simp
end Mine
end

section
open PySem PySem.W PyProof.Rows
set_option maxRecDepth 100000
namespace Mine
noncomputable def mnI (ls : List Int) (i j : Nat) : Int := ((List.range (j - i)).map (i + 1 + ·)).foldl (fun a k => min a (ls[k]?.getD 0)) (ls[i]?.getD 0)
theorem mnI_succ (ls : List Int) (i k : Nat) : mnI ls i (i + (k + 1)) = min (mnI ls i (i + k)) (ls[i + 1 + k]?.getD 0) := by
  unfold mnI
  rw [show i + (k + 1) - i = k + 1 by omega, show i + k - i = k by omega, List.range_succ, List.map_append, List.foldl_append]
  rfl
theorem mnI_zero (ls : List Int) (i : Nat) : mnI ls i (i + 0) = ls[i]?.getD 0 := by unfold mnI; rw [show i + 0 - i = 0 by omega]; rfl
theorem mnI_spec (ls : List Int) (i : Nat) : ∀ k, (∀ a, i ≤ a → a ≤ i + k → mnI ls i (i + k) ≤ ls[a]?.getD 0) ∧ ∃ a, i ≤ a ∧ a ≤ i + k ∧ mnI ls i (i + k) = ls[a]?.getD 0
  | 0 => by
    rw [mnI_zero]
    refine ⟨fun a h1 h2 => ?_, i, by omega, by omega, rfl⟩
    obtain rfl : a = i := by omega
    exact Int.le_refl _
  | k + 1 => by
    obtain ⟨h1, a, h2, h3, h4⟩ := mnI_spec ls i k
    rw [mnI_succ]
    refine ⟨fun b hb1 hb2 => ?_, ?_⟩
    · by_cases hb : b ≤ i + k
      · have := h1 b hb1 hb; omega
      · obtain rfl : b = i + 1 + k := by omega
        exact Int.min_le_right _ _
    · by_cases hc : mnI ls i (i + k) ≤ ls[i + 1 + k]?.getD 0
      · exact ⟨a, h2, by omega, by rw [Int.min_eq_left hc]; exact h4⟩
      · exact ⟨i + 1 + k, by omega, by omega, by rw [Int.min_eq_right (by omega)]⟩
noncomputable def winI (ls : List Int) (odd : List Bool) (i j : Nat) : Nat := if oddAt odd (mnI ls i j) = true then i else j
noncomputable def befI (ls : List Int) (odd : List Bool) (u t : Nat) : Bool := if u < t then !oddAt odd (mnI ls u t) else if t < u then oddAt odd (mnI ls t u) else false
theorem inner_eq (ls : List Int) (odd : List Bool) (i : Nat) (ah : List Int) : ∀ k : Nat, ((List.range k).map (i + 1 + ·)).foldl (ordStep ls odd i) (ls[i]?.getD 0, ah) =
    (mnI ls i (i + k), ((List.range k).map fun j => winI ls odd i (i + 1 + j)).foldl bump ah)
  | 0 => by rw [mnI_zero]; rfl
  | k + 1 => by
    rw [List.range_succ, List.map_append, List.foldl_append, inner_eq ls odd i ah k, List.map_append, List.foldl_append]
    simp only [List.map_cons, List.map_nil, List.foldl_cons, List.foldl_nil]
    unfold ordStep winI
    have e : min (mnI ls i (i + k)) (ls[i + 1 + k]?.getD 0) = mnI ls i (i + 1 + k) := by rw [← mnI_succ, show i + (k + 1) = i + 1 + k by omega]
    dsimp only
    rw [e, show i + (k + 1) = i + 1 + k by omega]
    split <;> rfl
noncomputable def rowI (ls : List Int) (odd : List Bool) (i : Nat) : List Nat := (List.range (ls.length - (i + 1))).map fun j => winI ls odd i (i + 1 + j)
theorem ordRow_eq (ls : List Int) (odd : List Bool) (ah : List Int) (i : Nat) : ordRow ls odd ah i = (rowI ls odd i).foldl bump ah := by
  unfold ordRow; rw [inner_eq]; rfl
theorem rows_eq (ls : List Int) (odd : List Bool) : ∀ (js : List Nat) (ah : List Int), js.foldl (ordRow ls odd) ah = (js.flatMap (rowI ls odd)).foldl bump ah
  | [], ah => rfl
  | j :: js, ah => by rw [List.foldl_cons, ordRow_eq, rows_eq, List.flatMap_cons, List.foldl_append]
theorem bump_get : ∀ (W : List Nat) (l : List Int) (t : Nat), t < l.length → (W.foldl bump l)[t]? = some (l[t]?.getD 0 + (W.count t : Nat))
  | [], l, t, h => by rw [List.foldl_nil, List.getElem?_eq_getElem h]; simp
  | w :: W, l, t, h => by
    rw [List.foldl_cons, bump_get W (bump l w) t (by rw [bump_len]; exact h), List.count_cons]
    congr 1
    unfold bump
    by_cases hw : w = t
    · subst hw
      rw [List.getElem?_set_self h]
      simp; omega
    · rw [List.getElem?_set_ne hw]
      simp [hw]
theorem countP_single (c : Bool) (k0 : Nat) : ∀ N : Nat, (List.range N).countP (fun k => k == k0 && c) = if k0 < N ∧ c = true then 1 else 0
  | 0 => by simp
  | N + 1 => by
    rw [List.range_succ, List.countP_append, countP_single c k0 N]
    simp only [List.countP_cons, List.countP_nil]
    cases c with
    | false => simp
    | true =>
      by_cases h : N = k0
      · subst h; simp
      · by_cases h2 : k0 < N
        · have : k0 < N + 1 := by omega
          simp [h, h2, this]
        · have : ¬ k0 < N + 1 := by omega
          simp [h, h2, this]
theorem row_before {ls : List Int} {odd : List Bool} {i t : Nat} (hit : i < t) (ht : t < ls.length) : (rowI ls odd i).count t = if befI ls odd i t = true then 1 else 0 := by
  unfold rowI
  rw [List.count_eq_countP, List.countP_map]
  have e : (List.range (ls.length - (i + 1))).countP ((fun x => x == t) ∘ fun j => winI ls odd i (i + 1 + j)) = (List.range (ls.length - (i + 1))).countP (fun k => k == t - (i + 1) && befI ls odd i t) := by
    apply List.countP_congr
    intro k hk
    simp only [Function.comp]
    unfold winI befI
    rw [if_pos hit]
    by_cases hk2 : k = t - (i + 1)
    · have e2 : i + 1 + k = t := by omega
      rw [e2]
      cases oddAt odd (mnI ls i t) with
      | true => simp; omega
      | false => simp [hk2]
    · constructor
      · intro h
        exfalso
        split at h
        · simp at h; omega
        · simp at h; omega
      · intro h
        simp at h
        omega
  rw [e, countP_single]
  have : t - (i + 1) < ls.length - (i + 1) := by omega
  simp [this]
theorem row_self {ls : List Int} {odd : List Bool} {t : Nat} : (rowI ls odd t).count t = (((List.range (ls.length - (t + 1))).map (t + 1 + ·)).filter (befI ls odd · t)).length := by
  unfold rowI
  rw [List.count_eq_countP, List.countP_map, ← List.countP_eq_length_filter, List.countP_map]
  apply List.countP_congr
  intro k hk
  have e1 : befI ls odd (t + 1 + k) t = oddAt odd (mnI ls t (t + 1 + k)) := by unfold befI; rw [if_neg (by omega), if_pos (by omega)]
  simp only [Function.comp]
  rw [e1]
  unfold winI
  cases oddAt odd (mnI ls t (t + 1 + k)) with
  | true => simp
  | false => simp; omega
theorem row_after {ls : List Int} {odd : List Bool} {i t : Nat} (h : t < i) : (rowI ls odd i).count t = 0 := by
  rw [List.count_eq_zero]
  intro hm
  obtain ⟨j, _, e⟩ := List.mem_map.mp hm
  unfold winI at e
  split at e <;> omega
theorem rows_before {ls : List Int} {odd : List Bool} {t : Nat} (ht : t < ls.length) : ∀ r, r ≤ t → ((List.range r).flatMap (rowI ls odd)).count t = ((List.range r).filter (befI ls odd · t)).length
  | 0, _ => rfl
  | r + 1, hr => by
    rw [List.range_succ, List.flatMap_append, List.count_append, rows_before ht r (by omega), List.filter_append, List.length_append]
    congr 1
    rw [List.flatMap_singleton, row_before (by omega) ht, List.filter_cons]
    split <;> rfl
theorem rows_after {ls : List Int} {odd : List Bool} {t : Nat} : ∀ js : List Nat, (∀ j ∈ js, t < j) → (js.flatMap (rowI ls odd)).count t = 0
  | [], _ => rfl
  | j :: js, h => by rw [List.flatMap_cons, List.count_append, row_after (h j List.mem_cons_self), rows_after js fun x hx => h x (List.mem_cons_of_mem _ hx)]
theorem ahead_get {ls : List Int} {odd : List Bool} {t : Nat} (ht : t < ls.length) : (aheadOf ls odd)[t]? = some ((((List.range ls.length).filter (befI ls odd · t)).length : Nat) : Int) := by
  unfold aheadOf
  rw [rows_eq, bump_get _ _ _ (by simpa using ht)]
  congr 1
  rw [List.getElem?_replicate, if_pos ht]
  have hr : List.range ls.length = List.range t ++ (t :: (List.range (ls.length - (t + 1))).map (t + 1 + ·)) := by
    conv => lhs; rw [show ls.length = t + (1 + (ls.length - (t + 1))) by omega, List.range_add, List.range_add]
    rw [List.map_append, List.map_map]
    simp only [List.range_one, List.map_cons, List.map_nil, List.singleton_append, Nat.add_zero]
    congr 2
    apply List.map_congr_left
    intro k _
    simp only [Function.comp]
    omega
  rw [hr, List.flatMap_append, List.flatMap_cons, List.count_append, List.count_append, rows_before ht t (Nat.le_refl _), row_self, rows_after _ (fun j hj => by
    obtain ⟨k, _, rfl⟩ := List.mem_map.mp hj; omega), List.filter_append, List.filter_cons]
  have e : befI ls odd t t = false := by unfold befI; rw [if_neg (by omega), if_neg (by omega)]
  rw [e]
  simp
end Mine
end

section
open PySem PySem.W PyProof.Rows
set_option maxRecDepth 100000
namespace Mine
/-! levels -/
theorem lvUp_fold : ∀ (l : List Int) (a : Int), 0 ≤ a → 0 ≤ l.foldl lvUp a ∧ l.foldl lvUp a ≤ a + 2 * (l.length : Int)
  | [], a, h => by simp; exact h
  | r :: l, a, h => by
    have h1 : lvUp a r ≥ a + 1 ∧ lvUp a r ≤ a + 2 := by unfold lvUp; omega
    have ih := lvUp_fold l (lvUp a r) (by omega)
    rw [List.foldl_cons, List.length_cons]
    omega
theorem levelOf_le (rs : List Int) : 0 ≤ levelOf rs ∧ levelOf rs ≤ 2 * (rs.length : Int) := by
  unfold levelOf lvBack
  have h1 := lvUp_fold ((rs.reverse.foldl lvStep (0, [])).2) 0 (by omega)
  have h2 := lvFold_len rs.reverse (0, [])
  simp only [List.length_reverse, List.length_nil] at h2
  omega
theorem mtR_level : ∀ (l : List Dr) (p : List Int), ∀ m ∈ mtR p l, 0 ≤ m.level ∧ m.level ≤ 2 * ((p.length : Int) + l.length)
  | [], p, m, hm => nomatch hm
  | x :: l, p, m, hm => by
    unfold mtR at hm
    have ih := mtR_level l (p ++ [x.role]) m
    rw [List.length_append, List.length_singleton] at ih
    rw [List.length_cons]
    split at hm
    · rcases List.mem_cons.mp hm with rfl | hm
      · have := levelOf_le p
        dsimp only
        omega
      · have := ih hm; omega
    · have := ih hm; omega
theorem mtR_ne : ∀ (l : List Dr) (p : List Int), (∃ x ∈ l, x.role = 0) → mtR p l ≠ []
  | [], p, h => by obtain ⟨x, hx, _⟩ := h; cases hx
  | x :: l, p, h => by
    unfold mtR
    by_cases h0 : x.role = 0
    · rw [if_pos h0]; exact List.cons_ne_nil _ _
    · rw [if_neg h0]
      refine mtR_ne l _ ?_
      obtain ⟨y, hy, e⟩ := h
      rcases List.mem_cons.mp hy with rfl | hy
      · exact absurd e h0
      · exact ⟨y, hy, e⟩
theorem max_fold : ∀ (l : List Int) (a : Int), a ≤ l.foldl max a ∧ (∀ x ∈ l, x ≤ l.foldl max a) ∧ (l.foldl max a = a ∨ l.foldl max a ∈ l)
  | [], a => ⟨Int.le_refl _, (fun x hx => nomatch hx), .inl rfl⟩
  | y :: l, a => by
    obtain ⟨h1, h2, h3⟩ := max_fold l (max a y)
    rw [List.foldl_cons]
    refine ⟨by omega, fun x hx => ?_, ?_⟩
    · rcases List.mem_cons.mp hx with rfl | hx
      · omega
      · exact h2 x hx
    · rcases h3 with h | h
      · by_cases hc : y ≤ a
        · exact .inl (by omega)
        · refine .inr ?_
          rw [h, show max a y = y by omega]; exact List.mem_cons_self
      · exact .inr (List.mem_cons_of_mem _ h)
theorem high_facts {ms : List Mt} {B : Int} (hne : ms ≠ []) (h : ∀ m ∈ ms, 0 ≤ m.level ∧ m.level ≤ B) : (highOf ms : Int) ∈ ms.map Mt.level ∧ (∀ a ∈ ms.map Mt.level, 0 ≤ a ∧ a ≤ (highOf ms : Nat)) ∧ (highOf ms : Int) ≤ B := by
  have hl : ∀ a ∈ ms.map Mt.level, 0 ≤ a ∧ a ≤ B := fun a ha => by
    obtain ⟨m, hm, rfl⟩ := List.mem_map.mp ha; exact h m hm
  have hne' : ms.map Mt.level ≠ [] := by simpa using hne
  obtain ⟨h1, h2, h3⟩ := max_fold (ms.map Mt.level) 0
  have hh : (highOf ms : Int) = (ms.map Mt.level).foldl max 0 := by unfold highOf; omega
  have hmem : (ms.map Mt.level).foldl max 0 ∈ ms.map Mt.level := by
    rcases h3 with h | h
    · obtain ⟨y, ys, e⟩ := List.exists_cons_of_ne_nil hne'
      have hy : y ∈ ms.map Mt.level := by rw [e]; exact List.mem_cons_self
      have a := h2 y hy
      have b := (hl y hy).1
      rw [h] at a ⊢
      rw [show (0 : Int) = y by omega]; exact hy
    · exact h
  rw [hh]
  exact ⟨hmem, fun a ha => ⟨(hl a ha).1, h2 a ha⟩, (hl _ hmem).2⟩
theorem dr_102 : (drawnOf 102).role = 0 := by kernel_rfl
theorem ms_facts (script : List Int) : msOf script ≠ [] ∧ (∀ m ∈ msOf script, MtF m) ∧ ∀ m ∈ msOf script, 0 ≤ m.level ∧ m.level ≤ 28 := by
  have hd : ∀ x ∈ drOf script, drCheck x = true := fun x hx => by
    obtain ⟨n, hn, rfl⟩ := List.mem_map.mp hx
    exact dr_all (numsOf_range script n hn).1
  have hl := drOf_len script
  unfold msOf
  rw [meantOf_eq]
  refine ⟨mtR_ne _ _ ⟨drawnOf 102, List.mem_map_of_mem (by simp [numsOf]), dr_102⟩, mtR_facts _ _ hd, fun m hm => ?_⟩
  have := mtR_level _ _ m hm
  simp only [List.length_nil] at this
  omega
theorem odd_eq {ps : List Int} {h : Nat} {m : Int} (h0 : 0 ≤ m) (h1 : m ≤ h) : oddAt (oddOf ps h) m = parP ps m := by
  unfold oddAt oddOf parP cntP
  rw [List.getElem?_map, List.getElem?_range (by omega)]
  have e : ((m.toNat : Nat) : Int) = m := by omega
  simp only [Option.map_some, Option.getD_some, e]
  rw [Bool.eq_iff_iff]
  simp
  omega
/-! the arrangement -/
section
variable {ms : List Mt} {ps : List Int} {h : Nat}
noncomputable abbrev lvOf (ms : List Mt) (i : Nat) : Int := (ms.map Mt.level)[i]?.getD 0
noncomputable def L0 (n : Nat) : List It := (List.range n).map fun i => (i, false)
theorem range_split {i j n : Nat} (hij : i < j) (hj : j < n) : List.range n = List.range i ++ i :: ((List.range (j - (i + 1))).map (i + 1 + ·) ++ j :: (List.range (n - (j + 1))).map (j + 1 + ·)) := by
  conv => lhs; rw [show n = i + (1 + ((j - (i + 1)) + (1 + (n - (j + 1))))) by omega, List.range_add, List.range_add, List.range_add, List.range_add]
  simp only [List.range_one, List.map_append, List.map_map, List.map_cons, List.map_nil, List.singleton_append, Nat.add_zero]
  congr 2
  congr 1
  · apply List.map_congr_left; intro k _; simp only [Function.comp]; omega
  · congr 1
    · omega
    · apply List.map_congr_left; intro k _; simp only [Function.comp]; omega
theorem seg_start {i j : Nat} (hij : i < j) (hj : j < ms.length) : Seg (lvOf ms) (L0 ms.length) i j (mnI (ms.map Mt.level) i j) := by
  obtain ⟨h1, a, h2, h3, h4⟩ := mnI_spec (ms.map Mt.level) i (j - i)
  rw [show i + (j - i) = j by omega] at h1 h3 h4
  refine ⟨(List.range i).map fun i => (i, false), ((List.range (j - (i + 1))).map (i + 1 + ·)).map fun i => (i, false), ((List.range (ms.length - (j + 1))).map (j + 1 + ·)).map fun i => (i, false), (i, false), (j, false), ?_, rfl, rfl, ⟨h1 i (by omega) (by omega), h1 j (by omega) (by omega), fun z hz => ?_⟩, ?_⟩
  · unfold L0; rw [range_split hij hj]; simp
  · obtain ⟨b, hb, rfl⟩ := List.mem_map.mp hz
    obtain ⟨k, hk, rfl⟩ := List.mem_map.mp hb
    have := List.mem_range.mp hk
    exact h1 _ (by omega) (by omega)
  · by_cases e1 : a = i
    · subst e1; exact .inl h4
    · by_cases e2 : a = j
      · subst e2; exact .inr (.inl h4)
      · refine .inr (.inr ⟨(a, false), List.mem_map.mpr ⟨a, List.mem_map.mpr ⟨a - (i + 1), List.mem_range.mpr (by omega), by omega⟩, rfl⟩, h4⟩)
theorem L0_tags (n : Nat) : (L0 n).map Prod.fst = List.range n := by unfold L0; rw [List.map_map]; exact List.map_id' _
noncomputable def endI (ms : List Mt) (ps : List Int) : List It := passesI (lvOf ms) ps (L0 ms.length)
noncomputable def tagI (ms : List Mt) (ps : List Int) : List Nat := (endI ms ps).map Prod.fst
theorem tag_perm : (tagI ms ps).Perm (List.range ms.length) := by
  have := passes_perm (lv := lvOf ms) ps (L0 ms.length)
  rwa [L0_tags] at this
theorem tag_nd : (tagI ms ps).Nodup := tag_perm.nodup_iff.mpr List.nodup_range
theorem tag_len : (tagI ms ps).length = ms.length := by rw [tag_perm.length_eq, List.length_range]
theorem tag_lt {t : Nat} : t ∈ tagI ms ps ↔ t < ms.length := by rw [tag_perm.mem_iff, List.mem_range]
theorem mn_range (hlow : ∀ a ∈ ms.map Mt.level, 0 ≤ a ∧ a ≤ (h : Int)) {i j : Nat} (hij : i < j) (hj : j < ms.length) : 0 ≤ mnI (ms.map Mt.level) i j ∧ mnI (ms.map Mt.level) i j ≤ h := by
  obtain ⟨_, a, h2, h3, h4⟩ := mnI_spec (ms.map Mt.level) i (j - i)
  rw [show i + (j - i) = j by omega] at h3 h4
  rw [h4, List.getElem?_eq_getElem (by simp; omega)]
  exact hlow _ (List.getElem_mem _)
theorem tag_bef (hlow : ∀ a ∈ ms.map Mt.level, 0 ≤ a ∧ a ≤ (h : Int)) : ∀ u t, u < ms.length → t < ms.length → befI (ms.map Mt.level) (oddOf ps h) u t = true → ∃ A M C, tagI ms ps = A ++ u :: (M ++ t :: C) := by
  have key : ∀ u t, Seg (lvOf ms) (endI ms ps) u t (mnI (ms.map Mt.level) (min u t) (max u t)) → ∃ A M C, tagI ms ps = A ++ u :: (M ++ t :: C) := by
    intro u t ⟨A, M, C, x, y, e, ex, ey, _, _⟩
    exact ⟨A.map Prod.fst, M.map Prod.fst, C.map Prod.fst, by unfold tagI; rw [e]; simp [ex, ey]⟩
  intro u t hu ht hb
  unfold befI at hb
  by_cases h1 : u < t
  · rw [if_pos h1] at hb
    have hm := mn_range hlow h1 ht
    rw [odd_eq hm.1 hm.2] at hb
    have := (passes_seg ps _ _ _ _ (seg_start h1 ht)).2 (by simpa using hb)
    exact key u t (by rw [Nat.min_eq_left (by omega), Nat.max_eq_right (by omega)]; exact this)
  · by_cases h2 : t < u
    · rw [if_neg h1, if_pos h2] at hb
      have hm := mn_range hlow h2 hu
      rw [odd_eq hm.1 hm.2] at hb
      have := (passes_seg ps _ _ _ _ (seg_start h2 hu)).1 hb
      exact key u t (by rw [Nat.min_eq_right (by omega), Nat.max_eq_left (by omega)]; exact this)
    · rw [if_neg h1, if_neg h2] at hb; cases hb
theorem ahead_at (hlow : ∀ a ∈ ms.map Mt.level, 0 ≤ a ∧ a ≤ (h : Int)) {P Q : List Nat} {t : Nat} (hT : tagI ms ps = P ++ t :: Q) : (aheadOf (ms.map Mt.level) (oddOf ps h))[t]? = some ((P.length : Nat) : Int) := by
  have ht : t < ms.length := tag_lt.mp (by rw [hT]; simp)
  rw [ahead_get (by simpa using ht)]
  congr 2
  rw [List.length_map]
  refine ahead_count tag_perm tag_nd (fun t => by unfold befI; rw [if_neg (by omega), if_neg (by omega)]) (fun u t hu ht hne hb => ?_) (tag_bef hlow) hT
  unfold befI at hb ⊢
  by_cases h1 : u < t
  · rw [if_pos h1] at hb
    rw [if_neg (by omega), if_pos h1]
    simpa using hb
  · rw [if_neg h1, if_pos (by omega)] at hb
    rw [if_pos (by omega)]
    simpa using hb
theorem ahead_tag (hlow : ∀ a ∈ ms.map Mt.level, 0 ≤ a ∧ a ≤ (h : Int)) {i : Nat} (hi : i < (tagI ms ps).length) : (aheadOf (ms.map Mt.level) (oddOf ps h))[(tagI ms ps)[i]]? = some (i : Int) := by
  have e : tagI ms ps = (tagI ms ps).take i ++ (tagI ms ps)[i] :: (tagI ms ps).drop (i + 1) := by
    rw [← List.drop_eq_getElem_cons hi, List.take_append_drop]
  have := ahead_at (h := h) hlow e
  rw [this, List.length_take, Nat.min_eq_left (by omega)]
theorem ahead_len : (aheadOf (ms.map Mt.level) (oddOf ps h)).length = ms.length := by unfold aheadOf; rw [ordRows_len]; simp
theorem ahead_idx (hlow : ∀ a ∈ ms.map Mt.level, 0 ≤ a ∧ a ≤ (h : Int)) {i : Nat} (hi : i < (tagI ms ps).length) : (aheadOf (ms.map Mt.level) (oddOf ps h)).idxOf (i : Int) = (tagI ms ps)[i] := by
  have h1 := ahead_tag (h := h) hlow hi
  have hmem : (i : Int) ∈ aheadOf (ms.map Mt.level) (oddOf ps h) := List.mem_of_getElem? h1
  have hlt := List.idxOf_lt_length_of_mem hmem
  have hget : (aheadOf (ms.map Mt.level) (oddOf ps h))[(aheadOf (ms.map Mt.level) (oddOf ps h)).idxOf (i : Int)]? = some (i : Int) := by
    rw [List.getElem?_eq_getElem hlt, List.getElem_idxOf hlt]
  generalize hk : (aheadOf (ms.map Mt.level) (oddOf ps h)).idxOf (i : Int) = k at *
  have hkn : k < ms.length := by rw [← ahead_len (ms := ms) (ps := ps) (h := h)]; exact hlt
  have hkT : k ∈ tagI ms ps := tag_lt.mpr hkn
  obtain ⟨j, hj, e⟩ := List.getElem_of_mem hkT
  have h2 := ahead_tag (h := h) hlow hj
  rw [e, hget] at h2
  have : i = j := by have := Option.some.inj h2; omega
  subst this
  exact e.symm
theorem due_tag (hlow : ∀ a ∈ ms.map Mt.level, 0 ≤ a ∧ a ≤ (h : Int)) : dueOf ms (oddOf ps h) = (tagI ms ps).map fun t => ms.getD t mt0 := by
  unfold dueOf
  apply List.ext_getElem
  · simp [tag_len]
  · intro i h1 h2
    have hi : i < (tagI ms ps).length := by simpa using h2
    simp only [List.getElem_map, List.getElem_range]
    rw [ahead_idx hlow hi]
theorem end_flags (hlow : ∀ a ∈ ms.map Mt.level, 0 ≤ a ∧ a ≤ (h : Int)) : endI ms ps = (tagI ms ps).map fun t => (t, oddAt (oddOf ps h) (lvOf ms t)) := by
  unfold tagI
  rw [List.map_map]
  conv => lhs; rw [← List.map_id (endI ms ps)]
  apply List.map_congr_left
  intro x hx
  have hf := passes_flag ps (L0 ms.length) (fun _ => false) (fun y hy => by
    obtain ⟨i, _, rfl⟩ := List.mem_map.mp hy; rfl) x hx
  have ht : x.1 < ms.length := tag_lt.mp (List.mem_map_of_mem hx)
  have hl : 0 ≤ lvOf ms x.1 ∧ lvOf ms x.1 ≤ (h : Int) := by
    unfold lvOf
    rw [List.getElem?_eq_getElem (by simpa using ht)]
    exact hlow _ (List.getElem_mem _)
  simp only [Function.comp, id]
  rw [odd_eq hl.1 hl.2]
  obtain ⟨a, b⟩ := x
  simp only at hf ⊢
  rw [hf]
  simp
end
end Mine
end

section
open PySem PySem.W PyProof.Rows
set_option maxRecDepth 100000
namespace Mine
theorem cellU_turn (c : Int) (n : Nat) (b : Bool) : (cellU c n b).reverse = cellU c n (!b) := by
  unfold cellU octs
  rw [← List.map_reverse, ← List.map_reverse]
  congr 1
  apply List.ext_getElem
  · simp
  · intro k h1 h2
    have hk : k < n := by simpa using h2
    simp only [List.getElem_map, List.getElem_reverse, List.getElem_range, List.length_range]
    cases b with
    | false => simp; congr 3; omega
    | true => simp
theorem u8_nat {v : Int} (h0 : 0 ≤ v) (h1 : v < 256) : ((u8 v).toNat : Int) = v := by
  unfold u8
  have : v.toNat.toUInt8.toNat = v.toNat := by
    rw [Nat.toUInt8, UInt8.toNat_ofNat']
    exact Nat.mod_eq_of_lt (by omega)
  rw [this]; omega
section
variable {ms : List Mt} {ps : List Int} {h : Nat}
noncomputable def codeAt (ms : List Mt) (t : Nat) : Int := (ms.getD t mt0).code
noncomputable def wordAt' (ms : List Mt) (t : Nat) : Str := (ms.getD t mt0).word
theorem lvOf_eq {t : Nat} (ht : t < ms.length) : lvOf ms t = (ms.getD t mt0).level := by
  unfold lvOf
  rw [List.getElem?_map, List.getD_eq_getElem?_getD, List.getElem?_eq_getElem ht]; rfl
noncomputable def ex3 (ms : List Mt) (x : It) : List Cell := [(cellU (codeAt ms x.1) 3 x.2, u8 (lvOf ms x.1))]
noncomputable def ex2 (ms : List Mt) (x : It) : List Cell := (if x.2 then revS (wordAt' ms x.1) else wordAt' ms x.1).cps.toList.map fun c : Nat => (cellU (c : Int) 2 x.2, u8 (lvOf ms x.1))
theorem lv_range (hlow : ∀ a ∈ ms.map Mt.level, 0 ≤ a ∧ a ≤ (h : Int)) (hs : h < 256) {t : Nat} (ht : t < ms.length) : 0 ≤ lvOf ms t ∧ lvOf ms t < 256 := by
  have : lvOf ms t ∈ ms.map Mt.level := by
    unfold lvOf
    rw [List.getElem?_eq_getElem (by simpa using ht)]
    exact List.getElem_mem _
  have := hlow _ this
  omega
theorem geL_lv (hlow : ∀ a ∈ ms.map Mt.level, 0 ≤ a ∧ a ≤ (h : Int)) (hs : h < 256) {x : It} (hx : x.1 < ms.length) (p : Int) (b : List UInt8) : geL p (b, u8 (lvOf ms x.1)) = geI (lvOf ms) p x := by
  have := lv_range hlow hs hx
  unfold geL geI
  rw [u8_nat this.1 this.2]
theorem ex3_ok (hlow : ∀ a ∈ ms.map Mt.level, 0 ≤ a ∧ a ≤ (h : Int)) (hs : h < 256) : ExOk (lvOf ms) (ex3 ms) (fun x => x.1 < ms.length) where
  ne := fun x _ => List.cons_ne_nil _ _
  ge := fun x p hx c hc => by
    obtain rfl : c = _ := by simpa [ex3] using hc
    exact geL_lv hlow hs hx p _
  flip := fun x _ => by simp [ex3, flipI, turnC, cellU_turn]
theorem revS_list (x : Str) : (revS x).cps.toList = x.cps.toList.reverse := by simp [revS]
theorem ex2_ok (hlow : ∀ a ∈ ms.map Mt.level, 0 ≤ a ∧ a ≤ (h : Int)) (hs : h < 256) (hw : ∀ m ∈ ms, 1 ≤ m.word.cps.size) : ExOk (lvOf ms) (ex2 ms) (fun x => x.1 < ms.length) where
  ne := fun x hx e => by
    have hl := congrArg List.length e
    have hm : ms.getD x.1 mt0 ∈ ms := by rw [List.getD_eq_getElem?_getD, List.getElem?_eq_getElem hx]; exact List.getElem_mem hx
    have := hw _ hm
    unfold ex2 at hl
    rw [List.length_map, List.length_nil] at hl
    split at hl
    · rw [revS_list, List.length_reverse, Array.length_toList] at hl; unfold wordAt' at hl; omega
    · rw [Array.length_toList] at hl; unfold wordAt' at hl; omega
  ge := fun x p hx c hc => by
    obtain ⟨d, _, rfl⟩ := List.mem_map.mp hc
    exact geL_lv hlow hs hx p _
  flip := fun x _ => by
    obtain ⟨t, b⟩ := x
    unfold ex2 flipI turnC
    rw [← List.map_reverse, List.map_map]
    have e : (if (!b) = true then revS (wordAt' ms t) else wordAt' ms t).cps.toList = ((if b = true then revS (wordAt' ms t) else wordAt' ms t).cps.toList).reverse := by
      cases b <;> simp [revS]
    dsimp only
    rw [e]
    apply List.map_congr_left
    intro c _
    simp only [Function.comp, cellU_turn]
theorem ms_range : ms = (List.range ms.length).map fun t => ms.getD t mt0 := by
  apply List.ext_getElem
  · simp
  · intro k h1 h2
    simp only [List.getElem_map, List.getElem_range]
    rw [List.getD_eq_getElem?_getD, List.getElem?_eq_getElem h1]; rfl
theorem flat_one {α β : Type} (f : α → β) : ∀ l : List α, l.flatMap (fun x => [f x]) = l.map f
  | [] => rfl
  | x :: l => by rw [List.flatMap_cons, flat_one f l]; rfl
theorem flat_congr {α β : Type} {f g : α → List β} : ∀ {l : List α}, (∀ x ∈ l, f x = g x) → l.flatMap f = l.flatMap g
  | [], _ => rfl
  | x :: l, h => by rw [List.flatMap_cons, List.flatMap_cons, h x List.mem_cons_self, flat_congr fun y hy => h y (List.mem_cons_of_mem _ hy)]
theorem flat_map {α β γ : Type} (f : α → β) (g : β → List γ) : ∀ l : List α, (l.map f).flatMap g = l.flatMap fun x => g (f x)
  | [] => rfl
  | x :: l => by rw [List.map_cons, List.flatMap_cons, List.flatMap_cons, flat_map f g l]
theorem map_flat {α β γ : Type} (f : α → List β) (g : β → γ) : ∀ l : List α, (l.flatMap f).map g = l.flatMap fun x => (f x).map g
  | [] => rfl
  | x :: l => by rw [List.flatMap_cons, List.flatMap_cons, List.map_append, map_flat f g l]
theorem getD_mem {t : Nat} (ht : t < ms.length) : ms.getD t mt0 ∈ ms := by rw [List.getD_eq_getElem?_getD, List.getElem?_eq_getElem ht]; exact List.getElem_mem ht
theorem signs_ok (hlow : ∀ a ∈ ms.map Mt.level, 0 ≤ a ∧ a ≤ (h : Int)) (hs : h < 256) (hf : ∀ m ∈ ms, MtF m) :
    passesC ps ((ms.map fun m => (m.code.toNat, m.level)).map (signC 3)) = (dueOf ms (oddOf ps h)).map (dueC (oddOf ps h)) := by
  have e1 : (ms.map fun m => (m.code.toNat, m.level)).map (signC 3) = (L0 ms.length).flatMap (ex3 ms) := by
    unfold L0
    rw [flat_map]
    unfold ex3
    rw [flat_one]
    conv => lhs; rw [ms_range (ms := ms)]
    rw [List.map_map, List.map_map]
    apply List.map_congr_left
    intro t ht
    have ht := List.mem_range.mp ht
    have hm := hf _ (getD_mem ht)
    have hc : (((ms.getD t mt0).code.toNat : Nat) : Int) = (ms.getD t mt0).code := by have := hm.lo; omega
    simp only [Function.comp]
    unfold signC codeAt
    dsimp only
    rw [hc, lvOf_eq ht]
  rw [e1, passes_flat (ex3_ok hlow hs) (fun x hx => hx) ps _ (fun x hx => by
    obtain ⟨i, hi, rfl⟩ := List.mem_map.mp hx; exact List.mem_range.mp hi)]
  show (endI ms ps).flatMap (ex3 ms) = _
  rw [end_flags (h := h) hlow, due_tag hlow, flat_map, List.map_map]
  unfold ex3
  rw [flat_one]
  apply List.map_congr_left
  intro t ht
  have ht := tag_lt.mp ht
  simp only [Function.comp]
  unfold dueC codeAt
  rw [lvOf_eq ht]
theorem letters_ok (hlow : ∀ a ∈ ms.map Mt.level, 0 ≤ a ∧ a ≤ (h : Int)) (hs : h < 256) (hf : ∀ m ∈ ms, MtF m) :
    passesC ps ((spelledOf b3F (ms.map fun m => (m.code.toNat, m.level))).map (signC 2)) = (spelledAs (oddOf ps h) (dueOf ms (oddOf ps h))).map (spC (oddOf ps h)) := by
  have e1 : (spelledOf b3F (ms.map fun m => (m.code.toNat, m.level))).map (signC 2) = (L0 ms.length).flatMap (ex2 ms) := by
    unfold L0 spelledOf
    rw [flat_map, flat_map, map_flat]
    conv => lhs; rw [ms_range (ms := ms)]
    rw [flat_map]
    apply flat_congr
    intro t ht
    have ht := List.mem_range.mp ht
    have hm := hf _ (getD_mem ht)
    unfold ex2 wordAt'
    rw [hm.word, List.map_map]
    simp only [Bool.false_eq_true, if_false]
    apply List.map_congr_left
    intro c _
    simp only [Function.comp]
    unfold signC
    dsimp only
    rw [lvOf_eq ht]
  rw [e1, passes_flat (ex2_ok hlow hs fun m hm => (hf m hm).w1) (fun x hx => hx) ps _ (fun x hx => by
    obtain ⟨i, hi, rfl⟩ := List.mem_map.mp hx; exact List.mem_range.mp hi)]
  show (endI ms ps).flatMap (ex2 ms) = _
  rw [end_flags (h := h) hlow, due_tag hlow, flat_map]
  unfold spelledAs
  rw [flat_map, map_flat]
  apply flat_congr
  intro t ht
  have ht := tag_lt.mp ht
  unfold ex2 wordAs wordAt'
  rw [List.map_map, lvOf_eq ht]
  apply List.map_congr_left
  intro c _
  rfl
theorem spelled_len (hf : ∀ m ∈ ms, MtF m) (hl : ms.length ≤ 14) : (spelledOf b3F (ms.map fun m => (m.code.toNat, m.level))).length ≤ 1000 := by
  have key : ∀ l : List Mt, (∀ m ∈ l, MtF m) → (spelledOf b3F (l.map fun m => (m.code.toNat, m.level))).length ≤ 8 * l.length := by
    intro l
    induction l with
    | nil => intro _; exact Nat.le_refl _
    | cons m l ih =>
      intro h
      have hm := h m List.mem_cons_self
      have := ih fun x hx => h x (List.mem_cons_of_mem _ hx)
      unfold spelledOf at this ⊢
      rw [List.map_cons, List.flatMap_cons, List.length_append, List.length_map, hm.word, Array.length_toList, List.length_cons]
      have := hm.w2
      omega
  have := key ms hf
  omega
end
theorem lay_ints : ∀ l : List Int, (∀ x ∈ l, x.natAbs ≤ 14) → PyData.canLayAll0 (l.map .int) = true ∧ PyData.depthAll (l.map .int) = 0 ∧ PyData.weightAll (l.map .int) ≤ 16 * l.length
  | [], _ => ⟨rfl, rfl, Nat.le_refl _⟩
  | x :: l, h => by
    obtain ⟨a, b, c⟩ := lay_ints l fun y hy => h y (List.mem_cons_of_mem _ hy)
    have hx := h x List.mem_cons_self
    refine ⟨?_, ?_, ?_⟩
    · show (PyData.canLay0 (.int x) && PyData.canLayAll0 (l.map .int)) = true
      rw [a]; rfl
    · show max (PyData.depth (.int x)) (PyData.depthAll (l.map .int)) = 0
      rw [b]; rfl
    · show PyData.weight (.int x) + 1 + PyData.weightAll (l.map .int) ≤ _
      have hw : PyData.weight (.int x) ≤ 15 := by
        show (if (x == 0) = true then 0 else x.natAbs.log2 + 1) ≤ 15
        have := Nat.log2_le_self x.natAbs
        split <;> omega
      rw [List.length_cons]; omega
theorem lay_list {l : List Int} (h : ∀ x ∈ l, x.natAbs ≤ 14) (hl : l.length ≤ 14) : PyData.layable0 (.list (l.map .int)) = true := by
  obtain ⟨a, b, c⟩ := lay_ints l h
  show (PyData.canLayAll0 (l.map .int) && decide (PyData.depthAll (l.map .int) + 1 ≤ 64) && decide (PyData.weightAll (l.map .int) ≤ 2 ^ 20)) = true
  rw [a, b, decide_eq_true (show PyData.weightAll (l.map .int) ≤ 2 ^ 20 by omega)]
  rfl
theorem law_facts (script : List Int) (hs : script.length ≤ 63) : LawFacts b3F script := by
  obtain ⟨hne, hf, hlv⟩ := ms_facts script
  obtain ⟨h1, h2, h3⟩ := high_facts hne hlv
  have hml : (msOf script).length ≤ 14 := Nat.le_trans (meantOf_len _) (drOf_len script)
  have hsm : highOf (msOf script) < 256 := by omega
  have hlvs : ∀ x ∈ shOf script, ∃ m ∈ msOf script, x = (m.code.toNat, m.level) := fun x hx => by
    rw [sh_ms] at hx
    obtain ⟨m, hm, rfl⟩ := List.mem_map.mp hx
    exact ⟨m, hm, rfl⟩
  have hdr : ∀ x ∈ drOf script, drCheck x = true := fun x hx => by
    obtain ⟨n, hn, rfl⟩ := List.mem_map.mp hx
    exact dr_all (numsOf_range script n hn).1
  have htag : ∀ i : Nat, i < (msOf script).length → i < (tagI (msOf script) (psOf script)).length := fun i hi => by rw [tag_len]; exact hi
  exact {
    ok := fun x hx => by
      have hx := hdr x hx
      unfold drCheck at hx
      simp only [Bool.and_eq_true, decide_eq_true_eq, beq_iff_eq] at hx
      obtain ⟨⟨⟨⟨⟨⟨⟨⟨c0, c1⟩, hb1⟩, hc8⟩, r1⟩, r2⟩, r3⟩, w0⟩, hany⟩ := hx
      exact ⟨c0, c1, hb1, hc8⟩
    high := h1
    low := h2
    small := hsm
    shlev := fun x hx => by
      obtain ⟨m, hm, rfl⟩ := hlvs x hx
      have := hlv m hm
      dsimp only; omega
    shfit := fun x hx => by
      obtain ⟨m, hm, rfl⟩ := hlvs x hx
      exact (hf m hm).fit
    splen := by rw [sh_ms]; exact spelled_len hf hml
    perm := fun i hi => List.mem_of_getElem? (ahead_tag (h := highOf (msOf script)) h2 (htag i hi))
    lay := lay_list (fun x hx => by
      obtain ⟨t, ht, e⟩ := List.getElem_of_mem hx
      have ht' : t < ((msOf script).map Mt.level).length := by rw [List.length_map, ← ahead_len (ms := msOf script) (ps := psOf script) (h := highOf (msOf script))]; exact ht
      have e2 := ahead_get (odd := odOf script) ht'
      rw [List.getElem?_eq_getElem ht, e] at e2
      have e3 := Option.some.inj e2
      have h4 : ((List.range ((msOf script).map Mt.level).length).filter (befI ((msOf script).map Mt.level) (odOf script) · t)).length ≤ ((msOf script).map Mt.level).length := by
        refine Nat.le_trans (List.length_filter_le _ _) ?_
        rw [List.length_range]; exact Nat.le_refl _
      simp only [List.length_map] at h4 e3
      omega) (by
      show (aheadOf ((msOf script).map Mt.level) (oddOf (psOf script) (highOf (msOf script)))).length ≤ 14
      rw [ahead_len]; exact hml)
    idx := fun i hi => by
      show (aheadOf ((msOf script).map Mt.level) (oddOf (psOf script) (highOf (msOf script)))).idxOf (i : Int) < _
      rw [ahead_idx h2 (htag i hi)]
      exact tag_lt.mp (List.getElem_mem _)
    signs := by rw [sh_ms]; exact signs_ok h2 hsm hf
    letters := by rw [sh_ms]; exact letters_ok h2 hsm hf
    code := fun m hm => ⟨(hf m hm).lo, (hf m hm).hi⟩
    word := fun m hm => (hf m hm).word
    wsize := fun m hm => Nat.le_trans (hf m hm).w2 (by decide)
    fit := fun m hm => (hf m hm).fit }
end Mine
end

section
open PySem PySem.W PyProof.Rows
set_option maxRecDepth 100000
set_option maxHeartbeats 8000000
namespace Mine
theorem said_a1 : sreFenced PySem.Challenge.rw_ph0141_01.row.prog.main = true := by kernel_rfl
theorem said_a3 : namesResolve PySem.Challenge.rw_ph0141_01.row.prog = true := by kernel_rfl
theorem said_a6 : namesMeet PySem.Challenge.rw_ph0141_01.row.prog PySem.Challenge.rw_ph0141_01.row.prog.main.body (fun _ n => attrL n) = true := by kernel_rfl
theorem said_a : looksOpen PySem.Challenge.rw_ph0141_01.row.prog = true := by
  unfold looksOpen
  refine look_both (look_both (look_both (look_both (look_both said_a1 ?_) said_a3) ?_) ?_) said_a6
  all_goals kernel_rfl
theorem said_b : PySem.Challenge.rw_ph0141_01.row.wellSaid = true := by
  unfold OpenRow.wellSaid OpenRow.partSaid
  refine look_both (look_both (look_both (look_both (look_both (look_both (look_both (look_both (look_both (look_both (look_both (look_both (look_both (look_both (look_both said_a ?_) ?_) ?_) ?_) ?_) ?_) ?_) ?_) ?_) ?_) ?_) ?_) ?_) ?_) ?_
  all_goals kernel_rfl
theorem said_ok : PySem.Challenge.rw_ph0141_01.wellSaid = true := by
  unfold OpenLaw.wellSaid
  refine look_both (look_both (look_both (look_both (look_both (look_both (look_both (look_both (look_both (look_both (look_both (look_both (look_both (look_both (look_both (look_both (look_both (look_both said_b ?_) ?_) ?_) ?_) ?_) ?_) ?_) ?_) ?_) ?_) ?_) ?_) ?_) ?_) ?_) ?_) ?_) ?_
  all_goals kernel_rfl
end Mine
end

open PySem PySem.W PyProof.Rows
set_option maxRecDepth 100000 in
theorem PySem.Challenge.cw_ph0141_01_holds : PySem.Challenge.rw_ph0141_01.Holds := by
  exact holds_law Mine.said_ok (fun said => Mine.holds_of Mine.law_facts said)
