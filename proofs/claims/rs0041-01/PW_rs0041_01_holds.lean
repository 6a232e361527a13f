import PyProof.Rows.All
import Wide.All
import OpenK.AllK
import Wide.FinOn
import PySem.Challenge.RW_rs0041_01
set_option Elab.async false

-- LcA
section
open PySem PySem.W PyProof.Rows
set_option Elab.async false
set_option maxRecDepth 100000
namespace Mine

/-- only heap and toks may have changed, every object is kept -/
def Kp (s s' : Shared) : Prop := ∃ h' tk, s' = { s with heap := h', toks := tk } ∧ ∀ b o, s.heap.get? b = some o → h'.get? b = some o

/-- plain data -/
inductive D where
  | none
  | int (i : Int)
  | bool (b : Bool)
  | str (s : Str)
  | list (l : List D)
  | tup (l : List D)

mutual
/-- v stands for d in the heap h, all addresses in F -/
inductive Rep (h : Heap) (F : Addr → Prop) : Value → D → Prop
  | none : Rep h F .none .none
  | int (i : Int) (t : Tok) : Rep h F (.int i t) (.int i)
  | bool (b : Bool) : Rep h F (.bool b) (.bool b)
  | str (x : Str) (t : Tok) : Rep h F (.str x t) (.str x)
  | list {a : Addr} {vs : List Value} {ds : List D} : F a → h.PlainList a vs.toArray → Reps h F vs ds → Rep h F (.ref a) (.list ds)
  | tup {a : Addr} {vs : List Value} {ds : List D} : F a → h.IsTuple a vs.toArray → Reps h F vs ds → Rep h F (.ref a) (.tup ds)
inductive Reps (h : Heap) (F : Addr → Prop) : List Value → List D → Prop
  | nil : Reps h F [] []
  | cons {v : Value} {d : D} {vs : List Value} {ds : List D} : Rep h F v d → Reps h F vs ds → Reps h F (v :: vs) (d :: ds)
end

def Any : Addr → Prop := fun _ => True
def Fresh (s : Shared) : Addr → Prop := fun a => s.heap.get? a = none

mutual
theorem Rep.keeps {h h' : Heap} {F F' : Addr → Prop} (hk : ∀ b o, F b → h.get? b = some o → h'.get? b = some o ∧ F' b) : ∀ {v : Value} {d : D}, Rep h F v d → Rep h' F' v d
  | _, _, .none => .none
  | _, _, .int i t => .int i t
  | _, _, .bool b => .bool b
  | _, _, .str x t => .str x t
  | _, _, .list fa hl r => by
      obtain ⟨n, e⟩ := hl
      exact .list (hk _ _ fa e).2 ⟨n, (hk _ _ fa e).1⟩ (Reps.keeps hk r)
  | _, _, .tup fa hl r => by
      obtain ⟨o, e, q⟩ := hl
      exact .tup (hk _ _ fa e).2 ⟨o, (hk _ _ fa e).1, q⟩ (Reps.keeps hk r)
theorem Reps.keeps {h h' : Heap} {F F' : Addr → Prop} (hk : ∀ b o, F b → h.get? b = some o → h'.get? b = some o ∧ F' b) : ∀ {vs : List Value} {ds : List D}, Reps h F vs ds → Reps h' F' vs ds
  | _, _, .nil => .nil
  | _, _, .cons r rs => .cons (Rep.keeps hk r) (Reps.keeps hk rs)
end

theorem Rep.any {h : Heap} {F : Addr → Prop} {v : Value} {d : D} (r : Rep h F v d) : Rep h Any v d := r.keeps fun _ _ _ e => ⟨e, trivial⟩
theorem Reps.any {h : Heap} {F : Addr → Prop} {v : List Value} {d : List D} (r : Reps h F v d) : Reps h Any v d := r.keeps fun _ _ _ e => ⟨e, trivial⟩
theorem Reps.length {h : Heap} {F : Addr → Prop} : ∀ {vs : List Value} {ds : List D}, Reps h F vs ds → vs.length = ds.length
  | _, _, .nil => rfl
  | _, _, .cons _ rs => congrArg (· + 1) rs.length
theorem Reps.get {h : Heap} {F : Addr → Prop} : ∀ {vs : List Value} {ds : List D}, Reps h F vs ds → ∀ (i : Nat) {d : D}, ds[i]? = some d → ∃ v, vs[i]? = some v ∧ Rep h F v d
  | _, _, .nil, _, _, e => by simp at e
  | _, _, .cons r _, 0, _, e => by simp at e; subst e; exact ⟨_, rfl, r⟩
  | _, _, .cons _ rs, i + 1, _, e => by simp at e; simpa using rs.get i e
theorem Reps.getv {h : Heap} {F : Addr → Prop} : ∀ {vs : List Value} {ds : List D}, Reps h F vs ds → ∀ (i : Nat) {v : Value}, vs[i]? = some v → ∃ d, ds[i]? = some d ∧ Rep h F v d
  | _, _, .nil, _, _, e => by simp at e
  | _, _, .cons r _, 0, _, e => by simp at e; subst e; exact ⟨_, rfl, r⟩
  | _, _, .cons _ rs, i + 1, _, e => by simp at e; simpa using rs.getv i e
theorem Reps.snoc {h : Heap} {F : Addr → Prop} : ∀ {vs : List Value} {ds : List D} {v : Value} {d : D}, Reps h F vs ds → Rep h F v d → Reps h F (vs ++ [v]) (ds ++ [d])
  | _, _, _, _, .nil, r => .cons r .nil
  | _, _, _, _, .cons q qs, r => .cons q (qs.snoc r)
theorem Reps.drop {h : Heap} {F : Addr → Prop} : ∀ {vs : List Value} {ds : List D} (n : Nat), Reps h F vs ds → Reps h F (vs.drop n) (ds.drop n)
  | _, _, 0, r => by simpa using r
  | _, _, _ + 1, .nil => .nil
  | _, _, n + 1, .cons _ rs => by simpa using rs.drop n
theorem Reps.take {h : Heap} {F : Addr → Prop} : ∀ {vs : List Value} {ds : List D} (n : Nat), Reps h F vs ds → Reps h F (vs.take n) (ds.take n)
  | _, _, 0, _ => .nil
  | _, _, _ + 1, .nil => .nil
  | _, _, n + 1, .cons r rs => by simpa using .cons r (rs.take n)

/-- a store: what each name holds -/
abbrev Sto := List (Str × D)

/-- the name x is bound to v -/
def Loads (env : Env) (h : Heap) (x : Str) (v : Value) : Prop :=
  (env.kindOf x = some .local ∧ ∃ m, h.Ns env.locals m ∧ m x = some v) ∨ (env.kindOf x = some .cell ∧ ∃ c, env.cells.lookup x = some c ∧ h.IsCell c (some v))

theorem Loads.keeps {env : Env} {h h' : Heap} {x : Str} {v : Value} (l : Loads env h x v) (hk : ∀ b o, h.get? b = some o → h'.get? b = some o) : Loads env h' x v := by
  rcases l with ⟨a, m, b, c⟩ | ⟨a, c, b, d⟩
  · exact .inl ⟨a, m, b.keeps hk, c⟩
  · exact .inr ⟨a, c, b, d.keeps hk⟩

/-- the i-th statement of the text's top, a def -/
def defAt (prog : Program) (i : Nat) : Option (Arguments × List Stmt × Scope) := match prog.main.body[i]? with
  | some (.FunctionDef _ args body _ _ _ scope _ _ _) => some (args, body, scope)
  | _ => none

/-- the heap bears at f the def of that statement -/
structure FnAt (prog : Program) (h : Heap) (f : Addr) (i : Nat) (fd : FuncData) : Prop where
  obj : ∃ o, h.get? f = some o ∧ o.data = .func fd
  code : h.CodeRec fd.code fd.qualname
  is : ∃ args body scope, defAt prog i = some (args, body, scope) ∧ fd.params = args ∧ fd.body = .stmts body ∧ fd.scope = scope
  bind : ∀ vs : List Value, vs.length = fd.params.args.length → bindArgs fd ⟨vs, []⟩ = pure ((fd.params.args.map (·.arg)).zip vs)
  globals : fd.globals = mainGlobals
  builtins : fd.builtins = builtinsNs
  closure : fd.closure = []

theorem FnAt.keeps {prog : Program} {h h' : Heap} {f : Addr} {i : Nat} {fd : FuncData} (x : FnAt prog h f i fd) (hk : ∀ b o, h.get? b = some o → h'.get? b = some o) : FnAt prog h' f i fd :=
  ⟨let ⟨o, a, b⟩ := x.obj; ⟨o, hk _ _ a, b⟩, x.code.keeps hk, x.is, x.bind, x.globals, x.builtins, x.closure⟩

/-- what the walk needs of the module's top -/
structure GL (prog : Program) (mg mb : Str → Option Value) (fns : List (Str × Nat × Addr × FuncData)) (h : Heap) : Prop where
  g : h.Ns mainGlobals mg
  b : h.Ns builtinsNs mb
  lim : h.NoLimit
  bu : ∀ x : Str, x ∈ (["len", "range", "sum", "enumerate", "sorted", "max"] : List Str) → mg x = none ∧ mb x = bootBuiltins x
  fn : ∀ p ∈ fns, mg p.1 = some (.ref p.2.2.1) ∧ FnAt prog h p.2.2.1 p.2.1 p.2.2.2
  ell : ∃ t, mg "ELLIPSIS_MARKER" = some (.str "..." t)

theorem GL.keeps {prog : Program} {mg mb : Str → Option Value} {fns : List (Str × Nat × Addr × FuncData)} {h h' : Heap} (x : GL prog mg mb fns h) (hk : ∀ b o, h.get? b = some o → h'.get? b = some o) : GL prog mg mb fns h' :=
  ⟨x.g.keeps hk, x.b.keeps hk, x.lim.keeps hk, x.bu, fun p hp => ⟨(x.fn p hp).1, (x.fn p hp).2.keeps hk⟩, x.ell⟩

/-- room for n more calls -/
structure Room (n : Nat) (A : Around) : Prop where
  hd : A.handled = none
  depth : A.depth + n ≤ 900
  units : A.units + 100 * n ≤ 9000

theorem Room.deeper {n : Nat} {A : Around} {env : Env} (r : Room (n + 1) A) : Room n (A.deeper env) :=
  ⟨r.hd, by have := r.depth; show A.depth + 1 + n ≤ 900; omega, by have := r.units; show A.units + 3 + 100 * n ≤ 9000; omega⟩
theorem Room.lim {n : Nat} {A : Around} (r : Room n A) : A.depth < recursionLimit := by
  have := r.depth; show A.depth < 1000; omega
theorem Room.cl {n : Nat} {A : Around} (r : Room n A) : A.units < cLine := by
  have := r.units; show A.units < 9900; omega
theorem Room.cl5 {n : Nat} {A : Around} (r : Room n A) : A.units + 5 < cLine := by
  have := r.units; show A.units + 5 < 9900; omega
theorem Room.le {n m : Nat} {A : Around} (r : Room n A) (h : m ≤ n) : Room m A :=
  ⟨r.hd, by have := r.depth; omega, by have := r.units; omega⟩

section
variable (prog : Program) (w : World) (mg mb : Str → Option Value) (fns : List (Str × Nat × Addr × FuncData))

/-- the names of env hold sig -/
structure Rd (env : Env) (sig : Sto) (s : Shared) : Prop where
  kind : env.scope.kind = .function
  globals : env.globals = mainGlobals
  builtins : env.builtins = builtinsNs
  gl : GL prog mg mb fns s.heap
  var : ∀ x d, sig.lookup x = some d → ∃ v, Loads env s.heap x v ∧ Rep s.heap Any v d

theorem Rd.keeps {env : Env} {sig : Sto} {s s' : Shared} (r : Rd prog mg mb fns env sig s) (hk : Kp s s') : Rd prog mg mb fns env sig s' := by
  obtain ⟨h, t, rfl, hk⟩ := hk
  exact ⟨r.kind, r.globals, r.builtins, r.gl.keeps hk, fun x d e => let ⟨v, l, p⟩ := r.var x d e; ⟨v, l.keeps hk, p.keeps fun b o _ q => ⟨hk b o q, trivial⟩⟩⟩

/-- the expression gives d -/
def EV (n : Nat) (env : Env) (sig : Sto) (e : Expr) (d : D) : Prop :=
  ∀ A s, Room n A → Rd prog mg mb fns env sig s → wpAny (model prog w) A (eval e env) (fun v s' => Kp s s' ∧ Rep s'.heap Any v d) (fun _ _ => False) s

/-- the same, and what it gives is new -/
def EVF (n : Nat) (env : Env) (sig : Sto) (e : Expr) (d : D) : Prop :=
  ∀ A s, Room n A → Rd prog mg mb fns env sig s → wpAny (model prog w) A (eval e env) (fun v s' => Kp s s' ∧ Rep s'.heap (Fresh s) v d) (fun _ _ => False) s

/-- the test comes out as b -/
def TV (n : Nat) (env : Env) (sig : Sto) (e : Expr) (b : Bool) : Prop :=
  ∀ A s, Room n A → Rd prog mg mb fns env sig s → wpAny (model prog w) A (isTrue e env (eval e env)) (fun v s' => Kp s s' ∧ v = b) (fun _ _ => False) s
end

theorem Kp.refl (s : Shared) : Kp s s := ⟨s.heap, s.toks, rfl, fun _ _ e => e⟩
theorem Kp.trans {s₁ s₂ s₃ : Shared} (a : Kp s₁ s₂) (b : Kp s₂ s₃) : Kp s₁ s₃ := by
  obtain ⟨h, t, rfl, k⟩ := a
  obtain ⟨h', t', rfl, k'⟩ := b
  exact ⟨h', t', rfl, fun b o e => k' b o (k b o e)⟩
theorem Kp.heap {s s' : Shared} (a : Kp s s') : ∀ b o, s.heap.get? b = some o → s'.heap.get? b = some o := by
  obtain ⟨h, t, rfl, k⟩ := a; exact k
theorem Kp.tok (s : Shared) (t : Nat) : Kp s { s with toks := t } := ⟨s.heap, t, rfl, fun _ _ e => e⟩
theorem Kp.of {s : Shared} {h : Heap} {t : Nat} (k : ∀ b o, s.heap.get? b = some o → h.get? b = some o) : Kp s { s with heap := h, toks := t } := ⟨h, t, rfl, k⟩
theorem Kp.to {s s' : Shared} {h : Heap} {t : Nat} (a : Kp s s') (k : ∀ b o, s.heap.get? b = some o → h.get? b = some o) : Kp s { s' with heap := h, toks := t } := by
  obtain ⟨h1, t1, rfl, _⟩ := a; exact ⟨h, t, rfl, k⟩
theorem Kp.push (s : Shared) (o : Obj) : Kp s { s with heap := s.heap.push o } := ⟨_, s.toks, rfl, fun _ _ e => Heap.get?_push_of_some _ e⟩
theorem Fresh.back {s s' : Shared} (k : Kp s s') {a : Addr} (f : Fresh s' a) : Fresh s a := by
  unfold Fresh at *
  cases e : s.heap.get? a with
  | none => rfl
  | some o => rw [k.heap a o e] at f; cases f
theorem Fresh.size (s : Shared) : Fresh s s.heap.objs.size := by
  unfold Fresh
  cases e : s.heap.get? s.heap.objs.size with
  | none => rfl
  | some o => exact absurd (Heap.lt_size e) (Nat.lt_irrefl _)
theorem Rep.up {s s' : Shared} {F : Addr → Prop} {v : Value} {d : D} (r : Rep s.heap F v d) (k : Kp s s') : Rep s'.heap F v d := r.keeps fun b o f e => ⟨k.heap b o e, f⟩
theorem Reps.up {s s' : Shared} {F : Addr → Prop} {v : List Value} {d : List D} (r : Reps s.heap F v d) (k : Kp s s') : Reps s'.heap F v d := r.keeps fun b o f e => ⟨k.heap b o e, f⟩
theorem Rep.back {h : Heap} {s s' : Shared} {v : Value} {d : D} (r : Rep h (Fresh s') v d) (k : Kp s s') : Rep h (Fresh s) v d := r.keeps fun _ _ f e => ⟨e, f.back k⟩
theorem Reps.back {h : Heap} {s s' : Shared} {v : List Value} {d : List D} (r : Reps h (Fresh s') v d) (k : Kp s s') : Reps h (Fresh s) v d := r.keeps fun _ _ f e => ⟨e, f.back k⟩

/-- no parts on the heap -/
def D.flat : D → Bool
  | .list _ => false
  | .tup _ => false
  | _ => true
theorem Rep.flat {h h' : Heap} {F F' : Addr → Prop} {v : Value} {d : D} (r : Rep h F v d) (hf : d.flat = true) : Rep h' F' v d := by
  cases r with
  | none => exact .none
  | int i t => exact .int i t
  | bool b => exact .bool b
  | str x t => exact .str x t
  | list => cases hf
  | tup => cases hf
theorem Reps.flat {h h' : Heap} {F F' : Addr → Prop} : ∀ {vs : List Value} {ds : List D}, Reps h F vs ds → (∀ d ∈ ds, d.flat = true) → Reps h' F' vs ds
  | _, _, .nil, _ => .nil
  | _, _, .cons r rs, q => .cons (r.flat (q _ (.head _))) (rs.flat fun d hd => q d (.tail _ hd))

theorem wpAny_at {α : Type} {M : Model} {A : Around} {t : Sem α} {Q Q' : α → Shared → Prop} {E : Value → Shared → Prop} {s : Shared} (h : wpAny M A t Q (fun _ _ => False) s) (hQ : ∀ a s, Q a s → Q' a s) : wpAny M A t Q' E s :=
  wpAny_mono h hQ fun _ _ f => f.elim

section
variable {prog : Program} {w : World} {mg mb : Str → Option Value} {fns : List (Str × Nat × Addr × FuncData)} {n : Nat} {env : Env} {sig : Sto}

theorem EVF.any {e : Expr} {d : D} (h : EVF prog w mg mb fns n env sig e d) : EV prog w mg mb fns n env sig e d :=
  fun A s r R => wpAny_at (h A s r R) fun _ _ q => ⟨q.1, q.2.any⟩
theorem EV.fr {e : Expr} {d : D} (h : EV prog w mg mb fns n env sig e d) (hf : d.flat = true := by rfl) : EVF prog w mg mb fns n env sig e d :=
  fun A s r R => wpAny_at (h A s r R) fun _ _ q => ⟨q.1, q.2.flat hf⟩

theorem wpAny_loads {x : Str} {v : Value} {M : Model} {A : Around} {s : Shared} {Q : Value → Shared → Prop} {E : Value → Shared → Prop} (hk : env.scope.kind = .function) (l : Loads env s.heap x v) (h : Q v s) : wpAny M A (loadName env x) Q E s := by
  rcases l with ⟨a, m, b, c⟩ | ⟨a, c, b, d⟩
  · exact wpAny_loadName_local hk a b c h
  · exact wpAny_loadName_cell hk a b d h

theorem EV.name {x : Str} {p : Pos} {d : D} (hl : sig.lookup x = some d := by rfl) (hd : (x == ("__debug__" : Str)) = false := by decide) : EV prog w mg mb fns n env sig (.Name x p) d := fun A s _ R => by
  obtain ⟨v, l, q⟩ := R.var x d hl
  exact wpAny_Name (wpAny_loads R.kind l ⟨Kp.refl s, q⟩) hd

theorem EVF.int {i : Int} {k : Nat} {p : Pos} : EVF prog w mg mb fns n env sig (.Constant (.int i) k p) (.int i) := fun _ s _ _ =>
  wpAny_Constant_int ⟨Kp.tok s _, .int _ _⟩
theorem EVF.bool {b : Bool} {k : Nat} {p : Pos} : EVF prog w mg mb fns n env sig (.Constant (.bool b) k p) (.bool b) := fun _ s _ _ =>
  wpAny_Constant_bool ⟨Kp.refl s, .bool _⟩
theorem EVF.str {x : Str} {k : Nat} {p : Pos} : EVF prog w mg mb fns n env sig (.Constant (.str x) k p) (.str x) := fun _ s _ _ =>
  wpAny_Constant_str ⟨Kp.tok s _, .str _ _⟩

end
end Mine
end

-- LcB
section
open PySem PySem.W PyProof.Rows
set_option Elab.async false
set_option maxRecDepth 100000
set_option linter.unusedVariables false
namespace Mine

section
variable (prog : Program) (w : World)
def BOP (op : Operator) (d1 d2 d : D) : Prop := ∀ A s v1 v2, Rep s.heap Any v1 d1 → Rep s.heap Any v2 d2 → wpAny (model prog w) A (binaryOp op v1 v2) (fun v s' => Kp s s' ∧ Rep s'.heap (Fresh s) v d) (fun _ _ => False) s
def IOP (op : Operator) (d1 d2 d : D) : Prop := ∀ A s v1 v2, Rep s.heap Any v1 d1 → Rep s.heap Any v2 d2 → wpAny (model prog w) A (inplaceOp op v1 v2) (fun v s' => Kp s s' ∧ Rep s'.heap (Fresh s) v d) (fun _ _ => False) s
def COP (op : CmpOp) (d1 d2 : D) (b : Bool) : Prop := ∀ A s v1 v2, A.handled = none → Rep s.heap Any v1 d1 → Rep s.heap Any v2 d2 → wpAny (model prog w) A (compareOp op v1 v2) (fun v s' => Kp s s' ∧ v = .bool b) (fun _ _ => False) s
end

section
variable {prog : Program} {w : World}
theorem BOP.add {a b : Int} : BOP prog w .Add (.int a) (.int b) (.int (a + b)) := fun A s v1 v2 r1 r2 => by
  cases r1; cases r2; exact PySem.P.add_int ⟨Kp.tok s _, .int _ _⟩
theorem BOP.sub {a b : Int} : BOP prog w .Sub (.int a) (.int b) (.int (a - b)) := fun A s v1 v2 r1 r2 => by
  cases r1; cases r2; exact PySem.P.sub_int ⟨Kp.tok s _, .int _ _⟩
theorem BOP.and {a b : Int} : BOP prog w .BitAnd (.int a) (.int b) (.int (Builtin.bitAnd a b)) := fun A s v1 v2 r1 r2 => by
  cases r1; cases r2; exact and_int ⟨Kp.tok s _, .int _ _⟩
theorem BOP.or {a b : Int} : BOP prog w .BitOr (.int a) (.int b) (.int (Builtin.bitOr a b)) := fun A s v1 v2 r1 r2 => by
  cases r1; cases r2; exact or_int ⟨Kp.tok s _, .int _ _⟩
theorem BOP.xor {a b : Int} : BOP prog w .BitXor (.int a) (.int b) (.int (Builtin.bitXor a b)) := fun A s v1 v2 r1 r2 => by
  cases r1; cases r2; exact xor_int ⟨Kp.tok s _, .int _ _⟩
theorem BOP.mod {a b : Int} (hb : b ≠ 0) : BOP prog w .Mod (.int a) (.int b) (.int (a.fmod b)) := fun A s v1 v2 r1 r2 => by
  cases r1; cases r2; exact PyProof.Rows.mod_int hb ⟨Kp.tok s _, .int _ _⟩
theorem BOP.fdiv {a b : Int} (hb : b ≠ 0) (hp : Builtin.divisionGoesByPylong a b = false) : BOP prog w .FloorDiv (.int a) (.int b) (.int (a.fdiv b)) := fun A s v1 v2 r1 r2 => by
  cases r1; cases r2; exact floordiv_int hb ⟨Kp.tok s _, .int _ _⟩ (.inl hp)
theorem BOP.shr {a n : Int} (hn : 0 ≤ n) : BOP prog w .RShift (.int a) (.int n) (.int (a.fdiv (2 ^ n.toNat))) := fun A s v1 v2 r1 r2 => by
  cases r1; cases r2; exact rshift_int hn ⟨Kp.tok s _, .int _ _⟩
theorem BOP.shl {a n : Int} (hn : 0 ≤ n) (hn2 : n ≤ 1000000) (ha : a.natAbs < 2 ^ 64) : BOP prog w .LShift (.int a) (.int n) (.int (a * 2 ^ n.toNat)) := fun A s v1 v2 r1 r2 => by
  cases r1; cases r2; exact lshift_int_small hn hn2 ha ⟨Kp.tok s _, .int _ _⟩
theorem str_empty_append {x y : Str} (h : (x.length == 0) = true) : x ++ y = y := by
  obtain ⟨⟨xs⟩⟩ := x
  have : xs = [] := by cases xs with | nil => rfl | cons a l => simp [Str.length] at h
  subst this
  show Str.mk _ = y
  obtain ⟨⟨ys⟩⟩ := y
  simp
theorem str_append_empty {x y : Str} (h : (y.length == 0) = true) : x ++ y = x := by
  obtain ⟨⟨xs⟩⟩ := y
  have : xs = [] := by cases xs with | nil => rfl | cons a l => simp [Str.length] at h
  subst this
  show Str.mk _ = x
  obtain ⟨⟨ys⟩⟩ := x
  simp
theorem BOP.cat {x y : Str} (hsz : (x ++ y).length ≤ sizeLine) : BOP prog w .Add (.str x) (.str y) (.str (x ++ y)) := fun A s v1 v2 r1 r2 => by
  cases r1; cases r2
  refine PySem.P.add_str ?_
  split
  · rename_i h
    show Kp s s ∧ _
    refine ⟨Kp.refl s, ?_⟩
    rw [str_empty_append h]; exact .str _ _
  · split
    · rename_i h
      show Kp s s ∧ _
      refine ⟨Kp.refl s, ?_⟩
      rw [str_append_empty h]; exact .str _ _
    · exact ⟨hsz, Kp.tok s _, .str _ _⟩
theorem IOP.and {a b : Int} : IOP prog w .BitAnd (.int a) (.int b) (.int (Builtin.bitAnd a b)) := fun A s v1 v2 r1 r2 => by
  cases r1; cases r2; exact iand_int ⟨Kp.tok s _, .int _ _⟩
theorem IOP.add {a b : Int} : IOP prog w .Add (.int a) (.int b) (.int (a + b)) := fun A s v1 v2 r1 r2 => by
  cases r1; cases r2; exact PySem.P.iadd_int ⟨Kp.tok s _, .int _ _⟩
theorem IOP.sub {a b : Int} : IOP prog w .Sub (.int a) (.int b) (.int (a - b)) := fun A s v1 v2 r1 r2 => by
  cases r1; cases r2; exact PySem.P.isub_int ⟨Kp.tok s _, .int _ _⟩

theorem COP.lt {a b : Int} : COP prog w .Lt (.int a) (.int b) (decide (a < b)) := fun A s v1 v2 _ r1 r2 => by
  cases r1; cases r2; exact PySem.P.lt_int ⟨Kp.refl s, rfl⟩
theorem COP.gt {a b : Int} : COP prog w .Gt (.int a) (.int b) (decide (a > b)) := fun A s v1 v2 _ r1 r2 => by
  cases r1; cases r2; exact PySem.P.gt_int ⟨Kp.refl s, rfl⟩
theorem COP.ge {a b : Int} : COP prog w .GtE (.int a) (.int b) (decide (a ≥ b)) := fun A s v1 v2 _ r1 r2 => by
  cases r1; cases r2; exact PySem.P.ge_int ⟨Kp.refl s, rfl⟩
theorem COP.eq {a b : Int} : COP prog w .Eq (.int a) (.int b) (a == b) := fun A s v1 v2 _ r1 r2 => by
  cases r1; cases r2; exact PySem.P.eq_int ⟨Kp.refl s, rfl⟩
theorem COP.neStr {x y : Str} : COP prog w .NotEq (.str x) (.str y) (x.cps.toList != y.cps.toList) := fun A s v1 v2 _ r1 r2 => by
  cases r1; cases r2; exact PySem.P.ne_str ⟨Kp.refl s, rfl⟩
theorem COP.eqStr {x y : Str} : COP prog w .Eq (.str x) (.str y) (x.cps.toList == y.cps.toList) := fun A s v1 v2 _ r1 r2 => by
  cases r1; cases r2; exact PySem.P.eq_str ⟨Kp.refl s, rfl⟩
theorem COP.is {a b : Bool} : COP prog w .Is (.bool a) (.bool b) (a == b) := fun A s v1 v2 _ r1 r2 => by
  cases r1; cases r2; exact is_bool ⟨Kp.refl s, rfl⟩
theorem COP.isNot {a b : Bool} : COP prog w .IsNot (.bool a) (.bool b) (a != b) := fun A s v1 v2 _ r1 r2 => by
  cases r1; cases r2; exact isnot_bool ⟨Kp.refl s, rfl⟩
end

section
variable {prog : Program} {w : World} {mg mb : Str → Option Value} {fns : List (Str × Nat × Addr × FuncData)} {n : Nat} {env : Env} {sig : Sto}

theorem EVF.bin {l r : Expr} {op : Operator} {p : Pos} {d1 d2 d : D} (h1 : EV prog w mg mb fns n env sig l d1) (h2 : EV prog w mg mb fns n env sig r d2) (h : BOP prog w op d1 d2 d) : EVF prog w mg mb fns n env sig (.BinOp l op r p) d := fun A s rm R =>
  wpAny_BinOp (wpAny_at (h1 A s rm R) fun v1 s1 q1 => wpAny_at (h2 A s1 rm (R.keeps _ _ _ _ q1.1)) fun v2 s2 q2 =>
    wpAny_at (h A s2 v1 v2 (q1.2.up q2.1) q2.2) fun v s3 q3 => ⟨(q1.1.trans q2.1).trans q3.1, q3.2.back (q1.1.trans q2.1)⟩)
theorem EV.bin {l r : Expr} {op : Operator} {p : Pos} {d1 d2 d : D} (h1 : EV prog w mg mb fns n env sig l d1) (h2 : EV prog w mg mb fns n env sig r d2) (h : BOP prog w op d1 d2 d) : EV prog w mg mb fns n env sig (.BinOp l op r p) d := (EVF.bin h1 h2 h).any

theorem EV.cmp {l r : Expr} {op : CmpOp} {p : Pos} {d1 d2 : D} {b : Bool} (h1 : EV prog w mg mb fns n env sig l d1) (h2 : EV prog w mg mb fns n env sig r d2) (h : COP prog w op d1 d2 b) (hm : behindInMarks op r = false := by with_unfolding_all rfl) :
    EV prog w mg mb fns n env sig (.Compare l [op] [r] p) (.bool b) := fun A s rm R =>
  wpAny_Compare1 (wpAny_at (h1 A s rm R) fun v1 s1 q1 => wpAny_at (h2 A s1 rm (R.keeps _ _ _ _ q1.1)) fun v2 s2 q2 =>
    wpAny_at (h A s2 v1 v2 rm.hd (q1.2.up q2.1) q2.2) fun v s3 q3 => ⟨(q1.1.trans q2.1).trans q3.1, by rw [q3.2]; exact .bool _⟩) hm
theorem TV.cmp {l r : Expr} {op : CmpOp} {p : Pos} {d1 d2 : D} {b : Bool} (h1 : EV prog w mg mb fns n env sig l d1) (h2 : EV prog w mg mb fns n env sig r d2) (h : COP prog w op d1 d2 b) (hm : behindInMarks op r = false := by with_unfolding_all rfl) :
    TV prog w mg mb fns n env sig (.Compare l [op] [r] p) b := fun A s rm R =>
  wpAny_isTrue_Compare1 (wpAny_at (h1 A s rm R) fun v1 s1 q1 => wpAny_at (h2 A s1 rm (R.keeps _ _ _ _ q1.1)) fun v2 s2 q2 =>
    wpAny_at (h A s2 v1 v2 rm.hd (q1.2.up q2.1) q2.2) fun v s3 q3 => by
      rw [q3.2]; exact wpAny_truthy_bool ⟨(q1.1.trans q2.1).trans q3.1, rfl⟩) hm
theorem TV.not {e : Expr} {p : Pos} {b : Bool} (h : TV prog w mg mb fns n env sig e b) : TV prog w mg mb fns n env sig (.UnaryOp .Not e p) (!b) := fun A s rm R =>
  wpAny_isTrue_Not (wpAny_at (h A s rm R) fun v s1 q => ⟨q.1, by rw [q.2]⟩)
/-- a test that is a plain expression -/
theorem TV.val {e : Expr} {b : Bool} (h : EV prog w mg mb fns n env sig e (.bool b)) (he : ∀ whole, isTrue e env whole = (do let v ← whole; standAt e.pos; holding [v] (truthy v)) := by intro _; rfl) : TV prog w mg mb fns n env sig e b := fun A s rm R =>
  wpAny_isTrue_value (wpAny_at (h A s rm R) fun v s1 q => by
    obtain ⟨q1, q2⟩ := q
    cases q2; exact wpAny_truthy_bool ⟨q1, rfl⟩) (he _)
theorem TV.or {e1 e2 : Expr} {p : Pos} {a b : Bool} (h1 : TV prog w mg mb fns n env sig e1 a) (h2 : a = false → TV prog w mg mb fns n env sig e2 b) : TV prog w mg mb fns n env sig (.BoolOp .Or [e1, e2] p) (a || b) := fun A s rm R =>
  wpAny_isTrue_BoolOp (wpAny_allTrue_Or_cons (wpAny_at (h1 A s rm R) fun v s1 q => by
    obtain ⟨q1, rfl⟩ := q
    cases v with
    | true => exact ⟨q1, rfl⟩
    | false => exact wpAny_allTrue_Or_cons (wpAny_at (h2 rfl A s1 rm (R.keeps _ _ _ _ q1)) fun v s2 q2 => by
        obtain ⟨q2, rfl⟩ := q2
        cases v with
        | true => exact ⟨q1.trans q2, rfl⟩
        | false => exact wpAny_allTrue_Or_nil ⟨q1.trans q2, rfl⟩)))
theorem EV.neg {e : Expr} {p : Pos} {a : Int} (h : EV prog w mg mb fns n env sig e (.int a)) : EV prog w mg mb fns n env sig (.UnaryOp .USub e p) (.int (-a)) := fun A s rm R =>
  wpAny_UnaryOp (wpAny_at (h A s rm R) fun v s1 q => by
    obtain ⟨q1, q2⟩ := q
    cases q2; exact neg_int ⟨q1.trans (Kp.tok _ _), .int _ _⟩)
theorem EV.ite {t a b : Expr} {p : Pos} {c : Bool} {d : D} (h : TV prog w mg mb fns n env sig t c) (h1 : c = true → EV prog w mg mb fns n env sig a d) (h2 : c = false → EV prog w mg mb fns n env sig b d) : EV prog w mg mb fns n env sig (.IfExp t a b p) d := fun A s rm R =>
  wpAny_IfExp (wpAny_at (h A s rm R) fun v s1 q => by
    obtain ⟨q1, rfl⟩ := q
    cases v with
    | true => exact wpAny_at (h1 rfl A s1 rm (R.keeps _ _ _ _ q1)) fun _ _ q2 => ⟨q1.trans q2.1, q2.2⟩
    | false => exact wpAny_at (h2 rfl A s1 rm (R.keeps _ _ _ _ q1)) fun _ _ q2 => ⟨q1.trans q2.1, q2.2⟩)

theorem EV.item {v i : Expr} {p : Pos} {l : List D} {k : Int} {d : D} (h1 : EV prog w mg mb fns n env sig v (.list l)) (h2 : EV prog w mg mb fns n env sig i (.int k)) (h0 : 0 ≤ k) (hk : l[k.toNat]? = some d) (hf : k < 2 ^ 63 := by omega)
    (hs : ∀ o j, subscripted i false o j = operate [o, j] (getItem o j) := by intro _ _; with_unfolding_all rfl) : EV prog w mg mb fns n env sig (.Subscript v i p) d := fun A s rm R =>
  Subscript_ (wpAny_at (h1 A s rm R) fun o s1 q1 => wpAny_at (h2 A s1 rm (R.keeps _ _ _ _ q1.1)) fun j s2 q2 => by
    obtain ⟨k1, r1⟩ := q1
    obtain ⟨k2, r2⟩ := q2
    have r1 := r1.up k2
    cases r2
    cases r1 with
    | list _ hl rs =>
      obtain ⟨x, hx, rx⟩ := rs.get _ hk
      exact tail_any hl.isList.typeIs slot_list_getitem.lookup (wpAny_getItem_list hl.isList h0 hf (by simpa using hx) ⟨k1.trans k2, rx⟩) (hs _ _))
theorem EV.last {v i : Expr} {p : Pos} {l : List D} {d : D} (h1 : EV prog w mg mb fns n env sig v (.list l)) (h2 : EV prog w mg mb fns n env sig i (.int (-1))) (hk : l.getLast? = some d)
    (hs : ∀ o j, subscripted i false o j = operate [o, j] (getItem o j) := by intro _ _; with_unfolding_all rfl) : EV prog w mg mb fns n env sig (.Subscript v i p) d := fun A s rm R =>
  Subscript_ (wpAny_at (h1 A s rm R) fun o s1 q1 => wpAny_at (h2 A s1 rm (R.keeps _ _ _ _ q1.1)) fun j s2 q2 => by
    obtain ⟨k1, r1⟩ := q1
    obtain ⟨k2, r2⟩ := q2
    have r1 := r1.up k2
    cases r2
    cases r1 with
    | @list a vs _ _ hl rs =>
      rw [List.getLast?_eq_getElem?] at hk
      obtain ⟨x, hx, rx⟩ := rs.get _ hk
      have hlen := rs.length
      have hne : 0 < l.length := by
        cases l with
        | nil => simp at hk
        | cons a l => simp
      refine tail_any hl.isList.typeIs slot_list_getitem.lookup (wpAny_getItem_list_neg hl.isList (by omega) (by simp; omega) (by omega) (x := x) ?_ ⟨k1.trans k2, rx⟩) (hs _ _)
      have : ((-1 : Int) + (vs.toArray.size : Int)).toNat = l.length - 1 := by simp; omega
      rw [this]; simpa using hx)
theorem EV.titem {v i : Expr} {p : Pos} {l : List D} {k : Int} {d : D} (h1 : EV prog w mg mb fns n env sig v (.tup l)) (h2 : EV prog w mg mb fns n env sig i (.int k)) (h0 : 0 ≤ k) (hk : l[k.toNat]? = some d) (hf : k < 2 ^ 63 := by omega)
    (hs : ∀ o j, subscripted i false o j = operate [o, j] (getItem o j) := by intro _ _; with_unfolding_all rfl) : EV prog w mg mb fns n env sig (.Subscript v i p) d := fun A s rm R =>
  Subscript_ (wpAny_at (h1 A s rm R) fun o s1 q1 => wpAny_at (h2 A s1 rm (R.keeps _ _ _ _ q1.1)) fun j s2 q2 => by
    obtain ⟨k1, r1⟩ := q1
    obtain ⟨k2, r2⟩ := q2
    have r1 := r1.up k2
    cases r2
    cases r1 with
    | tup _ hl rs =>
      obtain ⟨x, hx, rx⟩ := rs.get _ hk
      have hlt : k.toNat < l.length := by
        rcases Nat.lt_or_ge k.toNat l.length with h | h
        · exact h
        · rw [List.getElem?_eq_none h] at hk; cases hk
      have hlen := rs.length
      refine item_tupleT (j := k.toNat) (x := x) hl (by omega) hf ?_ hx ⟨k1.trans k2, rx⟩ (hs _ _)
      rw [hlen]
      unfold seqIndex?
      simp only [show ¬ k < 0 by omega, if_false]
      rw [if_pos (by simp; omega)])
end
end Mine
end

-- LcC
section
open PySem PySem.W PyProof.Rows
set_option Elab.async false
set_option maxRecDepth 100000
set_option linter.unusedVariables false
namespace Mine

section
variable (prog : Program) (w : World) (mg mb : Str → Option Value) (fns : List (Str × Nat × Addr × FuncData))
/-- the arguments give ds -/
def EVS (n : Nat) (env : Env) (sig : Sto) (p : Pos) (es : List Expr) (ds : List D) : Prop :=
  ∀ A s, Room n A → Rd prog mg mb fns env sig s → wpAny (model prog w) A (spliced (backTo p (starEach es env))) (fun vs s' => Kp s s' ∧ Reps s'.heap Any vs ds) (fun _ _ => False) s
def EVSF (n : Nat) (env : Env) (sig : Sto) (p : Pos) (es : List Expr) (ds : List D) : Prop :=
  ∀ A s, Room n A → Rd prog mg mb fns env sig s → wpAny (model prog w) A (spliced (backTo p (starEach es env))) (fun vs s' => Kp s s' ∧ Reps s'.heap (Fresh s) vs ds) (fun _ _ => False) s
/-- the built-in answers so -/
def CALLB (id : String) (ds : List D) (d : D) : Prop :=
  ∀ A s vs, A.handled = none → Reps s.heap Any vs ds → wpAny (model prog w) A (call (.builtin id) vs []) (fun v s' => Kp s s' ∧ Rep s'.heap (Fresh s) v d) (fun _ _ => False) s
/-- the def answers so -/
def CALLF (n : Nat) (f : Addr) (ds : List D) (d : D) : Prop :=
  ∀ A s vs, Room n A → GL prog mg mb fns s.heap → Reps s.heap Any vs ds → wpAny (model prog w) A (call (.ref f) vs []) (fun v s' => Kp s s' ∧ Rep s'.heap (Fresh s) v d) (fun _ _ => False) s
end

theorem star_const {c : Const} {k : Nat} {p : Pos} {es : List Expr} {env : Env} : starEach (.Constant c k p :: es) env = (false, eval (.Constant c k p) env) :: starEach es env := rfl
theorem star_name {x : Str} {p : Pos} {es : List Expr} {env : Env} : starEach (.Name x p :: es) env = (false, eval (.Name x p) env) :: starEach es env := rfl
theorem star_bin {a b : Expr} {o : Operator} {p : Pos} {es : List Expr} {env : Env} : starEach (.BinOp a o b p :: es) env = (false, eval (.BinOp a o b p) env) :: starEach es env := rfl
theorem star_call {f : Expr} {a : List Expr} {k : List Keyword} {p : Pos} {es : List Expr} {env : Env} : starEach (.Call f a k p :: es) env = (false, eval (.Call f a k p) env) :: starEach es env := rfl
theorem star_sub {a b : Expr} {p : Pos} {es : List Expr} {env : Env} : starEach (.Subscript a b p :: es) env = (false, eval (.Subscript a b p) env) :: starEach es env := rfl
theorem star_list {a : List Expr} {p : Pos} {es : List Expr} {env : Env} : starEach (.List a p :: es) env = (false, eval (.List a p) env) :: starEach es env := rfl

section
variable {prog : Program} {w : World} {mg mb : Str → Option Value} {fns : List (Str × Nat × Addr × FuncData)} {n : Nat} {env : Env} {sig : Sto}

theorem EVS.nil {p : Pos} : EVS prog w mg mb fns n env sig p [] [] := fun A s rm R => wpAny_items_nil ⟨Kp.refl s, .nil⟩
theorem EVS.cons {p : Pos} {e : Expr} {es : List Expr} {d : D} {ds : List D} (h : EV prog w mg mb fns n env sig e d) (hs : EVS prog w mg mb fns n env sig p es ds)
    (he : starEach (e :: es) env = (false, eval e env) :: starEach es env := by first | exact star_name | exact star_const | exact star_bin | exact star_call | exact star_sub | exact star_list | kernel_rfl! | rfl) : EVS prog w mg mb fns n env sig p (e :: es) (d :: ds) := fun A s rm R =>
  wpAny_items_cons (wpAny_at (h A s rm R) fun v s1 q1 => wpAny_at (hs A s1 rm (R.keeps _ _ _ _ q1.1)) fun vs s2 q2 => ⟨q1.1.trans q2.1, .cons (q1.2.up q2.1) q2.2⟩) he
theorem EVSF.nil {p : Pos} : EVSF prog w mg mb fns n env sig p [] [] := fun A s rm R => wpAny_items_nil ⟨Kp.refl s, .nil⟩
theorem EVSF.cons {p : Pos} {e : Expr} {es : List Expr} {d : D} {ds : List D} (h : EVF prog w mg mb fns n env sig e d) (hs : EVSF prog w mg mb fns n env sig p es ds)
    (he : starEach (e :: es) env = (false, eval e env) :: starEach es env := by first | exact star_name | exact star_const | exact star_bin | exact star_call | exact star_sub | exact star_list | kernel_rfl! | rfl) : EVSF prog w mg mb fns n env sig p (e :: es) (d :: ds) := fun A s rm R =>
  wpAny_items_cons (wpAny_at (h A s rm R) fun v s1 q1 => wpAny_at (hs A s1 rm (R.keeps _ _ _ _ q1.1)) fun vs s2 q2 => ⟨q1.1.trans q2.1, .cons (q1.2.up q2.1) (q2.2.back q1.1)⟩) he

theorem Kp.newList {s s1 : Shared} {vs : List Value} {ds : List D} (k : Kp s s1) (r : Reps s1.heap (Fresh s) vs ds) : Kp s { s1 with heap := s1.heap.push { cls := .type "list", data := .seq vs.toArray } } ∧
    Rep (s1.heap.push { cls := .type "list", data := .seq vs.toArray }) (Fresh s) (.ref s1.heap.objs.size) (.list ds) :=
  ⟨k.trans (Kp.push s1 _), .list ((Fresh.size s1).back k) ⟨0, Heap.get?_push_size _ rfl⟩ (r.up (Kp.push s1 _))⟩
theorem Kp.newTup {s s1 : Shared} {vs : List Value} {ds : List D} (k : Kp s s1) (r : Reps s1.heap (Fresh s) vs ds) : Kp s { s1 with heap := s1.heap.push { cls := .type "tuple", data := .seq vs.toArray } } ∧
    Rep (s1.heap.push { cls := .type "tuple", data := .seq vs.toArray }) (Fresh s) (.ref s1.heap.objs.size) (.tup ds) :=
  ⟨k.trans (Kp.push s1 _), .tup ((Fresh.size s1).back k) ⟨_, Heap.get?_push_size _ rfl, rfl, 0, rfl⟩ (r.up (Kp.push s1 _))⟩

theorem EVF.list {es : List Expr} {p : Pos} {ds : List D} (h : EVSF prog w mg mb fns n env sig p es ds) (hz : ds.length ≤ sizeLine := by first | decide | (simp only [List.length_cons, List.length_nil]; decide)) : EVF prog w mg mb fns n env sig (.List es p) (.list ds) := fun A s rm R =>
  wpAny_List (wpAny_at (h A s rm R) fun vs s1 q => ⟨by rw [q.2.length]; exact hz, Kp.newList q.1 q.2⟩)
theorem EVF.tup {es : List Expr} {k : Nat} {p : Pos} {ds : List D} (h : EVSF prog w mg mb fns n env sig p es ds) (hz : ds.length ≤ sizeLine := by first | decide | (simp only [List.length_cons, List.length_nil]; decide)) : EVF prog w mg mb fns n env sig (.Tuple es k p) (.tup ds) := fun A s rm R =>
  wpAny_Tuple (wpAny_at (h A s rm R) fun vs s1 q => ⟨by rw [q.2.length]; exact hz, Kp.newTup q.1 q.2⟩)

theorem backTo_plain {env : Env} {p : Pos} : ∀ {es : List Expr}, (starEach es env).any (·.1) = false → (backTo p (starEach es env)).any (·.1) = false := fun {es} h => by
  have : ∀ l : List (Bool × Sem Value), (backTo p l).any (·.1) = l.any (·.1) := fun l => by
    unfold backTo
    induction l with
    | nil => rfl
    | cons a l ih => simp_all
  rw [this]; exact h

theorem evalArgs_spliced {M : Model} {A : Around} {E : Value → Shared → Prop} {s : Shared} {f : Value} {args : List (Bool × Sem Value)} {Q : Args → Shared → Prop} (h : wpAny M A (spliced args) (fun vs s' => Q ⟨vs, []⟩ s') E s) (hp : args.any (·.1) = false) :
    wpAny M A (evalArgs f true args []) Q E s := by
  cases args with
  | nil =>
    unfold evalArgs
    show wpAny M A (spliced [] >>= _) Q E s
    refine wpAny_bind (wpAny_mono h (fun vs s' h' => ?_) fun _ _ x => x)
    refine wpAny_bind (wpAny_pure ?_)
    refine wpAny_holding ?_
    exact wpAny_bind (wpAny_pure (wpAny_bind (wpAny_pure (wpAny_pure h'))))
  | cons x l =>
    obtain ⟨b, x⟩ := x
    cases b with
    | true => simp at hp
    | false => exact Calls.evalArgs_plain h

/-- a method of a built-in type -/
theorem EVF.meth {o : Expr} {name : Str} {ap p : Pos} {es : List Expr} {T id : String} {d0 d : D} {ds : List D}
    (h0 : EV prog w mg mb fns n env sig o d0) (hs : EVS prog w mg mb fns n env sig p es ds) (hc : CALLB prog w id (d0 :: ds) d)
    (pa : PlainAttrs T) (slot : Slot T name id) (hty : typeOf (.builtin id) = pure (.type "method_descriptor"))
    (hT : ∀ (s : Shared) v, Rep s.heap Any v d0 → s.TypeIs v T ∧ ∀ a, v = .ref a → ∃ ob, s.heap.get? a = some ob ∧ ob.dict = none)
    (hbase : attributeBase o name env (eval o env) = eval o env := by first | kernel_rfl! | rfl)
    (hfew : ((backTo p (starEach es env)).all (fun x => !x.1) && (backToKw p (keywordEach [] env)).all (fun x => x.1.isSome)
      && decide (es.length + ([] : List Keyword).length + (if ([] : List Keyword).isEmpty then 0 else 1) < 30)) = true := by first | kernel_rfl! | rfl)
    (hline : (ap.endLine == p.line) = true := by first | kernel_rfl! | rfl) (hpl : (starEach es env).any (·.1) = false := by first | kernel_rfl! | rfl) :
    EVF prog w mg mb fns n env sig (.Call (.Attribute o name ap) es [] p) d := fun A s rm R =>
  wpAny_Call_method hbase hfew hline pa slot hty (wpAny_at (h0 A s rm R) fun v s1 q1 => ⟨(hT s1 v q1.2).1, (hT s1 v q1.2).2,
    Calls.callWith_builtin (backTo_plain hpl) (evalArgs_spliced (wpAny_at (hs A s1 rm (R.keeps _ _ _ _ q1.1)) fun vs s2 q2 =>
      wpAny_at (hc A s2 (v :: vs) rm.hd (.cons (q1.2.up q2.1) q2.2)) fun r s3 q3 => ⟨(q1.1.trans q2.1).trans q3.1, q3.2.back (q1.1.trans q2.1)⟩) (backTo_plain hpl))⟩)

theorem tyStr {x : Str} : ∀ (s : Shared) v, Rep s.heap Any v (.str x) → s.TypeIs v "str" ∧ ∀ a, v = .ref a → ∃ ob, s.heap.get? a = some ob ∧ ob.dict = none := fun s v r => by
  cases r; exact ⟨typeIs_str _ _ _, fun a e => by cases e⟩
theorem tyInt {x : Int} : ∀ (s : Shared) v, Rep s.heap Any v (.int x) → s.TypeIs v "int" ∧ ∀ a, v = .ref a → ∃ ob, s.heap.get? a = some ob ∧ ob.dict = none := fun s v r => by
  cases r; exact ⟨typeIs_int _ _ _, fun a e => by cases e⟩
theorem tyList {l : List D} : ∀ (s : Shared) v, Rep s.heap Any v (.list l) → s.TypeIs v "list" ∧ ∀ a, v = .ref a → ∃ ob, s.heap.get? a = some ob ∧ ob.dict = none := fun s v r => by
  cases r with
  | list _ hl _ =>
    obtain ⟨k, e⟩ := hl
    exact ⟨⟨_, e, rfl⟩, fun a e' => by cases e'; exact ⟨_, e, rfl⟩⟩

/-- a name that is a global of the text -/
theorem nameGlobal {x : Str} {p : Pos} {v : Value} {A : Around} {s : Shared} {Q : Value → Shared → Prop} {E : Value → Shared → Prop} (R : Rd prog mg mb fns env sig s) (hx : env.kindOf x = some .globalImplicit) (hv : mg x = some v) (h : Q v s) (hd : (x == ("__debug__" : Str)) = false := by decide) :
    wpAny (model prog w) A (eval (.Name x p) env) Q E s :=
  Calls.Name_function_global R.kind hx (Calls.loadGlobal_global (by rw [R.globals]; exact R.gl.g) hv h) hd
theorem nameBuiltin {x : Str} {p : Pos} {v : Value} {A : Around} {s : Shared} {Q : Value → Shared → Prop} {E : Value → Shared → Prop} (R : Rd prog mg mb fns env sig s) (hx : env.kindOf x = some .globalImplicit) (hm : x ∈ (["len", "range", "sum", "enumerate", "sorted", "max"] : List Str)) (hv : bootBuiltins x = some v) (h : Q v s) (hd : (x == ("__debug__" : Str)) = false := by decide) :
    wpAny (model prog w) A (eval (.Name x p) env) Q E s :=
  Calls.Name_function_global R.kind hx (Calls.loadGlobal_builtin (by rw [R.globals]; exact R.gl.g) (R.gl.bu x hm).1 (by rw [R.builtins]; exact R.gl.b) ((R.gl.bu x hm).2.trans hv) h) hd

theorem EVF.built {x : Str} {np p : Pos} {es : List Expr} {id : String} {d : D} {ds : List D} (hs : EVS prog w mg mb fns n env sig p es ds) (hc : CALLB prog w id ds d)
    (hx : env.kindOf x = some .globalImplicit) (hm : x ∈ (["len", "range", "sum", "enumerate", "sorted", "max"] : List Str)) (hv : bootBuiltins x = some (.builtin id))
    (hpl : (starEach es env).any (·.1) = false := by first | kernel_rfl! | rfl) (hd : (x == ("__debug__" : Str)) = false := by decide) (he : eval (.Call (.Name x np) es [] p) env = (do callWith p (← eval (.Name x np) env) [] (backTo p (starEach es env)) (backToKw p (keywordEach [] env))) := by first | kernel_rfl! | rfl) :
    EVF prog w mg mb fns n env sig (.Call (.Name x np) es [] p) d := fun A s rm R => by
  rw [he]
  refine wpAny_bind (nameBuiltin R hx hm hv ?_ hd)
  exact Calls.callWith_builtin (backTo_plain hpl) (evalArgs_spliced (wpAny_at (hs A s rm R) fun vs s2 q2 =>
      wpAny_at (hc A s2 vs rm.hd q2.2) fun r s3 q3 => ⟨q2.1.trans q3.1, q3.2.back q2.1⟩) (backTo_plain hpl))

theorem EVF.call {x : Str} {np p : Pos} {es : List Expr} {f : Addr} {i : Nat} {fd : FuncData} {d : D} {ds : List D} (hf : (x, i, f, fd) ∈ fns) (hs : EVS prog w mg mb fns n env sig p es ds) (hc : CALLF prog w mg mb fns n f ds d)
    (hx : env.kindOf x = some .globalImplicit) 
    (hpl : (starEach es env).any (·.1) = false := by first | kernel_rfl! | rfl) (hd : (x == ("__debug__" : Str)) = false := by decide) (he : eval (.Call (.Name x np) es [] p) env = (do callWith p (← eval (.Name x np) env) [] (backTo p (starEach es env)) (backToKw p (keywordEach [] env))) := by first | kernel_rfl! | rfl) :
    EVF prog w mg mb fns n env sig (.Call (.Name x np) es [] p) d := fun A s rm R => by
  rw [he]
  obtain ⟨hv, hfn⟩ := R.gl.fn _ hf
  refine wpAny_bind (nameGlobal R hx hv ?_ hd)
  obtain ⟨o, ho, hdt⟩ := hfn.obj
  refine Calls.callWith_function (o := o) (fd := fd) (evalArgs_spliced (wpAny_at (hs A s rm R) fun vs s2 q2 => ⟨⟨q2.1.heap _ _ ho, hdt⟩,
      wpAny_at (hc A s2 vs rm (R.keeps _ _ _ _ q2.1).gl q2.2) fun r s3 q3 => ⟨q2.1.trans q3.1, q3.2.back q2.1⟩⟩) (backTo_plain hpl))
end
end Mine
end

-- LcD
section
open PySem PySem.W PyProof.Rows PySem.MeetsSeq PySem.SeqRoads2 PySem.SeqAt
set_option Elab.async false
set_option maxRecDepth 100000
set_option linter.unusedVariables false
namespace Mine

section
variable {prog : Program} {w : World}

theorem Reps.ints {h : Heap} {F : Addr → Prop} : ∀ {vs : List Value} {ns : List Int}, Reps h F vs (ns.map .int) → IntsAre vs ns
  | [], [], _ => .nil
  | _ :: _, [], r => by cases r
  | [], _ :: _, r => by cases r
  | v :: vs, m :: ns, r => by
    cases r with
    | cons r rs => cases r; exact .cons _ _ rs.ints
theorem Reps.strs {h : Heap} {F : Addr → Prop} : ∀ {vs : List Value} {ns : List Str}, Reps h F vs (ns.map .str) → StrsAre vs ns
  | [], [], _ => .nil
  | _ :: _, [], r => by cases r
  | [], _ :: _, r => by cases r
  | v :: vs, m :: ns, r => by
    cases r with
    | cons r rs => cases r; exact .cons _ _ rs.strs
theorem reps_of_strs {h : Heap} {F : Addr → Prop} : ∀ {vs : List Value} {ns : List Str}, StrsAre vs ns → Reps h F vs (ns.map .str)
  | _, _, .nil => .nil
  | _, _, .cons y t r => .cons (.str _ _) (reps_of_strs r)

theorem CALLB.lenS {x : Str} (hx : x.length < 2 ^ 60) : CALLB prog w "len" [.str x] (.int x.length) := fun A s vs hh r => by
  cases r with
  | cons r rs =>
    cases rs; cases r
    exact PySem.P.len_str (by omega) ⟨(Kp.tok s _), .int _ _⟩
theorem CALLB.lenL {l : List D} (hx : l.length < 2 ^ 60) : CALLB prog w "len" [.list l] (.int l.length) := fun A s vs hh r => by
  cases r with
  | cons r rs =>
    cases rs
    cases r with
    | @list a vs _ _ hl rs =>
      have := rs.length
      refine Calls.call_len_list hl.isList (by simp; omega) ⟨Kp.tok s _, ?_⟩
      simp only [List.size_toArray, this]
      exact .int _ _
theorem CALLB.sum {ns : List Int} : CALLB prog w "sum" [.list (ns.map .int)] (.int ns.sum) := fun A s vs hh r => by
  cases r with
  | cons r rs =>
    cases rs
    cases r with
    | @list a vs _ _ hl rs =>
      have hi := rs.ints
      obtain ⟨xs, hxs⟩ := hi.allInts.items
      have hn : numsOf vs = ns := hi.numsOf
      have hl2 : s.heap.IsList a (intItems xs) := by rw [← hxs]; exact hl.isList
      refine sum_intListG hh hl2 fun h' tk t' hk => ⟨Kp.of hk, ?_⟩
      have e : preSum (numAt xs) xs.size = ns.sum := by
        have h1 := nums_intItems (xs := xs)
        rw [preSum_eq, List.take_of_length_le (by simp), ← nums_intItems, ← hxs]
        show (numsOf vs).sum = _
        rw [hn]
      rw [e]; exact .int _ _
theorem CALLB.bitLength {a : Int} : CALLB prog w "int.bit_length" [.int a] (.int (Builtin.Int.intBits a : Nat)) := fun A s vs hh r => by
  cases r with
  | cons r rs =>
    cases rs; cases r
    exact call_gives PySem.F.slot_int_bit_length (typeIs_int _ _ _) PySem.F.entry_int_bit_length (PySem.F.args_int_bit_length_1 _) (AutoIntG2.int_bit_length_int_0 _ _) ⟨Kp.tok s _, .int _ _⟩
theorem CALLB.startswith {x y : Str} : CALLB prog w "str.startswith" [.str x, .str y] (.bool (Txt.startswith x y)) := fun A s vs hh r => by
  cases r with
  | cons r rs =>
    cases rs with
    | cons r2 rs => cases rs; cases r; cases r2; exact SC.startswith ⟨Kp.refl s, .bool _⟩
theorem CALLB.endswith {x y : Str} : CALLB prog w "str.endswith" [.str x, .str y] (.bool (Txt.endswith x y)) := fun A s vs hh r => by
  cases r with
  | cons r rs =>
    cases rs with
    | cons r2 rs => cases rs; cases r; cases r2; exact SC.endswith ⟨Kp.refl s, .bool _⟩
theorem CALLB.find {x y : Str} : CALLB prog w "str.find" [.str x, .str y] (.int (Txt.find x y)) := fun A s vs hh r => by
  cases r with
  | cons r rs =>
    cases rs with
    | cons r2 rs => cases rs; cases r; cases r2; exact SC.find ⟨Kp.tok s _, .int _ _⟩
open Builtin Builtin.Str in
theorem gives_find4 (x y : Str) (i j : Int) (t u v z : Tok) : Gives («str.find» ⟨[.str x t, .str y u, .int i v, .int j z], []⟩) (.int (match occurrences x y (fromIndex x.length i) (min (fromIndex x.length j) x.length) 1 with | k :: _ => (k : Int) | [] => -1)) := by
  show Gives (match occurrences x y (fromIndex x.length i) (min (fromIndex x.length j) x.length) 1 with | k :: _ => retInt k | [] => (do rule "str.find.not-found"; retInt (-1))) _
  cases occurrences x y (fromIndex x.length i) (min (fromIndex x.length j) x.length) 1 with
  | nil => exact .rule (.of_eq rfl)
  | cons k _ => exact .of_eq rfl
open Builtin Builtin.Str in
theorem gives_rfind4 (x y : Str) (i j : Int) (t u v z : Tok) : Gives («str.rfind» ⟨[.str x t, .str y u, .int i v, .int j z], []⟩) (.int (match lastOccurrence x y (fromIndex x.length i) (min (fromIndex x.length j) x.length) with | some k => (k : Int) | none => -1)) := by
  show Gives (match lastOccurrence x y (fromIndex x.length i) (min (fromIndex x.length j) x.length) with | some k => retInt k | none => (do rule "str.rfind.not-found"; retInt (-1))) _
  cases lastOccurrence x y (fromIndex x.length i) (min (fromIndex x.length j) x.length) with
  | none => exact .rule (.of_eq rfl)
  | some k => exact .of_eq rfl
def find4 (x y : Str) (i j : Int) : Int := match Builtin.Str.occurrences x y (fromIndex x.length i) (min (fromIndex x.length j) x.length) 1 with | k :: _ => (k : Int) | [] => -1
def rfind4 (x y : Str) (i j : Int) : Int := match Builtin.Str.lastOccurrence x y (fromIndex x.length i) (min (fromIndex x.length j) x.length) with | some k => (k : Int) | none => -1
theorem CALLB.find4 {x y : Str} {i j : Int} : CALLB prog w "str.find" [.str x, .str y, .int i, .int j] (.int (find4 x y i j)) := fun A s vs hh r => by
  cases r with
  | cons r rs =>
    cases rs with
    | cons r2 rs =>
      cases rs with
      | cons r3 rs =>
        cases rs with
        | cons r4 rs =>
          cases rs; cases r; cases r2; cases r3; cases r4
          exact call_gives PySem.F.slot_str_find (typeIs_str _ _ _) PySem.F.entry_str_find (PySem.F.args_str_find_4 _ _ _ _) (gives_find4 x y i j _ _ _ _) ⟨Kp.tok s _, .int _ _⟩
theorem CALLB.rfind4 {x y : Str} {i j : Int} : CALLB prog w "str.rfind" [.str x, .str y, .int i, .int j] (.int (rfind4 x y i j)) := fun A s vs hh r => by
  cases r with
  | cons r rs =>
    cases rs with
    | cons r2 rs =>
      cases rs with
      | cons r3 rs =>
        cases rs with
        | cons r4 rs =>
          cases rs; cases r; cases r2; cases r3; cases r4
          exact call_gives PySem.F.slot_str_rfind (typeIs_str _ _ _) PySem.F.entry_str_rfind (PySem.F.args_str_rfind_4 _ _ _ _) (gives_rfind4 x y i j _ _ _ _) ⟨Kp.tok s _, .int _ _⟩

theorem COP.inStr {x y : Str} : COP prog w .In (.str y) (.str x) (!(Builtin.Str.occurrences x y 0 x.length 1).isEmpty) := fun A s v1 v2 _ r1 r2 => by
  cases r1; cases r2; exact PySem.P.in_str ⟨Kp.refl s, rfl⟩
theorem COP.notInStr {x y : Str} : COP prog w .NotIn (.str y) (.str x) (!(!(Builtin.Str.occurrences x y 0 x.length 1).isEmpty)) := fun A s v1 v2 _ r1 r2 => by
  cases r1; cases r2; exact PySem.P.notIn_str ⟨Kp.refl s, rfl⟩

def valInt (k : Int) : Value → Bool
  | .int i _ => i == k
  | _ => false
theorem any_valInt {k : Int} : ∀ {vs : List Value} {ns : List Int}, IntsAre vs ns → vs.toArray.any (valInt k) = ns.contains k
  | _, _, .nil => by simp
  | _, _, .cons m t (vs := vs) (ns := ns) r => by
    have := any_valInt (k := k) r
    simp only [List.any_toArray, List.any_cons, List.contains_cons] at this ⊢
    rw [this]
    show ((m == k) || _) = _
    rw [Bool.beq_comm]
theorem mem_ints {vs : List Value} {ns : List Int} (r : IntsAre vs ns) : ∀ y ∈ vs, ∃ m t, y = .int m t := by
  induction r with
  | nil => intro y h; cases h
  | cons m t _ ih =>
    intro y h
    cases h with
    | head => exact ⟨m, t, rfl⟩
    | tail _ h => exact ih y h
theorem COP.inInts {ns : List Int} {k : Int} : COP prog w .In (.int k) (.list (ns.map .int)) (ns.contains k) := fun A s v1 v2 _ r1 r2 => by
  cases r1
  cases r2 with
  | @list a vs _ _ hl rs =>
    have hi := rs.ints
    obtain ⟨m, hl⟩ := hl
    refine in_list (valInt k) (fun y hy => ?_) hl ⟨Kp.refl s, by rw [any_valInt hi]⟩
    obtain ⟨m, t, rfl⟩ := mem_ints hi y (by simpa using hy)
    exact EqGives.int _ _ _ _
theorem COP.notInInts {ns : List Int} {k : Int} : COP prog w .NotIn (.int k) (.list (ns.map .int)) (!ns.contains k) := fun A s v1 v2 _ r1 r2 => by
  cases r1
  cases r2 with
  | @list a vs _ _ hl rs =>
    have hi := rs.ints
    obtain ⟨m, hl⟩ := hl
    refine notIn_list (valInt k) (fun y hy => ?_) hl ⟨Kp.refl s, by rw [any_valInt hi]⟩
    obtain ⟨m, t, rfl⟩ := mem_ints hi y (by simpa using hy)
    exact EqGives.int _ _ _ _

def valStr (k : Str) : Value → Bool
  | .str i _ => i.cps.toList == k.cps.toList
  | _ => false
theorem mem_strs {vs : List Value} {ns : List Str} (r : StrsAre vs ns) : ∀ y ∈ vs, ∃ m t, y = .str m t := by
  induction r with
  | nil => intro y h; cases h
  | cons m t _ ih =>
    intro y h
    cases h with
    | head => exact ⟨m, t, rfl⟩
    | tail _ h => exact ih y h
theorem get_ints {vs : List Value} {ns : List Int} (r : IntsAre vs ns) : ∀ (j : Nat) (m : Int), ns[j]? = some m → ∃ t, vs[j]? = some (.int m t) := by
  induction r with
  | nil => intro j m h; simp at h
  | cons m t _ ih =>
    intro j k h
    cases j with
    | zero => simp at h; subst h; exact ⟨t, rfl⟩
    | succ j => simpa using ih j k (by simpa using h)
theorem get_strs {vs : List Value} {ns : List Str} (r : StrsAre vs ns) : ∀ (j : Nat) (m : Str), ns[j]? = some m → ∃ t, vs[j]? = some (.str m t) := by
  induction r with
  | nil => intro j m h; simp at h
  | cons m t _ ih =>
    intro j k h
    cases j with
    | zero => simp at h; subst h; exact ⟨t, rfl⟩
    | succ j => simpa using ih j k (by simpa using h)
theorem ints_len {vs : List Value} {ns : List Int} (r : IntsAre vs ns) : vs.length = ns.length := by
  induction r with
  | nil => rfl
  | cons m t _ ih => simp [ih]
theorem strs_len {vs : List Value} {ns : List Str} (r : StrsAre vs ns) : vs.length = ns.length := by
  induction r with
  | nil => rfl
  | cons m t _ ih => simp [ih]

theorem CALLB.indexInts {ns : List Int} {k : Int} {j : Nat} (hj : ns[j]? = some k) (hno : ∀ m, m < j → ns[m]? ≠ some k) (hl64 : ns.length < 2 ^ 60) : CALLB prog w "list.index" [.list (ns.map .int), .int k] (.int j) := fun A s vs hh r => by
  cases r with
  | cons r rs =>
    cases rs with
    | cons r2 rs =>
      cases rs
      cases r2
      cases r with
      | @list a vs _ _ hl rs =>
        have hi := rs.ints
        have hlen := ints_len hi
        obtain ⟨e, hl⟩ := hl
        have hjl : j < ns.length := by
          rcases Nat.lt_or_ge j ns.length with h | h
          · exact h
          · rw [List.getElem?_eq_none h] at hj; cases hj
        refine call_meets PySem.F.slot_list_index ⟨_, hl, rfl⟩ PySem.F.entry_list_index (PySem.F.args_list_index_2 _ _) (list_index a vs.toArray e (.int k _) (valInt k) (fun y hy => ?_) j (by simp; omega) (by omega) ?_ ?_) ⟨hl, ⟨Kp.tok s _, .int _ _⟩⟩
        · obtain ⟨m, t, rfl⟩ := mem_ints hi y (by simpa using hy)
          exact EqGives.int _ _ _ _
        · obtain ⟨t, ht⟩ := get_ints hi j k hj
          have : vs.toArray[j]'(by simp; omega) = .int k t := by
            rw [List.getElem?_eq_getElem (by omega)] at ht
            simpa using ht
          rw [this]; show (k == k) = true; simp
        · intro m hm hmj
          have hml : m < ns.length := by omega
          obtain ⟨t, ht⟩ := get_ints hi m ns[m] (List.getElem?_eq_getElem hml)
          have : vs.toArray[m] = .int ns[m] t := by
            rw [List.getElem?_eq_getElem (by omega)] at ht
            simpa using ht
          rw [this]
          show (ns[m] == k) = false
          have := hno m hmj
          rw [List.getElem?_eq_getElem hml] at this
          simpa using this
theorem CALLB.indexStrs {ns : List Str} {k : Str} {j : Nat} (hj : ns[j]? = some k) (hno : ∀ m, m < j → ∀ z, ns[m]? = some z → z.cps.toList ≠ k.cps.toList) (hl64 : ns.length < 2 ^ 60) : CALLB prog w "list.index" [.list (ns.map .str), .str k] (.int j) := fun A s vs hh r => by
  cases r with
  | cons r rs =>
    cases rs with
    | cons r2 rs =>
      cases rs
      cases r2
      cases r with
      | @list a vs _ _ hl rs =>
        have hi := rs.strs
        have hlen := strs_len hi
        obtain ⟨e, hl⟩ := hl
        have hjl : j < ns.length := by
          rcases Nat.lt_or_ge j ns.length with h | h
          · exact h
          · rw [List.getElem?_eq_none h] at hj; cases hj
        refine call_meets PySem.F.slot_list_index ⟨_, hl, rfl⟩ PySem.F.entry_list_index (PySem.F.args_list_index_2 _ _) (list_index a vs.toArray e (.str k _) (valStr k) (fun y hy => ?_) j (by simp; omega) (by omega) ?_ ?_) ⟨hl, ⟨Kp.tok s _, .int _ _⟩⟩
        · obtain ⟨m, t, rfl⟩ := mem_strs hi y (by simpa using hy)
          exact EqGives.str _ _ _ _
        · obtain ⟨t, ht⟩ := get_strs hi j k hj
          have : vs.toArray[j]'(by simp; omega) = .str k t := by
            rw [List.getElem?_eq_getElem (by omega)] at ht
            simpa using ht
          rw [this]; show (k.cps.toList == k.cps.toList) = true; simp
        · intro m hm hmj
          have hml : m < ns.length := by omega
          obtain ⟨t, ht⟩ := get_strs hi m ns[m] (List.getElem?_eq_getElem hml)
          have : vs.toArray[m] = .str ns[m] t := by
            rw [List.getElem?_eq_getElem (by omega)] at ht
            simpa using ht
          rw [this]
          show (ns[m].cps.toList == k.cps.toList) = false
          have := hno m hmj _ (List.getElem?_eq_getElem hml)
          simpa using this

theorem bools_mem {h : Heap} {F : Addr → Prop} : ∀ {vs : List Value} {bs : List Bool}, Reps h F vs (bs.map .bool) → ∀ y ∈ vs, ∃ b, y = .bool b
  | [], _, _, y, hy => by cases hy
  | v :: vs, [], r, _, _ => by cases r
  | v :: vs, b :: bs, r, y, hy => by
    cases r with
    | cons r rs =>
      cases hy with
      | head => cases r; exact ⟨_, rfl⟩
      | tail _ hy => exact bools_mem rs y hy
theorem bools_count {h : Heap} {F : Addr → Prop} : ∀ {vs : List Value} {bs : List Bool}, Reps h F vs (bs.map .bool) → vs.countP (isBoolOf true) = bs.count true
  | [], [], _ => rfl
  | [], _ :: _, r => by cases r
  | v :: vs, [], r => by cases r
  | v :: vs, b :: bs, r => by
    cases r with
    | cons r rs =>
      cases r
      rw [List.countP_cons, List.count_cons, bools_count rs]
      rfl
theorem CALLB.countTrue {bs : List Bool} : CALLB prog w "list.count" [.list (bs.map .bool), .bool true] (.int (bs.count true : Nat)) := fun A s vs hh r => by
  cases r with
  | cons r rs =>
    cases rs with
    | cons r2 rs =>
      cases rs
      cases r2
      cases r with
      | @list a vs _ _ hl rs =>
        obtain ⟨e, hl⟩ := hl
        refine call_meets PySem.F.slot_list_count ⟨_, hl, rfl⟩ PySem.F.entry_list_count (PySem.F.args_list_count_2 _ _) (list_countAt a vs.toArray e none #[] (.bool true) (isBoolOf true)) ⟨hl, fun y hy => ?_, ?_⟩
        · obtain ⟨b, rfl⟩ := bools_mem rs y (by simpa using hy)
          exact EqAt.bool_bool b true
        · refine ⟨Kp.tok s _, ?_⟩
          have : (List.countP (isBoolOf true) vs.toArray.toList) = bs.count true := by simpa using bools_count rs
          rw [this]; exact .int _ _

def max3 (a b c : Int) : Int := if b > a then (if c > b then c else b) else (if c > a then c else a)
theorem CALLB.max3 {a b c : Int} : CALLB prog w "max" [.list [.int a, .int b, .int c]] (.int (max3 a b c)) := fun A s vs hh r => by
  cases r with
  | cons r rs =>
    cases rs
    cases r with
    | @list l vs _ _ hl rs =>
      cases rs with
      | cons r1 rs => cases rs with
        | cons r2 rs => cases rs with
          | cons r3 rs =>
            cases rs
            cases r1 with
            | int _ t => cases r2 with
              | int _ u => cases r3 with
                | int _ x =>
                  have hl2 : s.heap.IsList l (intItems #[(a, t), (b, u), (c, x)]) := by
                    have : intItems #[(a, t), (b, u), (c, x)] = #[.int a t, .int b u, .int c x] := by simp [intItems]
                    rw [this]; exact hl.isList
                  refine max_intList hh hl2 (by simp) fun v h' tk hv hk => ⟨Kp.of hk, ?_⟩
                  have hP' : (intItems #[(a, t), (b, u), (c, x)])[argBest (fun i j => decide (numAt #[(a, t), (b, u), (c, x)] i > numAt #[(a, t), (b, u), (c, x)] j)) 2]? = some v := hv
                  unfold Mine.max3
                  by_cases hba : b > a
                  · by_cases hc : c > b
                    · have e : argBest (fun i j => decide (numAt #[(a, t), (b, u), (c, x)] i > numAt #[(a, t), (b, u), (c, x)] j)) 2 = 2 := by simp [argBest, numAt, hba, hc]
                      rw [e] at hP'
                      have : v = .int c x := by simpa [intItems, hba, hc] using hP'.symm
                      rw [this, if_pos hba, if_pos hc]; exact .int _ _
                    · have e : argBest (fun i j => decide (numAt #[(a, t), (b, u), (c, x)] i > numAt #[(a, t), (b, u), (c, x)] j)) 2 = 1 := by simp [argBest, numAt, hba, hc]
                      rw [e] at hP'
                      have : v = .int b u := by simpa [intItems, hba, hc] using hP'.symm
                      rw [this, if_pos hba, if_neg hc]; exact .int _ _
                  · by_cases hc : c > a
                    · have e : argBest (fun i j => decide (numAt #[(a, t), (b, u), (c, x)] i > numAt #[(a, t), (b, u), (c, x)] j)) 2 = 2 := by simp [argBest, numAt, hba, hc]
                      rw [e] at hP'
                      have : v = .int c x := by simpa [intItems, hba, hc] using hP'.symm
                      rw [this, if_neg hba, if_pos hc]; exact .int _ _
                    · have e : argBest (fun i j => decide (numAt #[(a, t), (b, u), (c, x)] i > numAt #[(a, t), (b, u), (c, x)] j)) 2 = 0 := by simp [argBest, numAt, hba, hc]
                      rw [e] at hP'
                      have : v = .int a t := by simpa [intItems, hba, hc] using hP'.symm
                      rw [this, if_neg hba, if_neg hc]; exact .int _ _

theorem strsFrom_reps {h : Heap} {F : Addr → Prop} : ∀ (tk : Nat) (xs : List Str), Reps h F (strsFrom tk xs) (xs.map .str)
  | _, [] => .nil
  | tk, x :: r => .cons (.str _ _) (strsFrom_reps (tk + 1) r)
open Builtin Builtin.Str in
theorem CALLB.split {x y : Str} (hy : (y.length == 0) = false) (hsz : x.length ≤ sizeLine) (hsz2 : (partsBetween x (occurrences x y 0 x.length (x.length + 1)) y.length).length ≤ sizeLine) : CALLB prog w "str.split" [.str x, .str y] (.list ((Txt.split x y).map .str)) := fun A s vs hh r => by
  cases r with
  | cons r rs =>
    cases rs with
    | cons r2 rs =>
      cases rs; cases r; cases r2
      rename_i t u
      have itself : listOfItself x t A (wants (fun v s' => Kp s s' ∧ Rep s'.heap (Fresh s) v (.list [.str x])) (fun _ _ => False)) s := by
        exact Kp.newList (Kp.refl s) (.cons (.str _ _) .nil)
      cases h1 : (decide (x.length < y.length) || decide (strKind x < strKind y))
      · cases hf : (occurrences x y 0 x.length (x.length + 1)).isEmpty
        · refine call_meets PySem.F.slot_str_split (typeIs_str _ _ _) PySem.F.entry_str_split (PySem.F.args_str_split_2 _ _) (meets_str_split_sep x y t u h1 hy hf hsz hsz2) ?_
          have e : Txt.split x y = partsBetween x (occurrences x y 0 x.length (x.length + 1)) y.length := (if_neg (ne_true_of_eq_false h1)).trans (if_neg (ne_true_of_eq_false hf))
          rw [e]
          have := Kp.newList (s := s) (s1 := { s with toks := s.toks + (partsBetween x (occurrences x y 0 x.length (x.length + 1)) y.length).length }) (Kp.tok s _) (strsFrom_reps s.toks (partsBetween x (occurrences x y 0 x.length (x.length + 1)) y.length))
          exact this
        · have e : Txt.split x y = [x] := (if_neg (ne_true_of_eq_false h1)).trans (if_pos hf)
          rw [e]
          exact call_meets PySem.F.slot_str_split (typeIs_str _ _ _) PySem.F.entry_str_split (PySem.F.args_str_split_2 _ _) (meets_str_split_not_found x y t u h1 hy hf) itself
      · have e : Txt.split x y = [x] := (if_pos h1)
        rw [e]
        exact call_meets PySem.F.slot_str_split (typeIs_str _ _ _) PySem.F.entry_str_split (PySem.F.args_str_split_2 _ _) (meets_str_split_cannot_occur x y t u h1) itself
end
end Mine
end

-- LcE
section
open PySem PySem.W PyProof.Rows PySem.MeetsSeq PySem.SeqRoads2 PySem.SeqAt
set_option Elab.async false
set_option maxRecDepth 100000
set_option linter.unusedVariables false
namespace Mine

/-- a slice of a list -/
def dpick {α : Type} (l : List α) (lo hi st : Option Int) : List α :=
  (sliceRange (sliceBounds lo hi st l.length).1 (sliceBounds lo hi st l.length).2.1 (sliceBounds lo hi st l.length).2.2).filterMap (l[·]?)

theorem reps_filterMap {h : Heap} {F : Addr → Prop} {vs : List Value} {ds : List D} (r : Reps h F vs ds) : ∀ (is : List Nat), Reps h F (is.filterMap (vs[·]?)) (is.filterMap (ds[·]?))
  | [] => .nil
  | i :: is => by
    rw [List.filterMap_cons, List.filterMap_cons]
    cases hv : vs[i]? with
    | none =>
      have : ds[i]? = none := by
        rw [List.getElem?_eq_none_iff] at hv ⊢
        rw [← r.length]; exact hv
      rw [this]; exact reps_filterMap r is
    | some v =>
      obtain ⟨d, hd, rd⟩ := r.getv i hv
      rw [hd]; exact .cons rd (reps_filterMap r is)

section
variable (prog : Program) (w : World) (mg mb : Str → Option Value) (fns : List (Str × Nat × Addr × FuncData))
def PART (n : Nat) (env : Env) (sig : Sto) (e : Option Expr) (x : Option Int) : Prop :=
  ∀ A s, Room n A → Rd prog mg mb fns env sig s → wpAny (model prog w) A (evalPart e env) (fun v s' => Kp s s' ∧ IsPart v x) (fun _ _ => False) s
end
section
variable {prog : Program} {w : World} {mg mb : Str → Option Value} {fns : List (Str × Nat × Addr × FuncData)} {n : Nat} {env : Env} {sig : Sto}

theorem PART.none : PART prog w mg mb fns n env sig none none := fun A s rm R => wpAny_pure ⟨Kp.refl s, .none⟩
theorem PART.some {e : Expr} {i : Int} (h : EV prog w mg mb fns n env sig e (.int i)) : PART prog w mg mb fns n env sig (some e) (some i) := fun A s rm R =>
  wpAny_at (h A s rm R) fun v s' q => by
    obtain ⟨k, r⟩ := q
    cases r; exact ⟨k, .int _ _⟩

theorem EVF.slice {v : Expr} {lower upper step : Option Expr} {p sp : Pos} {l : List D} {lo hi st : Option Int} (h : EV prog w mg mb fns n env sig v (.list l)) (hf : ∀ d ∈ l, d.flat = true)
    (h1 : PART prog w mg mb fns n env sig lower lo) (h2 : PART prog w mg mb fns n env sig upper hi) (h3 : PART prog w mg mb fns n env sig step st) (h0 : st ≠ some 0) (hz : l.length ≤ sizeLine)
    (hs : ∀ o j, ∃ ops, subscripted (.Slice lower upper step sp) false o j = operate ops (getItem o j) := by intro o j; exact ⟨_, rfl⟩) :
    EVF prog w mg mb fns n env sig (.Subscript v (.Slice lower upper step sp) p) (.list (dpick l lo hi st)) := fun A s rm R =>
  Subscript_ (wpAny_at (h A s rm R) fun o s1 q1 => wpAny_Slice (wpAny_at (h1 A s1 rm (R.keeps _ _ _ _ q1.1)) fun v1 s2 q2 => wpAny_at (h2 A s2 rm (R.keeps _ _ _ _ (q1.1.trans q2.1))) fun v2 s3 q3 => wpAny_at (h3 A s3 rm (R.keeps _ _ _ _ ((q1.1.trans q2.1).trans q3.1))) fun v3 s4 q4 => by
    have k := ((q1.1.trans q2.1).trans q3.1).trans q4.1
    have k4 : Kp s4 { s4 with heap := s4.heap.push { cls := .type "slice", data := .fields #[v1, v2, v3] } } := Kp.push s4 _
    have r := q1.2.up (((q2.1.trans q3.1).trans q4.1).trans k4)
    cases r with
    | @list a vs _ _ hl rs =>
      obtain ⟨ops, hops⟩ := hs (.ref a) (.ref s4.heap.objs.size)
      refine tail_any hl.isList.typeIs slot_list_getitem.lookup (wpAny_getItem_list_slice hl.isList (Heap.IsSliceOf.new ..) q2.2 q3.2 q4.2 h0 ?_ (by simp; rw [rs.length]; exact hz)) hops
      have e : slicePick vs.toArray lo hi st = (dpick vs lo hi st).toArray := by
        unfold slicePick dpick
        simp
      rw [e]
      refine Kp.newList (k.trans k4) ?_
      have := reps_filterMap rs (sliceRange (sliceBounds lo hi st l.length).1 (sliceBounds lo hi st l.length).2.1 (sliceBounds lo hi st l.length).2.2)
      unfold dpick
      rw [rs.length]
      refine this.flat fun d hd => ?_
      obtain ⟨i, _, hi⟩ := List.mem_filterMap.mp hd
      exact hf d (List.mem_of_getElem? hi)))

theorem dpick_val {α : Type} (l : List α) (lo hi : Option Int) : dpick l lo hi none = (l.drop (lo.elim 0 (clipAt l.length))).take (hi.elim l.length (clipAt l.length) - lo.elim 0 (clipAt l.length)) := by
  unfold dpick
  rw [sliceBounds_plain]
  simp only
  rw [sliceRange_one]
  have := pick_run l.toArray (lo.elim 0 (clipAt l.length)) (hi.elim l.length (clipAt l.length) - lo.elim 0 (clipAt l.length))
  simpa using this
theorem dpick_to {α : Type} (l : List α) (b : Nat) : dpick l none (some (b : Int)) none = l.take b := by
  rw [dpick_val]
  show (l.drop 0).take (clipAt l.length (b : Int) - 0) = _
  rw [clipAt_nat, List.drop_zero, Nat.sub_zero]
  rcases Nat.le_total b l.length with h | h
  · rw [Nat.min_eq_left h]
  · rw [Nat.min_eq_right h, List.take_of_length_le (Nat.le_refl _), List.take_of_length_le h]
theorem dpick_from {α : Type} (l : List α) (a : Nat) : dpick l (some (a : Int)) none none = l.drop a := by
  rw [dpick_val]; simp [clipAt_nat, Nat.min_def]
  split
  · rw [List.take_of_length_le (by simp)]
  · rw [List.drop_of_length_le (by omega)]; simp; omega
theorem dpick_map {α β : Type} (f : α → β) (l : List α) (lo hi st : Option Int) : dpick (l.map f) lo hi st = (dpick l lo hi st).map f := by
  unfold dpick
  simp [List.map_filterMap]

/-- sorted(names) -/
theorem callSorted {A : Around} {s : Shared} {v : Value} {ss : List Str} (r : Rep s.heap Any v (.list (ss.map .str))) (h64 : ss.length < 64) :
    wpAny (model prog w) A (call (.builtin "sorted") [v]) (fun v s' => Kp s s' ∧ ∃ ss', ss'.Perm ss ∧ sortedS ss' = true ∧ Rep s'.heap (Fresh s) v (.list (ss'.map .str))) (fun _ _ => False) s := by
  cases r with
  | @list a vs _ _ hl rs =>
    refine sorted_strs hl.isList rs.strs (by rw [strs_len rs.strs]; exact h64) fun out ss' h1 h2 h3 => ?_
    obtain ⟨e, he⟩ := sortedAll_at s.heap vs out
    refine ⟨Kp.of (t := s.toks) fun _ _ => sortedAll_old, ss', h2, h3, .list (vs := out.toList) ?_ ⟨e, by simpa using he⟩ (reps_of_strs h1)⟩
    show s.heap.get? _ = none
    cases q : s.heap.get? (s.heap.objs.size + 1) with
    | none => rfl
    | some o => have := Heap.lt_size q; exact absurd this (Nat.not_lt.mpr (Nat.le_succ _))
end
end Mine
end

-- LcF
section
open PySem PySem.W PyProof.Rows PySem.MeetsSeq PySem.SeqRoads2 PySem.SeqAt
set_option Elab.async false
set_option maxRecDepth 100000
set_option linter.unusedVariables false
namespace Mine

section
variable (prog : Program) (w : World) (mg mb : Str → Option Value) (fns : List (Str × Nat × Addr × FuncData))
/-- it, made in s₂ out of s₁, walks over ds -/
def IterOf (A : Around) (lst : Bool) (s₁ : Shared) (it : Value) (s₂ : Shared) (ds : List D) : Prop :=
  ∃ I fp wr P St, it = .ref I ∧ Walks prog w A I fp wr ds.length P St ∧ St 0 s₂.heap ∧ (∀ b ∈ wr, s₁.heap.get? b = none) ∧ (∀ b ∈ fp, b < s₂.heap.objs.size) ∧
    (∀ i (h : Heap), St i h → ∀ b ∈ fp, ∃ o, h.get? b = some o ∧ (¬ ∃ es k, o.data = .dict es k) ∧ (¬ ∃ v, o.data = .cell v) ∧ (o.cls = .type "list" → lst = true)) ∧
    (∀ i (h : Heap), St i h → ∀ b ∈ wr, ∃ o fs, h.get? b = some o ∧ o.data = .fields fs) ∧
    ∀ i v (h : Heap), i < ds.length → P i v → (∀ b o, s₁.heap.get? b = some o → h.get? b = some o) → ∃ d, ds[i]? = some d ∧ Rep h Any v d
def IT (lst : Bool) (n : Nat) (env : Env) (sig : Sto) (e : Expr) (ds : List D) : Prop :=
  ∀ A s, Room n A → Rd prog mg mb fns env sig s → wpAny (model prog w) A (eval e env) (fun v s₁ => Kp s s₁ ∧ wpAny (model prog w) A (pyIter v) (fun it s₂ => Kp s₁ s₂ ∧ IterOf prog w A lst s₁ it s₂ ds) (fun _ _ => False) s₁) (fun _ _ => False) s
end

section
variable {prog : Program} {w : World} {mg mb : Str → Option Value} {fns : List (Str × Nat × Addr × FuncData)} {n : Nat} {env : Env} {sig : Sto}

theorem IT.list {e : Expr} {ds : List D} (h : EV prog w mg mb fns n env sig e (.list ds)) : IT prog w mg mb fns true n env sig e ds := fun A s rm R =>
  wpAny_at (h A s rm R) fun v s1 q => by
    refine ⟨q.1, ?_⟩
    obtain ⟨k, r⟩ := q
    cases r with
    | @list a vs _ _ hl rs =>
      have ha : a < s1.heap.objs.size := by obtain ⟨m, e⟩ := hl; exact Heap.lt_size e
      refine wpAny_pyIter_list hl.isList ⟨Kp.push s1 _, s1.heap.objs.size, [s1.heap.objs.size, a], [s1.heap.objs.size], (fun i v => vs.toArray[i]? = some v), (fun i h => h.IsListIter s1.heap.objs.size a i ∧ h.IsList a vs.toArray), rfl, ?_, ⟨⟨_, Heap.get?_push_size _ rfl, rfl, rfl⟩, hl.isList.push _⟩, ?_, ?_, ?_, ?_, ?_⟩
      · have := Walks.list (prog := prog) (w := w) (A := A) rm.hd s1.heap.objs.size a (Nat.ne_of_lt ha) vs.toArray
        rw [show vs.toArray.size = ds.length by simp [rs.length]] at this
        exact this
      · intro b hb
        simp at hb; subst hb
        exact Fresh.size s1
      · intro b hb
        show b < (s1.heap.push _).objs.size
        rw [Heap.size_push]
        simp at hb
        rcases hb with rfl | rfl
        · exact Nat.lt_succ_self _
        · exact Nat.lt_succ_of_lt ha
      · rintro i h ⟨⟨o1, ho1, hc1, hd1⟩, ⟨o2, ho2, hc2, k2, hd2⟩⟩ b hb
        simp at hb
        rcases hb with rfl | rfl
        · exact ⟨o1, ho1, (by rintro ⟨es, k, q⟩; rw [hd1] at q; cases q), (by rintro ⟨es, q⟩; rw [hd1] at q; cases q), fun _ => rfl⟩
        · exact ⟨o2, ho2, (by rintro ⟨es, k, q⟩; rw [hd2] at q; cases q), (by rintro ⟨es, q⟩; rw [hd2] at q; cases q), fun _ => rfl⟩
      · rintro i h ⟨⟨o1, ho1, hc1, hd1⟩, _⟩ b hb
        simp at hb; subst hb
        exact ⟨o1, _, ho1, hd1⟩
      · intro i v h _ hP hk
        obtain ⟨d, hd, rd⟩ := rs.getv i (v := v) (by simpa using hP)
        exact ⟨d, hd, rd.keeps fun b o _ e => ⟨hk b o e, trivial⟩⟩
theorem IT.tup {e : Expr} {ds : List D} (h : EV prog w mg mb fns n env sig e (.tup ds)) : IT prog w mg mb fns false n env sig e ds := fun A s rm R =>
  wpAny_at (h A s rm R) fun v s1 q => by
    refine ⟨q.1, ?_⟩
    obtain ⟨k, r⟩ := q
    cases r with
    | @tup a vs _ _ hl rs =>
      have ha : a < s1.heap.objs.size := by obtain ⟨m, e, _⟩ := hl; exact Heap.lt_size e
      refine wpAny_pyIter_tuple hl ⟨Kp.push s1 _, s1.heap.objs.size, [s1.heap.objs.size, a], [s1.heap.objs.size], (fun i v => vs.toArray[i]? = some v), (fun i h => h.IsTupleIter s1.heap.objs.size a i ∧ h.IsTuple a vs.toArray), rfl, ?_, ⟨⟨_, Heap.get?_push_size _ rfl, rfl, rfl⟩, hl.push _⟩, ?_, ?_, ?_, ?_, ?_⟩
      · have := Walks.tuple (prog := prog) (w := w) (A := A) rm.hd s1.heap.objs.size a (Nat.ne_of_lt ha) vs.toArray
        rw [show vs.toArray.size = ds.length by simp [rs.length]] at this
        exact this
      · intro b hb
        simp at hb; subst hb
        exact Fresh.size s1
      · intro b hb
        show b < (s1.heap.push _).objs.size
        rw [Heap.size_push]
        simp at hb
        rcases hb with rfl | rfl
        · exact Nat.lt_succ_self _
        · exact Nat.lt_succ_of_lt ha
      · rintro i h ⟨⟨o1, ho1, hc1, hd1⟩, ⟨o2, ho2, hc2, k2, hd2⟩⟩ b hb
        simp at hb
        rcases hb with rfl | rfl
        · exact ⟨o1, ho1, (by rintro ⟨es, k, q⟩; rw [hd1] at q; cases q), (by rintro ⟨es, q⟩; rw [hd1] at q; cases q), fun q => by rw [hc1] at q; exact absurd q (by decide)⟩
        · exact ⟨o2, ho2, (by rintro ⟨es, k, q⟩; rw [hd2] at q; cases q), (by rintro ⟨es, q⟩; rw [hd2] at q; cases q), fun q => by rw [hc2] at q; exact absurd q (by decide)⟩
      · rintro i h ⟨⟨o1, ho1, hc1, hd1⟩, _⟩ b hb
        simp at hb; subst hb
        exact ⟨o1, _, ho1, hd1⟩
      · intro i v h _ hP hk
        obtain ⟨d, hd, rd⟩ := rs.getv i (v := v) (by simpa using hP)
        exact ⟨d, hd, rd.keeps fun b o _ e => ⟨hk b o e, trivial⟩⟩

/-- a, a + 1, .. (k of them) -/
def upFrom (a : Int) (k : Nat) : List D := (List.range k).map fun i => .int (a + (i : Nat))

theorem iter_range {A : Around} {s1 : Shared} {a b : Int} {t u v : Tok} {r : Addr} (hh : A.handled = none) (hr : IsRange s1.heap r a b 1 t u v) (k : Nat) (hk : b = a + k) (ha : -1000 ≤ a ∧ a ≤ 1000) (hk2 : k ≤ 1000) :
    wpAny (model prog w) A (pyIter (.ref r)) (fun it s₂ => Kp s1 s₂ ∧ IterOf prog w A false s1 it s₂ (upFrom a k)) (fun _ _ => False) s1 := by
  have hsm : Builtin.Range.small a b 1 = true := small_one (by omega) (by omega) (by omega) (by omega)
  have hsz : Builtin.Range.rangeSize a b 1 = (k : Int) := by rw [rangeSize_one]; split <;> omega
  refine wpAny_pyIter_range hr hsm ⟨Kp.push s1 _, s1.heap.objs.size, [s1.heap.objs.size], [s1.heap.objs.size], (fun i v => ∃ t, v = Value.int (a + i * 1) t), (fun i h => IsRangeIter h s1.heap.objs.size (a + (i : Nat) * 1) ((k : Int) - (i : Nat)) 1), rfl, ?_, ?_, ?_, ?_, ?_, ?_, ?_⟩
  · have := Walks.range (prog := prog) (w := w) (A := A) hh s1.heap.objs.size a 1 k
    rw [show (upFrom a k).length = k by simp [upFrom]]
    exact this
  · show (s1.heap.push _).get? _ = _
    rw [Heap.get?_push_size _ rfl, hsz]
    simp
  · intro b hb
    simp at hb; subst hb
    exact Fresh.size s1
  · intro b hb
    show b < (s1.heap.push _).objs.size
    rw [Heap.size_push]
    simp at hb; subst hb; exact Nat.lt_succ_self _
  · intro i h hh b hb
    simp at hb; subst hb
    exact ⟨_, hh, (by rintro ⟨es, k, q⟩; cases q), (by rintro ⟨es, q⟩; cases q), fun q => absurd (show Value.type "range_iterator" = Value.type "list" from q) (by decide)⟩
  · intro i h hh b hb
    simp at hb; subst hb
    exact ⟨_, _, hh, rfl⟩
  · rintro i v h hi ⟨t, rfl⟩ _
    refine ⟨.int (a + (i : Nat)), ?_, ?_⟩
    · have : i < k := by simpa [upFrom] using hi
      simp [upFrom, this]
    · rw [Int.mul_one]; exact .int _ _

theorem IT.range1 {e : Expr} {np p : Pos} {k : Nat} (h : EV prog w mg mb fns n env sig e (.int k)) (hk2 : k ≤ 1000) (hx : env.kindOf "range" = some .globalImplicit)
    (hpl : (starEach [e] env).any (·.1) = false := by first | kernel_rfl! | rfl) (hst : starEach [e] env = (false, eval e env) :: starEach [] env := by first | exact star_name | exact star_const | exact star_bin | exact star_call | exact star_sub | exact star_list | kernel_rfl! | rfl)
    (he : eval (.Call (.Name "range" np) [e] [] p) env = (do callWith p (← eval (.Name "range" np) env) [] (backTo p (starEach [e] env)) (backToKw p (keywordEach [] env))) := by first | kernel_rfl! | rfl) :
    IT prog w mg mb fns false n env sig (.Call (.Name "range" np) [e] [] p) (upFrom 0 k) := fun A s rm R => by
  rw [he]
  refine wpAny_bind (nameBuiltin R hx (by decide) boot_range ?_)
  refine PySem.callWith_type (backTo_plain hpl) (evalArgs_spliced (wpAny_at ((EVS.cons h EVS.nil hst) A s rm R) fun vs s2 q2 => ?_) (backTo_plain hpl))
  obtain ⟨k2, r⟩ := q2
  cases r with
  | cons r rs =>
    cases rs; cases r
    refine call_range_1 ⟨k2.trans (Kp.of fun _ _ e => Heap.get?_push_of_some _ e), ?_⟩
    exact iter_range rm.hd (IsRange.new ..) k (by omega) (by omega) hk2
theorem IT.range2 {e e2 : Expr} {np p : Pos} {a : Int} {k : Nat} (h : EV prog w mg mb fns n env sig e (.int a)) (h2 : EV prog w mg mb fns n env sig e2 (.int (a + k))) (hk2 : k ≤ 1000) (ha : -1000 ≤ a ∧ a ≤ 1000) (hx : env.kindOf "range" = some .globalImplicit)
    (hpl : (starEach [e, e2] env).any (·.1) = false := by first | kernel_rfl! | rfl) (hst : starEach [e, e2] env = (false, eval e env) :: starEach [e2] env := by first | exact star_name | exact star_const | exact star_bin | exact star_call | exact star_sub | exact star_list | kernel_rfl! | rfl) (hst2 : starEach [e2] env = (false, eval e2 env) :: starEach [] env := by first | exact star_name | exact star_const | exact star_bin | exact star_call | exact star_sub | exact star_list | kernel_rfl! | rfl)
    (he : eval (.Call (.Name "range" np) [e, e2] [] p) env = (do callWith p (← eval (.Name "range" np) env) [] (backTo p (starEach [e, e2] env)) (backToKw p (keywordEach [] env))) := by first | kernel_rfl! | rfl) :
    IT prog w mg mb fns false n env sig (.Call (.Name "range" np) [e, e2] [] p) (upFrom a k) := fun A s rm R => by
  rw [he]
  refine wpAny_bind (nameBuiltin R hx (by decide) boot_range ?_)
  refine PySem.callWith_type (backTo_plain hpl) (evalArgs_spliced (wpAny_at ((EVS.cons h (EVS.cons h2 EVS.nil hst2) hst) A s rm R) fun vs s2 q2 => ?_) (backTo_plain hpl))
  obtain ⟨k2, r⟩ := q2
  cases r with
  | cons r rs =>
    cases rs with
    | cons r2 rs =>
      cases rs; cases r; cases r2
      refine call_range_2 ⟨k2.trans (Kp.of fun _ _ e => Heap.get?_push_of_some _ e), ?_⟩
      exact iter_range rm.hd (IsRange.new ..) k rfl ha hk2
end
end Mine
end

-- LcG
section
open PySem PySem.W PyProof.Rows PySem.MeetsSeq PySem.SeqRoads2 PySem.SeqAt
set_option Elab.async false
set_option maxRecDepth 100000
set_option linter.unusedVariables false
set_option linter.unusedSimpArgs false
namespace Mine

def closF (env : Env) : List (Str × NameKind) → List (Str × Addr) → List (Str × Addr)
  | [], acc => acc
  | (x, k) :: r, acc => if k == .free then closF env r ((x, (env.cells.lookup x).getD 0) :: acc) else closF env r acc

theorem closureFor_eq {scope : Scope} {env : Env} (h : ∀ x ∈ scope.names, x.2 = .free → ∃ c, env.cells.lookup x.1 = some c) : closureFor scope env = pure (closF env scope.names []) := by
  unfold closureFor
  have key : ∀ (names : List (Str × NameKind)) (acc : List (Str × Addr)), (∀ x ∈ names, x.2 = .free → ∃ c, env.cells.lookup x.1 = some c) →
      (forIn names acc fun x r => if (x.2 == NameKind.free) = true then (do let a ← cellOf env x.1; pure (ForInStep.yield ((x.1, a) :: r))) else pure (ForInStep.yield r)) = (pure (closF env names acc) : Sem (List (Str × Addr))) := by
    intro names
    induction names with
    | nil => intro acc _; rfl
    | cons x r ih =>
      intro acc hx
      obtain ⟨y, k⟩ := x
      rw [List.forIn_cons]
      by_cases hk : (k == NameKind.free) = true
      · obtain ⟨c, hc⟩ := hx (y, k) List.mem_cons_self (by simpa using hk)
        have hco : cellOf env y = pure c := by
          unfold cellOf
          simp only at hc
          rw [hc]
        simp only [hk, if_true]
        rw [hco]
        simp only [pure_bind]
        rw [ih _ fun z hz => hx z (List.mem_cons_of_mem _ hz)]
        rw [closF, if_pos hk]
        simp only at hc
        rw [hc]; rfl
      · simp only [hk, if_false]
        simp only [Bool.false_eq_true, if_false, pure_bind]
        rw [ih _ fun z hz => hx z (List.mem_cons_of_mem _ hz)]
        rw [closF, if_neg hk]
  have := key scope.names [] h
  simp only [bind_pure_comp] at this ⊢
  simp only [map_pure, pure_bind, bind_pure]
  first | exact this | (rw [this])

theorem closF_lookup {env : Env} {y : Str} {c : Addr} (hc : env.cells.lookup y = some c) : ∀ (names : List (Str × NameKind)) (acc : List (Str × Addr)), (acc.lookup y = some c ∨ (y, NameKind.free) ∈ names) → (closF env names acc).lookup y = some c
  | [], acc, h => by
    rcases h with h | h
    · exact h
    · cases h
  | (x, k) :: r, acc, h => by
    unfold closF
    by_cases hk : (k == NameKind.free) = true
    · rw [if_pos hk]
      refine closF_lookup hc r _ ?_
      by_cases hx : y = x
      · subst hx
        left
        rw [List.lookup_cons, beq_self_eq_true, hc]; rfl
      · rcases h with h | h
        · left
          rw [List.lookup_cons]
          have : (y == x) = false := by simpa using hx
          rw [this]; exact h
        · right
          cases h with
          | head => exact absurd rfl hx
          | tail _ h => exact h
    · rw [if_neg hk]
      refine closF_lookup hc r _ (h.imp id fun h => ?_)
      cases h with
      | head => exact absurd rfl hk
      | tail _ h => exact h

theorem cellsFrom_append : ∀ (names : List (Str × NameKind)) (n : Nat) (acc : List (Str × Addr)), cellsFrom n names acc = cellsFrom n names [] ++ acc
  | [], _, _ => rfl
  | (x, k) :: r, n, acc => by
    unfold cellsFrom
    split
    · rw [cellsFrom_append r (n + 1) ((x, n) :: acc), cellsFrom_append r (n + 1) [(x, n)]]; simp
    · exact cellsFrom_append r n acc
theorem cellsFrom_none {y : Str} : ∀ (names : List (Str × NameKind)) (n : Nat), (∀ q ∈ names, q.1 = y → q.2 ≠ .cell) → (cellsFrom n names []).lookup y = none
  | [], _, _ => rfl
  | (x, k) :: r, n, h => by
    have hr : ∀ q ∈ r, q.1 = y → q.2 ≠ .cell := fun q hq => h q (List.mem_cons_of_mem _ hq)
    unfold cellsFrom
    split
    · rename_i hk
      rw [cellsFrom_append, List.lookup_append, cellsFrom_none r _ hr]
      have hx : (y == x) = false := by
        have := h (x, k) List.mem_cons_self
        cases hb : y == x with
        | false => rfl
        | true => exact absurd (by simpa using hk) (this (by simpa using (beq_iff_eq.mp hb).symm))
      simp [List.lookup_cons, hx]
    · exact cellsFrom_none r n hr

theorem lookup_relabel {env : Env} : ∀ {names : List (Str × NameKind)} {x : Str} {k : NameKind}, names.lookup x = some k →
    (names.map fun (n, k) => if (k == NameKind.free && env.scope.kind == .function && env.kindOf n == some .cell) then (n, NameKind.cell) else (n, k)).lookup x =
      some (if (k == NameKind.free && env.scope.kind == .function && env.kindOf x == some .cell) then .cell else k)
  | [], _, _, h => by simp at h
  | (n, k0) :: r, x, k, h => by
    show List.lookup x ((if (k0 == NameKind.free && env.scope.kind == .function && env.kindOf n == some .cell) = true then (n, NameKind.cell) else (n, k0)) :: _) = _
    cases hx : x == n with
    | true =>
      simp only [List.lookup_cons, hx] at h
      cases h
      have hxn := beq_iff_eq.mp hx
      subst hxn
      by_cases hc : (k0 == NameKind.free && env.scope.kind == .function && env.kindOf x == some .cell) = true
      · rw [if_pos hc, if_pos hc]; simp [List.lookup_cons]
      · rw [if_neg hc, if_neg hc]; simp [List.lookup_cons]
    | false =>
      simp only [List.lookup_cons, hx] at h
      have ih := lookup_relabel (env := env) h
      by_cases hc : (k0 == NameKind.free && env.scope.kind == .function && env.kindOf n == some .cell) = true
      · rw [if_pos hc]; simp only [List.lookup_cons, hx]; exact ih
      · rw [if_neg hc]; simp only [List.lookup_cons, hx]; exact ih

/-- the object that a store to x changes -/
def Tgt (env : Env) (x : Str) (t : Addr) (h : Heap) : Prop :=
  (env.kindOf x = some .local ∧ t = env.locals ∧ ∃ m, h.Ns t m) ∨ (env.kindOf x = some .cell ∧ env.cells.lookup x = some t ∧ ∃ v, h.IsCell t v)
theorem Tgt.keeps {env : Env} {x : Str} {t : Addr} {h h' : Heap} (q : Tgt env x t h) (hk : ∀ o, h.get? t = some o → h'.get? t = some o) : Tgt env x t h' := by
  rcases q with ⟨a, b, m, c⟩ | ⟨a, b, v, c⟩
  · exact .inl ⟨a, b, m, c.at' hk⟩
  · obtain ⟨o, ho, r⟩ := c
    exact .inr ⟨a, b, v, o, hk o ho, r⟩
theorem Tgt.lt {env : Env} {x : Str} {t : Addr} {h : Heap} (q : Tgt env x t h) : t < h.objs.size := by
  rcases q with ⟨a, b, m, c⟩ | ⟨a, b, v, c⟩
  · exact c.lt
  · exact c.lt

theorem store_tgt {M : Model} {A : Around} {env : Env} {x : Str} {t : Addr} {v : Value} {s : Shared} {Q : Unit → Shared → Prop} {E : Value → Shared → Prop} (hk : env.scope.kind = .function) (q : Tgt env x t s.heap)
    (h : ∀ h' tk, Heap.SameBut t s.heap h' → Loads env h' x v → Tgt env x t h' → Q () { s with heap := h', toks := tk }) : wpAny M A (storeName env x v) Q E s := by
  rcases q with ⟨a, rfl, m, c⟩ | ⟨a, b, v0, c⟩
  · exact wpAny_storeName_local a c (fun h' hn hs => h h' _ hs (.inl ⟨a, _, hn, by simp⟩) (.inl ⟨a, rfl, _, hn⟩)) (by rw [hk]; rfl)
  · exact wpAny_storeName_cell hk a b c fun h' hv hs => h h' s.toks hs (.inr ⟨a, _, b, hv⟩) (.inr ⟨a, b, _, hv⟩)

section
variable (prog : Program) (w : World) (mg mb : Str → Option Value) (fns : List (Str × Nat × Addr × FuncData))
def TESTS (n : Nat) (env : Env) (sig : Sto) (ifs : List Expr) (b : Bool) : Prop :=
  ∀ A s, Room n A → Rd prog mg mb fns env sig s → wpAny (model prog w) A (forIn ifs true fun c r => if r = true then do let ok ← isTrue c env (eval c env); pure (ForInStep.yield ok) else pure (ForInStep.yield r)) (fun v s' => Kp s s' ∧ v = b) (fun _ _ => False) s
end
section
variable {prog : Program} {w : World} {mg mb : Str → Option Value} {fns : List (Str × Nat × Addr × FuncData)} {n : Nat} {env : Env} {sig : Sto}
theorem TESTS.nil : TESTS prog w mg mb fns n env sig [] true := fun A s rm R => wpAny_tests_nil ⟨Kp.refl s, rfl⟩
theorem TESTS.one {c : Expr} {b : Bool} (h : TV prog w mg mb fns n env sig c b) : TESTS prog w mg mb fns n env sig [c] b := fun A s rm R => wpAny_tests_one (h A s rm R)

theorem newEnv_comp {M : Model} {A : Around} {s : Shared} {E : Value → Shared → Prop} {scope : Scope} {globals : Addr} {cl : List (Str × Addr)} {qual : Str} {Q : Env → Shared → Prop}
    (h : Q (newEnv scope s.heap.objs.size globals (cellsFrom (s.heap.objs.size + 1) scope.names cl) qual none .none (some env) builtinsNs) { s with heap := pushCells (s.heap.push { cls := .type "dict", data := .dict #[] }) scope.names }) :
    wpAny M A (newFunctionEnv scope globals cl [] qual none .none (some env)) Q E s := by
  simp only [newFunctionEnv, Option.isSome_some, if_true]
  refine wpAny_bind (wpAny_alloc ?_)
  refine wpAny_bind (wpAny_layCells _ (fun name kind cells => by cases hkc : kind == NameKind.cell <;> simp [hkc]) _ _ _ _ ?_)
  rw [show ({ s with heap := s.heap.push { cls := .type "dict", data := .dict #[] } } : Shared).heap.objs.size = s.heap.objs.size + 1 from Heap.size_push ..]
  rw [List.forIn_nil]
  exact wpAny_bind (wpAny_pure (wpAny_pure h))
end
end Mine
end

-- LcH
section
open PySem PySem.W PyProof.Rows PySem.MeetsSeq PySem.SeqRoads2 PySem.SeqAt
set_option Elab.async false
set_option maxRecDepth 100000
set_option linter.unusedVariables false
set_option linter.unusedSimpArgs false
namespace Mine

section
variable {prog : Program} {w : World} {mg mb : Str → Option Value} {fns : List (Str × Nat × Addr × FuncData)} {n : Nat} {env : Env} {sig : Sto}

/-- what a comprehension may look at -/
structure CompOk (env : Env) (sig : Sto) (scope : Scope) (sc : Sto) : Prop where
  kind : scope.kind = .function
  free : ∀ x ∈ scope.names, x.2 = .free → env.kindOf x.1 = some .cell ∧ ∃ d, sig.lookup x.1 = some d
  seen : ∀ p ∈ sc, scope.names.lookup p.1 = some .free ∧ (∀ q ∈ scope.names, q.1 = p.1 → q.2 = .free) ∧ sig.lookup p.1 = some p.2
  locs : ∀ x ∈ scope.names, x.2 = .local → scope.names.lookup x.1 = some .local

theorem mem_lookup {α : Type} : ∀ {l : List (Str × α)} {x : Str} {d : α}, l.lookup x = some d → (x, d) ∈ l := PySem.mem_of_lookup

/-- the frame of a comprehension: its dict, its cells; everything of s₁ stands -/
structure CompIn (prog : Program) (mg mb : Str → Option Value) (fns : List (Str × Nat × Addr × FuncData)) (env : Env) (scope : Scope) (sc : Sto) (s₁ : Shared) (cenv : Env) : Prop where
  scope : cenv.scope = relabel scope env
  rd : ∀ (s : Shared) (extra : Sto), Kp s₁ s → (∀ x d, extra.lookup x = some d → ∃ v, Loads cenv s.heap x v ∧ Rep s.heap Any v d) → Rd prog mg mb fns cenv (extra ++ sc) s

theorem lookup_app {α : Type} {a b : List (Str × α)} {x : Str} {d : α} (h : (a ++ b).lookup x = some d) : a.lookup x = some d ∨ b.lookup x = some d := by
  rw [List.lookup_append] at h
  cases ha : a.lookup x with
  | none => rw [ha] at h; exact .inr h
  | some d' => rw [ha] at h; exact .inl h

theorem compIn_of {scope : Scope} {sc : Sto} {s s₁ : Shared} {C : Addr} {k : Nat} (ok : CompOk env sig scope sc) (R : Rd prog mg mb fns env sig s₁) :
    CompIn prog mg mb fns env scope sc s₁ { (newEnv scope C env.globals (cellsFrom k scope.names (closF env scope.names [])) env.qual none .none (some env) builtinsNs) with scope := relabel scope env } where
  scope := rfl
  rd := fun s extra kp he => by
    refine ⟨ok.kind, R.globals, R.builtins, (R.gl.keeps kp.heap), fun x d hx => ?_⟩
    rcases lookup_app hx with hx | hx
    · exact he x d hx
    · obtain ⟨h1, h2, h3⟩ := ok.seen _ (mem_lookup hx)
      simp only at h1 h2 h3
      obtain ⟨hk, _⟩ := ok.free (x, .free) (mem_lookup h1) rfl
      simp only at hk
      obtain ⟨v, l, r⟩ := R.var x d h3
      refine ⟨v, ?_, r.keeps fun b o _ e => ⟨kp.heap b o e, trivial⟩⟩
      rcases l with ⟨a, _⟩ | ⟨a, c, b, e⟩
      · rw [hk] at a; cases a
      · refine .inr ⟨?_, c, ?_, e.keeps kp.heap⟩
        · show (relabel scope env).names.lookup x = _
          unfold relabel
          simp only
          rw [lookup_relabel h1]
          simp [R.kind, hk]
        · show (cellsFrom k scope.names (closF env scope.names [])).lookup x = some c
          rw [cellsFrom_append, List.lookup_append, cellsFrom_none _ _ (fun q hq e => by rw [h2 q hq e]; decide)]
          exact closF_lookup b _ _ (.inr (mem_lookup h1))

theorem closure_of {scope : Scope} {sc : Sto} {s : Shared} (ok : CompOk env sig scope sc) (R : Rd prog mg mb fns env sig s) : closureFor scope env = pure (closF env scope.names []) :=
  closureFor_eq fun x hx hf => by
    obtain ⟨hk, d, hd⟩ := ok.free x hx hf
    obtain ⟨v, l, _⟩ := R.var _ d hd
    rcases l with ⟨a, _⟩ | ⟨a, c, b, e⟩
    · rw [hk] at a; cases a
    · exact ⟨c, b⟩

theorem pushCells_size : ∀ (names : List (Str × NameKind)) (h : Heap), h.objs.size ≤ (pushCells h names).objs.size
  | [], h => Nat.le_refl _
  | (x, k) :: r, h => by
    unfold pushCells
    split
    · refine Nat.le_trans ?_ (pushCells_size r _)
      rw [Heap.size_push]; exact Nat.le_succ _
    · exact pushCells_size r h

/-- the target of a comprehension's clause -/
theorem tgt_comp {scope : Scope} {s : Shared} {x : Str} (hk : scope.kind = .function) (hx : scope.names.lookup x = some .local ∨ (scope.names.lookup x = some .cell ∧ ((cellsFrom 0 scope.names []).lookup x).isSome = true)) :
    ∃ t, Tgt { (newEnv scope s.heap.objs.size env.globals (cellsFrom (s.heap.objs.size + 1) scope.names (closF env scope.names [])) env.qual none .none (some env) builtinsNs) with scope := relabel scope env } x t
      (pushCells (s.heap.push { cls := .type "dict", data := .dict #[] }) scope.names) ∧ s.heap.objs.size ≤ t := by
  rcases hx with hx | ⟨hx, hc⟩
  · refine ⟨s.heap.objs.size, .inl ⟨?_, rfl, _, (Heap.Ns.new s.heap (.type "dict")).keeps (pushCells_keeps _ _)⟩, Nat.le_refl _⟩
    show (relabel scope env).names.lookup x = _
    unfold relabel
    simp only
    rw [lookup_relabel hx]; simp
  · have hc' : ((cellsFrom (s.heap.objs.size + 1) scope.names []).lookup x).isSome = true := cellsFrom_some _ _ _ (.inl hx)
    obtain ⟨c, hc'⟩ := Option.isSome_iff_exists.mp hc'
    have ok := cellsFrom_ok scope.names (s.heap.push { cls := .type "dict", data := .dict #[] }) (s.heap.objs.size + 1) [] ⟨fun _ _ hm => (nomatch hm), List.Pairwise.nil⟩ (by rw [Heap.size_push]; exact Nat.le_refl _)
    rw [Heap.size_push] at ok
    have := ok.empty x c (PySem.mem_of_lookup hc')
    refine ⟨c, .inr ⟨?_, ?_, _, this.1⟩, Nat.le_of_succ_le this.2⟩
    · show (relabel scope env).names.lookup x = _
      unfold relabel
      simp only
      rw [lookup_relabel hx]; simp
    · show (cellsFrom (s.heap.objs.size + 1) scope.names (closF env scope.names [])).lookup x = some c
      rw [cellsFrom_append, List.lookup_append, hc']; rfl

theorem wpAny_any_err {α : Type} {M : Model} {A : Around} {t : Sem α} {Q : α → Shared → Prop} {E : Value → Shared → Prop} {s : Shared} (h : wpAny M A t Q (fun _ _ => False) s) : wpAny M A t Q E s := wpAny_at h fun _ _ q => q

/-- one clause, a name as its target -/
theorem comp1_core {elt iter : Expr} {ifs : List Expr} {scope : Scope} {p cp : Pos} {x : Str} {px : Pos} {ds : List D} {f : D → Option D} {sc : Sto} {lst : Bool} {A : Around} {s : Shared} {use : Option (Value → Sem Unit)} {Q : Value → Shared → Prop}
    (ok : CompOk env sig scope sc) (hx : scope.names.lookup x = some .local ∨ (scope.names.lookup x = some .cell ∧ ((cellsFrom 0 scope.names []).lookup x).isSome = true))
    (hit : IT prog w mg mb fns lst n env sig iter ds) (hz : ds.length ≤ sizeLine)
    (hbody : ∀ cenv : Env, cenv.scope = relabel scope env → ∀ d ∈ ds, ∃ b, TESTS prog w mg mb fns n cenv ((x, d) :: sc) ifs b ∧ (b = true → ∃ d', f d = some d' ∧ EVF prog w mg mb fns n cenv ((x, d) :: sc) elt d') ∧ (b = false → f d = none))
    (rm : Room n A) (R : Rd prog mg mb fns env sig s)
    (hQ : ∀ acc C s', Kp s s' → s.heap.get? C = none → (∃ m, s'.heap.Ns C m) → Rep s'.heap (fun a => Fresh s a ∧ a ≠ C) acc (.list (ds.filterMap f)) → compPost (model prog w) A (fun _ _ => False) use Q acc C (.ok .next) s')
    (hs : ∀ x, foldedSetIterable iter env x = pure x := by intro _; rfl) :
    wpAny (model prog w) A (comprehension (.ListComp elt [⟨.Name x px, iter, ifs, 0⟩] scope p) scope env cp (newList []) false (eval iter env) use) Q (fun _ _ => False) s := by
  refine wpAny_comprehension_free rfl hs (closure_of ok R) ok.kind ok.locs ?_
  refine wpAny_at (hit A s rm R) fun v s₁ q1 => ?_
  obtain ⟨k1, q1⟩ := q1
  refine wpAny_at q1 fun it s₂ q2 => ?_
  obtain ⟨k2, I, fp, wr, P, St, rfl, W, hst, hwr, hfp, hfps, hwrf, hP⟩ := q2
  refine wpAny_newObj_type ?_
  refine newEnv_comp ?_
  have R1 := R.keeps _ _ _ _ k1
  generalize hs3 : ({ s₂ with heap := s₂.heap.push { cls := .type "list", dict := none, data := .seq ([] : List Value).toArray } } : Shared) = s₃
  have hs3h : s₃.heap = s₂.heap.push { cls := .type "list", dict := none, data := .seq ([] : List Value).toArray } := by rw [← hs3]
  have k3 : Kp s₂ s₃ := by rw [← hs3]; exact Kp.push _ _
  have CI : CompIn prog mg mb fns env scope sc s₁ { (newEnv scope s₃.heap.objs.size env.globals (cellsFrom (s₃.heap.objs.size + 1) scope.names (closF env scope.names [])) env.qual none .none (some env) builtinsNs) with scope := relabel scope env } := compIn_of (s := s) ok R1
  obtain ⟨t, ht, htge⟩ := tgt_comp (env := env) (scope := scope) (s := s₃) (x := x) ok.kind hx
  generalize hcenv : ({ (newEnv scope s₃.heap.objs.size env.globals (cellsFrom (s₃.heap.objs.size + 1) scope.names (closF env scope.names [])) env.qual none .none (some env) builtinsNs) with scope := relabel scope env } : Env) = cenv at CI ht ⊢
  have hloc : cenv.locals = s₃.heap.objs.size := by rw [← hcenv]; rfl
  have hD : s₂.heap.objs.size < s₃.heap.objs.size := by rw [hs3h, Heap.size_push]; exact Nat.lt_succ_self _
  -- the state where the loop begins
  generalize hs4 : ({ s₃ with heap := pushCells (s₃.heap.push { cls := .type "dict", data := .dict #[] }) scope.names } : Shared) = s₄
  have hs4h : s₄.heap = pushCells (s₃.heap.push { cls := .type "dict", data := .dict #[] }) scope.names := by rw [← hs4]
  have k4 : Kp s₃ s₄ := by rw [← hs4]; exact Kp.of (t := s₃.toks) fun b o e => pushCells_keeps _ _ _ _ (Heap.get?_push_of_some _ e)
  have k14 : Kp s₁ s₄ := (k2.trans k3).trans k4
  have hacc4 : s₄.heap.PlainList s₂.heap.objs.size #[] := ⟨0, k4.heap _ _ (by rw [hs3h]; exact Heap.get?_push_size _ rfl)⟩
  have hns4 : s₄.heap.Ns cenv.locals (fun _ => none) := by rw [hloc, hs4h]; exact (Heap.Ns.new s₃.heap (.type "dict")).keeps (pushCells_keeps _ _)
  rw [← hs4h] at ht
  have hst4 : St 0 s₄.heap := W.frame _ _ _ hst fun b hb o e => (k3.trans k4).heap _ _ e
  have fresh2 : ∀ a, s₂.heap.objs.size ≤ a → s₁.heap.get? a = none := fun a ha => by
    cases e : s₁.heap.get? a with
    | none => rfl
    | some o => exact absurd (Heap.lt_size (k2.heap _ _ e)) (Nat.not_lt.mpr ha)
  have hCf : cenv.locals ∉ fp := fun hm => by have := hfp _ hm; rw [hloc] at this; exact absurd (Nat.lt_trans this hD) (Nat.lt_irrefl _)
  have hDf : s₂.heap.objs.size ∉ fp := fun hm => Nat.lt_irrefl _ (hfp _ hm)
  have htf : t ∉ fp := fun hm => by have := hfp _ hm; exact absurd (Nat.lt_of_lt_of_le (Nat.lt_trans this hD) htge) (Nat.lt_irrefl _)
  have hDt : s₂.heap.objs.size ≠ t := Nat.ne_of_lt (Nat.lt_of_lt_of_le hD htge)
  have hDC : s₂.heap.objs.size ≠ cenv.locals := by rw [hloc]; exact Nat.ne_of_lt hD
  have loop : ∀ s5 : Shared, s5 = s₄ → codeAny (model prog w) A (.compLoop (.ListComp elt [⟨.Name x px, iter, ifs, 0⟩] scope p) 0 (.ref I) (.ref s₂.heap.objs.size) cenv) (compPost (model prog w) A (fun _ _ => False) use Q (.ref s₂.heap.objs.size) cenv.locals) s5 := by
    rintro _ rfl
    refine codeAny_compLoop_tests (fun m s' => ∃ i ys, m = ds.length + 1 - i ∧ i ≤ ds.length ∧ Kp s₁ s' ∧ St i s'.heap ∧ s'.heap.PlainList s₂.heap.objs.size (List.toArray ys) ∧
        Reps s'.heap (fun a => s₁.heap.get? a = none ∧ a ≠ s₂.heap.objs.size ∧ a ≠ cenv.locals ∧ a ∉ fp ∧ a ≠ t) ys ((ds.take i).filterMap f) ∧ (∃ mm, s'.heap.Ns cenv.locals mm) ∧ Tgt cenv x t s'.heap) ?_ (ds.length + 1)
      ⟨0, [], rfl, Nat.zero_le _, k14, hst4, hacc4, by simpa using Reps.nil, ⟨_, hns4⟩, ht⟩
    rintro m s' ⟨i, ys, rfl, hi, hk, hsti, hl, hr, ⟨mm, hns⟩, htg⟩
    by_cases hlt : i < ds.length
    · refine W.item i _ _ _ hlt hsti fun v h' tk hPv hst' hkp => ?_
      dsimp only
      have hkw : ∀ b o, b ∉ fp → s'.heap.get? b = some o → h'.get? b = some o := fun b o hb e => hkp b o (fun hw => hb (W.sub _ hw)) e
      have hk1 : Kp s₁ { s' with heap := h', toks := tk } := hk.to fun b o e => hkp b o (fun hw => by rw [hwr b hw] at e; cases e) (hk.heap b o e)
      refine wpAny_assign_Name (store_tgt (by rw [CI.scope]; exact ok.kind) (htg.keeps fun o e => hkw _ o htf e) fun h₂ tk₂ hs₂ hld htg₂ => ?_)
      have hs₂' : Heap.SameBut t h' h₂ := hs₂
      have k2' : Kp s₁ { s' with heap := h₂, toks := tk₂ } := hk.to fun b o e => by
        refine hs₂'.extBut b o (fun hbt => ?_) (hk1.heap b o e)
        subst hbt
        have := fresh2 b (Nat.le_of_lt (Nat.lt_of_lt_of_le hD htge))
        rw [this] at e; cases e
      obtain ⟨d, hd, hrd⟩ := hP i v h₂ hlt hPv k2'.heap
      have hRd : Rd prog mg mb fns cenv ((x, d) :: sc) { s' with heap := h₂, toks := tk₂ } := CI.rd _ [(x, d)] k2' fun y dd hy => by
        have hyx : (y, dd) ∈ [(x, d)] := mem_lookup hy
        simp at hyx
        obtain ⟨rfl, rfl⟩ := hyx
        exact ⟨v, hld, hrd⟩
      obtain ⟨b, hb, hbt, hbf⟩ := hbody cenv CI.scope d (List.mem_of_getElem? hd)
      refine wpAny_at (hb A _ rm hRd) fun okb s₆ q6 => ?_
      obtain ⟨k6, rfl⟩ := q6
      -- what stands at s₆
      have hF : ∀ b o, (s₁.heap.get? b = none ∧ b ≠ s₂.heap.objs.size ∧ b ≠ cenv.locals ∧ b ∉ fp ∧ b ≠ t) → s'.heap.get? b = some o → s₆.heap.get? b = some o := fun b o hb e =>
        k6.heap b o (hs₂'.extBut b o hb.2.2.2.2 (hkw b o hb.2.2.2.1 e))
      have hl6 : s₆.heap.PlainList s₂.heap.objs.size ys.toArray := by
        obtain ⟨e, he⟩ := hl
        exact ⟨e, k6.heap _ _ (hs₂'.extBut _ _ hDt (hkw _ _ hDf he))⟩
      have hns6 : ∃ mm, s₆.heap.Ns cenv.locals mm := by
        by_cases hCt : cenv.locals = t
        · rcases htg₂ with ⟨a, b, m2, c⟩ | ⟨a, b, v2, c⟩
          · rw [hCt]; exact ⟨m2, c.keeps k6.heap⟩
          · exfalso
            rcases htg with ⟨a', _⟩ | ⟨_, _, v3, o3, ho3, hd3⟩
            · rw [a] at a'; cases a'
            · obtain ⟨oL, es, ep, hL, hdL, _⟩ := hns
              rw [hCt, ho3] at hL
              cases hL
              rw [hd3] at hdL; cases hdL
        · exact ⟨mm, (hns.at' fun o e => k6.heap _ _ (hs₂'.extBut _ _ hCt (hkw _ _ hCf e)))⟩
      have htg6 : Tgt cenv x t s₆.heap := htg₂.keeps fun o e => k6.heap _ _ e
      have hst6 : St (i + 1) s₆.heap := W.frame _ _ _ hst' fun b hb o e => k6.heap _ _ (hs₂'.extBut b o (fun h => htf (h ▸ hb)) e)
      have hfs6 : ∀ b ∈ fp, ∃ o, s₆.heap.get? b = some o := fun b hb => let ⟨o, ho, _⟩ := hfps _ _ hst6 b hb; ⟨o, ho⟩
      have hk6 : Kp s₁ s₆ := k2'.trans k6
      have htake : ds.take (i + 1) = ds.take i ++ [d] := by
        rw [List.take_add_one, hd]; rfl
      cases okb with
      | false =>
        rw [if_neg (by decide)]
        refine ⟨ds.length + 1 - (i + 1), by omega, i + 1, ys, rfl, hlt, hk6, hst6, hl6, ?_, hns6, htg6⟩
        rw [htake, List.filterMap_append]
        simp only [List.filterMap_cons, hbf rfl, List.filterMap_nil, List.append_nil]
        exact hr.keeps fun b o hb e => ⟨hF b o hb e, hb⟩
      | true =>
        rw [if_pos rfl]
        obtain ⟨d', hfd, hev⟩ := hbt rfl
        refine wpAny_at (hev A s₆ rm (hRd.keeps _ _ _ _ k6)) fun y s₇ q7 => ?_
        obtain ⟨k7, r7⟩ := q7
        obtain ⟨e, he⟩ := id hl6
        refine wpAny_list_append_plain (items := ys.toArray) ⟨e, k7.heap _ _ he⟩ (fun h₈ hl8 hs8 => ?_) (by
          have h1 := hr.length
          have h2 : ((ds.take i).filterMap f).length ≤ (ds.take i).length := List.length_filterMap_le _ _
          have h3 : (ds.take i).length ≤ ds.length := by simp; omega
          rw [List.size_toArray]; omega)
        have hs8' : Heap.SameBut s₂.heap.objs.size s₇.heap h₈ := hs8
        have up : ∀ b o, b ≠ s₂.heap.objs.size → s₆.heap.get? b = some o → h₈.get? b = some o := fun b o hb e => hs8'.extBut b o hb (k7.heap b o e)
        refine ⟨ds.length + 1 - (i + 1), by omega, i + 1, ys ++ [y], rfl, hlt, ?_, ?_, by simpa using hl8, ?_, ?_, ?_⟩
        · exact (hk6.trans k7).to (t := s₇.toks) fun b o e => hs8'.extBut b o (fun hb => by subst hb; rw [fresh2 _ (Nat.le_refl _)] at e; cases e) ((hk6.trans k7).heap b o e)
        · exact W.frame _ _ _ hst6 fun b hb o e => up b o (fun h => hDf (h ▸ hb)) e
        · rw [htake, List.filterMap_append]
          simp only [List.filterMap_cons, hfd, List.filterMap_nil]
          refine Reps.snoc ?_ ?_
          · exact hr.keeps fun b o hb e => ⟨up b o hb.2.1 (hF b o hb e), hb⟩
          · refine r7.keeps fun b o hb e => ?_
            have hb6 : ∀ o, s₆.heap.get? b ≠ some o := fun o q => by rw [show s₆.heap.get? b = none from hb] at q; cases q
            have n1 : b ≠ s₂.heap.objs.size := fun q => by subst q; exact hb6 _ he
            refine ⟨hs8'.extBut b o n1 e, ?_, n1, ?_, ?_, ?_⟩
            · cases q : s₁.heap.get? b with
              | none => rfl
              | some o => exact absurd (hk6.heap _ _ q) (hb6 o)
            · rintro rfl
              obtain ⟨m6, oL, _, _, hL, _⟩ := hns6
              exact hb6 _ hL
            · intro q
              obtain ⟨o, ho⟩ := hfs6 b q
              exact hb6 _ ho
            · rintro rfl
              rcases htg6 with ⟨_, _, _, oL, _, _, hL, _⟩ | ⟨_, _, _, oL, hL, _⟩
              · exact hb6 _ hL
              · exact hb6 _ hL
        · obtain ⟨m6, hm6⟩ := hns6
          exact ⟨m6, hm6.at' fun o e => up _ o hDC.symm e⟩
        · exact htg6.keeps fun o e => up _ o hDt.symm e
    · have hin : i = ds.length := Nat.le_antisymm hi (Nat.le_of_not_lt hlt)
      subst hin
      refine W.done _ _ _ hsti fun h' tk hkp => ?_
      have hkw : ∀ b o, b ∉ fp → s'.heap.get? b = some o → h'.get? b = some o := fun b o hb e => hkp b o (fun hw => hb (W.sub _ hw)) e
      refine hQ _ _ _ (k1.trans ?_) ?_ ⟨mm, hns.at' fun o e => hkw _ _ hCf e⟩ ?_
      · exact hk.to fun b o e => hkp b o (fun hw => by rw [hwr b hw] at e; cases e) (hk.heap b o e)
      · have := fresh2 cenv.locals (by rw [hloc]; exact Nat.le_of_lt hD)
        exact Fresh.back k1 this
      · rw [List.take_length] at hr
        refine .list ⟨Fresh.back k1 (fresh2 _ (Nat.le_refl _)), hDC⟩ (hl.at fun o e => hkw _ _ hDf e) (hr.keeps fun b o hb e => ⟨hkw b o hb.2.2.2.1 e, Fresh.back k1 hb.1, hb.2.2.1⟩)
  rw [hloc] at loop
  exact codeAny_compStart_list (loop _ rfl) (W.self 0 _ _ _ hst4 (loop _ rfl))
end
end Mine
end

-- LcI
section
open PySem PySem.W PyProof.Rows PySem.MeetsSeq PySem.SeqRoads2 PySem.SeqAt
set_option Elab.async false
set_option maxRecDepth 100000
set_option linter.unusedVariables false
set_option linter.unusedSimpArgs false
namespace Mine

mutual
theorem Rep.exist {h : Heap} {F : Addr → Prop} : ∀ {v : Value} {d : D}, Rep h F v d → Rep h (fun a => F a ∧ ∃ o xs k, h.get? a = some o ∧ o.data = .seq xs k) v d
  | _, _, .none => .none
  | _, _, .int i t => .int i t
  | _, _, .bool b => .bool b
  | _, _, .str x t => .str x t
  | _, _, .list fa hl r => by
      obtain ⟨k, e⟩ := hl
      exact .list ⟨fa, _, _, _, e, rfl⟩ ⟨k, e⟩ (Reps.exist r)
  | _, _, .tup fa hl r => by
      obtain ⟨o, e, c, k, q⟩ := hl
      exact .tup ⟨fa, _, _, _, e, q⟩ ⟨o, e, c, k, q⟩ (Reps.exist r)
theorem Reps.exist {h : Heap} {F : Addr → Prop} : ∀ {vs : List Value} {ds : List D}, Reps h F vs ds → Reps h (fun a => F a ∧ ∃ o xs k, h.get? a = some o ∧ o.data = .seq xs k) vs ds
  | _, _, .nil => .nil
  | _, _, .cons r rs => .cons (Rep.exist r) (Reps.exist rs)
end

def Soft (o : Obj) : Prop := (∃ es k, o.data = .dict es k) ∨ ∃ v, o.data = .cell v
theorem Rep.soft {h h' : Heap} {F : Addr → Prop} {v : Value} {d : D} {t : Addr} (r : Rep h F v d) (hs : Heap.SameBut t h h') (ho : ∃ o, h.get? t = some o ∧ Soft o) : Rep h' F v d :=
  r.exist.keeps fun b o hb e => ⟨hs.extBut b o (by
    rintro rfl
    obtain ⟨o1, h1, s1⟩ := ho
    obtain ⟨_, o2, xs, k, h2, s2⟩ := hb
    rw [h1] at h2; cases h2
    rcases s1 with ⟨es, k', s1⟩ | ⟨v, s1⟩ <;> (rw [s1] at s2; cases s2)) e, hb.1⟩

theorem store_full {M : Model} {A : Around} {env : Env} {x : Str} {v : Value} {s : Shared} {Q : Unit → Shared → Prop} {E : Value → Shared → Prop} (hk : env.scope.kind = .function) (hns : ∃ m, s.heap.Ns env.locals m)
    (hx : env.kindOf x = some .local ∨ (env.kindOf x = some .cell ∧ ∃ c, env.cells.lookup x = some c))
    (hcells : ∀ y c, env.cells.lookup y = some c → ∃ v, s.heap.IsCell c v) (apart : ∀ y z c, env.cells.lookup y = some c → env.cells.lookup z = some c → y = z)
    (h : ∀ t h' tk, Heap.SameBut t s.heap h' → (t = env.locals ∨ env.cells.lookup x = some t) → (∃ o, s.heap.get? t = some o ∧ Soft o) → Loads env h' x v → (∀ z vz, z ≠ x → Loads env s.heap z vz → Loads env h' z vz) →
      (∃ m, h'.Ns env.locals m) → (∀ y c, env.cells.lookup y = some c → ∃ v, h'.IsCell c v) → Q () { s with heap := h', toks := tk }) : wpAny M A (storeName env x v) Q E s := by
  obtain ⟨m, hm⟩ := hns
  obtain ⟨oL, es, ep, hL, hdL, hrL⟩ := id hm
  have neL : ∀ y c, env.cells.lookup y = some c → c ≠ env.locals := fun y c hc q => by
    obtain ⟨v, o, ho, hd⟩ := hcells y c hc
    rw [q, hL] at ho; cases ho
    rw [hdL] at hd; cases hd
  rcases hx with hx | ⟨hx, c, hc⟩
  · refine wpAny_storeName_local hx hm (fun h' hn hs => h env.locals h' _ hs (.inl rfl) ⟨oL, hL, .inl ⟨_, _, hdL⟩⟩ (.inl ⟨hx, _, hn, by simp⟩) ?_ ⟨_, hn⟩ ?_) (by rw [hk]; rfl)
    · intro z vz hz l
      rcases l with ⟨a, m', b, e⟩ | ⟨a, c, b, e⟩
      · refine .inl ⟨a, _, hn, ?_⟩
        simp only [hz, if_false]
        obtain ⟨o2, es2, ep2, h2, hd2, _, hf2⟩ := b
        rw [hL] at h2; cases h2
        rw [hdL] at hd2; cases hd2
        rw [← hrL.2 z, hf2 z]; exact e
      · exact .inr ⟨a, c, b, e.sameBut hs (neL z c b)⟩
    · intro y c hc
      obtain ⟨v, e⟩ := hcells y c hc
      exact ⟨v, e.sameBut hs (neL y c hc)⟩
  · obtain ⟨v0, hv0⟩ := hcells x c hc
    obtain ⟨o, ho, hd⟩ := id hv0
    refine wpAny_storeName_cell hk hx hc hv0 fun h' hv hs => h c h' s.toks hs (.inr hc) ⟨o, ho, .inr ⟨_, hd⟩⟩ (.inr ⟨hx, c, hc, hv⟩) ?_ ⟨m, hm.sameBut hs (neL x c hc).symm⟩ ?_
    · intro z vz hz l
      rcases l with ⟨a, m', b, e⟩ | ⟨a, c', b, e⟩
      · exact .inl ⟨a, m', b.sameBut hs (neL x c hc).symm, e⟩
      · exact .inr ⟨a, c', b, e.sameBut hs fun q => hz (apart z x c (q ▸ b) hc)⟩
    · intro y c' hc'
      by_cases q : c' = c
      · subst q; exact ⟨_, hv⟩
      · obtain ⟨v, e⟩ := hcells y c' hc'
        exact ⟨v, e.sameBut hs q⟩

section
variable (prog : Program) (w : World) (mg mb : Str → Option Value) (fns : List (Str × Nat × Addr × FuncData)) (s₀ : Shared)

/-- the frame's names hold sig; a name of mu owns its list; what B says stands -/
structure St (B : Addr → Obj → Prop) (G : Addr → Prop) (env : Env) (sig : Sto) (mu : List Str) (s : Shared) : Prop where
  rest : ∃ h t, s = { s₀ with heap := h, toks := t }
  base0 : ∀ b o, s₀.heap.get? b = some o → B b o
  base : ∀ b o, B b o → s.heap.get? b = some o
  kind : env.scope.kind = .function
  globals : env.globals = mainGlobals
  builtins : env.builtins = builtinsNs
  gl0 : GL prog mg mb fns s₀.heap
  ns : ∃ m, s.heap.Ns env.locals m
  cells : ∀ x c, env.cells.lookup x = some c → ∃ v, s.heap.IsCell c v
  newL : ∀ o, ¬ B env.locals o
  newC : ∀ x c, env.cells.lookup x = some c → ∀ o, ¬ B c o
  apart : ∀ x y c, env.cells.lookup x = some c → env.cells.lookup y = some c → x = y
  newG : ∀ a o, G a → ¬ B a o
  vars : ∃ val : Str → Value, (∀ x d, sig.lookup x = some d → Loads env s.heap x (val x) ∧ Rep s.heap (fun a => ¬ G a ∧ ∀ y ∈ mu, y ≠ x → val y ≠ .ref a) (val x) d) ∧
    ∀ y ∈ mu, (∃ l, sig.lookup y = some (.list l) ∧ ∀ d ∈ l, d.flat = true) ∧ ∀ a, val y = .ref a → ∀ o, ¬ B a o
end

section
variable {prog : Program} {w : World} {mg mb : Str → Option Value} {fns : List (Str × Nat × Addr × FuncData)} {s₀ : Shared} {B : Addr → Obj → Prop} {G : Addr → Prop} {n : Nat} {env : Env} {sig : Sto} {mu : List Str} {s : Shared}

theorem St.rd (x : St prog mg mb fns s₀ B G env sig mu s) : Rd prog mg mb fns env sig s where
  kind := x.kind
  globals := x.globals
  builtins := x.builtins
  gl := x.gl0.keeps fun b o e => x.base b o (x.base0 b o e)
  var := fun y d hy => let ⟨val, h, _⟩ := x.vars; ⟨val y, (h y d hy).1, (h y d hy).2.any⟩

theorem St.keep {s' : Shared} (x : St prog mg mb fns s₀ B G env sig mu s) (k : Kp s s') : St prog mg mb fns s₀ B G env sig mu s' where
  rest := by
    obtain ⟨h, t, rfl⟩ := x.rest
    obtain ⟨h', t', rfl, _⟩ := k
    exact ⟨h', t', rfl⟩
  base0 := x.base0
  base := fun b o e => k.heap b o (x.base b o e)
  kind := x.kind
  globals := x.globals
  builtins := x.builtins
  gl0 := x.gl0
  ns := let ⟨m, h⟩ := x.ns; ⟨m, h.keeps k.heap⟩
  cells := fun y c hc => let ⟨v, h⟩ := x.cells y c hc; ⟨v, h.keeps k.heap⟩
  newL := x.newL
  newC := x.newC
  apart := x.apart
  newG := x.newG
  vars := let ⟨val, h, h2⟩ := x.vars; ⟨val, fun y d hy => ⟨(h y d hy).1.keeps k.heap, (h y d hy).2.up k⟩, h2⟩

theorem St.weaken {sig' : Sto} {mu' : List Str} (x : St prog mg mb fns s₀ B G env sig mu s) (hs : ∀ y d, sig'.lookup y = some d → sig.lookup y = some d) (hm : ∀ y ∈ mu', y ∈ mu ∧ ∃ d, sig'.lookup y = some d) : St prog mg mb fns s₀ B G env sig' mu' s where
  rest := x.rest
  base0 := x.base0
  base := x.base
  kind := x.kind
  globals := x.globals
  builtins := x.builtins
  gl0 := x.gl0
  ns := x.ns
  cells := x.cells
  newL := x.newL
  newC := x.newC
  apart := x.apart
  newG := x.newG
  vars := by
    obtain ⟨val, h, h2⟩ := x.vars
    refine ⟨val, fun y d hy => ⟨(h y d (hs y d hy)).1, (h y d (hs y d hy)).2.keeps fun b o hb e => ⟨e, hb.1, fun z hz => hb.2 z (hm z hz).1⟩⟩, fun y hy => ?_⟩
    obtain ⟨⟨l, hl, hf⟩, h4⟩ := h2 y (hm y hy).1
    obtain ⟨d, hd⟩ := (hm y hy).2
    have := hs y d hd
    rw [hl] at this; cases this
    exact ⟨⟨l, hd, hf⟩, h4⟩

theorem St.sub {B' : Addr → Obj → Prop} (x : St prog mg mb fns s₀ B' G env sig mu s) (h0 : ∀ b o, s₀.heap.get? b = some o → B b o) (hb : ∀ b o, B b o → B' b o) : St prog mg mb fns s₀ B G env sig mu s where
  rest := x.rest
  base0 := h0
  base := fun b o e => x.base b o (hb b o e)
  kind := x.kind
  globals := x.globals
  builtins := x.builtins
  gl0 := x.gl0
  ns := x.ns
  cells := x.cells
  newL := fun o q => x.newL o (hb _ _ q)
  newC := fun y c hc o q => x.newC y c hc o (hb _ _ q)
  apart := x.apart
  newG := fun a o g q => x.newG a o g (hb _ _ q)
  vars := by
    obtain ⟨val, h, h2⟩ := x.vars
    exact ⟨val, h, fun y hy => ⟨(h2 y hy).1, fun a ha o q => (h2 y hy).2 a ha o (hb _ _ q)⟩⟩

/-- the names that a store may bind -/
def Binds (env : Env) (x : Str) : Prop := env.kindOf x = some .local ∨ (env.kindOf x = some .cell ∧ ∃ c, env.cells.lookup x = some c)

/-- what is new may be kept apart -/
theorem St.reserve {s1 : Shared} (x : St prog mg mb fns s₀ B (fun _ => False) env sig mu s) (k : Kp s s1) : St prog mg mb fns s₀ B (Fresh s) env sig mu s1 :=
  let y := x.keep k
  { y with
    newG := fun a o g q => by
      have := x.base a o q
      unfold Fresh at g; rw [g] at this; cases this
    vars := by
      obtain ⟨val, h, h2⟩ := x.vars
      refine ⟨val, fun z d hz => ⟨(h z d hz).1.keeps k.heap, ((h z d hz).2.exist.up k).keeps fun b o hb e => ⟨e, fun g => ?_, hb.1.2⟩⟩, h2⟩
      obtain ⟨_, o1, _, _, ho1, _⟩ := hb
      unfold Fresh at g; rw [g] at ho1; cases ho1 }
theorem St.less {G' : Addr → Prop} (x : St prog mg mb fns s₀ B G env sig mu s) (hg : ∀ a, G' a → G a) : St prog mg mb fns s₀ B G' env sig mu s :=
  { x with
    newG := fun a o g => x.newG a o (hg a g)
    vars := by
      obtain ⟨val, h, h2⟩ := x.vars
      exact ⟨val, fun z d hz => ⟨(h z d hz).1, (h z d hz).2.keeps fun b o hb e => ⟨e, fun g => hb.1 (hg b g), hb.2⟩⟩, h2⟩ }

/-- x = v, v out of what is kept apart -/
theorem St.store {x : Str} {v : Value} {d : D} {s1 : Shared} {mu' : List Str} {M : Model} {A : Around} {Q : Unit → Shared → Prop} {E : Value → Shared → Prop} {G1 G2 : Addr → Prop}
    (X : St prog mg mb fns s₀ B G env sig mu s1) (r : Rep s1.heap G1 v d) (hg1 : ∀ a, G1 a → G a) (hg2 : ∀ a, G2 a → G a ∧ ¬ G1 a) (hx : Binds env x)
    (hm : ∀ y ∈ mu', (y = x ∧ ∃ l, d = .list l ∧ ∀ e ∈ l, e.flat = true) ∨ (y ≠ x ∧ y ∈ mu))
    (h : ∀ s2, (∀ b o, s1.heap.get? b = some o → (¬ ∃ es k, o.data = .dict es k) → (¬ ∃ v, o.data = .cell v) → s2.heap.get? b = some o) → (∀ b o, s1.heap.get? b = some o → b ≠ env.locals → env.cells.lookup x ≠ some b → s2.heap.get? b = some o) → St prog mg mb fns s₀ B G2 env ((x, d) :: sig) mu' s2 → Q () s2) : wpAny M A (storeName env x v) Q E s1 := by
  refine store_full X.kind X.ns hx X.cells X.apart fun t h' tk hs ht ho hl hz hns hcs => h _ (fun b o e n1 n2 => hs.extBut b o (fun q => ?_) e) (fun b o e n1 n2 => hs.extBut b o (fun q => ht.elim (fun z => n1 (q.trans z)) fun z => n2 (q ▸ z)) e) ?_
  · subst q
    obtain ⟨o1, h1, s1⟩ := ho
    rw [e] at h1; cases h1
    exact s1.elim n1 n2
  have htB : ∀ o, ¬ B t o := fun o => by
    rcases ht with rfl | ht
    · exact X.newL o
    · exact X.newC x t ht o
  obtain ⟨val, hv, hmu⟩ := X.vars
  have hrest : ∃ h t, ({ s1 with heap := h', toks := tk } : Shared) = { s₀ with heap := h, toks := t } := by
    obtain ⟨h1, t1, q⟩ := X.rest
    refine ⟨h', tk, ?_⟩
    rw [q]
  refine ⟨hrest, X.base0, fun b o e => hs.extBut b o (fun q => htB o (q ▸ e)) (X.base b o e), X.kind, X.globals, X.builtins, X.gl0, hns, hcs, X.newL, X.newC, X.apart, fun a o g => X.newG a o (hg2 a g).1, ?_⟩
  have hval : ∀ y ∈ mu, ∀ a, val y = .ref a → ¬ G a := fun y hy a ha hf => by
    obtain ⟨⟨l, hl, _⟩, _⟩ := hmu y hy
    have rp := (hv y _ hl).2
    rw [ha] at rp
    cases rp with
    | list hq _ _ => exact hq.1 hf
  refine ⟨fun y => if y = x then v else val y, fun y dd hy => ?_, fun y hy => ?_⟩
  · by_cases hyx : y = x
    · subst hyx
      have : dd = d := by
        simp [List.lookup_cons] at hy; exact hy.symm
      subst this
      simp only [if_true]
      refine ⟨hl, (r.soft hs ho).keeps fun b o hb e => ⟨e, fun g => (hg2 b g).2 hb, fun z hz hzx => ?_⟩⟩
      rw [if_neg hzx]
      intro q
      rcases hm z hz with ⟨h1, _⟩ | ⟨_, h1⟩
      · exact hzx h1
      · exact hval z h1 b q (hg1 b hb)
    · have hy' : sig.lookup y = some dd := by
        rw [List.lookup_cons] at hy
        have : (y == x) = false := by simpa using hyx
        rw [this] at hy; exact hy
      obtain ⟨l1, r1⟩ := hv y dd hy'
      simp only [hyx, if_false]
      refine ⟨hz y _ hyx l1, (r1.soft hs ho).keeps fun b o hb e => ⟨e, fun g => hb.1 (hg2 b g).1, fun z hz' hzy => ?_⟩⟩
      by_cases hzx : z = x
      · subst hzx
        simp only [if_true]
        rintro rfl
        cases r with
        | list hf _ _ => exact hb.1 (hg1 _ hf)
        | tup hf _ _ => exact hb.1 (hg1 _ hf)
      · simp only [hzx, if_false]
        rcases hm z hz' with ⟨h1, _⟩ | ⟨_, h1⟩
        · exact absurd h1 hzx
        · exact hb.2 z h1 hzy
  · rcases hm y hy with ⟨rfl, l, rfl, hf⟩ | ⟨hyx, h1⟩
    · refine ⟨⟨l, by simp [List.lookup_cons], hf⟩, fun a ha o q => ?_⟩
      simp only [if_true] at ha
      subst ha
      cases r with
      | list hf2 _ _ => exact X.newG _ _ (hg1 _ hf2) q
    · obtain ⟨⟨l, hl', hf⟩, h2⟩ := hmu y h1
      refine ⟨⟨l, ?_, hf⟩, fun a ha o q => ?_⟩
      · rw [List.lookup_cons]
        have : (y == x) = false := by simpa using hyx
        rw [this]; exact hl'
      · simp only [hyx, if_false] at ha
        exact h2 a ha o q
end
end Mine
end

-- LcJ
section
open PySem PySem.W PyProof.Rows PySem.MeetsSeq PySem.SeqRoads2 PySem.SeqAt
set_option Elab.async false
set_option maxRecDepth 100000
set_option linter.unusedVariables false
set_option linter.unusedSimpArgs false
namespace Mine

abbrev No : Addr → Prop := fun _ => False

theorem Rep.hard {h h' : Heap} {F : Addr → Prop} {v : Value} {d : D} (r : Rep h F v d) (hk : ∀ b o, h.get? b = some o → (¬ ∃ es k, o.data = .dict es k) → (¬ ∃ v, o.data = .cell v) → h'.get? b = some o) : Rep h' F v d :=
  r.exist.keeps fun b o hb e => by
    obtain ⟨h1, o2, xs, k, h2, s2⟩ := hb
    rw [e] at h2; cases h2
    exact ⟨hk b o e (by rintro ⟨es, k, q⟩; rw [s2] at q; cases q) (by rintro ⟨es, q⟩; rw [s2] at q; cases q), h1⟩

section
variable (prog : Program) (w : World) (mg mb : Str → Option Value) (fns : List (Str × Nat × Addr × FuncData)) (s₀ : Shared)
def PO (R : Flow → Shared → Prop) (B : Addr → Obj → Prop) (env : Env) (sig : Sto) (mu : List Str) (f : Flow) (s : Shared) : Prop :=
  (f = .next ∧ St prog mg mb fns s₀ B No env sig mu s) ∨ ((∃ v, f = .ret v) ∧ R f s)
def HX (n : Nat) (env : Env) (R : Flow → Shared → Prop) (st : Stmt) (sig : Sto) (mu : List Str) (sig' : Sto) (mu' : List Str) : Prop :=
  ∀ B A s, Room n A → St prog mg mb fns s₀ B No env sig mu s → wpAny (model prog w) A (exec st env) (PO prog mg mb fns s₀ R B env sig' mu') (fun _ _ => False) s
def HS (n : Nat) (env : Env) (R : Flow → Shared → Prop) (sts : List Stmt) (sig : Sto) (mu : List Str) (sig' : Sto) (mu' : List Str) : Prop :=
  ∀ B A s, Room n A → St prog mg mb fns s₀ B No env sig mu s → wpAny (model prog w) A (execs sts env) (PO prog mg mb fns s₀ R B env sig' mu') (fun _ _ => False) s
end

section
variable {prog : Program} {w : World} {mg mb : Str → Option Value} {fns : List (Str × Nat × Addr × FuncData)} {s₀ : Shared} {n : Nat} {env : Env} {R : Flow → Shared → Prop} {sig sig' sig'' : Sto} {mu mu' mu'' : List Str}

theorem HS.nil : HS prog w mg mb fns s₀ n env R [] sig mu sig mu := fun B A s rm X => wpAny_execs_nil (.inl ⟨rfl, X⟩)
theorem HS.nilw (hs : ∀ y d, sig'.lookup y = some d → sig.lookup y = some d) (hm : ∀ y ∈ mu', y ∈ mu ∧ ∃ d, sig'.lookup y = some d) : HS prog w mg mb fns s₀ n env R [] sig mu sig' mu' := fun B A s rm X => wpAny_execs_nil (.inl ⟨rfl, X.weaken hs hm⟩)
theorem HS.cons {st : Stmt} {rest : List Stmt} (h1 : HX prog w mg mb fns s₀ n env R st sig mu sig' mu') (h2 : HS prog w mg mb fns s₀ n env R rest sig' mu' sig'' mu'') : HS prog w mg mb fns s₀ n env R (st :: rest) sig mu sig'' mu'' := fun B A s rm X =>
  wpAny_execs_cons (wpAny_at (h1 B A s rm X) fun f s1 q => by
    rcases q with ⟨rfl, X1⟩ | ⟨⟨v, rfl⟩, q⟩
    · exact h2 B A s1 rm X1
    · exact .inr ⟨⟨v, rfl⟩, q⟩)
theorem HS.pre {sts : List Stmt} {sig0 : Sto} {mu0 : List Str} (h : HS prog w mg mb fns s₀ n env R sts sig0 mu0 sig' mu') (hs : ∀ y d, sig0.lookup y = some d → sig.lookup y = some d) (hm : ∀ y ∈ mu0, y ∈ mu ∧ ∃ d, sig0.lookup y = some d) : HS prog w mg mb fns s₀ n env R sts sig mu sig' mu' := fun B A s rm X =>
  h B A s rm (X.weaken hs hm)

theorem HX.assign {x : Str} {px p : Pos} {e : Expr} {d : D} (h : EVF prog w mg mb fns n env sig e d) (hx : Binds env x)
    (hm : ∀ y ∈ mu', (y = x ∧ ∃ l, d = .list l ∧ ∀ e ∈ l, e.flat = true) ∨ (y ≠ x ∧ y ∈ mu)) (hs : swapsWith e (some (.Name x px)) p.line env = pure false := by first | kernel_rfl! | rfl) :
    HX prog w mg mb fns s₀ n env R (.Assign [.Name x px] e p) sig mu ((x, d) :: sig) mu' := fun B A s rm X =>
  wpAny_Assign_Name (wpAny_at (h A s rm X.rd) fun v s1 q => (X.reserve q.1).store q.2 (fun _ g => g) (fun _ g => g.elim) hx hm fun s2 _ _ X2 => .inl ⟨rfl, X2⟩) hs

theorem HX.aug {x : Str} {px p : Pos} {e : Expr} {op : Operator} {d1 d2 d : D} (hl : sig.lookup x = some d1) (h : EV prog w mg mb fns n env sig e d2) (hop : IOP prog w op d1 d2 d) (hf : d.flat = true) (hx : Binds env x) (hm : ∀ y ∈ mu', y ≠ x ∧ y ∈ mu) :
    HX prog w mg mb fns s₀ n env R (.AugAssign (.Name x px) op e p) sig mu ((x, d) :: sig) mu' := fun B A s rm X =>
  wpAny_AugAssign_Name (by
    obtain ⟨v, l, r⟩ := X.rd.var x d1 hl
    refine wpAny_loads X.kind l ?_
    refine wpAny_at (h A s rm X.rd) fun v2 s1 q => ?_
    refine wpAny_at (hop A s1 v v2 (r.up q.1) q.2) fun v3 s2 q2 => ?_
    have k := q.1.trans q2.1
    exact (X.keep k).store (G1 := No) (G2 := No) (q2.2.flat hf) (fun _ g => g) (fun _ g => g.elim) hx (fun y hy => .inr (hm y hy)) fun s2 _ _ X2 => .inl ⟨rfl, X2⟩)

theorem HX.ifF {t : Expr} {body orelse : List Stmt} {p : Pos} (h : TV prog w mg mb fns n env sig t false) (hb : HS prog w mg mb fns s₀ n env R orelse sig mu sig' mu') : HX prog w mg mb fns s₀ n env R (.If t body orelse p) sig mu sig' mu' := fun B A s rm X =>
  wpAny_If (wpAny_at (h A s rm X.rd) fun b s1 q => by
    obtain ⟨k, rfl⟩ := q
    rw [if_neg (by decide)]
    exact hb B A s1 rm (X.keep k))
theorem HX.ifT {t : Expr} {body orelse : List Stmt} {p : Pos} (h : TV prog w mg mb fns n env sig t true) (hb : HS prog w mg mb fns s₀ n env R body sig mu sig' mu') : HX prog w mg mb fns s₀ n env R (.If t body orelse p) sig mu sig' mu' := fun B A s rm X =>
  wpAny_If (wpAny_at (h A s rm X.rd) fun b s1 q => by
    obtain ⟨k, rfl⟩ := q
    rw [if_pos rfl]
    exact hb B A s1 rm (X.keep k))
theorem HX.if {t : Expr} {body orelse : List Stmt} {p : Pos} {b : Bool} (h : TV prog w mg mb fns n env sig t b) (h1 : b = true → HS prog w mg mb fns s₀ n env R body sig mu sig' mu') (h2 : b = false → HS prog w mg mb fns s₀ n env R orelse sig mu sig' mu') : HX prog w mg mb fns s₀ n env R (.If t body orelse p) sig mu sig' mu' := by
  cases b with
  | true => exact HX.ifT h (h1 rfl)
  | false => exact HX.ifF h (h2 rfl)
theorem HX.assert {t : Expr} {m : Option Expr} {p : Pos} (h : TV prog w mg mb fns n env sig t true) : HX prog w mg mb fns s₀ n env R (.Assert t m p) sig mu sig mu := fun B A s rm X =>
  wpAny_Assert_holds (wpAny_at (h A s rm X.rd) fun b s1 q => ⟨q.2, .inl ⟨rfl, X.keep q.1⟩⟩)

/-- what a def gives back -/
def Gives0 (s₀ : Shared) (d : D) : Flow → Shared → Prop := fun f s' => ∃ v, f = .ret v ∧ Kp s₀ s' ∧ Rep s'.heap (Fresh s₀) v d
theorem St.kp {B : Addr → Obj → Prop} {G : Addr → Prop} {s : Shared} (X : St prog mg mb fns s₀ B G env sig mu s) : Kp s₀ s := by
  obtain ⟨h, t, e⟩ := X.rest
  refine ⟨h, t, e, fun b o q => ?_⟩
  have := X.base b o (X.base0 b o q)
  rw [e] at this; exact this
theorem HX.ret {e : Expr} {p : Pos} {d : D} (h : EV prog w mg mb fns n env sig e d) (hf : d.flat = true) : HX prog w mg mb fns s₀ n env (Gives0 s₀ d) (.Return (some e) p) sig mu sig' mu' := fun B A s rm X =>
  wpAny_Return_some (wpAny_at (h A s rm X.rd) fun v s1 q => .inr ⟨⟨v, rfl⟩, v, rfl, X.kp.trans q.1, q.2.flat hf⟩)
/-- return x, x a list of its own -/
theorem HX.retOwn {x : Str} {px p : Pos} {l : List D} (hl : sig.lookup x = some (.list l)) (hm : x ∈ mu) (hd : (x == ("__debug__" : Str)) = false := by decide) : HX prog w mg mb fns s₀ n env (Gives0 s₀ (.list l)) (.Return (some (.Name x px)) p) sig mu sig' mu' := fun B A s rm X =>
  wpAny_Return_some (by
    obtain ⟨val, hv, hmu⟩ := X.vars
    obtain ⟨ld, r⟩ := hv x _ hl
    obtain ⟨⟨l', hl', hf⟩, hB⟩ := hmu x hm
    rw [hl] at hl'; cases hl'
    refine wpAny_Name (wpAny_loads X.kind ld (.inr ⟨⟨_, rfl⟩, _, rfl, X.kp, ?_⟩)) hd
    generalize val x = vx at r hB
    cases r with
    | @list a vs _ _ hp rs =>
      refine .list ?_ hp (rs.flat hf)
      show s₀.heap.get? a = none
      cases q : s₀.heap.get? a with
      | none => rfl
      | some o => exact absurd (X.base0 a o q) (hB a rfl o))

/-- the list of an own name turned -/
theorem St.turn {B : Addr → Obj → Prop} {x : Str} {l l2 : List D} {s1 : Shared} {h' : Heap} {tk : Nat} {a : Addr} {vs2 : List Value}
    (X : St prog mg mb fns s₀ B No env sig mu s1) (hm : x ∈ mu) (hl : sig.lookup x = some (.list l)) (ha : Loads env s1.heap x (.ref a))
    (hp : h'.PlainList a vs2.toArray) (hs : Heap.SameBut a s1.heap h') (hr : Reps s1.heap Any vs2 l2) (hf2 : ∀ d ∈ l2, d.flat = true) :
    St prog mg mb fns s₀ B No env ((x, .list l2) :: sig) mu { s1 with heap := h', toks := tk } := by
  obtain ⟨val, hv, hmu⟩ := X.vars
  obtain ⟨ld, r⟩ := hv x _ hl
  obtain ⟨⟨l', hl', hf⟩, hB⟩ := hmu x hm
  have hvx : val x = .ref a := by
    rcases ha with ⟨h1, m1, h2, h3⟩ | ⟨h1, c1, h2, h3⟩ <;> rcases ld with ⟨g1, m2, g2, g3⟩ | ⟨g1, c2, g2, g3⟩
    · obtain ⟨o1, es1, ep1, e1, d1, _, f1⟩ := h2
      obtain ⟨o2, es2, ep2, e2, d2, _, f2⟩ := g2
      rw [e1] at e2; cases e2
      rw [d1] at d2; cases d2
      rw [← f1 x] at h3
      rw [← f2 x, h3] at g3
      exact (Option.some.inj g3).symm
    · rw [h1] at g1; cases g1
    · rw [h1] at g1; cases g1
    · rw [h2] at g2; cases g2
      obtain ⟨o1, e1, d1⟩ := h3
      obtain ⟨o2, e2, d2⟩ := g3
      rw [e1] at e2; cases e2
      rw [d1] at d2
      exact (Option.some.inj (Data.cell.inj d2)).symm
  rw [hvx] at r
  have hold : ∃ vs0, s1.heap.PlainList a vs0 := by
    cases r with
    | list _ hp0 _ => exact ⟨_, hp0⟩
  obtain ⟨vs0, e0, hp0⟩ := hold
  have nsoft : ∀ b o, s1.heap.get? b = some o → Soft o → h'.get? b = some o := fun b o e so => hs.extBut b o (fun q => by
    subst q
    rw [hp0] at e; cases e
    rcases so with ⟨es, k, q⟩ | ⟨v, q⟩ <;> cases q) e
  have hns : ∀ b m, s1.heap.Ns b m → h'.Ns b m := fun b m ⟨o, es, ep, e1, d1, r1⟩ => ⟨o, es, ep, nsoft b o e1 (.inl ⟨_, _, d1⟩), d1, r1⟩
  have hcl : ∀ b v, s1.heap.IsCell b v → h'.IsCell b v := fun b v ⟨o, e1, d1⟩ => ⟨o, nsoft b o e1 (.inr ⟨_, d1⟩), d1⟩
  have hld : ∀ y v, Loads env s1.heap y v → Loads env h' y v := fun y v l => by
    rcases l with ⟨h1, m1, h2, h3⟩ | ⟨h1, c1, h2, h3⟩
    · exact .inl ⟨h1, m1, hns _ _ h2, h3⟩
    · exact .inr ⟨h1, c1, h2, hcl _ _ h3⟩
  refine ⟨?_, X.base0, fun b o e => hs.extBut b o (fun q => hB a hvx o (q ▸ e)) (X.base b o e), X.kind, X.globals, X.builtins, X.gl0, ?_, ?_, X.newL, X.newC, X.apart, fun _ _ g => g.elim, ?_⟩
  · obtain ⟨h1, t1, q⟩ := X.rest
    refine ⟨h', tk, ?_⟩
    rw [q]
  · obtain ⟨m, hm⟩ := X.ns; exact ⟨m, hns _ _ hm⟩
  · intro y c hc
    obtain ⟨v, hv⟩ := X.cells y c hc
    exact ⟨v, hcl _ _ hv⟩
  · refine ⟨val, fun y d hy => ?_, fun y hy => ?_⟩
    · by_cases hyx : y = x
      · subst hyx
        have : d = .list l2 := by simp [List.lookup_cons] at hy; exact hy.symm
        subst this
        rw [hvx]
        refine ⟨hld _ _ ha, .list ?_ hp (hr.flat hf2)⟩
        cases r with
        | list hq _ _ => exact hq
      · have hy' : sig.lookup y = some d := by
          rw [List.lookup_cons] at hy
          have : (y == x) = false := by simpa using hyx
          rw [this] at hy; exact hy
        obtain ⟨l1, r1⟩ := hv y d hy'
        refine ⟨hld _ _ l1, r1.keeps fun b o hb e => ⟨hs.extBut b o (fun q => ?_) e, hb⟩⟩
        exact hb.2 x hm (Ne.symm hyx) (by rw [hvx, q])
    · by_cases hyx : y = x
      · subst hyx
        exact ⟨⟨l2, by simp [List.lookup_cons], hf2⟩, hB⟩
      · obtain ⟨⟨l3, hl3, hf3⟩, h3⟩ := hmu y hy
        refine ⟨⟨l3, ?_, hf3⟩, h3⟩
        rw [List.lookup_cons]
        have : (y == x) = false := by simpa using hyx
        rw [this]; exact hl3

theorem Reps.pushArr {a : Array Value} {v : Value} {vs : List Value} (h : a = vs.toArray) : a.push v = (vs ++ [v]).toArray := by subst h; simp

/-- x.append(e) -/
theorem HX.append {x : Str} {np ap cp p : Pos} {e : Expr} {l : List D} {d : D} (hl : sig.lookup x = some (.list l)) (hm : x ∈ mu) (h : EV prog w mg mb fns n env sig e d) (hf : d.flat = true) (hz : l.length < 1000)
    (hd : (x == ("__debug__" : Str)) = false := by decide)
    (hi : interactive env = false := by first | kernel_rfl! | rfl) (hbase : attributeBase (.Name x np) "append" env (eval (.Name x np) env) = eval (.Name x np) env := by first | kernel_rfl! | rfl)
    (hfew : ((backTo cp (starEach [e] env)).all (fun x => !x.1) && (backToKw cp (keywordEach [] env)).all (fun x => x.1.isSome)
      && decide ([e].length + ([] : List Keyword).length + (if ([] : List Keyword).isEmpty then 0 else 1) < 30)) = true := by first | kernel_rfl! | rfl)
    (hline : (ap.endLine == cp.line) = true := by first | kernel_rfl! | rfl) (hpl : (starEach [e] env).any (·.1) = false := by first | kernel_rfl! | rfl) (hst : starEach [e] env = (false, eval e env) :: starEach [] env := by first | exact star_name | exact star_const | exact star_bin | exact star_call | exact star_sub | exact star_list | kernel_rfl! | rfl) :
    HX prog w mg mb fns s₀ n env R (.Expr (.Call (.Attribute (.Name x np) "append" ap) [e] [] cp) p) sig mu ((x, .list (l ++ [d])) :: sig) mu := fun B A s rm X =>
  wpAny_Expr (by
    obtain ⟨val, hv, hmu⟩ := X.vars
    obtain ⟨ld, r⟩ := hv x _ hl
    obtain ⟨⟨l', hl', hfl⟩, hB⟩ := hmu x hm
    rw [hl] at hl'; cases hl'
    have rAny := r.any
    generalize hvx : val x = vx at ld rAny
    cases rAny with
    | @list a vs _ _ hp rs =>
      refine wpAny_Call_method (T := "list") (id := "list.append") hbase hfew hline PySem.F.plainAttrs_list PySem.F.slot_list_append PySem.F.type_list_append (wpAny_Name (wpAny_loads X.kind ld ⟨hp.isList.typeIs, ?_, ?_⟩) hd)
      · intro b hb
        cases hb
        obtain ⟨k, e⟩ := hp
        exact ⟨_, e, rfl⟩
      · refine Calls.callWith_builtin (backTo_plain hpl) (evalArgs_spliced (wpAny_at ((EVS.cons h EVS.nil hst) A s rm X.rd) fun us s1 q => ?_) (backTo_plain hpl))
        obtain ⟨k, r1⟩ := q
        cases r1 with
        | @cons v1 _ _ _ r1 r2 =>
          cases r2
          have hp1 : s1.heap.PlainList a vs.toArray := by obtain ⟨e, he⟩ := hp; exact ⟨e, k.heap _ _ he⟩
          refine wpAny_list_append_plain hp1 (fun h' hp' hs' => ?_) (by rw [List.size_toArray, rs.length]; exact Nat.le_trans (Nat.le_of_lt hz) (by decide))
          refine .inl ⟨rfl, ?_⟩
          refine St.turn (tk := s1.toks) (vs2 := vs ++ [v1]) (X.keep k) hm hl (ld.keeps k.heap) ?_ hs' (Reps.snoc (rs.up k) r1) ?_
          · rw [← Reps.pushArr rfl]; exact hp'
          · intro d' hd'
            rcases List.mem_append.mp hd' with h1 | h1
            · exact hfl d' h1
            · simp at h1; subst h1; exact hf) hi (by rfl)
end
end Mine
end

-- LcK
section
open PySem PySem.W PyProof.Rows PySem.MeetsSeq PySem.SeqRoads2 PySem.SeqAt
set_option Elab.async false
set_option maxRecDepth 100000
set_option linter.unusedVariables false
set_option linter.unusedSimpArgs false
namespace Mine

section
variable {prog : Program} {w : World} {mg mb : Str → Option Value} {fns : List (Str × Nat × Addr × FuncData)} {s₀ : Shared} {n : Nat} {env : Env} {R : Flow → Shared → Prop} {sig sig' sig'' : Sto} {mu mu' mu'' : List Str}

/-- del x[i] -/
theorem HX.del {x : Str} {np sp p : Pos} {ie : Expr} {l : List D} {i : Int} {k : Nat} (hl : sig.lookup x = some (.list l)) (hm : x ∈ mu) (h : EV prog w mg mb fns n env sig ie (.int i)) (hz : l.length < 1000)
    (hfit : Builtin.List.listFitsIndex i = true) (hk : seqIndex? i l.length = some k) (hkl : k < l.length) (hd : (x == ("__debug__" : Str)) = false := by decide) :
    HX prog w mg mb fns s₀ n env R (.Delete [.Subscript (.Name x np) ie sp] p) sig mu ((x, .list (l.eraseIdx k)) :: sig) mu := fun B A s rm X =>
  wpAny_Delete (wpAny_deleteEach_cons (wpAny_delete_Subscript (by
    obtain ⟨val, hv, hmu⟩ := X.vars
    obtain ⟨ld, r⟩ := hv x _ hl
    obtain ⟨⟨l', hl', hfl⟩, hB⟩ := hmu x hm
    rw [hl] at hl'; cases hl'
    have rAny := r.any
    generalize hvx : val x = vx at ld rAny
    cases rAny with
    | @list a vs _ _ hp rs =>
      refine wpAny_Name (wpAny_loads X.kind ld ?_) hd
      refine wpAny_at (h A s rm X.rd) fun iv s1 q => ?_
      obtain ⟨kp, ri⟩ := q
      cases ri
      have hp1 : s1.heap.PlainList a vs.toArray := by obtain ⟨e, he⟩ := hp; exact ⟨e, kp.heap _ _ he⟩
      refine wpAny_delItem_plain hp1 hfit (by rw [List.size_toArray, rs.length]; exact hk) (fun h' hp' hs' => wpAny_deleteEach_nil (.inl ⟨rfl, ?_⟩)) (by rw [List.size_toArray, rs.length]; exact Nat.le_trans (Nat.le_of_lt hz) (by decide))
      have hrs : Reps s1.heap Any (vs.eraseIdx k) (l.eraseIdx k) := by
        have e1 : ∀ {h : Heap} (vs : List Value) (l : List D) (k : Nat), Reps h Any vs l → Reps h Any (vs.eraseIdx k) (l.eraseIdx k) := by
          intro h vs l k r
          induction k generalizing vs l with
          | zero => cases r with
            | nil => exact .nil
            | cons _ r => exact r
          | succ k ih => cases r with
            | nil => exact .nil
            | cons r1 r => exact .cons r1 (ih _ _ r)
        exact e1 _ _ _ (rs.up kp)
      refine St.turn (tk := s1.toks) (vs2 := vs.eraseIdx k) (X.keep kp) hm hl (ld.keeps kp.heap) ?_ hs' hrs ?_
      · have : (vs.eraseIdx k).toArray = vs.toArray.eraseIdxIfInBounds k := by
          unfold Array.eraseIdxIfInBounds
          rw [dif_pos (by rw [List.size_toArray, rs.length]; exact hkl)]
          simp
        rw [this]; exact hp'
      · intro d hd; exact hfl d (List.mem_of_mem_eraseIdx hd))))

theorem wpAny_aio_cons {M : Model} {A : Around} {t : Value → Sem Unit} {ts : List (Value → Sem Unit)} {x : Value} {xs : List Value} {Q : Unit → Shared → Prop} {E : Value → Shared → Prop} {s : Shared}
    (h : wpAny M A (t x) (fun _ s1 => wpAny M A (assignInOrder ts xs) Q E s1) E s) : wpAny M A (assignInOrder (t :: ts) (x :: xs)) Q E s := by
  show wpAny M A (do holding xs (t x); assignInOrder ts xs) Q E s
  exact wpAny_bind (wpAny_holding h)
theorem wpAny_aio_nil {M : Model} {A : Around} {Q : Unit → Shared → Prop} {E : Value → Shared → Prop} {s : Shared} (h : Q () s) : wpAny M A (assignInOrder [] []) Q E s := wpAny_pure h

/-- x, y = (a, b): flat, the stores swapped -/
theorem HX.assign2s {x y : Str} {px py p tp vp : Pos} {k1 k2 : Nat} {e1 e2 : Expr} {d1 d2 : D} (h1 : EV prog w mg mb fns n env sig e1 d1) (h2 : EV prog w mg mb fns n env sig e2 d2) (hf1 : d1.flat = true) (hf2 : d2.flat = true)
    (hx : Binds env x) (hy : Binds env y) (hm : ∀ z ∈ mu, z ≠ x ∧ z ≠ y)
    (hst : starEach [e1, e2] env = (false, eval e1 env) :: starEach [e2] env := by first | exact star_name | exact star_const | exact star_bin | exact star_call | exact star_sub | exact star_list | kernel_rfl! | rfl) (hst2 : starEach [e2] env = (false, eval e2 env) :: starEach [] env := by first | exact star_name | exact star_const | exact star_bin | exact star_call | exact star_sub | exact star_list | kernel_rfl! | rfl)
    (hs : swapsWithSole [.Tuple [.Name x px, .Name y py] k1 tp] (.Tuple [e1, e2] k2 vp) p.line env = pure false := by first | kernel_rfl! | rfl) (hw : swappedStores [.Tuple [.Name x px, .Name y py] k1 tp] (.Tuple [e1, e2] k2 vp) env = pure (some [x, y]) := by first | kernel_rfl! | rfl) :
    HX prog w mg mb fns s₀ n env R (.Assign [.Tuple [.Name x px, .Name y py] k1 tp] (.Tuple [e1, e2] k2 vp) p) sig mu ((x, d1) :: (y, d2) :: sig) mu := fun B A s rm X =>
  Assign_Tuple_swapped (by
    refine wpAny_Tuple (wpAny_at ((EVS.cons h1 (EVS.cons h2 EVS.nil hst2) hst) A s rm X.rd) fun vs s1 q => ?_)
    obtain ⟨k, r⟩ := q
    cases r with
    | @cons v1 _ _ _ r1 r =>
      cases r with
      | @cons v2 _ _ _ r2 r =>
        cases r
        refine ⟨(by decide : (2 : Nat) ≤ sizeLine), ?_⟩
        have kp : Kp s1 { s1 with heap := s1.heap.push { cls := .type "tuple", data := .seq [v1, v2].toArray } } := Kp.push s1 _
        refine wpAny_unpackItems_tuple (items := #[v1, v2]) rm.hd ⟨_, Heap.get?_push_size _ rfl, rfl, 0, rfl⟩ fun h' he => ?_
        have kp2 : Kp s { s1 with heap := h' } := (k.trans kp).to (t := s1.toks) fun b o e => he b o (by
          have := Heap.lt_size ((k.trans kp).heap b o e)
          exact Nat.ne_of_lt this) ((k.trans kp).heap b o e)
        refine wpAny_aio_cons (wpAny_bindName ((X.keep kp2).store (G1 := No) (G2 := No) (mu' := mu) (r2.flat hf2) (fun _ g => g) (fun _ g => g.elim) hy (fun z hz => .inr ⟨(hm z hz).2, hz⟩) fun s2 _ _ X2 => ?_))
        refine wpAny_aio_cons (wpAny_bindName (X2.store (G1 := No) (G2 := No) (mu' := mu) (r1.flat hf1) (fun _ g => g) (fun _ g => g.elim) hx (fun z hz => .inr ⟨(hm z hz).1, hz⟩) fun s3 _ _ X3 => ?_))
        exact wpAny_aio_nil (.inl ⟨rfl, X3⟩)) hs hw

/-- x, y = (a, b): lists of their own -/
theorem HX.assign2 {x y : Str} {px py p tp vp : Pos} {k1 k2 : Nat} {e1 e2 : Expr} {l1 l2 : List D} (h1 : EVF prog w mg mb fns n env sig e1 (.list l1)) (h2 : EVF prog w mg mb fns n env sig e2 (.list l2)) (hf1 : ∀ d ∈ l1, d.flat = true) (hf2 : ∀ d ∈ l2, d.flat = true)
    (hx : Binds env x) (hy : Binds env y) (hxy : x ≠ y) (hm : ∀ z ∈ mu, z ≠ x ∧ z ≠ y)
    (hst : starEach [e1, e2] env = (false, eval e1 env) :: starEach [e2] env := by first | exact star_name | exact star_const | exact star_bin | exact star_call | exact star_sub | exact star_list | kernel_rfl! | rfl) (hst2 : starEach [e2] env = (false, eval e2 env) :: starEach [] env := by first | exact star_name | exact star_const | exact star_bin | exact star_call | exact star_sub | exact star_list | kernel_rfl! | rfl)
    (hs : swapsWithSole [.Tuple [.Name x px, .Name y py] k1 tp] (.Tuple [e1, e2] k2 vp) p.line env = pure false := by first | kernel_rfl! | rfl) (hw : swappedStores [.Tuple [.Name x px, .Name y py] k1 tp] (.Tuple [e1, e2] k2 vp) env = pure none := by first | kernel_rfl! | rfl) :
    HX prog w mg mb fns s₀ n env R (.Assign [.Tuple [.Name x px, .Name y py] k1 tp] (.Tuple [e1, e2] k2 vp) p) sig mu ((y, .list l2) :: (x, .list l1) :: sig) (y :: x :: mu) := fun B A s rm X =>
  Assign_Tuple (by
    refine wpAny_Tuple (wpAny_items_cons (wpAny_at (h1 A s rm X.rd) fun v1 s1 q1 => wpAny_items_cons (wpAny_at (h2 A s1 rm (X.rd.keeps _ _ _ _ q1.1)) fun v2 s2 q2 => wpAny_items_nil ?_) hst2) hst)
    refine ⟨(by decide : (2 : Nat) ≤ sizeLine), ?_⟩
    have kp : Kp s2 { s2 with heap := s2.heap.push { cls := .type "tuple", data := .seq [v1, v2].toArray } } := Kp.push s2 _
    refine wpAny_assign_Tuple (items := #[v1, v2]) rm.hd ⟨_, Heap.get?_push_size _ rfl, rfl, 0, rfl⟩ rfl rfl fun h' he => ?_
    have k2' : Kp s2 { s2 with heap := h' } := kp.to (t := s2.toks) fun b o e => he b o (Nat.ne_of_lt (Heap.lt_size (kp.heap b o e))) (kp.heap b o e)
    have ks : Kp s { s2 with heap := h' } := (q1.1.trans q2.1).trans k2'
    have r1 : Rep h' (fun a => Fresh s a ∧ ¬ Fresh s1 a) v1 (.list l1) := ((q1.2.exist).up (q2.1.trans k2')).keeps fun b o hb e => ⟨e, hb.1, fun g => by
      obtain ⟨_, o1, _, _, ho1, _⟩ := hb
      unfold Fresh at g; rw [g] at ho1; cases ho1⟩
    have r2 : Rep h' (Fresh s1) v2 (.list l2) := q2.2.up k2'
    refine wpAny_aio_cons (wpAny_assign_Name ((X.reserve ks).store (G1 := fun a => Fresh s a ∧ ¬ Fresh s1 a) (G2 := Fresh s1) (mu' := x :: mu) r1 (fun _ g => g.1) (fun a g => ⟨g.back q1.1, fun q => q.2 g⟩) hx (fun z hz => ?_) fun s3 hk _ X3 => ?_))
    · rcases List.mem_cons.mp hz with rfl | hz
      · exact .inl ⟨rfl, l1, rfl, hf1⟩
      · exact .inr ⟨(hm z hz).1, hz⟩
    refine wpAny_aio_cons (wpAny_assign_Name (X3.store (G1 := Fresh s1) (G2 := No) (mu' := y :: x :: mu) (r2.hard hk) (fun _ g => g) (fun _ g => g.elim) hy (fun z hz => ?_) fun s4 _ _ X4 => ?_))
    · rcases List.mem_cons.mp hz with rfl | hz
      · exact .inl ⟨rfl, l2, rfl, hf2⟩
      · refine .inr ⟨?_, hz⟩
        rcases List.mem_cons.mp hz with rfl | hz
        · exact hxy
        · exact (hm z hz).2
    exact wpAny_aio_nil (.inl ⟨rfl, X4⟩)) hs hw

theorem HX.assign3 {x y z : Str} {px py pz p tp vp : Pos} {k1 k2 : Nat} {e1 e2 e3 : Expr} {l1 l2 l3 : List D} (h1 : EVF prog w mg mb fns n env sig e1 (.list l1)) (h2 : EVF prog w mg mb fns n env sig e2 (.list l2)) (h3 : EVF prog w mg mb fns n env sig e3 (.list l3))
    (hf1 : ∀ d ∈ l1, d.flat = true) (hf2 : ∀ d ∈ l2, d.flat = true) (hf3 : ∀ d ∈ l3, d.flat = true)
    (hx : Binds env x) (hy : Binds env y) (hz : Binds env z) (hxy : x ≠ y) (hxz : x ≠ z) (hyz : y ≠ z) (hm : ∀ u ∈ mu, u ≠ x ∧ u ≠ y ∧ u ≠ z)
    (hst : starEach [e1, e2, e3] env = (false, eval e1 env) :: starEach [e2, e3] env := by first | exact star_name | exact star_const | exact star_bin | exact star_call | exact star_sub | exact star_list | kernel_rfl! | rfl) (hst2 : starEach [e2, e3] env = (false, eval e2 env) :: starEach [e3] env := by first | exact star_name | exact star_const | exact star_bin | exact star_call | exact star_sub | exact star_list | kernel_rfl! | rfl) (hst3 : starEach [e3] env = (false, eval e3 env) :: starEach [] env := by first | exact star_name | exact star_const | exact star_bin | exact star_call | exact star_sub | exact star_list | kernel_rfl! | rfl)
    (hs : swapsWithSole [.Tuple [.Name x px, .Name y py, .Name z pz] k1 tp] (.Tuple [e1, e2, e3] k2 vp) p.line env = pure false := by first | kernel_rfl! | rfl) (hw : swappedStores [.Tuple [.Name x px, .Name y py, .Name z pz] k1 tp] (.Tuple [e1, e2, e3] k2 vp) env = pure none := by first | kernel_rfl! | rfl) :
    HX prog w mg mb fns s₀ n env R (.Assign [.Tuple [.Name x px, .Name y py, .Name z pz] k1 tp] (.Tuple [e1, e2, e3] k2 vp) p) sig mu ((z, .list l3) :: (y, .list l2) :: (x, .list l1) :: sig) (z :: y :: x :: mu) := fun B A s rm X =>
  Assign_Tuple (by
    refine wpAny_Tuple (wpAny_items_cons (wpAny_at (h1 A s rm X.rd) fun v1 s1 q1 => wpAny_items_cons (wpAny_at (h2 A s1 rm (X.rd.keeps _ _ _ _ q1.1)) fun v2 s2 q2 => wpAny_items_cons (wpAny_at (h3 A s2 rm (X.rd.keeps _ _ _ _ (q1.1.trans q2.1))) fun v3 s3 q3 => wpAny_items_nil ?_) hst3) hst2) hst)
    refine ⟨(by decide : (3 : Nat) ≤ sizeLine), ?_⟩
    have kp : Kp s3 { s3 with heap := s3.heap.push { cls := .type "tuple", data := .seq [v1, v2, v3].toArray } } := Kp.push s3 _
    refine wpAny_assign_Tuple (items := #[v1, v2, v3]) rm.hd ⟨_, Heap.get?_push_size _ rfl, rfl, 0, rfl⟩ rfl rfl fun h' he => ?_
    have k3' : Kp s3 { s3 with heap := h' } := kp.to (t := s3.toks) fun b o e => he b o (Nat.ne_of_lt (Heap.lt_size (kp.heap b o e))) (kp.heap b o e)
    have ks : Kp s { s3 with heap := h' } := ((q1.1.trans q2.1).trans q3.1).trans k3'
    have r1 : Rep h' (fun a => Fresh s a ∧ ¬ Fresh s1 a) v1 (.list l1) := ((q1.2.exist).up ((q2.1.trans q3.1).trans k3')).keeps fun b o hb e => ⟨e, hb.1, fun g => by
      obtain ⟨_, o1, _, _, ho1, _⟩ := hb
      unfold Fresh at g; rw [g] at ho1; cases ho1⟩
    have r2 : Rep h' (fun a => Fresh s1 a ∧ ¬ Fresh s2 a) v2 (.list l2) := ((q2.2.exist).up (q3.1.trans k3')).keeps fun b o hb e => ⟨e, hb.1, fun g => by
      obtain ⟨_, o1, _, _, ho1, _⟩ := hb
      unfold Fresh at g; rw [g] at ho1; cases ho1⟩
    have r3 : Rep h' (Fresh s2) v3 (.list l3) := q3.2.up k3'
    refine wpAny_aio_cons (wpAny_assign_Name ((X.reserve ks).store (G1 := fun a => Fresh s a ∧ ¬ Fresh s1 a) (G2 := Fresh s1) (mu' := x :: mu) r1 (fun _ g => g.1) (fun a g => ⟨g.back q1.1, fun q => q.2 g⟩) hx (fun u hu => ?_) fun s4 hk _ X4 => ?_))
    · rcases List.mem_cons.mp hu with rfl | hu
      · exact .inl ⟨rfl, l1, rfl, hf1⟩
      · exact .inr ⟨(hm u hu).1, hu⟩
    refine wpAny_aio_cons (wpAny_assign_Name (X4.store (G1 := fun a => Fresh s1 a ∧ ¬ Fresh s2 a) (G2 := Fresh s2) (mu' := y :: x :: mu) (r2.hard hk) (fun _ g => g.1) (fun a g => ⟨g.back q2.1, fun q => q.2 g⟩) hy (fun u hu => ?_) fun s5 hk5 _ X5 => ?_))
    · rcases List.mem_cons.mp hu with rfl | hu
      · exact .inl ⟨rfl, l2, rfl, hf2⟩
      · refine .inr ⟨?_, hu⟩
        rcases List.mem_cons.mp hu with rfl | hu
        · exact hxy
        · exact (hm u hu).2.1
    refine wpAny_aio_cons (wpAny_assign_Name (X5.store (G1 := Fresh s2) (G2 := No) (mu' := z :: y :: x :: mu) ((r3.hard hk).hard hk5) (fun _ g => g) (fun _ g => g.elim) hz (fun u hu => ?_) fun s6 _ _ X6 => ?_))
    · rcases List.mem_cons.mp hu with rfl | hu
      · exact .inl ⟨rfl, l3, rfl, hf3⟩
      · refine .inr ⟨?_, hu⟩
        rcases List.mem_cons.mp hu with rfl | hu
        · exact hyz
        · rcases List.mem_cons.mp hu with rfl | hu
          · exact hxz
          · exact (hm u hu).2.2
    exact wpAny_aio_nil (.inl ⟨rfl, X6⟩)) hs hw

/-- an iterator has moved -/
theorem St.move {B : Addr → Obj → Prop} {G : Addr → Prop} {s : Shared} {h' : Heap} {tk : Nat} (X : St prog mg mb fns s₀ B G env sig mu s) (hB : ∀ b o, B b o → h'.get? b = some o)
    (hk : ∀ b o, s.heap.get? b = some o → (¬ ∃ fs, o.data = .fields fs) → h'.get? b = some o) : St prog mg mb fns s₀ B G env sig mu { s with heap := h', toks := tk } := by
  obtain ⟨val, hv, hmu⟩ := X.vars
  have hns : ∀ b m, s.heap.Ns b m → h'.Ns b m := fun b m ⟨o, es, ep, e1, d1, r1⟩ => ⟨o, es, ep, hk b o e1 (by rintro ⟨fs, q⟩; rw [d1] at q; cases q), d1, r1⟩
  have hcl : ∀ b v, s.heap.IsCell b v → h'.IsCell b v := fun b v ⟨o, e1, d1⟩ => ⟨o, hk b o e1 (by rintro ⟨fs, q⟩; rw [d1] at q; cases q), d1⟩
  refine ⟨?_, X.base0, hB, X.kind, X.globals, X.builtins, X.gl0, ?_, ?_, X.newL, X.newC, X.apart, X.newG, val, fun y d hy => ⟨?_, ?_⟩, hmu⟩
  · obtain ⟨h1, t1, q⟩ := X.rest
    exact ⟨h', tk, by rw [q]⟩
  · obtain ⟨mm, hm⟩ := X.ns
    exact ⟨mm, hns _ _ hm⟩
  · intro y c hc
    obtain ⟨v, h1⟩ := X.cells y c hc
    exact ⟨v, hcl _ _ h1⟩
  · rcases (hv y d hy).1 with ⟨h1, m1, h2, h3⟩ | ⟨h1, c1, h2, h3⟩
    · exact .inl ⟨h1, m1, hns _ _ h2, h3⟩
    · exact .inr ⟨h1, c1, h2, hcl _ _ h3⟩
  · refine (hv y d hy).2.exist.keeps fun b o hb e => ⟨hk b o e ?_, hb.1⟩
    obtain ⟨_, o1, xs, k, ho1, hd1⟩ := hb
    rw [e] at ho1; cases ho1
    rintro ⟨fs, q⟩; rw [hd1] at q; cases q

/-- for x in iter: body -/
theorem HX.for {x : Str} {px p : Pos} {iter : Expr} {body : List Stmt} {ds : List D} {lst : Bool} (sg : Nat → Sto) (hit : IT prog w mg mb fns lst n env (sg 0) iter ds) (hlst : lst = true → mu = []) (hflat : ∀ d ∈ ds, d.flat = true)
    (hx : Binds env x) (hxm : x ∉ mu)
    (hb : ∀ i d, ds[i]? = some d → HS prog w mg mb fns s₀ n env R body ((x, d) :: sg i) mu (sg (i + 1)) mu)
    (hs : ∀ x, foldedSetIterable iter env x = pure x := by intro _; first | kernel_rfl! | rfl) :
    HX prog w mg mb fns s₀ n env R (.For (.Name x px) iter body [] p) (sg 0) mu (sg ds.length) mu := fun B A s rm X =>
  wpAny_For (wpAny_at (hit A s rm X.rd) fun v s₁ q1 => wpAny_at q1.2 fun it s₂ q2 => by
    obtain ⟨k1, -⟩ := q1
    obtain ⟨k2, I, fp, wr, P, It, rfl, W, hst, hwr, hfp, hfps, hwrf, hP⟩ := q2
    have hBw : ∀ b o, B b o → b ∉ wr := fun b o hb hw => by
      have := k1.heap _ _ (X.base b o hb)
      rw [hwr b hw] at this; cases this
    refine codeAny_forLoop_any (fun m s' => ∃ i, m = ds.length + 1 - i ∧ i ≤ ds.length ∧ St prog mg mb fns s₀ B No env (sg i) mu s' ∧ It i s'.heap) ?_ (ds.length + 1) ⟨0, rfl, Nat.zero_le _, X.keep (k1.trans k2), hst⟩
    rintro m s' ⟨i, rfl, hi, X', hsti⟩
    have moved : ∀ (h' : Heap) tk, (∀ b o, b ∉ wr → s'.heap.get? b = some o → h'.get? b = some o) → St prog mg mb fns s₀ B No env (sg i) mu { s' with heap := h', toks := tk } := fun h' tk hkp =>
      X'.move (fun b o e => hkp b o (hBw b o e) (X'.base b o e)) fun b o e hf => hkp b o (fun hw => by
        obtain ⟨o1, fs, h1, h2⟩ := hwrf i _ hsti b hw
        rw [e] at h1; cases h1
        exact hf ⟨fs, h2⟩) e
    by_cases hlt : i < ds.length
    · refine W.item i _ _ _ hlt hsti fun v h' tk hPv hst' hkp => ?_
      dsimp only
      obtain ⟨d, hd, hrd⟩ := hP i v s₁.heap hlt hPv fun _ _ e => e
      have hdf := hflat d (List.mem_of_getElem? hd)
      have hlo : letOwnedTupleGo (.Name x px) (.ref I) v = pure () := rfl
      rw [hlo]
      refine wpAny_pure ?_
      refine wpAny_assign_Name ((moved h' tk hkp).store (G1 := No) (G2 := No) (mu' := mu) (hrd.flat hdf) (fun _ g => g) (fun _ g => g.elim) hx (fun z hz => .inr ⟨fun q => hxm (q ▸ hz), hz⟩) fun s2 hk2 _ X2 => ?_)
      have hit2 : It (i + 1) s2.heap := W.frame _ _ _ hst' fun b hb o e => by
        obtain ⟨o1, h1, h2, h3, _⟩ := hfps _ _ hst' b hb
        rw [e] at h1; cases h1
        exact hk2 b o e h2 h3
      have notin : ∀ b o, s2.heap.get? b = some o → (Soft o ∨ (o.cls = .type "list" ∧ mu ≠ [])) → b ∉ fp := fun b o ho hso hbf => by
        obtain ⟨o1, h1, h2, h3, h4⟩ := hfps _ _ hit2 b hbf
        rw [ho] at h1; cases h1
        rcases hso with hso | ⟨hso, hmu⟩
        · exact hso.elim h2 h3
        · exact hmu (hlst (h4 hso))
      have X3 : St prog mg mb fns s₀ (fun b o => B b o ∨ (b ∈ fp ∧ s2.heap.get? b = some o)) No env ((x, d) :: sg i) mu s2 := by
        obtain ⟨val, hv, hmu⟩ := X2.vars
        refine ⟨X2.rest, fun b o e => .inl (X2.base0 b o e), fun b o e => e.elim (X2.base b o) And.right, X2.kind, X2.globals, X2.builtins, X2.gl0, X2.ns, X2.cells, ?_, ?_, X2.apart, fun _ _ g => g.elim, val, hv, fun y hy => ⟨(hmu y hy).1, fun a ha o q => ?_⟩⟩
        · rintro o (q | ⟨q, _⟩)
          · exact X2.newL o q
          · obtain ⟨mm, o1, es, ep, h1, h2, _⟩ := X2.ns
            exact notin _ o1 h1 (.inl (.inl ⟨_, _, h2⟩)) q
        · rintro y c hc o (q | ⟨q, _⟩)
          · exact X2.newC y c hc o q
          · obtain ⟨v, o1, h1, h2⟩ := X2.cells y c hc
            exact notin _ o1 h1 (.inl (.inr ⟨_, h2⟩)) q
        · rcases q with q | ⟨q, _⟩
          · exact (hmu y hy).2 a ha o q
          · obtain ⟨⟨l, hl, _⟩, _⟩ := hmu y hy
            have r := (hv y _ hl).2
            rw [ha] at r
            cases r with
            | list _ hp _ =>
              obtain ⟨e, he⟩ := hp
              exact notin _ _ he (.inr ⟨rfl, fun q => by rw [q] at hy; cases hy⟩) q
      refine wpAny_at (hb i d hd _ A s2 rm X3) fun f s3 q3 => ?_
      rcases q3 with ⟨rfl, X4⟩ | ⟨⟨rv, rfl⟩, q3⟩
      · exact ⟨ds.length + 1 - (i + 1), by omega, i + 1, rfl, hlt, X4.sub X2.base0 fun b o e => .inl e, W.frame _ _ _ hit2 fun b hb o e => X4.base b o (.inr ⟨hb, e⟩)⟩
      · exact .inr ⟨⟨rv, rfl⟩, q3⟩
    · have hin : i = ds.length := Nat.le_antisymm hi (Nat.le_of_not_lt hlt)
      subst hin
      refine W.done _ _ _ hsti fun h' tk hkp => ?_
      exact wpAny_execs_nil (.inl ⟨rfl, moved h' tk hkp⟩)) hs

theorem EVF.comp {elt iter : Expr} {ifs : List Expr} {scope : Scope} {p : Pos} {x : Str} {px : Pos} {ds : List D} {sc : Sto} {lst : Bool} (f : D → Option D)
    (ok : CompOk env sig scope sc) (hx : scope.names.lookup x = some .local ∨ (scope.names.lookup x = some .cell ∧ ((cellsFrom 0 scope.names []).lookup x).isSome = true))
    (hit : IT prog w mg mb fns lst n env sig iter ds) (hz : ds.length ≤ sizeLine)
    (hbody : ∀ cenv : Env, cenv.scope = relabel scope env → ∀ d ∈ ds, ∃ b, TESTS prog w mg mb fns n cenv ((x, d) :: sc) ifs b ∧ (b = true → ∃ d', f d = some d' ∧ EVF prog w mg mb fns n cenv ((x, d) :: sc) elt d') ∧ (b = false → f d = none))
    (hs : ∀ x, foldedSetIterable iter env x = pure x := by intro _; first | kernel_rfl! | rfl) :
    EVF prog w mg mb fns n env sig (.ListComp elt [⟨.Name x px, iter, ifs, 0⟩] scope p) (.list (ds.filterMap f)) := fun A s rm X => by
  rw [eval_ListComp]
  refine comp1_core (use := none) ok hx hit hz hbody rm X (fun acc C s' k hC hns r => ?_) hs
  obtain ⟨m, hm⟩ := hns
  refine ⟨m, hm, fun h' hs' => ⟨k.to (t := s'.toks) fun b o e => hs'.extBut b o (fun q => by rw [q, hC] at e; cases e) (k.heap b o e), r.keeps fun b o hb e => ⟨hs'.extBut b o hb.2 e, hb.1⟩⟩⟩

/-- a dict of no one's has changed -/
theorem St.let {B : Addr → Obj → Prop} {G : Addr → Prop} {s : Shared} {h' : Heap} {C : Addr} {tk : Nat} (X : St prog mg mb fns s₀ B G env sig mu s) (hs : Heap.SameBut C s.heap h') (ho : ∃ o, s.heap.get? C = some o ∧ Soft o) (hL : C ≠ env.locals) (hc : ∀ y, env.cells.lookup y ≠ some C) (hB : ∀ o, ¬ B C o) :
    St prog mg mb fns s₀ B G env sig mu { s with heap := h', toks := tk } := by
  obtain ⟨val, hv, hmu⟩ := X.vars
  refine ⟨?_, X.base0, fun b o e => hs.extBut b o (fun q => hB o (q ▸ e)) (X.base b o e), X.kind, X.globals, X.builtins, X.gl0, ?_, ?_, X.newL, X.newC, X.apart, X.newG, val, fun y d hy => ⟨?_, ?_⟩, hmu⟩
  · obtain ⟨h1, t1, q⟩ := X.rest
    exact ⟨h', tk, by rw [q]⟩
  · obtain ⟨mm, hm⟩ := X.ns
    exact ⟨mm, hm.sameBut hs hL.symm⟩
  · intro y c hc'
    obtain ⟨v, h1⟩ := X.cells y c hc'
    exact ⟨v, h1.sameBut hs fun q => hc y (q ▸ hc')⟩
  · rcases (hv y d hy).1 with ⟨h1, m1, h2, h3⟩ | ⟨h1, c1, h2, h3⟩
    · exact .inl ⟨h1, m1, h2.sameBut hs hL.symm, h3⟩
    · exact .inr ⟨h1, c1, h2, h3.sameBut hs fun q => hc y (q ▸ h2)⟩
  · exact (hv y d hy).2.soft hs ho

/-- x = [..], x local: the stores exchanged -/
theorem HX.comp {y : Str} {py sp : Pos} {elt iter : Expr} {ifs : List Expr} {scope : Scope} {p : Pos} {x : Str} {px : Pos} {ds : List D} {sc : Sto} {lst : Bool} (f : D → Option D)
    (ok : CompOk env sig scope sc) (hx : scope.names.lookup x = some .local ∨ (scope.names.lookup x = some .cell ∧ ((cellsFrom 0 scope.names []).lookup x).isSome = true))
    (hit : IT prog w mg mb fns lst n env sig iter ds) (hz : ds.length ≤ sizeLine)
    (hbody : ∀ cenv : Env, cenv.scope = relabel scope env → ∀ d ∈ ds, ∃ b, TESTS prog w mg mb fns n cenv ((x, d) :: sc) ifs b ∧ (b = true → ∃ d', f d = some d' ∧ EVF prog w mg mb fns n cenv ((x, d) :: sc) elt d') ∧ (b = false → f d = none))
    (hy : Binds env y) (hm : ∀ z ∈ mu', z ≠ y ∧ z ∈ mu)
    (hsw : swapsWith (.ListComp elt [⟨.Name x px, iter, ifs, 0⟩] scope p) (some (.Name y py)) sp.line env = pure true := by first | kernel_rfl! | rfl)
    (hs : ∀ x, foldedSetIterable iter env x = pure x := by intro _; first | kernel_rfl! | rfl) :
    HX prog w mg mb fns s₀ n env R (.Assign [.Name y py] (.ListComp elt [⟨.Name x px, iter, ifs, 0⟩] scope p) sp) sig mu ((y, .list (ds.filterMap f)) :: sig) mu' := fun B A s rm X => by
  rw [exec_Assign_Name_used _ _ _ _ hsw]
  refine wpAny_bind (wpAny_standAt (wpAny_bind ?_))
  show wpAny _ A (do let _ ← comprehension (.ListComp elt [⟨.Name x px, iter, ifs, 0⟩] scope p) scope env _ (newList []) false (eval iter env) (some (PySem.assign (.Name y py) env))) _ _ s
  refine wpAny_bind (wpAny_at (comp1_core (use := some (PySem.assign (.Name y py) env)) (Q := fun _ s' => St prog mg mb fns s₀ B No env ((y, .list (ds.filterMap f)) :: sig) mu' s') ok hx hit hz hbody rm X.rd (fun acc C s' k hC hns r => ?_) hs) fun _ s' X' => wpAny_pure (wpAny_pure (.inl ⟨rfl, X'⟩)))
  obtain ⟨m, hmC⟩ := hns
  show wpAny _ A (PySem.assign (.Name y py) env acc) _ _ s'
  have X1 := X.reserve k
  have hCB : ∀ o, ¬ B C o := fun o q => by have := X.base C o q; rw [hC] at this; cases this
  have hCL : C ≠ env.locals := by
    rintro rfl
    obtain ⟨mm, o1, _, _, h1, _⟩ := X.ns
    rw [hC] at h1; cases h1
  have hCc : ∀ z, env.cells.lookup z ≠ some C := fun z q => by
    obtain ⟨v, o1, h1, _⟩ := X.cells z C q
    rw [hC] at h1; cases h1
  refine wpAny_assign_Name (X1.store (G1 := Fresh s) (G2 := No) (mu' := mu') (r.keeps fun b o hb e => ⟨e, hb.1⟩) (fun _ g => g) (fun _ g => g.elim) hy (fun z hz => .inr (hm z hz)) fun s2 hk hk2 X2 => ?_)
  obtain ⟨oC, es, ep, h1, h2, h3⟩ := hmC
  have h1' := hk2 C oC h1 hCL (hCc y)
  exact ⟨m, ⟨oC, es, ep, h1', h2, h3⟩, fun h' hs' => X2.let (tk := s2.toks) hs' ⟨oC, h1', .inl ⟨_, _, h2⟩⟩ hCL hCc hCB⟩
end
end Mine
end

-- LcL
section
open PySem PySem.W PyProof.Rows PySem.MeetsSeq PySem.SeqRoads2 PySem.SeqAt
set_option Elab.async false
set_option maxRecDepth 100000
set_option linter.unusedVariables false
set_option linter.unusedSimpArgs false
namespace Mine

section
variable {prog : Program} {w : World} {mg mb : Str → Option Value} {fns : List (Str × Nat × Addr × FuncData)} {n : Nat}

theorem no_end {s₀ : Shared} {B : Addr → Obj → Prop} {G : Addr → Prop} {env : Env} {s : Shared} {x : Str} (X : St prog mg mb fns s₀ B G env [] [x] s) : False := by
  obtain ⟨val, h1, h2⟩ := X.vars
  obtain ⟨⟨l, hl, _⟩, _⟩ := h2 x (List.mem_singleton.mpr rfl)
  cases hl

/-- a def of the text, its arguments by place -/
theorem CALLF.of {x : Str} {i : Nat} {f : Addr} {fd : FuncData} {args : Arguments} {body : List Stmt} {scope : Scope} {ns : List Str} {ds : List D} {d : D} (hf : (x, i, f, fd) ∈ fns) (hdef : defAt prog i = some (args, body, scope)) (hns : args.args.map (·.arg) = ns)
    (hlen : ds.length = ns.length) (hnd : ns.Nodup) (hcell : ∀ x ∈ scope.names, x.2 ≠ .cell) (hloc : ∀ y ∈ ns, scope.names.lookup y = some .local)
    (hco : scope.isCoroutine = false) (hgen : scope.isGenerator = false) (hk : scope.kind = .function)
    (hbody : ∀ (s₀ : Shared) (env : Env), env.scope = scope → env.cells = [] → HS prog w mg mb fns s₀ n env (Gives0 s₀ d) body (ns.zip ds) [] [] [""]) : CALLF prog w mg mb fns (n + 1) f ds d := fun A s vs rm gl rs => by
  obtain ⟨hmg, hfn⟩ := gl.fn _ hf
  simp only at hmg hfn
  obtain ⟨⟨o, ho, hdt⟩, hcode, ⟨a', b', s', he, hp, hb, hsc⟩, hbind, hgl, hbu, hcl⟩ := hfn
  rw [hdef] at he
  cases he
  have hlv : vs.length = ns.length := by rw [rs.length, hlen]
  have hbd := hbind vs (by rw [hp, hlv, ← hns, List.length_map])
  rw [hp, hns] at hbd
  refine wpAny_call (codeAny_call_def rm.lim ho hdt gl.lim hcode hb (BindsTo.of_eq hbd) (by rw [hsc]; exact hcell) ?_ (fun h₁ hnsp hkp => ?_) (by rw [hsc]; exact hco) (by rw [hsc]; exact hgen) (by rw [hsc]; exact hk))
  · intro y hy
    rw [hsc]
    exact hloc y.1 (List.of_mem_zip hy).1
  · have henv : (callEnv fd s.heap.objs.size f).scope = scope := hsc
    have hcells : (callEnv fd s.heap.objs.size f).cells = [] := by show fd.closure = []; exact hcl
    have X : St prog mg mb fns s (fun b o => s.heap.get? b = some o) No (callEnv fd s.heap.objs.size f) (ns.zip ds) [] { s with heap := h₁, toks := s.toks + (ns.zip vs).length } := by
      refine ⟨⟨h₁, _, rfl⟩, fun _ _ e => e, hkp, by rw [henv]; exact hk, hgl, hbu, gl, ⟨_, hnsp⟩, (fun y c hc => by rw [hcells] at hc; cases hc), (fun o q => ?_), (fun y c hc => by rw [hcells] at hc; cases hc), (fun y z c hc => by rw [hcells] at hc; cases hc), fun _ _ g => g.elim, fun y => ((ns.zip vs).lookup y).getD .none, fun y dd hy => ?_, fun y hy => by cases hy⟩
      · exact absurd (Heap.lt_size q) (Nat.lt_irrefl _)
      · -- the argument y
        have key : ∀ (ns : List Str) (vs : List Value) (ds : List D), ns.Nodup → Reps s.heap Any vs ds → ns.length = vs.length → (ns.zip ds).lookup y = some dd → ∃ v, (ns.zip vs).reverse.lookup y = some v ∧ (ns.zip vs).lookup y = some v ∧ Rep s.heap Any v dd := by
          intro ns
          induction ns with
          | nil => intro vs ds _ _ _ h; cases h
          | cons a ns ih =>
            intro vs ds hnd rs hl h
            cases rs with
            | nil => cases h
            | @cons v d vs ds r rs =>
              rw [List.zip_cons_cons, List.lookup_cons] at h
              rw [List.zip_cons_cons, List.reverse_cons, List.lookup_append, List.lookup_cons]
              obtain ⟨hna, hnd⟩ := List.nodup_cons.mp hnd
              cases hya : y == a with
              | true =>
                rw [hya] at h
                have hya' := beq_iff_eq.mp hya
                subst hya'
                simp at h
                subst h
                refine ⟨v, ?_, by simp, r⟩
                have : (ns.zip vs).reverse.lookup y = none := by
                  cases q : (ns.zip vs).reverse.lookup y with
                  | none => rfl
                  | some z =>
                    have := PySem.mem_of_lookup q
                    rw [List.mem_reverse] at this
                    exact absurd (List.of_mem_zip this).1 hna
                rw [this]; simp [List.lookup_cons]
              | false =>
                rw [hya] at h
                obtain ⟨v', h1, h2, h3⟩ := ih vs ds hnd rs (by simpa using hl) h
                exact ⟨v', by rw [h1]; rfl, by rw [List.lookup_cons, hya]; exact h2, h3⟩
        obtain ⟨v, h1, h2, h3⟩ := key ns vs ds hnd rs hlv.symm hy
        have hyn : y ∈ ns := (List.of_mem_zip (PySem.mem_of_lookup hy)).1
        dsimp only
        rw [h2]
        refine ⟨.inl ⟨by show fd.scope.names.lookup y = _; rw [hsc]; exact hloc y hyn, _, hnsp, h1⟩, h3.keeps fun b o _ e => ⟨hkp b o e, fun h => h.elim, fun z hz => by cases hz⟩⟩
    refine wpAny_at (hbody s _ henv hcells _ _ _ rm.deeper X) fun fl s2 q => ?_
    rcases q with ⟨rfl, X2⟩ | ⟨⟨v, rfl⟩, v', hv, k, r⟩
    · exact (no_end X2).elim
    · cases hv
      exact ⟨k, r⟩
end
end Mine
end

-- LcM
section
open PySem PySem.W PyProof.Rows PySem.MeetsSeq PySem.SeqRoads2 PySem.SeqAt
set_option Elab.async false
set_option maxRecDepth 100000
set_option linter.unusedVariables false
set_option linter.unusedSimpArgs false
namespace Mine

abbrev pg : Program := PySem.Challenge.pw_rs0041_01

section
variable {w : World} {mg mb : Str → Option Value} {fns : List (Str × Nat × Addr × FuncData)} {n : Nat} {f : Addr} {fd : FuncData}

def hbit (a : Int) : Int := (Builtin.Int.intBits a : Nat) - 1

theorem EV.bitLength {prog : Program} {env : Env} {sig : Sto} {o : Expr} {ap p : Pos} {a : Int} (h : EV prog w mg mb fns n env sig o (.int a))
    (hbase : attributeBase o "bit_length" env (eval o env) = eval o env := by first | kernel_rfl! | rfl) (hline : (ap.endLine == p.line) = true := by first | kernel_rfl! | rfl) :
    EV prog w mg mb fns n env sig (.Call (.Attribute o "bit_length" ap) [] [] p) (.int (Builtin.Int.intBits a : Nat)) :=
  (EVF.meth h EVS.nil CALLB.bitLength PySem.F.plainAttrs_int PySem.F.slot_int_bit_length PySem.F.type_int_bit_length tyInt hbase rfl hline rfl).any

theorem highBit {a : Int} (hf : (("_high_bit" : Str), 2, f, fd) ∈ fns) : CALLF pg w mg mb fns (n + 1) f [.int a] (.int (hbit a)) :=
  CALLF.of (ns := ["value"]) hf rfl rfl rfl (by decide) (by decide) (by decide) rfl rfl rfl fun s₀ env he hc =>
    HS.cons (HX.ret (EV.bin (EV.bitLength (EV.name)) EVF.int.any BOP.sub) rfl) HS.nil
end
end Mine
end

-- LcN
section
open PySem PySem.W PyProof.Rows PySem.MeetsSeq PySem.SeqRoads2 PySem.SeqAt
set_option Elab.async false
set_option maxRecDepth 100000
set_option linter.unusedVariables false
set_option linter.unusedSimpArgs false
namespace Mine

section
variable {w : World} {mg mb : Str → Option Value} {fns : List (Str × Nat × Addr × FuncData)} {n : Nat} {f : Addr} {fd : FuncData}

theorem HS.dead {prog : Program} {s₀ : Shared} {env : Env} {R : Flow → Shared → Prop} {sts : List Stmt} {sig' : Sto} {mu' : List Str} : HS prog w mg mb fns s₀ n env R sts [] [""] sig' mu' := fun B A s rm X => (no_end X).elim

theorem binds_local {env : Env} {scope : Scope} {x : Str} (he : env.scope = scope) (h : scope.names.lookup x = some .local) : Binds env x := .inl (by show env.scope.names.lookup x = _; rw [he]; exact h)
theorem kind_of {env : Env} {scope : Scope} {x : Str} {k : NameKind} (he : env.scope = scope) (h : scope.names.lookup x = some k) : env.kindOf x = some k := by show env.scope.names.lookup x = _; rw [he]; exact h

theorem sub_nil {sig : Sto} : ∀ y d, ([] : Sto).lookup y = some d → sig.lookup y = some d := fun _ _ h => by cases h
theorem sub_cons {sig sig0 : Sto} {x : Str} {d : D} (h : sig.lookup x = some d) (h2 : ∀ y d, sig0.lookup y = some d → sig.lookup y = some d) : ∀ y dd, ((x, d) :: sig0).lookup y = some dd → sig.lookup y = some dd := fun y dd hy => by
  rw [List.lookup_cons] at hy
  cases hb : y == x with
  | true => rw [hb] at hy; cases hy; rw [beq_iff_eq.mp hb]; exact h
  | false => rw [hb] at hy; exact h2 y dd hy
theorem mu_nil {sig : Sto} {mu : List Str} : ∀ y ∈ ([] : List Str), y ∈ mu ∧ ∃ d, sig.lookup y = some d := fun _ h => by cases h
theorem mu_cons {sig : Sto} {mu mu0 : List Str} {x : Str} {d : D} (h : x ∈ mu) (hl : sig.lookup x = some d) (h2 : ∀ y ∈ mu0, y ∈ mu ∧ ∃ d, sig.lookup y = some d) : ∀ y ∈ x :: mu0, y ∈ mu ∧ ∃ d, sig.lookup y = some d := fun y hy => by
  rcases List.mem_cons.mp hy with rfl | hy
  · exact ⟨h, d, hl⟩
  · exact h2 y hy
theorem HX.pre {prog : Program} {s₀ : Shared} {env : Env} {R : Flow → Shared → Prop} {st : Stmt} {sig sig0 sig' : Sto} {mu mu0 mu' : List Str} (h : HX prog w mg mb fns s₀ n env R st sig0 mu0 sig' mu') (hs : ∀ y d, sig0.lookup y = some d → sig.lookup y = some d) (hm : ∀ y ∈ mu0, y ∈ mu ∧ ∃ d, sig0.lookup y = some d) :
    HX prog w mg mb fns s₀ n env R st sig mu sig' mu' := fun B A s rm X => h B A s rm (X.weaken hs hm)

def sbit (a : Int) : Bool := if a == 0 then false else Builtin.bitAnd a (a - 1) == 0

theorem singleBit {a : Int} (hf : (("_is_single_bit" : Str), 1, f, fd) ∈ fns) : CALLF pg w mg mb fns (n + 1) f [.int a] (.bool (sbit a)) := by
  refine CALLF.of (ns := ["num"]) hf rfl rfl rfl (by decide) (by decide) (by decide) rfl rfl rfl fun s₀ env he hc => ?_
  by_cases h : (a == 0) = true
  · have e : sbit a = false := by unfold sbit; rw [if_pos h]
    rw [e]
    exact HS.cons (HX.ifT (h ▸ TV.cmp EV.name EVF.int.any COP.eq) (HS.cons (HX.ret (sig' := []) (mu' := [""]) EVF.bool.any rfl) HS.dead)) HS.dead
  · have h' : (a == 0) = false := by simpa using h
    have e : sbit a = (Builtin.bitAnd a (a - 1) == 0) := by unfold sbit; rw [if_neg h]
    rw [e]
    exact HS.cons (HX.ifF (h' ▸ TV.cmp EV.name EVF.int.any COP.eq) HS.nil)
      (HS.cons (HX.aug (mu' := []) rfl (EV.bin EV.name EVF.int.any BOP.sub) IOP.and rfl (binds_local he rfl) (fun _ h => by cases h))
        (HS.cons (HX.ret (EV.cmp EV.name EVF.int.any COP.eq) rfl) HS.nil))

/-- the way up from one, i rungs tried -/
def rows (ps : List Int) (one : Nat) : Nat → List Int
  | 0 => [(one : Int)]
  | i + 1 => let r := rows ps one i
    if r.getLastD 0 > 0 then r ++ [ps.getD (r.getLastD 0).toNat 0] else r

theorem rows_last (ps : List Int) (one i : Nat) : (rows ps one i).getLast? = some ((rows ps one i).getLastD 0) := by
  have : rows ps one i ≠ [] := by
    induction i with
    | zero => simp [rows]
    | succ i ih =>
      simp only [rows]
      split
      · simp
      · exact ih
  cases h : rows ps one i with
  | nil => exact absurd h this
  | cons a l => simp [List.getLast?_eq_some_getLast, List.getLastD_eq_getLast?]
theorem rows_len (ps : List Int) (one i : Nat) : (rows ps one i).length ≤ i + 1 := by
  induction i with
  | zero => simp [rows]
  | succ i ih =>
    simp only [rows]
    split
    · simp; omega
    · omega

theorem map_last {l : List Int} {a : Int} (h : l.getLast? = some a) : (l.map D.int).getLast? = some (.int a) := by
  rw [List.getLast?_map, h]; rfl

theorem upFrom_get {a : Int} {k i : Nat} {d : D} (h : (upFrom a k)[i]? = some d) : d = .int (a + (i : Nat)) ∧ i < k := by
  unfold upFrom at h
  rw [List.getElem?_map] at h
  rcases Nat.lt_or_ge i k with hi | hi
  · rw [List.getElem?_range hi] at h
    simp at h
    exact ⟨h.symm, hi⟩
  · rw [List.getElem?_eq_none (by simpa using hi)] at h; cases h
theorem upFrom_flat {a : Int} {k : Nat} : ∀ d ∈ upFrom a k, d.flat = true := by
  intro d hd
  unfold upFrom at hd
  obtain ⟨i, _, rfl⟩ := List.mem_map.mp hd
  rfl
theorem upFrom_len {a : Int} {k : Nat} : (upFrom a k).length = k := by simp [upFrom]

theorem upward_ok {ps : List Int} {one : Nat} (hf : (("_law_upward" : Str), 8, f, fd) ∈ fns) (h1 : one < ps.length) (hps : ∀ (k : Nat) (p : Int), ps[k]? = some p → 0 ≤ p ∧ p ≤ (k : Int)) (hl : ps.length < 500) :
    CALLF pg w mg mb fns (n + 1) f [.list (ps.map .int), .int one] (.list ((rows ps one one).map .int)) := by
  refine CALLF.of (ns := ["parents", "one"]) hf rfl rfl rfl (by decide) (by decide) (by decide) rfl rfl rfl fun s₀ env he hc => ?_
  obtain ⟨sc, L, gl, cl, q, fn, cd, fr, bu⟩ := env
  simp only at he hc
  subst he hc
  have hlast : ∀ i, 0 ≤ (rows ps one i).getLastD 0 ∧ (rows ps one i).getLastD 0 ≤ one := by
    intro i
    induction i with
    | zero => simp [rows]
    | succ i ih =>
      simp only [rows]
      split
      · rw [List.getLastD_concat]
        have hk : ((rows ps one i).getLastD 0).toNat < ps.length := by omega
        have := hps _ _ (List.getElem?_eq_getElem hk)
        rw [List.getD_eq_getElem?_getD, List.getElem?_eq_getElem hk]
        simp only [Option.getD_some]
        omega
      · exact ih
  refine HS.cons (HX.assign (mu' := ["row"]) (EVF.list (EVSF.cons (EV.name (hl := rfl)).fr EVSF.nil)) (.inl rfl) (fun y hy => .inl ⟨by simpa using hy, _, rfl, ?_⟩)) ?_
  · intro e he; simp at he; subst he; rfl
  refine HS.cons (HX.pre (HX.for (mu := ["row"]) (ds := upFrom 0 one) (fun i => ("row", .list ((rows ps one i).map .int)) :: ("parents", .list (ps.map .int)) :: ("one", .int one) :: []) (IT.range1 (EV.name (hl := rfl)) (by omega) rfl) (by intro h; cases h) upFrom_flat (.inl rfl) (by decide) ?_) (sub_cons rfl (sub_cons rfl (sub_cons rfl sub_nil))) (mu_cons (d := _) (by simp) rfl mu_nil)) ?_
  · intro i d hd
    obtain ⟨rfl, hi⟩ := upFrom_get hd
    have hla := hlast i
    have hgl := map_last (rows_last ps one i)
    have hrl := rows_len ps one i
    refine HS.cons (sig' := ("row", .list ((rows ps one (i + 1)).map .int)) :: ("parents", .list (ps.map .int)) :: ("one", .int one) :: []) (mu' := ["row"]) (HX.if (b := decide ((rows ps one i).getLastD 0 > 0)) (TV.cmp (EV.last (EV.name (hl := rfl)) (EV.neg EVF.int.any) hgl) EVF.int.any COP.gt) ?_ ?_) HS.nil
    · intro hb
      have hb : (rows ps one i).getLastD 0 > 0 := of_decide_eq_true hb
      have hk : ((rows ps one i).getLastD 0).toNat < ps.length := by omega
      refine HS.cons (HX.append (l := (rows ps one i).map .int) (d := .int (ps.getD ((rows ps one i).getLastD 0).toNat 0)) rfl (by simp) (EV.item (EV.name (hl := rfl)) (EV.last (EV.name (hl := rfl)) (EV.neg EVF.int.any) hgl) (by omega) ?_ (by omega)) rfl (by simp; omega)) ?_
      · rw [List.getElem?_map, List.getD_eq_getElem?_getD, List.getElem?_eq_getElem hk]; rfl
      · have e : (rows ps one (i + 1)).map D.int = (rows ps one i).map D.int ++ [.int (ps.getD ((rows ps one i).getLastD 0).toNat 0)] := by
          simp only [rows, hb, if_true, List.map_append]; rfl
        rw [e]
        exact HS.nilw (sub_cons rfl (sub_cons rfl (sub_cons rfl sub_nil))) (mu_cons (List.mem_singleton.mpr rfl) rfl mu_nil)
    · intro hb
      have hb : ¬ (rows ps one i).getLastD 0 > 0 := of_decide_eq_false hb
      have e : rows ps one (i + 1) = rows ps one i := by
        simp only [rows, hb, if_false]
      rw [e]
      exact HS.nilw (sub_cons rfl (sub_cons rfl (sub_cons rfl sub_nil))) (mu_cons (List.mem_singleton.mpr rfl) rfl mu_nil)
  · rw [upFrom_len]
    exact HS.cons (HX.retOwn rfl (by simp)) HS.nil
end
end Mine
end

-- LcO
section
open PySem PySem.W PyProof.Rows PySem.MeetsSeq PySem.SeqRoads2 PySem.SeqAt
set_option Elab.async false
set_option maxRecDepth 100000
set_option linter.unusedVariables false
set_option linter.unusedSimpArgs false
namespace Mine

section
variable {prog : Program} {w : World} {mg mb : Str → Option Value} {fns : List (Str × Nat × Addr × FuncData)} {n : Nat} {f : Addr} {fd : FuncData} {s₀ : Shared} {env : Env} {R : Flow → Shared → Prop} {sig : Sto} {mu : List Str}

theorem HX.ifset {t e : Expr} {x : Str} {px p p2 : Pos} {b : Bool} {d d0 : D} (ht : TV prog w mg mb fns n env sig t b) (he : b = true → EVF prog w mg mb fns n env sig e d) (hl : sig.lookup x = some d0) (hx : Binds env x) (hm : x ∉ mu) (hmu : ∀ y ∈ mu, ∃ d, sig.lookup y = some d)
    (hs : swapsWith e (some (.Name x px)) p.line env = pure false := by first | kernel_rfl! | rfl) : HX prog w mg mb fns s₀ n env R (.If t [.Assign [.Name x px] e p] [] p2) sig mu ((x, if b then d else d0) :: sig) mu := by
  cases b with
  | true => exact HX.ifT ht (HS.cons (HX.assign (he rfl) hx (fun y hy => .inr ⟨fun q => hm (q ▸ hy), hy⟩) hs) HS.nil)
  | false =>
    refine HX.ifF ht (HS.nilw (fun y dd hy => ?_) fun y hy => ⟨hy, ?_⟩)
    · rw [List.lookup_cons] at hy
      cases hb : y == x with
      | true => rw [hb] at hy; rw [beq_iff_eq.mp hb, hl]; simpa using hy
      | false => rw [hb] at hy; exact hy
    · obtain ⟨d, hd⟩ := hmu y hy
      refine ⟨d, ?_⟩
      rw [List.lookup_cons]
      have : (y == x) = false := by simpa using (fun q : y = x => hm (q ▸ hy))
      rw [this]; exact hd

theorem HX.ifsetI {t e : Expr} {x : Str} {px p p2 : Pos} {c : Prop} [Decidable c] {i j : Int} (ht : TV prog w mg mb fns n env sig t (decide c)) (he : c → EVF prog w mg mb fns n env sig e (.int i)) (hl : sig.lookup x = some (.int j)) (hx : Binds env x) (hm : x ∉ mu) (hmu : ∀ y ∈ mu, ∃ d, sig.lookup y = some d)
    (hs : swapsWith e (some (.Name x px)) p.line env = pure false := by first | kernel_rfl! | rfl) : HX prog w mg mb fns s₀ n env R (.If t [.Assign [.Name x px] e p] [] p2) sig mu ((x, .int (if c then i else j)) :: sig) mu := by
  have := HX.ifset (s₀ := s₀) (R := R) (p2 := p2) ht (fun h => he (of_decide_eq_true h)) hl hx hm hmu hs
  have e : (if decide c = true then D.int i else D.int j) = .int (if c then i else j) := by
    by_cases h : c <;> simp [h]
  rw [e] at this
  exact this

theorem EV.strSlice {v e1 e2 : Expr} {p sp : Pos} {x : Str} {a b : Int} (h : EV prog w mg mb fns n env sig v (.str x)) (h1 : EV prog w mg mb fns n env sig e1 (.int a)) (h2 : EV prog w mg mb fns n env sig e2 (.int b)) (hz : x.length ≤ sizeLine) :
    EV prog w mg mb fns n env sig (.Subscript v (.Slice (some e1) (some e2) none sp) p) (.str (Txt.slice x (some a) (some b))) := fun A s rm R =>
  Subscript_ (wpAny_at (h A s rm R) fun o s1 q1 => wpAny_Slice (wpAny_at (h1 A s1 rm (R.keeps _ _ _ _ q1.1)) fun v1 s2 q2 => wpAny_at (h2 A s2 rm (R.keeps _ _ _ _ (q1.1.trans q2.1))) fun v2 s3 q3 => wpAny_pure (by
    have k := (q1.1.trans q2.1).trans q3.1
    obtain ⟨_, r1⟩ := q1
    obtain ⟨_, r2⟩ := q2
    obtain ⟨_, r3⟩ := q3
    cases r1 with
    | str _ t => cases r2 with
      | int _ u => cases r3 with
        | int _ u2 =>
          refine tail_any (typeIs_str _ _ _) PySem.F.slot_str_getitem.lookup (wpAny_getItem_str_slice (l := some (a, u)) (u := some (b, u2)) (st := none) ⟨_, Heap.get?_push_size _ rfl, rfl, rfl⟩ rfl ?_) (ops := _) rfl
          refine post_val_or_str ⟨Nat.le_trans (Txt.slice_le x _ _) hz, fun t' k' => ⟨k.to fun b o e => Heap.get?_push_of_some _ (k.heap b o e), .str _ _⟩⟩)))
end

section
variable {w : World} {mg mb : Str → Option Value} {fns : List (Str × Nat × Addr × FuncData)} {n : Nat} {f : Addr} {fd : FuncData}

def stripE1 (m : Str) : Int := if Txt.find m "\n" ≥ 0 then Txt.find m "\n" else m.length
def stripE2 (m : Str) : Int := if find4 m ":" 0 (stripE1 m) ≥ 0 then find4 m ":" 0 (stripE1 m) else stripE1 m
def stripS (m : Str) : Int := if rfind4 m "." 0 (stripE2 m) ≥ 0 then rfind4 m "." 0 (stripE2 m) + 1 else 0
def stripD (m : Str) : Str := Txt.slice m (some (stripS m)) (some (stripE2 m))

theorem strip_ok {m : Str} (hf : (("_strip_exception_details" : Str), 6, f, fd) ∈ fns) (hm : m.length ≤ 1000) : CALLF pg w mg mb fns (n + 1) f [.str m] (.str (stripD m)) := by
  refine CALLF.of (ns := ["msg"]) hf rfl rfl rfl (by decide) (by decide) (by decide) rfl rfl rfl fun s₀ env he hc => ?_
  obtain ⟨sc, L, gl, cl, q, fn, cd, fr, bu⟩ := env
  simp only at he hc
  subst he hc
  refine HS.cons (HX.assign2s EVF.int.any (EVF.built (EVS.cons (EV.name (hl := rfl)) EVS.nil) (CALLB.lenS (by omega)) rfl (by decide) (by decide +kernel)).any rfl rfl (.inl rfl) (.inl rfl) (fun _ h => by cases h)) ?_
  refine HS.cons (HX.assign (mu' := []) (EVF.meth (EV.name (hl := rfl)) (EVS.cons EVF.str.any EVS.nil) CALLB.find PySem.F.plainAttrs_str PySem.F.slot_str_find PySem.F.type_str_find tyStr) (.inl rfl) (fun _ h => by cases h)) ?_
  refine HS.cons (HX.ifsetI (TV.cmp (EV.name (hl := rfl)) EVF.int.any COP.ge) (fun _ => (EV.name (hl := rfl)).fr) rfl (.inl rfl) (by simp) (fun _ h => by cases h)) ?_
  refine HS.cons (HX.assign (mu' := []) (EVF.meth (EV.name (hl := rfl)) (EVS.cons EVF.str.any (EVS.cons EVF.int.any (EVS.cons (EV.name (hl := rfl)) EVS.nil))) CALLB.find4 PySem.F.plainAttrs_str PySem.F.slot_str_find PySem.F.type_str_find tyStr) (.inl rfl) (fun _ h => by cases h)) ?_
  refine HS.cons (HX.ifsetI (TV.cmp (EV.name (hl := rfl)) EVF.int.any COP.ge) (fun _ => (EV.name (hl := rfl)).fr) rfl (.inl rfl) (by simp) (fun _ h => by cases h)) ?_
  refine HS.cons (HX.assign (mu' := []) (EVF.meth (EV.name (hl := rfl)) (EVS.cons EVF.str.any (EVS.cons EVF.int.any (EVS.cons (EV.name (hl := rfl)) EVS.nil))) CALLB.rfind4 PySem.F.plainAttrs_str PySem.F.slot_str_rfind PySem.F.type_str_rfind tyStr) (.inl rfl) (fun _ h => by cases h)) ?_
  refine HS.cons (HX.ifsetI (TV.cmp (EV.name (hl := rfl)) EVF.int.any COP.ge) (fun _ => EVF.bin (EV.name (hl := rfl)) EVF.int.any BOP.add) rfl (.inl rfl) (by simp) (fun _ h => by cases h)) ?_
  exact HS.cons (HX.ret (EV.strSlice (EV.name (hl := rfl)) (EV.name (hl := rfl)) (EV.name (hl := rfl)) (Nat.le_trans hm (by decide))) rfl) HS.nil
end
end Mine
end

-- LcP
section
open PySem PySem.W PyProof.Rows PySem.MeetsSeq PySem.SeqRoads2 PySem.SeqAt
set_option Elab.async false
set_option maxRecDepth 100000
set_option linter.unusedVariables false
set_option linter.unusedSimpArgs false
namespace Mine

open StrLaws Builtin Builtin.Str in
theorem occ_in (x y : Str) (lo hi limit : Nat) (hl : 1 ≤ limit) :
    (occurrences x y lo hi limit = [] ∧ ∀ i, lo ≤ i → ¬ At x y hi i) ∨
    ∃ i r, occurrences x y lo hi limit = i :: r ∧ lo ≤ i ∧ At x y hi i ∧ ∀ k, lo ≤ k → k < i → ¬ At x y hi k := by
  rw [occ_eq]
  rcases occ_first x y hi limit hl (List.range' lo (hi + 1 - lo)) lo (fun i hi => by have := List.mem_range'_1.mp hi; omega) with ⟨h0, hn⟩ | ⟨pre, a, post, e, h0, ha, hn⟩
  · refine .inl ⟨by rw [h0], fun i hlo hi => ?_⟩
    exact hn i (by have := hi.1; rw [List.mem_range'_1]; omega) hi
  · have hs := range'_split_from e
    refine .inr ⟨a, ((forIn (List.range' lo (hi + 1 - lo)) ((#[] : Array Nat), lo) (occBody x y hi limit)).run.fst.toList).tail, ?_, hs.1, ha, fun k hk0 hk => hn k (hs.2 k hk0 hk)⟩
    generalize (forIn (List.range' lo (hi + 1 - lo)) ((#[] : Array Nat), lo) (occBody x y hi limit)).run.fst = arr at h0
    have h1 : arr.toList[0]? = some a := by simpa using h0
    cases hL : arr.toList with
    | nil => rw [hL] at h1; cases h1
    | cons b t => rw [hL] at h1; simp at h1; rw [h1]; rfl

open StrLaws Builtin Builtin.Str in
theorem last_in (x y : Str) (lo hi : Nat) : (lastOccurrence x y lo hi = none ∧ ∀ i, lo ≤ i → ¬ At x y hi i) ∨ ∃ i, lastOccurrence x y lo hi = some i ∧ At x y hi i ∧ ∀ k, lo ≤ k → i < k → ¬ At x y hi k := by
  rw [last_eq]
  have key := last_run x y hi (List.range' lo (hi + 1 - lo)) [] none (fun _ h => nomatch h) (fun _ h => nomatch h) (by simpa using List.pairwise_lt_range' (s := lo) (n := hi + 1 - lo))
  have mem : ∀ i, lo ≤ i → At x y hi i → i ∈ [] ++ List.range' lo (hi + 1 - lo) := fun i hlo hi' => by have := hi'.1; simp [List.mem_range'_1]; omega
  cases hr : (forIn (List.range' lo (hi + 1 - lo)) none (lastBody x y hi)).run with
  | none => rw [hr] at key; exact .inl ⟨rfl, fun i hlo hi => key i (mem i hlo hi) hi⟩
  | some a => rw [hr] at key; exact .inr ⟨a, rfl, key.1, fun k hlo hk hA => key.2 k (mem k hlo hA) hk hA⟩

theorem fromIndex_nat {len a : Nat} : fromIndex len (a : Int) = a := by
  unfold fromIndex
  rw [if_neg (by omega)]
  omega

open StrLaws Builtin Builtin.Str in
theorem find4_empty {x y : Str} {a b : Nat} (hy : y.length = 0) (hab : a ≤ b) (hb : b ≤ x.length) : find4 x y a b = a := by
  unfold find4
  rw [fromIndex_nat, fromIndex_nat, Nat.min_eq_left hb]
  have hat : ∀ i, i ≤ b → At x y b i := fun i hi => ⟨by omega, by
    rw [subAt_eq, hy]
    have : y.cps.toList = [] := by
      have h2 : y.cps.toList.length = 0 := by simpa [Str.length] using hy
      exact List.length_eq_zero_iff.mp h2
    rw [this]; simp⟩
  rcases occ_in x y a b 1 (Nat.le_refl _) with ⟨_, h⟩ | ⟨i, r, h1, h2, h3, h4⟩
  · exact absurd (hat a hab) (h a (Nat.le_refl _))
  · rw [h1]
    have : i = a := by
      rcases Nat.lt_or_ge a i with h | h
      · exact absurd (hat a hab) (h4 a (Nat.le_refl _) h)
      · omega
    subst this; rfl

section
variable {prog : Program} {w : World} {mg mb : Str → Option Value} {fns : List (Str × Nat × Addr × FuncData)} {n : Nat} {f : Addr} {fd : FuncData} {env : Env} {sig : Sto}
theorem TV.str {e : Expr} {x : Str} (h : EV prog w mg mb fns n env sig e (.str x)) (hz : x.length < 2 ^ 60) (he : ∀ whole, isTrue e env whole = (do let v ← whole; standAt e.pos; holding [v] (truthy v)) := by intro _; rfl) : TV prog w mg mb fns n env sig e ((x.length : Int) != 0) := fun A s rm R =>
  wpAny_isTrue_value (wpAny_at (h A s rm R) fun v s1 q => by
    obtain ⟨q1, q2⟩ := q
    cases q2
    exact PySem.P.truthy_str (by omega) ⟨q1.trans (Kp.tok _ _), rfl⟩) (he _)
theorem EV.ell {p : Pos} (hx : env.kindOf "ELLIPSIS_MARKER" = some .globalImplicit) : EV prog w mg mb fns n env sig (.Name "ELLIPSIS_MARKER" p) (.str "...") := fun A s rm R => by
  obtain ⟨t, ht⟩ := R.gl.ell
  exact nameGlobal R hx ht ⟨Kp.refl s, .str _ _⟩
end

/-- what the match says where the pattern has one gap -/
def em (w0 w1 got : Str) : Bool := (w0.length == 0 || Txt.startswith got w0) && (w1.length == 0 || Txt.endswith got w1) && decide (w0.length + w1.length ≤ got.length)

section
variable {w : World} {mg mb : Str → Option Value} {fns : List (Str × Nat × Addr × FuncData)} {n : Nat} {f : Addr} {fd : FuncData}

theorem TV.eq {prog : Program} {env : Env} {sig : Sto} {e : Expr} {b b' : Bool} (h : TV prog w mg mb fns n env sig e b) (hb : b = b') : TV prog w mg mb fns n env sig e b' := hb ▸ h
theorem EV.eq {prog : Program} {env : Env} {sig : Sto} {e : Expr} {b b' : D} (h : EV prog w mg mb fns n env sig e b) (hb : b = b') : EV prog w mg mb fns n env sig e b' := hb ▸ h
theorem EVF.eq {prog : Program} {env : Env} {sig : Sto} {e : Expr} {b b' : D} (h : EVF prog w mg mb fns n env sig e b) (hb : b = b') : EVF prog w mg mb fns n env sig e b' := hb ▸ h

def emDef : Arguments × List Stmt × Scope := (defAt pg 5).getD default
def emT (got : Str) (sp ep : Int) (l : List Str) : Sto := [("ws", .list (l.map .str)), ("startpos", .int sp), ("endpos", .int ep), ("got", .str got)]

/-- from «if startpos > endpos» on -/
theorem em_end {s₀ : Shared} {env : Env} {got : Str} {a b : Nat} {l : List Str} (he : env.scope = emDef.2.2) (hg : got.length ≤ 1000) (hb : b ≤ got.length) (hl : ∀ x ∈ l, x.length = 0) :
    HS pg w mg mb fns s₀ n env (Gives0 s₀ (.bool (decide (a ≤ b)))) (emDef.2.1.drop 8) (emT got a b l) ["ws"] [] [""] := by
  obtain ⟨sc, L, gl, cl, q, fn, cd, fr, bu⟩ := env
  simp only at he
  subst he
  by_cases hab : a ≤ b
  · rw [decide_eq_true hab]
    refine HS.cons (HX.ifF (TV.eq (TV.cmp (EV.name (hl := rfl)) (EV.name (hl := rfl)) COP.gt) (by simp; omega)) HS.nil) ?_
    refine HS.cons (HX.pre (HX.for (mu := []) (ds := l.map .str) (fun _ => emT got a b l) (IT.list (EV.name (hl := rfl))) (fun _ => rfl) (fun d hd => by obtain ⟨x, _, rfl⟩ := List.mem_map.mp hd; rfl) (.inl rfl) (by simp) ?_) (fun _ _ h => h) mu_nil) ?_
    · intro i d hd
      rw [List.getElem?_map] at hd
      obtain ⟨x, hx, rfl⟩ := Option.map_eq_some_iff.mp hd
      have hx0 := hl x (List.mem_of_getElem? hx)
      refine HS.cons (HX.assign (mu' := []) (EVF.meth (EV.name (hl := rfl)) (EVS.cons (EV.name (hl := rfl)) (EVS.cons (EV.name (hl := rfl)) (EVS.cons (EV.name (hl := rfl)) EVS.nil))) CALLB.find4 PySem.F.plainAttrs_str PySem.F.slot_str_find PySem.F.type_str_find tyStr) (.inl rfl) (fun _ h => by cases h)) ?_
      rw [find4_empty hx0 hab hb]
      refine HS.cons (HX.ifF (TV.eq (TV.cmp (EV.name (hl := rfl)) EVF.int.any COP.lt) (by simp)) HS.nil) ?_
      refine HS.cons (HX.aug (mu' := []) rfl (EVF.built (EVS.cons (EV.name (hl := rfl)) EVS.nil) (CALLB.lenS (by omega)) rfl (by decide) (by decide +kernel)).any IOP.add rfl (.inl rfl) (fun _ h => by cases h)) ?_
      rw [hx0]
      refine HS.nilw (sub_cons rfl (sub_cons ?_ (sub_cons rfl (sub_cons rfl sub_nil)))) mu_nil
      show some (D.int ((a : Int) + ((0 : Nat) : Int))) = _
      simp
    · exact HS.cons (HX.ret EVF.bool.any rfl) HS.nil
  · rw [decide_eq_false hab]
    exact HS.cons (HX.ifT (TV.eq (TV.cmp (EV.name (hl := rfl)) (EV.name (hl := rfl)) COP.gt) (by simp; omega)) (HS.cons (HX.ret (sig' := []) (mu' := [""]) EVF.bool.any rfl) HS.dead)) HS.dead

theorem ends_len {x y : Str} (h : Txt.endswith x y = true) : y.length ≤ x.length := by
  unfold Txt.endswith at h
  simp at h; exact h.1

/-- from «w = ws[-1]» on -/
theorem em_mid {s₀ : Shared} {env : Env} {got w1 : Str} {a : Nat} {l : List Str} (he : env.scope = emDef.2.2) (hg : got.length ≤ 1000) (h1 : w1.length ≤ 1000) (hl : ∀ x ∈ l, x.length = 0) (hll : l.length ≤ 10) :
    HS pg w mg mb fns s₀ n env (Gives0 s₀ (.bool ((w1.length == 0 || Txt.endswith got w1) && decide (a + w1.length ≤ got.length)))) (emDef.2.1.drop 6) (emT got a got.length (l ++ [w1])) ["ws"] [] [""] := by
  have he0 := he
  obtain ⟨sc, L, gl, cl, q, fn, cd, fr, bu⟩ := env
  simp only at he
  subst he
  have hlast : ((l ++ [w1]).map D.str).getLast? = some (.str w1) := by simp
  refine HS.cons (HX.assign (mu' := ["ws"]) (EV.last (EV.name (hl := rfl)) (EV.neg EVF.int.any) hlast).fr (.inl rfl) (fun y hy => .inr ⟨by rw [List.mem_singleton.mp hy]; decide, hy⟩)) ?_
  by_cases hw : w1.length = 0
  · refine HS.cons (HX.ifF (TV.eq (TV.str (EV.name (hl := rfl)) (by omega)) (by rw [hw]; rfl)) HS.nil) ?_
    have e : ((w1.length == 0 || Txt.endswith got w1) && decide (a + w1.length ≤ got.length)) = decide (a ≤ got.length) := by rw [hw]; simp
    rw [e]
    refine HS.pre (em_end he0 hg (Nat.le_refl _) (l := l ++ [w1]) fun x hx => ?_) (sub_cons rfl (sub_cons rfl (sub_cons rfl (sub_cons rfl sub_nil)))) (mu_cons (List.mem_singleton.mpr rfl) rfl mu_nil)
    rcases List.mem_append.mp hx with h | h
    · exact hl x h
    · rw [List.mem_singleton.mp h]; exact hw
  · cases hen : Txt.endswith got w1 with
    | false =>
      have e : ((w1.length == 0 || false) && decide (a + w1.length ≤ got.length)) = false := by simp [hw]
      rw [e]
      exact HS.cons (HX.ifT (TV.eq (TV.str (EV.name (hl := rfl)) (by omega)) (by simp; omega)) (HS.cons (HX.ifF (TV.eq (TV.val (EVF.meth (EV.name (hl := rfl)) (EVS.cons (EV.name (hl := rfl)) EVS.nil) CALLB.endswith PySem.F.plainAttrs_str PySem.F.slot_str_endswith PySem.F.type_str_endswith tyStr).any) hen) (HS.cons (HX.ret (sig' := []) (mu' := [""]) EVF.bool.any rfl) HS.dead)) HS.dead)) HS.dead
    | true =>
      have hle := ends_len hen
      have e : ((w1.length == 0 || true) && decide (a + w1.length ≤ got.length)) = decide (a ≤ got.length - w1.length) := by
        simp
        constructor <;> (intro h; omega)
      rw [e]
      refine HS.cons (sig' := emT got a ((got.length - w1.length : Nat) : Int) l) (mu' := ["ws"]) (HX.ifT (TV.eq (TV.str (EV.name (hl := rfl)) (by omega)) (by simp; omega)) (HS.cons (HX.ifT (TV.eq (TV.val (EVF.meth (EV.name (hl := rfl)) (EVS.cons (EV.name (hl := rfl)) EVS.nil) CALLB.endswith PySem.F.plainAttrs_str PySem.F.slot_str_endswith PySem.F.type_str_endswith tyStr).any) hen) ?_) HS.nil)) (em_end he0 hg (by omega) hl)
      refine HS.cons (HX.aug (mu' := ["ws"]) rfl (EVF.built (EVS.cons (EV.name (hl := rfl)) EVS.nil) (CALLB.lenS (by omega)) rfl (by decide) (by decide +kernel)).any IOP.sub rfl (.inl rfl) (fun y hy => ⟨by rw [List.mem_singleton.mp hy]; decide, hy⟩)) ?_
      refine HS.cons (HX.del (l := (l ++ [w1]).map .str) (k := l.length) rfl (List.mem_singleton.mpr rfl) (EV.neg EVF.int.any) (by simp; omega) (by decide) (by
        have hl2 : ((l ++ [w1]).map D.str).length = l.length + 1 := by simp
        rw [hl2]
        unfold seqIndex?
        simp only [show ((-1 : Int) < 0) = True by simp, if_true]
        rw [if_pos (by simp; omega)]
        congr 1; omega) (by simp)) ?_
      have e2 : ((l ++ [w1]).map D.str).eraseIdx l.length = l.map D.str := by
        rw [List.map_append, List.eraseIdx_append_of_length_le (by simp)]
        simp
      rw [e2]
      refine HS.nilw (sub_cons rfl (sub_cons rfl (sub_cons ?_ (sub_cons rfl sub_nil)))) (mu_cons (List.mem_singleton.mpr rfl) rfl mu_nil)
      show some (D.int ((got.length : Int) - (w1.length : Int))) = some (D.int ((got.length - w1.length : Nat) : Int))
      rw [Int.ofNat_sub hle]

theorem starts_len {x y : Str} (h : Txt.startswith x y = true) : y.length ≤ x.length := by
  unfold Txt.startswith at h
  simp at h; exact h.1

theorem ellipsis_ok {want got w0 w1 : Str} (hf : (("_ellipsis_match" : Str), 5, f, fd) ∈ fns) (hw : want.length ≤ 1000) (hg : got.length ≤ 1000) (h0 : w0.length ≤ 1000) (h1 : w1.length ≤ 1000)
    (hocc : (Builtin.Str.occurrences want "..." 0 want.length 1).isEmpty = false) (hsz : (Builtin.Str.partsBetween want (Builtin.Str.occurrences want "..." 0 want.length (want.length + 1)) 3).length ≤ 1000) (hsp : Txt.split want "..." = [w0, w1]) :
    CALLF pg w mg mb fns (n + 1) f [.str want, .str got] (.bool (em w0 w1 got)) := by
  refine CALLF.of (ns := ["want", "got"]) hf rfl rfl rfl (by decide) (by decide) (by decide) rfl rfl rfl fun s₀ env he hc => ?_
  have he0 : env.scope = emDef.2.2 := he
  obtain ⟨sc, L, gl, cl, q, fn, cd, fr, bu⟩ := env
  simp only at he hc
  subst he hc
  refine HS.cons (HX.ifF (TV.eq (TV.cmp (EV.ell rfl) (EV.name (hl := rfl)) COP.notInStr) (by rw [hocc]; rfl)) HS.nil) ?_
  refine HS.cons (HX.assign (mu' := ["ws"]) (EVF.eq (b' := .list [.str w0, .str w1]) (EVF.meth (EV.name (hl := rfl)) (EVS.cons (EV.ell rfl) EVS.nil) (CALLB.split (by decide) (Nat.le_trans hw (by decide)) (Nat.le_trans hsz (by decide))) PySem.F.plainAttrs_str PySem.F.slot_str_split PySem.F.type_str_split tyStr) (by rw [hsp]; rfl)) (.inl rfl) (fun y hy => .inl ⟨List.mem_singleton.mp hy, _, rfl, ?_⟩)) ?_
  · intro e he
    simp at he
    rcases he with rfl | rfl <;> rfl
  refine HS.cons (HX.assert (TV.eq (TV.cmp (EVF.built (EVS.cons (EV.name (hl := rfl)) EVS.nil) (CALLB.lenL (by simp)) rfl (by decide) (by decide +kernel)).any EVF.int.any COP.ge) (by simp))) ?_
  refine HS.cons (HX.assign2s EVF.int.any (EVF.built (EVS.cons (EV.name (hl := rfl)) EVS.nil) (CALLB.lenS (by omega)) rfl (by decide) (by decide +kernel)).any rfl rfl (.inl rfl) (.inl rfl) (fun z hz => by rw [List.mem_singleton.mp hz]; decide)) ?_
  refine HS.cons (HX.assign (mu' := ["ws"]) (EV.item (d := .str w0) (EV.name (hl := rfl)) EVF.int.any (by decide) rfl).fr (.inl rfl) (fun y hy => .inr ⟨by rw [List.mem_singleton.mp hy]; decide, hy⟩)) ?_
  by_cases hw0 : w0.length = 0
  · have e : em w0 w1 got = ((w1.length == 0 || Txt.endswith got w1) && decide (0 + w1.length ≤ got.length)) := by unfold em; rw [hw0]; simp
    rw [e]
    refine HS.cons (HX.ifF (TV.eq (TV.str (EV.name (hl := rfl)) (by omega)) (by rw [hw0]; rfl)) HS.nil) ?_
    exact HS.pre (em_mid he0 hg h1 (l := [w0]) (fun x hx => by rw [List.mem_singleton.mp hx]; exact hw0) (by simp)) (sub_cons rfl (sub_cons rfl (sub_cons rfl (sub_cons rfl sub_nil)))) (mu_cons (List.mem_singleton.mpr rfl) rfl mu_nil)
  · cases hst : Txt.startswith got w0 with
    | false =>
      have e : em w0 w1 got = false := by unfold em; rw [hst]; simp [hw0]
      rw [e]
      exact HS.cons (HX.ifT (TV.eq (TV.str (EV.name (hl := rfl)) (by omega)) (by simp; omega)) (HS.cons (HX.ifF (TV.eq (TV.val (EVF.meth (EV.name (hl := rfl)) (EVS.cons (EV.name (hl := rfl)) EVS.nil) CALLB.startswith PySem.F.plainAttrs_str PySem.F.slot_str_startswith PySem.F.type_str_startswith tyStr).any) hst) (HS.cons (HX.ret (sig' := []) (mu' := [""]) EVF.bool.any rfl) HS.dead)) HS.dead)) HS.dead
    | true =>
      have e : em w0 w1 got = ((w1.length == 0 || Txt.endswith got w1) && decide (w0.length + w1.length ≤ got.length)) := by unfold em; rw [hst]; simp
      rw [e]
      refine HS.cons (sig' := emT got w0.length got.length [w1]) (mu' := ["ws"]) (HX.ifT (TV.eq (TV.str (EV.name (hl := rfl)) (by omega)) (by simp; omega)) (HS.cons (HX.ifT (TV.eq (TV.val (EVF.meth (EV.name (hl := rfl)) (EVS.cons (EV.name (hl := rfl)) EVS.nil) CALLB.startswith PySem.F.plainAttrs_str PySem.F.slot_str_startswith PySem.F.type_str_startswith tyStr).any) hst) ?_) HS.nil)) (em_mid he0 hg h1 (l := []) (fun x hx => by cases hx) (by simp))
      refine HS.cons (HX.assign (mu' := ["ws"]) (EVF.built (EVS.cons (EV.name (hl := rfl)) EVS.nil) (CALLB.lenS (by omega)) rfl (by decide) (by decide +kernel)) (.inl rfl) (fun y hy => .inr ⟨by rw [List.mem_singleton.mp hy]; decide, hy⟩)) ?_
      refine HS.cons (HX.del (k := 0) rfl (List.mem_singleton.mpr rfl) EVF.int.any (by simp) (by decide) rfl (by simp)) ?_
      exact HS.nilw (sub_cons rfl (sub_cons rfl (sub_cons rfl (sub_cons rfl sub_nil)))) (mu_cons (List.mem_singleton.mpr rfl) rfl mu_nil)
end
end Mine
end

-- LcQ
section
open PySem PySem.W PyProof.Rows PySem.MeetsSeq PySem.SeqRoads2 PySem.SeqAt
set_option Elab.async false
set_option maxRecDepth 100000
set_option linter.unusedVariables false
set_option linter.unusedSimpArgs false
namespace Mine

section
variable {prog : Program} {w : World} {A : Around} {E : Value → Shared → Prop} {s : Shared}

theorem nextOf_tup_item {it t : Addr} {i : Nat} {items : Array Value} {x : Value} {Q : Value → Shared → Prop} (hit : s.heap.IsTupleIter it t i) (ht : s.heap.IsTuple t items) (hx : items[i]? = some x)
    (hQ : ∀ h', h'.IsTupleIter it t (i + 1) → Heap.SameBut it s.heap h' → Q x { s with heap := h' }) : wpAny (model prog w) A (Builtin.SmallTypes.nextOf (.ref it)) Q E s := by
  obtain ⟨o, ho, hc, hd⟩ := id hit
  obtain ⟨ol, hol, _, nl, hdl⟩ := ht
  unfold Builtin.SmallTypes.nextOf
  refine wpAny_bind (wpAny_callSpecial?_slot (name := Str.ofString "__next__") hit.typeIs PySem.F.slot_tuple_iterator_next (wpAny_call_entry PySem.F.slot_tuple_iterator_next hit.typeIs PySem.F.entry_tuple_iterator_next ?_ (PySem.F.args_tuple_iterator_next_1 _)))
  show wpAny _ _ (field (.ref it) 0 >>= _) _ _ s
  refine wpAny_bind (wpAny_field ho hd (x := .ref t) rfl ?_)
  show wpAny _ _ (if (Value.ref t == Value.none) = true then _ else _) _ _ s
  rw [if_neg (show ¬ ((Value.ref t == Value.none) = true) from Bool.false_ne_true)]
  show wpAny _ _ (field (.ref it) 1 >>= _) _ _ s
  refine wpAny_bind (wpAny_field ho hd (x := .int i 0) rfl ?_)
  show wpAny _ _ (seqItems? (.ref t) >>= _) _ _ s
  refine wpAny_bind (wpAny_seqItems hol hdl ?_)
  simp only [Int.toNat_natCast, hx]
  refine wpAny_bind (wpAny_setField ho hd (by simp) (wpAny_pure ⟨x, rfl, wpAny_pure (hQ _ ?_ (Heap.SameBut.update ..))⟩))
  exact ⟨_, Heap.get?_update_self _ ho (Obj.isFreed_of_fields (Obj.data_mapFields hd _)), (Obj.cls_mapFields ..).trans hc, by
    rw [Obj.data_mapFields hd]; simp [rawInt]⟩

theorem nextOf_tup_end {it t : Addr} {i : Nat} {items : Array Value} {Q : Value → Shared → Prop} (hh : A.handled = none) (hit : s.heap.IsTupleIter it t i) (ht : s.heap.IsTuple t items) (hx : items[i]? = none)
    (hE : ∀ h' e, Heap.ExtBut it s.heap h' → (∃ o, h'.get? e = some o ∧ o.cls = .type "StopIteration") → E (.ref e) { s with heap := h' }) : wpAny (model prog w) A (Builtin.SmallTypes.nextOf (.ref it)) Q E s := by
  obtain ⟨o, ho, hc, hd⟩ := id hit
  obtain ⟨ol, hol, _, nl, hdl⟩ := ht
  unfold Builtin.SmallTypes.nextOf
  refine wpAny_bind (wpAny_callSpecial?_slot (name := Str.ofString "__next__") hit.typeIs PySem.F.slot_tuple_iterator_next (wpAny_call_entry PySem.F.slot_tuple_iterator_next hit.typeIs PySem.F.entry_tuple_iterator_next ?_ (PySem.F.args_tuple_iterator_next_1 _)))
  show wpAny _ _ (field (.ref it) 0 >>= _) _ _ s
  refine wpAny_bind (wpAny_field ho hd (x := .ref t) rfl ?_)
  show wpAny _ _ (if (Value.ref t == Value.none) = true then _ else _) _ _ s
  rw [if_neg (show ¬ ((Value.ref t == Value.none) = true) from Bool.false_ne_true)]
  show wpAny _ _ (field (.ref it) 1 >>= _) _ _ s
  refine wpAny_bind (wpAny_field ho hd (x := .int i 0) rfl ?_)
  show wpAny _ _ (seqItems? (.ref t) >>= _) _ _ s
  refine wpAny_bind (wpAny_seqItems hol hdl ?_)
  simp only [Int.toNat_natCast, hx]
  refine wpAny_bind (wpAny_rule (wpAny_bind (wpAny_setField ho hd (by simp) ?_)))
  show wpAny _ _ (newExc (.type "StopIteration") [] >>= _) _ _ _
  refine wpAny_bind ?_
  simp only [newExc, newTuple]
  refine wpAny_bind (wpAny_newObj_type ?_ (by size_fits))
  refine wpAny_bind (m := firstArgMember _ _) (wpAny_of_eq (a := Value.none) (by first | rfl | (simp only [firstArgMember]; rfl)) ?_)
  refine wpAny_newObj_type ?_ (by size_fits)
  simp only [raiseNew]
  refine wpAny_bind (wpAny_handled ?_)
  first | rw [show A.in1.handled = none from hh] | rw [hh]
  refine wpAny_bind (wpAny_pure (wpAny_throw ?_))
  exact hE _ _ (((Heap.SameBut.update ..).extBut.push _).push _) ⟨_, Heap.get?_push_size _ rfl, rfl⟩

theorem draws_tup (hh : A.handled = none) (it t : Addr) (hne : t ≠ it) (items : Array Value) :
    Draws prog w A it [it, t] items.size (fun i v => items[i]? = some v) (fun i h => h.IsTupleIter it t i ∧ h.IsTuple t items) where
  live := fun _ _ st => let ⟨o, ho, _⟩ := st.1; ⟨o, ho⟩
  frame := fun _ _ _ st hk => ⟨st.1.at fun o e => hk it (by simp) o e, st.2.at fun o e => hk t (by simp) o e⟩
  item := fun i s Q E hi st hQ => by
    refine nextOf_tup_item st.1 st.2 (x := items[i]) (by simp [hi]) fun h' hit' hs' => ?_
    exact hQ _ h' s.toks (by simp [hi]) ⟨hit', st.2.extBut hs'.extBut hne⟩ hs'
  done := fun s Q E st hE => nextOf_tup_end hh st.1 st.2 (by simp) hE

open AutoSeq1 (wpAny_loadPart') in
theorem meets_enum_tup (l : Addr) (items : Array Value) (n : Nat) (cls : Value) (dct : Option Addr) (sl : Array (Option Value)) (hcls : cls = .type "tuple") :
    Meets (Builtin.«enumerate.__new__» ⟨[.type "enumerate", .ref l], []⟩) (fun _ R s => s.heap.get? l = some { cls := cls, dict := dct, data := .seq items n, slots := sl } ∧
      R (.ok (.ret (.ref (s.heap.push { cls := .type "tuple_iterator", data := .fields #[.ref l, .int 0 0] }).objs.size)))
        { s with heap := (s.heap.push { cls := .type "tuple_iterator", data := .fields #[.ref l, .int 0 0] }).push { cls := .type "enumerate", data := .fields #[.none, .bool false, .ref s.heap.objs.size, rawInt 0, .none, .none] } }) :=
  .of_wp fun prog w A R s h => by
    subst hcls
    obtain ⟨hp, g, d, tk, os⟩ := s; obtain ⟨hl, h⟩ := h
    have hsub := sub_enumerate
    have hL : Heap.IsTuple (Shared.heap ⟨hp, g, d, tk, os⟩) l items := ⟨_, hl, rfl, n, rfl⟩
    wp_walk using wpAny_loadPart' hl
    refine wpAny_stack_any fun st => wpAny_pure ?_
    split
    · rename_i c _ _ _ _ _
      cases (c == Value.type "enumerate")
      · wp_walk using wpAny_loadPart' hl, wpAny_pyIter_tuple hL
        exact ⟨_, rfl, h⟩
      · wp_walk using wpAny_loadPart' hl, wpAny_pyIter_tuple hL
        exact ⟨_, rfl, h⟩
    · wp_walk using wpAny_loadPart' hl, wpAny_pyIter_tuple hL
      exact ⟨_, rfl, h⟩

theorem call_enum_tup {l : Addr} {items : Array Value} {Q : Value → Shared → Prop} (hL : s.heap.IsTuple l items)
    (h : ∀ h', IsEnum h' (s.heap.objs.size + 1) s.heap.objs.size 0 .none → h'.IsTupleIter s.heap.objs.size l 0 → h'.objs.size = s.heap.objs.size + 2 →
      (∀ b o, s.heap.get? b = some o → h'.get? b = some o) → Q (.ref (s.heap.objs.size + 1)) { s with heap := h' }) :
    wpAny (model prog w) A (call (.type "enumerate") [.ref l]) Q E s := by
  obtain ⟨⟨c, dct, dt, sl⟩, hl, hc, n, hd⟩ := hL
  replace hd : dt = .seq items n := hd
  subst hd
  refine callType_new PySem.F.called_enumerate (by decide) (PySem.F.typeCall_enumerate_1 _) (PySem.F.newCall_enumerate_1 _) (fun obj => PySem.F.args_object_init_2 obj _) PySem.F.entry_enumerate_new
    (meets_enum_tup l items n c dct sl hc) ⟨hl, ?_⟩
  have hz : (s.heap.push { cls := .type "tuple_iterator", data := .fields #[.ref l, .int 0 0] }).objs.size = s.heap.objs.size + 1 := Heap.size_push ..
  show _ ∧ _
  rw [hz]
  have he : IsEnum ((s.heap.push { cls := .type "tuple_iterator", data := .fields #[.ref l, .int 0 0] }).push
      { cls := .type "enumerate", data := .fields #[.none, .bool false, .ref s.heap.objs.size, rawInt 0, .none, .none] }) (s.heap.objs.size + 1) s.heap.objs.size 0 .none := by
    have := Heap.get?_push_size (s.heap.push { cls := .type "tuple_iterator", data := .fields #[.ref l, .int 0 0] })
      (o := { cls := .type "enumerate", data := .fields #[.none, .bool false, .ref s.heap.objs.size, rawInt 0, .none, .none] }) rfl
    rw [hz] at this; exact this
  refine ⟨⟨_, he, rfl⟩, h _ he ⟨_, Heap.get?_push_of_some _ (Heap.get?_push_size _ rfl), rfl, rfl⟩ (by rw [Heap.size_push, hz]) fun b o x => Heap.get?_push_of_some _ (Heap.get?_push_of_some _ x)⟩
end
end Mine
end

-- LcR
section
open PySem PySem.W PyProof.Rows PySem.MeetsSeq PySem.SeqRoads2 PySem.SeqAt
set_option Elab.async false
set_option maxRecDepth 100000
set_option linter.unusedVariables false
set_option linter.unusedSimpArgs false
namespace Mine

section
variable {prog : Program} {w : World} {mg mb : Str → Option Value} {fns : List (Str × Nat × Addr × FuncData)} {n : Nat} {env : Env} {sig : Sto}

/-- [elt for x, y in enumerate(tuple)], flat items -/
theorem compE_core {elt se : Expr} {scope : Scope} {p cp tp np ep : Pos} {kt : Nat} {x y : Str} {px py : Pos} {ds res : List D} {sc : Sto} {A : Around} {s : Shared} {use : Option (Value → Sem Unit)} {Q : Value → Shared → Prop}
    (ok : CompOk env sig scope sc) (hcell : ∀ z ∈ scope.names, z.2 ≠ .cell) (hx : scope.names.lookup x = some .local) (hy : scope.names.lookup y = some .local) (hxy : x ≠ y)
    (hse : EV prog w mg mb fns n env sig se (.tup ds)) (hz : ds.length ≤ 100) (hlen : res.length = ds.length) (hrf : ∀ d ∈ res, d.flat = true)
    (hkr : env.kindOf "enumerate" = some .globalImplicit)
    (hbody : ∀ cenv : Env, cenv.scope = relabel scope env → ∀ i d e, ds[i]? = some d → res[i]? = some e → EV prog w mg mb fns n cenv ((y, d) :: (x, .int (i : Nat)) :: sc) elt e)
    (rm : Room n A) (R : Rd prog mg mb fns env sig s)
    (hQ : ∀ acc C s', Kp s s' → s.heap.get? C = none → (∃ m, s'.heap.Ns C m) → Rep s'.heap (fun a => Fresh s a ∧ a ≠ C) acc (.list res) → compPost (model prog w) A (fun _ _ => False) use Q acc C (.ok .next) s')
    (hs : ∀ x, foldedSetIterable (.Call (.Name "enumerate" np) [se] [] ep) env x = pure x := by intro _; first | kernel_rfl! | rfl)
    (hpl : (starEach [se] env).any (·.1) = false := by first | kernel_rfl! | rfl) (hst : starEach [se] env = (false, eval se env) :: starEach [] env := by first | exact star_name | exact star_const | exact star_bin | exact star_call | exact star_sub | exact star_list | kernel_rfl! | rfl)
    (he : eval (.Call (.Name "enumerate" np) [se] [] ep) env = (do callWith ep (← eval (.Name "enumerate" np) env) [] (backTo ep (starEach [se] env)) (backToKw ep (keywordEach [] env))) := by first | kernel_rfl! | rfl) :
    wpAny (model prog w) A (comprehension (.ListComp elt [⟨.Tuple [.Name x px, .Name y py] kt tp, .Call (.Name "enumerate" np) [se] [] ep, [], 0⟩] scope p) scope env cp (newList []) false (eval (.Call (.Name "enumerate" np) [se] [] ep) env) use) Q (fun _ _ => False) s := by
  refine wpAny_comprehension_free rfl hs (closure_of ok R) ok.kind ok.locs ?_
  rw [he]
  refine wpAny_bind (nameBuiltin R hkr (by decide) boot_enumerate ?_)
  refine PySem.callWith_type (backTo_plain hpl) (evalArgs_spliced (wpAny_at ((EVS.cons hse EVS.nil hst) A s rm R) fun vs s₁ q1 => ?_) (backTo_plain hpl))
  obtain ⟨k1, r1⟩ := q1
  cases r1 with
  | @cons v1 _ _ _ r1 r2 =>
  cases r2
  cases r1 with
  | @tup ta tvs _ _ htup trs =>
  have hta : ta < s₁.heap.objs.size := by obtain ⟨o, e, _⟩ := htup; exact Heap.lt_size e
  show wpAny _ A (call (.type "enumerate") [.ref ta]) _ _ s₁
  refine call_enum_tup htup fun h2 hen hti hsz2 hk2 => ?_
  -- the enumerate object, its iterator
  generalize hs2 : ({ s₁ with heap := h2 } : Shared) = s₂
  have hs2h : s₂.heap = h2 := by rw [← hs2]
  have k2 : Kp s₁ s₂ := by rw [← hs2]; exact Kp.of (t := s₁.toks) hk2
  have D0 := draws_tup (prog := prog) (w := w) (A := A.in1) rm.hd s₁.heap.objs.size ta (Nat.ne_of_lt hta) tvs.toArray
  have W := WalksT.enumerateD (prog := prog) (w := w) (A := A) D0 (s₁.heap.objs.size + 1) (Nat.succ_ne_self _) (by
    simp only [List.mem_cons, List.not_mem_nil, or_false, not_or]
    exact ⟨Nat.succ_ne_self _, Nat.ne_of_gt (Nat.lt_succ_of_lt hta)⟩) (by simp)
  have htl : tvs.toArray.size = ds.length := by rw [List.size_toArray, trs.length]
  rw [htl] at W
  have hst0 : (∃ old, IsEnum s₂.heap (s₁.heap.objs.size + 1) s₁.heap.objs.size ((0 : Nat) : Int) old) ∧ (s₂.heap.IsTupleIter s₁.heap.objs.size ta 0 ∧ s₂.heap.IsTuple ta tvs.toArray) := by
    rw [hs2h]
    exact ⟨⟨_, hen⟩, hti, htup.at fun o e => hk2 _ o e⟩
  refine W.self 0 s₂ _ _ hst0 ?_
  refine wpAny_newObj_type ?_
  refine newEnv_comp ?_
  have R1 := R.keeps _ _ _ _ k1
  generalize hs3 : ({ s₂ with heap := s₂.heap.push { cls := .type "list", dict := none, data := .seq ([] : List Value).toArray } } : Shared) = s₃
  have hs3h : s₃.heap = s₂.heap.push { cls := .type "list", dict := none, data := .seq ([] : List Value).toArray } := by rw [← hs3]
  have k3 : Kp s₂ s₃ := by rw [← hs3]; exact Kp.push _ _
  have CI : CompIn prog mg mb fns env scope sc s₁ { (newEnv scope s₃.heap.objs.size env.globals (cellsFrom (s₃.heap.objs.size + 1) scope.names (closF env scope.names [])) env.qual none .none (some env) builtinsNs) with scope := relabel scope env } := compIn_of (s := s) ok R1
  have hkx : Env.kindOf { (newEnv scope s₃.heap.objs.size env.globals (cellsFrom (s₃.heap.objs.size + 1) scope.names (closF env scope.names [])) env.qual none .none (some env) builtinsNs) with scope := relabel scope env } x = some .local := by
    show (relabel scope env).names.lookup x = _
    unfold relabel; simp only; rw [lookup_relabel hx]; simp
  have hky : Env.kindOf { (newEnv scope s₃.heap.objs.size env.globals (cellsFrom (s₃.heap.objs.size + 1) scope.names (closF env scope.names [])) env.qual none .none (some env) builtinsNs) with scope := relabel scope env } y = some .local := by
    show (relabel scope env).names.lookup y = _
    unfold relabel; simp only; rw [lookup_relabel hy]; simp
  generalize hcenv : ({ (newEnv scope s₃.heap.objs.size env.globals (cellsFrom (s₃.heap.objs.size + 1) scope.names (closF env scope.names [])) env.qual none .none (some env) builtinsNs) with scope := relabel scope env } : Env) = cenv at CI hkx hky ⊢
  have hloc : cenv.locals = s₃.heap.objs.size := by rw [← hcenv]; rfl
  have hckind : cenv.scope.kind = .function := by rw [CI.scope]; exact ok.kind
  have hsz2' : s₂.heap.objs.size = s₁.heap.objs.size + 2 := by rw [hs2h]; exact hsz2
  have hD : s₂.heap.objs.size < s₃.heap.objs.size := by rw [hs3h, Heap.size_push]; exact Nat.lt_succ_self _
  generalize hs4 : ({ s₃ with heap := pushCells (s₃.heap.push { cls := .type "dict", data := .dict #[] }) scope.names } : Shared) = s₄
  have hs4h : s₄.heap = pushCells (s₃.heap.push { cls := .type "dict", data := .dict #[] }) scope.names := by rw [← hs4]
  have k4 : Kp s₃ s₄ := by rw [← hs4]; exact Kp.of (t := s₃.toks) fun b o e => pushCells_keeps _ _ _ _ (Heap.get?_push_of_some _ e)
  have k14 : Kp s₁ s₄ := (k2.trans k3).trans k4
  have hacc4 : s₄.heap.PlainList s₂.heap.objs.size #[] := ⟨0, k4.heap _ _ (by rw [hs3h]; exact Heap.get?_push_size _ rfl)⟩
  have hns4 : s₄.heap.Ns cenv.locals (fun _ => none) := by rw [hloc, hs4h]; exact (Heap.Ns.new s₃.heap (.type "dict")).keeps (pushCells_keeps _ _)
  have fresh2 : ∀ a, s₁.heap.objs.size ≤ a → s₁.heap.get? a = none := fun a ha => by
    cases e : s₁.heap.get? a with
    | none => rfl
    | some o => exact absurd (Heap.lt_size e) (Nat.not_lt.mpr ha)
  have hst4 := W.frame 0 _ s₄.heap hst0 fun b hb o e => (k3.trans k4).heap _ _ e
  generalize hI : s₁.heap.objs.size + 1 = I at W hst4 hst0
  generalize hJ : s₁.heap.objs.size = J at W hst4 hst0
  have hfpm : ∀ b, b ∈ [I, J, ta] → b < s₂.heap.objs.size := by
    intro b hb
    rw [hsz2']
    simp only [List.mem_cons, List.not_mem_nil, or_false] at hb
    rcases hb with rfl | rfl | rfl
    · rw [← hI]; omega
    · rw [← hJ]; omega
    · exact Nat.lt_of_lt_of_le hta (by omega)
  have hCf : cenv.locals ∉ [I, J, ta] := fun hm => by have := hfpm _ hm; rw [hloc] at this; exact absurd (Nat.lt_trans this hD) (Nat.lt_irrefl _)
  have hDf : s₂.heap.objs.size ∉ [I, J, ta] := fun hm => Nat.lt_irrefl _ (hfpm _ hm)
  have hDC : s₂.heap.objs.size ≠ cenv.locals := by rw [hloc]; exact Nat.ne_of_lt hD
  have hwrn : ∀ b, b ∈ [I, J] → s₁.heap.get? b = none := fun b hb => by
    simp only [List.mem_cons, List.not_mem_nil, or_false] at hb
    rcases hb with rfl | rfl
    · exact fresh2 _ (by rw [← hI]; omega)
    · exact fresh2 _ (by rw [← hJ]; omega)
  have hsubw : ∀ b, b ∈ [I, J] → b ∈ [I, J, ta] := fun b hb => by
    simp only [List.mem_cons, List.not_mem_nil, or_false] at hb ⊢
    rcases hb with rfl | rfl <;> simp
  have hCw : cenv.locals ∉ [I, J] := fun h => hCf (hsubw _ h)
  have hDw : s₂.heap.objs.size ∉ [I, J] := fun h => hDf (hsubw _ h)
  have loop : ∀ s5 : Shared, s5 = s₄ → codeAny (model prog w) A (.compLoop (.ListComp elt [⟨.Tuple [.Name x px, .Name y py] kt tp, .Call (.Name "enumerate" np) [se] [] ep, [], 0⟩] scope p) 0 (.ref I) (.ref s₂.heap.objs.size) cenv) (compPost (model prog w) A (fun _ _ => False) use Q (.ref s₂.heap.objs.size) cenv.locals) s5 := by
    rintro _ rfl
    refine LCp.codeAny_compLoop_pair (fun m s' => ∃ i ys, m = ds.length + 1 - i ∧ i ≤ ds.length ∧ Kp s₁ s' ∧ ((∃ old, IsEnum s'.heap I J ((i : Nat) : Int) old) ∧ (s'.heap.IsTupleIter J ta i ∧ s'.heap.IsTuple ta tvs.toArray)) ∧ s'.heap.PlainList s₂.heap.objs.size (List.toArray ys) ∧
        Reps s'.heap Any ys (res.take i) ∧ (∃ mm, s'.heap.Ns cenv.locals mm)) ?_ (ds.length + 1)
      ⟨0, [], rfl, Nat.zero_le _, k14, hst4, hacc4, by simpa using Reps.nil, ⟨_, hns4⟩⟩
    rintro m s' ⟨i, ys, rfl, hi, hk, hsti, hl, hr, ⟨mm, hns⟩⟩
    by_cases hlt : i < ds.length
    · refine W.item i _ _ _ hlt hsti fun T vals h' tk hPt hTs hT hMid hkp => ?_
      dsimp only
      obtain ⟨t0, v0, hv0, rfl⟩ := hPt
      have hkT : T ∉ [I, J] := W.apart _ _ _ hMid
      refine W.go _ _ _ i T _ _ _ hMid fun h3 hst3 hkp3 => ?_
      have kk : ∀ b o, b ∉ [I, J] → s'.heap.get? b = some o → h3.get? b = some o := fun b o hb e => hkp3 b o hb (hkp b o hb e)
      have hT3 : h3.IsTuple T #[.int (i : Nat) t0, v0] := hT.at fun o e => hkp3 _ o hkT e
      refine wpAny_assign_Tuple (items := #[.int (i : Nat) t0, v0]) rm.hd hT3 rfl rfl fun h4 he4 => ?_
      have ke : ∀ b o, h3.get? b = some o → h4.get? b = some o := fun b o e => he4 b o (Nat.ne_of_lt (Heap.lt_size e)) e
      have hns4' : h4.Ns cenv.locals mm := hns.at' fun o e => ke _ o (kk _ o hCw e)
      refine wpAny_aio_cons (wpAny_assign_Name (wpAny_storeName_local hkx hns4' (fun h5 hn5 hs5 => ?_) (by rw [hckind]; rfl)))
      refine wpAny_aio_cons (wpAny_assign_Name (wpAny_storeName_local hky hn5 (fun h6 hn6 hs6 => ?_) (by rw [hckind]; rfl)))
      refine wpAny_aio_nil ?_
      have hs5' : Heap.SameBut cenv.locals h4 h5 := hs5
      have hs6' : Heap.SameBut cenv.locals h5 h6 := hs6
      have k6 : ∀ b o, b ≠ cenv.locals → b ∉ [I, J] → s'.heap.get? b = some o → h6.get? b = some o := fun b o hb hw e => hs6'.extBut b o hb (hs5'.extBut b o hb (ke b o (kk b o hw e)))
      have hfC : s₁.heap.get? cenv.locals = none := fresh2 _ (by rw [hloc, hJ]; omega)
      generalize hs6e : ({ ({ ({ ({ s' with heap := h3, toks := tk } : Shared) with heap := h4 } : Shared) with heap := h5, toks := tk + 1 } : Shared) with heap := h6, toks := tk + 1 + 1 } : Shared) = s₆
      have hs6h : s₆.heap = h6 := by rw [← hs6e]
      have kp6 : Kp s₁ s₆ := by
        rw [← hs6e]
        exact hk.to (t := tk + 1 + 1) fun b o e => k6 b o (fun q => by rw [q, hfC] at e; cases e) (fun q => by rw [hwrn b q] at e; cases e) (hk.heap b o e)
      obtain ⟨d, hd, rd⟩ := trs.getv i (v := v0) (by simpa using hv0)
      obtain ⟨e, hre⟩ : ∃ e, res[i]? = some e := ⟨_, List.getElem?_eq_getElem (by omega)⟩
      have hRd : Rd prog mg mb fns cenv ((y, d) :: (x, .int (i : Nat)) :: sc) s₆ := CI.rd s₆ [(y, d), (x, .int (i : Nat))] kp6 fun z dd hz => by
        rw [hs6h]
        rw [List.lookup_cons] at hz
        cases hzy : z == y with
        | true =>
          rw [hzy] at hz
          have := beq_iff_eq.mp hzy; subst this
          cases hz
          exact ⟨v0, .inl ⟨hky, _, hn6, by simp⟩, rd.keeps fun b o _ e => ⟨by rw [← hs6h]; exact kp6.heap b o e, trivial⟩⟩
        | false =>
          rw [hzy, List.lookup_cons] at hz
          cases hzx : z == x with
          | true =>
            rw [hzx] at hz
            have := beq_iff_eq.mp hzx; subst this
            cases hz
            refine ⟨_, .inl ⟨hkx, _, hn6, ?_⟩, .int _ t0⟩
            simp only [hxy, if_false, if_true]
          | false => rw [hzx] at hz; cases hz
      show wpAny _ A (eval elt cenv) _ _ s₆
      refine wpAny_at (hbody cenv CI.scope i d e hd hre A s₆ rm hRd) fun r s₇ q7 => ?_
      obtain ⟨k7, r7⟩ := q7
      have hl7 : s₇.heap.PlainList s₂.heap.objs.size ys.toArray := by
        obtain ⟨ee, he⟩ := hl
        exact ⟨ee, k7.heap _ _ (by rw [hs6h]; exact k6 _ _ hDC hDw he)⟩
      refine wpAny_list_append_plain (items := ys.toArray) hl7 (fun h₈ hl8 hs8 => ?_) (by
        have h1 := hr.length
        rw [List.size_toArray, h1]
        simp only [List.length_take]
        exact Nat.le_trans (Nat.le_trans (Nat.min_le_left _ _) (Nat.le_trans hi hz)) (by decide))
      have hs8' : Heap.SameBut s₂.heap.objs.size s₇.heap h₈ := hs8
      have up : ∀ b o, b ≠ s₂.heap.objs.size → s₆.heap.get? b = some o → h₈.get? b = some o := fun b o hb e => hs8'.extBut b o hb (k7.heap b o e)
      have htake : res.take (i + 1) = res.take i ++ [e] := by rw [List.take_add_one, hre]; rfl
      have hef := hrf e (List.mem_of_getElem? hre)
      refine ⟨ds.length + 1 - (i + 1), by omega, i + 1, ys ++ [r], rfl, hlt, ?_, ?_, by simpa using hl8, ?_, ?_⟩
      · exact (kp6.trans k7).to (t := s₇.toks) fun b o e => hs8'.extBut b o (fun hb => by subst hb; rw [fresh2 _ (by rw [hsz2', hJ]; omega)] at e; cases e) ((kp6.trans k7).heap b o e)
      · refine W.frame (i + 1) h3 _ hst3 fun b hb o e => up b o (fun h => hDf (h ▸ hb)) ?_
        rw [hs6h]
        have hbC : b ≠ cenv.locals := fun h => hCf (h ▸ hb)
        exact hs6'.extBut b o hbC (hs5'.extBut b o hbC (ke b o e))
      · rw [htake]
        refine Reps.snoc (hr.flat fun d' hd' => hrf d' (List.mem_of_mem_take hd')) (r7.flat hef)
      · refine ⟨_, (hn6.at' fun o e => ?_)⟩
        exact up _ o hDC.symm (by rw [hs6h]; exact e)
    · have hin : i = ds.length := Nat.le_antisymm hi (Nat.le_of_not_lt hlt)
      subst hin
      refine W.done _ _ _ hsti fun h' tk hkp => ?_
      refine hQ _ _ _ (k1.trans ?_) ?_ ⟨mm, hns.at' fun o e => hkp _ _ hCw e⟩ ?_
      · exact hk.to fun b o e => hkp b o (fun hw => by rw [hwrn b hw] at e; cases e) (hk.heap b o e)
      · exact Fresh.back k1 (fresh2 cenv.locals (by rw [hloc, hJ]; omega))
      · rw [← hlen, List.take_length] at hr
        refine .list ⟨Fresh.back k1 (fresh2 _ (by rw [hsz2', hJ]; omega)), hDC⟩ (hl.at fun o e => hkp _ _ hDw e) (hr.flat hrf)
  rw [hloc] at loop
  exact codeAny_compStart_list (loop _ rfl) (W.self 0 _ _ _ hst4 (loop _ rfl))
end
end Mine
end

-- LcS
section
open PySem PySem.W PyProof.Rows PySem.MeetsSeq PySem.SeqRoads2 PySem.SeqAt
set_option Elab.async false
set_option maxRecDepth 100000
set_option linter.unusedVariables false
set_option linter.unusedSimpArgs false
namespace Mine

section
variable {prog : Program} {w : World} {A : Around} {R : Result → Shared → Prop} {s : Shared}

theorem compStart_two {elt : Expr} {c1 : Comprehension} {target iter : Expr} {ifs : List Expr} {scope : Scope} {pos : Pos} {it acc : Value} {env : Env}
    (h0 : codeAny (model prog w) A (.compLoop (.ListComp elt [c1, ⟨target, iter, ifs, 0⟩] scope pos) 1 it acc env) R s)
    (h : wpAny (model prog w) A (pyIter it) (fun it' s' => codeAny (model prog w) A (.compLoop (.ListComp elt [c1, ⟨target, iter, ifs, 0⟩] scope pos) 1 it' acc env) R s') (fun _ _ => False) s) :
    codeAny (model prog w) A (.compStart (.ListComp elt [c1, ⟨target, iter, ifs, 0⟩] scope pos) 1 it acc env) R s := by
  refine codeAny_of_tree ?_
  show wpAny _ _ ((compStart (.ListComp elt [c1, ⟨target, iter, ifs, 0⟩] scope pos) 1 it acc env).onRaise (fun x => do noteFrame x env; standAt theWindowsPlace)) _ _ s
  refine wpAny_notedAt ?_
  unfold compStart
  show wpAny _ _ (ask >>= _) _ _ s
  refine wpAny_bind (wpAny_askSetting (wpAny_ite ?_))
  split
  · first
      | exact wpAny_bind (wpAny_pure (wpAny_pure (And.intro rfl h0)))
      | exact wpAny_pure (And.intro rfl h0)
  · have h' := wpAny_mono (Q' := fun it' s' => codeAny (model prog w) A (.compLoop (.ListComp elt [c1, ⟨target, iter, ifs, 0⟩] scope pos) 1 it' acc env) R s') (E' := notedBy (model prog w) A env fun x s' => R (.error x) s') h (fun _ _ q => q) (fun _ _ q => q.elim)
    first
      | exact wpAny_bind (wpAny_rule (wpAny_bind (wpAny_standAt (wpAny_bind (wpAny_mono h' (fun it' s' h' => wpAny_pure (And.intro rfl h')) fun _ _ x => x)))))
      | (refine wpAny_bind (wpAny_rule ?_); show wpAny _ _ (standAt iter.pos >>= _) _ _ s; exact wpAny_bind (wpAny_standAt (wpAny_bind (wpAny_mono h' (fun it' s' h' => wpAny_pure (And.intro rfl h')) fun _ _ x => x))))

/-- the second of two clauses, its test never true -/
theorem compLoop_in {elt : Expr} {c1 : Comprehension} {iter c : Expr} {y : Str} {py : Pos} {scope : Scope} {pos : Pos} {it acc : Value} {env : Env} (I : Nat → Shared → Prop)
    (turn : ∀ n s, I n s → wpAny (model prog w) A (pyNext it) (fun r s₁ => match r with
      | none => R (.ok .next) s₁
      | some v => wpAny (model prog w) A (assign (.Name y py) env v) (fun _ s₂ => wpAny (model prog w) A (isTrue c env (eval c env)) (fun ok s₃ => ok = false ∧ ∃ m, m < n ∧ I m s₃) (fun _ _ => False) s₂) (fun _ _ => False) s₁) (fun _ _ => False) s)
    (n : Nat) (h : I n s) : codeAny (model prog w) A (.compLoop (.ListComp elt [c1, ⟨.Name y py, iter, [c], 0⟩] scope pos) 1 it acc env) R s := by
  refine codeAny_loop rfl I (fun n s hI => ?_) n h
  show wpAny _ A ((compTurn (.ListComp elt [c1, ⟨.Name y py, iter, [c], 0⟩] scope pos) 1 it acc env).onRaise (fun x => do noteFrame x env; theTreesLotGoes x)) _ _ s
  refine wpAny_noted ?_
  show wpAny _ A (do
      standAt iter.pos
      match ← pyNext it with
      | none => pure (.done .next)
      | some v =>
        letOwnedTupleGo (.Name y py) it v
        assign (.Name y py) env v
        let mut ok := true
        for c in [c] do
          if ok then ok ← isTrue c env (eval c env)
        if ok then
          (do let _ ← call (.builtin "list.append") [acc, ← eval elt env])
        again (.compLoop (.ListComp elt [c1, ⟨.Name y py, iter, [c], 0⟩] scope pos) 1 it acc env)) _ _ s
  refine wpAny_bind (wpAny_standAt (wpAny_bind (wpAny_at (turn n s hI) fun r s₁ h₁ => ?_)))
  cases r with
  | none => exact wpAny_pure h₁
  | some v =>
    refine wpAny_bind (wpAny_of_eq (a := ()) rfl ?_)
    refine wpAny_bind (wpAny_at h₁ fun _ s₂ h₂ => wpAny_bind ?_)
    refine wpAny_tests_one (wpAny_at h₂ fun ok s₃ h₃ => ?_)
    obtain ⟨rfl, m, hm, hI'⟩ := h₃
    simp only [Bool.false_eq_true, if_false]
    exact wpAny_pure ⟨rfl, m, hm, hI'⟩

/-- the first of two clauses -/
theorem compLoop_out {elt : Expr} {iter it2 : Expr} {t2 : Expr} {ifs2 : List Expr} {x : Str} {px : Pos} {scope : Scope} {pos : Pos} {it acc : Value} {env : Env} (I : Nat → Shared → Prop)
    (turn : ∀ n s, I n s → wpAny (model prog w) A (pyNext it) (fun r s₁ => match r with
      | none => R (.ok .next) s₁
      | some v => wpAny (model prog w) A (assign (.Name x px) env v) (fun _ s₂ => wpAny (model prog w) A (eval it2 env) (fun xv s₃ => wpAny (model prog w) A (pyIter xv) (fun it' s₄ =>
          codeAny (model prog w) A (.compStart (.ListComp elt [⟨.Name x px, iter, [], 0⟩, ⟨t2, it2, ifs2, 0⟩] scope pos) 1 it' acc env) (fun r s' => (∃ f, r = .ok f) ∧ ∃ m, m < n ∧ I m s') s₄) (fun _ _ => False) s₃) (fun _ _ => False) s₂) (fun _ _ => False) s₁) (fun _ _ => False) s)
    (n : Nat) (h : I n s) (hs : ∀ x, foldedSetIterable it2 env x = pure x) : codeAny (model prog w) A (.compLoop (.ListComp elt [⟨.Name x px, iter, [], 0⟩, ⟨t2, it2, ifs2, 0⟩] scope pos) 0 it acc env) R s := by
  refine codeAny_loop rfl I (fun n s hI => ?_) n h
  show wpAny _ A ((compTurn (.ListComp elt [⟨.Name x px, iter, [], 0⟩, ⟨t2, it2, ifs2, 0⟩] scope pos) 0 it acc env).onRaise (fun x => do noteFrame x env; theTreesLotGoes x)) _ _ s
  refine wpAny_noted ?_
  show wpAny _ A (do
      standAt iter.pos
      match ← pyNext it with
      | none => pure (.done .next)
      | some v =>
        letOwnedTupleGo (.Name x px) it v
        assign (.Name x px) env v
        let xv ← eval it2 env
        standAt it2.pos
        let xv ← foldedSetIterable it2 env xv
        let it' ← holding [xv] (pyIter xv)
        let _ ← runOwn (.compStart (.ListComp elt [⟨.Name x px, iter, [], 0⟩, ⟨t2, it2, ifs2, 0⟩] scope pos) 1 it' acc env) env
        again (.compLoop (.ListComp elt [⟨.Name x px, iter, [], 0⟩, ⟨t2, it2, ifs2, 0⟩] scope pos) 0 it acc env)) _ _ s
  refine wpAny_bind (wpAny_standAt (wpAny_bind (wpAny_at (turn n s hI) fun r s₁ h₁ => ?_)))
  cases r with
  | none => exact wpAny_pure h₁
  | some v =>
    refine wpAny_bind (wpAny_of_eq (a := ()) rfl ?_)
    refine wpAny_bind (wpAny_at h₁ fun _ s₂ h₂ => wpAny_bind (wpAny_at h₂ fun xv s₃ h₃ => wpAny_bind (wpAny_standAt (wpAny_bind (wpAny_of_eq (hs xv) (wpAny_bind (wpAny_holding (wpAny_at h₃ fun it' s₄ h₄ => ?_))))))))
    refine wpAny_bind (wpAny_runOwn (codeAny_mono h₄ fun r s' hr => ?_))
    obtain ⟨⟨f, rfl⟩, m, hm, hI'⟩ := hr
    exact wpAny_pure ⟨rfl, m, hm, hI'⟩
end
end Mine
end

-- LcT
section
open PySem PySem.W PyProof.Rows PySem.MeetsSeq PySem.SeqRoads2 PySem.SeqAt
set_option Elab.async false
set_option maxRecDepth 100000
set_option linter.unusedVariables false
set_option linter.unusedSimpArgs false
namespace Mine

section
variable {prog : Program} {w : World} {mg mb : Str → Option Value} {fns : List (Str × Nat × Addr × FuncData)} {n : Nat} {env : Env} {sig : Sto}

/-- [elt for x in it1 for y in it2 if c], c never true -/
theorem EVF.comp2 {elt iter it2 c : Expr} {scope : Scope} {p : Pos} {x y : Str} {px py : Pos} {ds es : List D} {sc : Sto} {lst lst2 : Bool}
    (ok : CompOk env sig scope sc) (hx : scope.names.lookup x = some .local) (hy : scope.names.lookup y = some .local) (hxy : x ≠ y) (hef : ∀ e ∈ es, e.flat = true)
    (hit : IT prog w mg mb fns lst n env sig iter ds)
    (hit2 : ∀ cenv : Env, cenv.scope = relabel scope env → ∀ d ∈ ds, IT prog w mg mb fns lst2 n cenv ((x, d) :: sc) it2 es)
    (hbody : ∀ cenv : Env, cenv.scope = relabel scope env → ∀ d ∈ ds, ∀ e ∈ es, TV prog w mg mb fns n cenv ((y, e) :: (x, d) :: sc) c false)
    (hs : ∀ x, foldedSetIterable iter env x = pure x := by intro _; rfl) (hs2 : ∀ cenv x, foldedSetIterable it2 cenv x = pure x := by intro _ _; rfl) :
    EVF prog w mg mb fns n env sig (.ListComp elt [⟨.Name x px, iter, [], 0⟩, ⟨.Name y py, it2, [c], 0⟩] scope p) (.list []) := fun A s rm R => by
  rw [eval_ListComp]
  refine wpAny_comprehension_free (use := none) rfl hs (closure_of ok R) ok.kind ok.locs ?_
  refine wpAny_at (hit A s rm R) fun v s₁ q1 => ?_
  obtain ⟨k1, q1⟩ := q1
  refine wpAny_at q1 fun it s₂ q2 => ?_
  obtain ⟨k2, I, fp, wr, P, It, rfl, W, hst, hwr, hfp, hfps, hwrf, hP⟩ := q2
  refine wpAny_newObj_type ?_
  refine newEnv_comp ?_
  have R1 := R.keeps _ _ _ _ k1
  generalize hs3 : ({ s₂ with heap := s₂.heap.push { cls := .type "list", dict := none, data := .seq ([] : List Value).toArray } } : Shared) = s₃
  have hs3h : s₃.heap = s₂.heap.push { cls := .type "list", dict := none, data := .seq ([] : List Value).toArray } := by rw [← hs3]
  have k3 : Kp s₂ s₃ := by rw [← hs3]; exact Kp.push _ _
  have CI : CompIn prog mg mb fns env scope sc s₁ { (newEnv scope s₃.heap.objs.size env.globals (cellsFrom (s₃.heap.objs.size + 1) scope.names (closF env scope.names [])) env.qual none .none (some env) builtinsNs) with scope := relabel scope env } := compIn_of (s := s) ok R1
  have hkx : Env.kindOf { (newEnv scope s₃.heap.objs.size env.globals (cellsFrom (s₃.heap.objs.size + 1) scope.names (closF env scope.names [])) env.qual none .none (some env) builtinsNs) with scope := relabel scope env } x = some .local := by
    show (relabel scope env).names.lookup x = _
    unfold relabel; simp only; rw [lookup_relabel hx]; simp
  have hky : Env.kindOf { (newEnv scope s₃.heap.objs.size env.globals (cellsFrom (s₃.heap.objs.size + 1) scope.names (closF env scope.names [])) env.qual none .none (some env) builtinsNs) with scope := relabel scope env } y = some .local := by
    show (relabel scope env).names.lookup y = _
    unfold relabel; simp only; rw [lookup_relabel hy]; simp
  generalize hcenv : ({ (newEnv scope s₃.heap.objs.size env.globals (cellsFrom (s₃.heap.objs.size + 1) scope.names (closF env scope.names [])) env.qual none .none (some env) builtinsNs) with scope := relabel scope env } : Env) = cenv at CI hkx hky ⊢
  have hloc : cenv.locals = s₃.heap.objs.size := by rw [← hcenv]; rfl
  have hckind : cenv.scope.kind = .function := by rw [CI.scope]; exact ok.kind
  have hD : s₂.heap.objs.size < s₃.heap.objs.size := by rw [hs3h, Heap.size_push]; exact Nat.lt_succ_self _
  generalize hs4 : ({ s₃ with heap := pushCells (s₃.heap.push { cls := .type "dict", data := .dict #[] }) scope.names } : Shared) = s₄
  have hs4h : s₄.heap = pushCells (s₃.heap.push { cls := .type "dict", data := .dict #[] }) scope.names := by rw [← hs4]
  have k4 : Kp s₃ s₄ := by rw [← hs4]; exact Kp.of (t := s₃.toks) fun b o e => pushCells_keeps _ _ _ _ (Heap.get?_push_of_some _ e)
  have k14 : Kp s₁ s₄ := (k2.trans k3).trans k4
  have hacc4 : s₄.heap.PlainList s₂.heap.objs.size #[] := ⟨0, k4.heap _ _ (by rw [hs3h]; exact Heap.get?_push_size _ rfl)⟩
  have hns4 : s₄.heap.Ns cenv.locals (fun _ => none) := by rw [hloc, hs4h]; exact (Heap.Ns.new s₃.heap (.type "dict")).keeps (pushCells_keeps _ _)
  have hst4 : It 0 s₄.heap := W.frame _ _ _ hst fun b hb o e => (k3.trans k4).heap _ _ e
  have fresh2 : ∀ a, s₂.heap.objs.size ≤ a → s₁.heap.get? a = none := fun a ha => by
    cases e : s₁.heap.get? a with
    | none => rfl
    | some o => exact absurd (Heap.lt_size (k2.heap _ _ e)) (Nat.not_lt.mpr ha)
  have hCf : cenv.locals ∉ fp := fun hm => by have := hfp _ hm; rw [hloc] at this; exact absurd (Nat.lt_trans this hD) (Nat.lt_irrefl _)
  have hDf : s₂.heap.objs.size ∉ fp := fun hm => Nat.lt_irrefl _ (hfp _ hm)
  have hDC : s₂.heap.objs.size ≠ cenv.locals := by rw [hloc]; exact Nat.ne_of_lt hD
  have hfC : s₁.heap.get? cenv.locals = none := fresh2 _ (by rw [hloc]; exact Nat.le_of_lt hD)
  have loop : ∀ s5 : Shared, s5 = s₄ → codeAny (model prog w) A (.compLoop (.ListComp elt [⟨.Name x px, iter, [], 0⟩, ⟨.Name y py, it2, [c], 0⟩] scope p) 0 (.ref I) (.ref s₂.heap.objs.size) cenv)
      (compPost (model prog w) A (fun _ _ => False) none (fun v s' => Kp s s' ∧ Rep s'.heap (Fresh s) v (.list [])) (.ref s₂.heap.objs.size) cenv.locals) s5 := by
    rintro _ rfl
    refine compLoop_out (fun m s' => ∃ i, m = ds.length + 1 - i ∧ i ≤ ds.length ∧ Kp s₁ s' ∧ It i s'.heap ∧ s'.heap.PlainList s₂.heap.objs.size #[] ∧ (∃ mm, s'.heap.Ns cenv.locals mm)) ?_ (ds.length + 1)
      ⟨0, rfl, Nat.zero_le _, k14, hst4, hacc4, ⟨_, hns4⟩⟩ (hs2 cenv)
    rintro m s' ⟨i, rfl, hi, hk, hsti, hl, ⟨mm, hns⟩⟩
    by_cases hlt : i < ds.length
    · refine W.item i _ _ _ hlt hsti fun v h' tk hPv hst' hkp => ?_
      dsimp only
      have hkw : ∀ b o, b ∉ fp → s'.heap.get? b = some o → h'.get? b = some o := fun b o hb e => hkp b o (fun hw => hb (W.sub _ hw)) e
      refine wpAny_assign_Name (wpAny_storeName_local hkx (hns.at' fun o e => hkw _ _ hCf e) (fun h₂ hn₂ hs₂ => ?_) (by rw [hckind]; rfl))
      have hs₂' : Heap.SameBut cenv.locals h' h₂ := hs₂
      generalize hs6e : ({ ({ s' with heap := h', toks := tk } : Shared) with heap := h₂, toks := tk + 1 } : Shared) = s₆
      have hs6h : s₆.heap = h₂ := by rw [← hs6e]
      have kp6 : Kp s₁ s₆ := by
        rw [← hs6e]
        exact hk.to (t := tk + 1) fun b o e => hs₂'.extBut b o (fun q => by rw [q, hfC] at e; cases e) (hkp b o (fun hw => by rw [hwr b hw] at e; cases e) (hk.heap b o e))
      obtain ⟨d, hd, hrd⟩ := hP i v s₆.heap hlt hPv kp6.heap
      have hdm := List.mem_of_getElem? hd
      have hldx : Loads cenv s₆.heap x v := .inl ⟨hkx, _, by rw [hs6h]; exact hn₂, by simp⟩
      have hRd : Rd prog mg mb fns cenv ((x, d) :: sc) s₆ := CI.rd s₆ [(x, d)] kp6 fun z dd hz => by
        have hzx : (z, dd) ∈ [(x, d)] := mem_lookup hz
        simp at hzx
        obtain ⟨rfl, rfl⟩ := hzx
        exact ⟨v, hldx, hrd⟩
      have hit6 : It (i + 1) s₆.heap := by rw [hs6h]; exact W.frame _ _ _ hst' fun b hb o e => hs₂'.extBut b o (fun h => hCf (h ▸ hb)) e
      have hl6 : s₆.heap.PlainList s₂.heap.objs.size #[] := by
        obtain ⟨e, he⟩ := hl
        exact ⟨e, by rw [hs6h]; exact hs₂'.extBut _ _ hDC (hkw _ _ hDf he)⟩
      have hns6 : ∃ mm, s₆.heap.Ns cenv.locals mm ∧ mm x = some v := ⟨_, by rw [hs6h]; exact hn₂, by simp⟩
      show wpAny _ A (eval it2 cenv) _ _ s₆
      refine wpAny_at (hit2 cenv CI.scope d hdm A s₆ rm hRd) fun xv s₇ q7 => ?_
      obtain ⟨k7, q7⟩ := q7
      refine wpAny_at q7 fun itv s₈ q8 => ?_
      obtain ⟨k8, I2, fp2, wr2, P2, It2, rfl, W2, hst2, hwr2, hfp2, hfps2, hwrf2, hP2⟩ := q8
      have k68 : Kp s₆ s₈ := k7.trans k8
      -- the inner loop
      have inner : ∀ s9 : Shared, s9 = s₈ → codeAny (model prog w) A (.compLoop (.ListComp elt [⟨.Name x px, iter, [], 0⟩, ⟨.Name y py, it2, [c], 0⟩] scope p) 1 (.ref I2) (.ref s₂.heap.objs.size) cenv)
          (fun r s' => (∃ f, r = .ok f) ∧ ∃ m, m < ds.length + 1 - i ∧ ∃ i, m = ds.length + 1 - i ∧ i ≤ ds.length ∧ Kp s₁ s' ∧ It i s'.heap ∧ s'.heap.PlainList s₂.heap.objs.size #[] ∧ (∃ mm, s'.heap.Ns cenv.locals mm)) s9 := by
        rintro _ rfl
        refine compLoop_in (fun m s' => ∃ j, m = es.length + 1 - j ∧ j ≤ es.length ∧ Kp s₁ s' ∧ It (i + 1) s'.heap ∧ It2 j s'.heap ∧ s'.heap.PlainList s₂.heap.objs.size #[] ∧ (∃ mm, s'.heap.Ns cenv.locals mm ∧ mm x = some v)) ?_ (es.length + 1)
          ⟨0, rfl, Nat.zero_le _, kp6.trans k68, W.frame _ _ _ hit6 fun b _ o e => k68.heap b o e, hst2, (by obtain ⟨e, he⟩ := hl6; exact ⟨e, k68.heap _ _ he⟩), (by obtain ⟨m6, h1, h2⟩ := hns6; exact ⟨m6, h1.keeps k68.heap, h2⟩)⟩
        rintro m2 t' ⟨j, rfl, hj, hkt, hita, hitb, hlt', ⟨mt, hnt, hmx⟩⟩
        -- what the inner iterator writes is none of ours
        have off1 : ∀ b o, t'.heap.get? b = some o → (∃ es k, o.data = .dict es k) ∨ (∃ xs k, o.data = .seq xs k) → b ∉ wr2 := fun b o ho hso hw => by
          obtain ⟨o1, fs, h1, h2⟩ := hwrf2 j _ hitb b hw
          rw [ho] at h1; cases h1
          rcases hso with ⟨_, _, q⟩ | ⟨_, _, q⟩ <;> (rw [h2] at q; cases q)
        have offC : cenv.locals ∉ wr2 := by
          obtain ⟨o, es', ep', h1, h2, _⟩ := hnt
          exact off1 _ o h1 (.inl ⟨_, _, h2⟩)
        have offD : s₂.heap.objs.size ∉ wr2 := by
          obtain ⟨e, he⟩ := hlt'
          exact off1 _ _ he (.inr ⟨_, _, rfl⟩)
        have offF : ∀ b ∈ fp, b ∉ wr2 := fun b hb hw => by
          obtain ⟨o, ho, _⟩ := hfps _ _ hit6 b hb
          have := k7.heap _ _ ho
          rw [hwr2 b hw] at this; cases this
        have offC2 : cenv.locals ∉ fp2 := fun hw => by
          obtain ⟨o, h1, h2, _⟩ := hfps2 j _ hitb _ hw
          obtain ⟨o', es', ep', h1', h2', _⟩ := hnt
          rw [h1'] at h1; cases h1
          exact h2 ⟨_, _, h2'⟩
        by_cases hltj : j < es.length
        · refine W2.item j _ _ _ hltj hitb fun v2 h3 tk3 hPv2 hst3 hkp3 => ?_
          dsimp only
          refine wpAny_assign_Name (wpAny_storeName_local hky (hnt.at' fun o e => hkp3 _ _ offC e) (fun h₄ hn₄ hs₄ => ?_) (by rw [hckind]; rfl))
          have hs₄' : Heap.SameBut cenv.locals h3 h₄ := hs₄
          generalize hs9e : ({ ({ t' with heap := h3, toks := tk3 } : Shared) with heap := h₄, toks := tk3 + 1 } : Shared) = s₉
          have hs9h : s₉.heap = h₄ := by rw [← hs9e]
          have kp9 : Kp s₁ s₉ := by
            rw [← hs9e]
            exact hkt.to (t := tk3 + 1) fun b o e => hs₄'.extBut b o (fun q => by rw [q, hfC] at e; cases e) (hkp3 b o (fun hw => by
              have := (kp6.trans k7).heap b o e
              rw [hwr2 b hw] at this; cases this) (hkt.heap b o e))
          obtain ⟨d2, hd2, hrd2⟩ := hP2 j v2 s₇.heap hltj hPv2 fun _ _ e => e
          have hdm2 := List.mem_of_getElem? hd2
          have hns9 : s₉.heap.Ns cenv.locals (fun z => if z = y then some v2 else mt z) := by rw [hs9h]; exact hn₄
          have hflat2 : Rep s₉.heap Any v2 d2 := hrd2.flat (hef d2 hdm2)
          have hRd9 : Rd prog mg mb fns cenv ((y, d2) :: (x, d) :: sc) s₉ := CI.rd s₉ [(y, d2), (x, d)] kp9 fun z dd hz => by
            rw [List.lookup_cons] at hz
            cases hzy : z == y with
            | true =>
              rw [hzy] at hz
              have := beq_iff_eq.mp hzy; subst this
              cases hz
              exact ⟨v2, .inl ⟨hky, _, hns9, by simp⟩, hflat2⟩
            | false =>
              rw [hzy, List.lookup_cons] at hz
              cases hzx : z == x with
              | true =>
                rw [hzx] at hz
                have := beq_iff_eq.mp hzx; subst this
                cases hz
                refine ⟨v, .inl ⟨hkx, _, hns9, ?_⟩, ?_⟩
                · simp only [hxy, if_false]; exact hmx
                · obtain ⟨d', hd', hr'⟩ := hP i v s₉.heap hlt hPv kp9.heap
                  rw [hd] at hd'; cases hd'
                  exact hr'
              | false => rw [hzx] at hz; cases hz
          show wpAny _ A (isTrue c cenv (eval c cenv)) _ _ s₉
          refine wpAny_at (hbody cenv CI.scope d hdm d2 hdm2 A s₉ rm hRd9) fun okb u q => ?_
          obtain ⟨ku, rfl⟩ := q
          refine ⟨rfl, es.length + 1 - (j + 1), by omega, j + 1, rfl, hltj, kp9.trans ku, ?_, ?_, ?_, ?_⟩
          · refine W.frame (i + 1) t'.heap _ hita fun b hb o e => ku.heap b o ?_
            rw [hs9h]
            exact hs₄'.extBut b o (fun h => hCf (h ▸ hb)) (hkp3 b o (offF b hb) e)
          · refine W2.frame (j + 1) h3 _ hst3 fun b hb o e => ku.heap b o ?_
            rw [hs9h]
            exact hs₄'.extBut b o (fun h => offC2 (h ▸ hb)) e
          · obtain ⟨e, he⟩ := hlt'
            exact ⟨e, ku.heap _ _ (by rw [hs9h]; exact hs₄'.extBut _ _ hDC (hkp3 _ _ offD he))⟩
          · exact ⟨_, hns9.keeps ku.heap, by simp only [hxy, if_false]; exact hmx⟩
        · have hin : j = es.length := Nat.le_antisymm hj (Nat.le_of_not_lt hltj)
          subst hin
          refine W2.done _ _ _ hitb fun h3 tk3 hkp3 => ?_
          refine ⟨⟨_, rfl⟩, ds.length + 1 - (i + 1), by omega, i + 1, rfl, hlt, ?_, ?_, ?_, ?_⟩
          · exact hkt.to fun b o e => hkp3 b o (fun hw => by
              have := (kp6.trans k7).heap b o e
              rw [hwr2 b hw] at this; cases this) (hkt.heap b o e)
          · exact W.frame (i + 1) t'.heap _ hita fun b hb o e => hkp3 b o (offF b hb) e
          · obtain ⟨e, he⟩ := hlt'
            exact ⟨e, hkp3 _ _ offD he⟩
          · exact ⟨mt, hnt.at' fun o e => hkp3 _ o offC e⟩
      exact compStart_two (inner _ rfl) (W2.self 0 _ _ _ hst2 (inner _ rfl))
    · have hin : i = ds.length := Nat.le_antisymm hi (Nat.le_of_not_lt hlt)
      subst hin
      refine W.done _ _ _ hsti fun h' tk hkp => ?_
      have hkw : ∀ b o, b ∉ fp → s'.heap.get? b = some o → h'.get? b = some o := fun b o hb e => hkp b o (fun hw => hb (W.sub _ hw)) e
      refine ⟨mm, hns.at' fun o e => hkw _ _ hCf e, fun h'' hs'' => ?_⟩
      have hs3' : Heap.SameBut cenv.locals h' h'' := hs''
      refine ⟨k1.trans (hk.to (t := tk) fun b o e => hs3'.extBut b o (fun q => by rw [q, hfC] at e; cases e) (hkp b o (fun hw => by rw [hwr b hw] at e; cases e) (hk.heap b o e))), ?_⟩
      obtain ⟨e, he⟩ := hl
      exact .list (vs := []) (Fresh.back k1 (fresh2 _ (Nat.le_refl _))) ⟨e, hs3'.extBut _ _ hDC (hkw _ _ hDf he)⟩ .nil
  rw [hloc] at loop
  exact codeAny_compStart_list (loop _ rfl) (W.self 0 _ _ _ hst4 (loop _ rfl))
end
end Mine
end

-- LcU
section
open PySem PySem.W PyProof.Rows PySem.MeetsSeq PySem.SeqRoads2 PySem.SeqAt
set_option Elab.async false
set_option maxRecDepth 100000
set_option linter.unusedVariables false
set_option linter.unusedSimpArgs false
namespace Mine

section
variable {prog : Program} {w : World} {mg mb : Str → Option Value} {fns : List (Str × Nat × Addr × FuncData)} {s₀ : Shared} {n : Nat} {env : Env} {R : Flow → Shared → Prop} {sig sig' : Sto} {mu mu' : List Str}

/-- a comprehension whose value is stored at once -/
theorem use_tail {y : Str} {py : Pos} {B : Addr → Obj → Prop} {A : Around} {s : Shared} {l : List D} (X : St prog mg mb fns s₀ B No env sig mu s) (hy : Binds env y) (hm : ∀ z ∈ mu', z ≠ y ∧ z ∈ mu) (acc : Value) (C : Addr) (s' : Shared) (k : Kp s s') (hC : s.heap.get? C = none) (hns : ∃ m, s'.heap.Ns C m)
    (r : Rep s'.heap (fun a => Fresh s a ∧ a ≠ C) acc (.list l)) :
    compPost (model prog w) A (fun _ _ => False) (some (PySem.assign (.Name y py) env)) (fun _ s' => St prog mg mb fns s₀ B No env ((y, .list l) :: sig) mu' s') acc C (.ok .next) s' := by
  obtain ⟨m, hmC⟩ := hns
  show wpAny _ A (PySem.assign (.Name y py) env acc) _ _ s'
  have X1 := X.reserve k
  have hCB : ∀ o, ¬ B C o := fun o q => by have := X.base C o q; rw [hC] at this; cases this
  have hCL : C ≠ env.locals := by
    rintro rfl
    obtain ⟨mm, o1, _, _, h1, _⟩ := X.ns
    rw [hC] at h1; cases h1
  have hCc : ∀ z, env.cells.lookup z ≠ some C := fun z q => by
    obtain ⟨v, o1, h1, _⟩ := X.cells z C q
    rw [hC] at h1; cases h1
  refine wpAny_assign_Name (X1.store (G1 := Fresh s) (G2 := No) (mu' := mu') (r.keeps fun b o hb e => ⟨e, hb.1⟩) (fun _ g => g) (fun _ g => g.elim) hy (fun z hz => .inr (hm z hz)) fun s2 hk hk2 X2 => ?_)
  obtain ⟨oC, es, ep, h1, h2, h3⟩ := hmC
  have h1' := hk2 C oC h1 hCL (hCc y)
  exact ⟨m, ⟨oC, es, ep, h1', h2, h3⟩, fun h' hs' => X2.let (tk := s2.toks) hs' ⟨oC, h1', .inl ⟨_, _, h2⟩⟩ hCL hCc hCB⟩

/-- y = [elt for a, b in enumerate(tuple)] -/
theorem HX.compE {y : Str} {qy sp : Pos} {elt se : Expr} {scope : Scope} {p tp np ep : Pos} {kt : Nat} {a b : Str} {pa pb : Pos} {ds res : List D} {sc : Sto}
    (ok : CompOk env sig scope sc) (hcell : ∀ z ∈ scope.names, z.2 ≠ .cell) (ha : scope.names.lookup a = some .local) (hb : scope.names.lookup b = some .local) (hab : a ≠ b)
    (hse : EV prog w mg mb fns n env sig se (.tup ds)) (hz : ds.length ≤ 100) (hlen : res.length = ds.length) (hrf : ∀ d ∈ res, d.flat = true) (hkr : env.kindOf "enumerate" = some .globalImplicit)
    (hbody : ∀ cenv : Env, cenv.scope = relabel scope env → ∀ i d e, ds[i]? = some d → res[i]? = some e → EV prog w mg mb fns n cenv ((b, d) :: (a, .int (i : Nat)) :: sc) elt e)
    (hy : Binds env y) (hm : ∀ z ∈ mu', z ≠ y ∧ z ∈ mu)
    (hsw : swapsWith (.ListComp elt [⟨.Tuple [.Name a pa, .Name b pb] kt tp, .Call (.Name "enumerate" np) [se] [] ep, [], 0⟩] scope p) (some (.Name y qy)) sp.line env = pure true := by first | kernel_rfl! | rfl)
    (hs : ∀ x, foldedSetIterable (.Call (.Name "enumerate" np) [se] [] ep) env x = pure x := by intro _; first | kernel_rfl! | rfl)
    (hpl : (starEach [se] env).any (·.1) = false := by first | kernel_rfl! | rfl) (hst : starEach [se] env = (false, eval se env) :: starEach [] env := by first | exact star_name | exact star_const | exact star_bin | exact star_call | exact star_sub | exact star_list | kernel_rfl! | rfl)
    (he : eval (.Call (.Name "enumerate" np) [se] [] ep) env = (do callWith ep (← eval (.Name "enumerate" np) env) [] (backTo ep (starEach [se] env)) (backToKw ep (keywordEach [] env))) := by first | kernel_rfl! | rfl) :
    HX prog w mg mb fns s₀ n env R (.Assign [.Name y qy] (.ListComp elt [⟨.Tuple [.Name a pa, .Name b pb] kt tp, .Call (.Name "enumerate" np) [se] [] ep, [], 0⟩] scope p) sp) sig mu ((y, .list res) :: sig) mu' := fun B A s rm X => by
  rw [exec_Assign_Name_used _ _ _ _ hsw]
  refine wpAny_bind (wpAny_standAt (wpAny_bind ?_))
  show wpAny _ A (do let _ ← comprehension (.ListComp elt [⟨.Tuple [.Name a pa, .Name b pb] kt tp, .Call (.Name "enumerate" np) [se] [] ep, [], 0⟩] scope p) scope env _ (newList []) false (eval (.Call (.Name "enumerate" np) [se] [] ep) env) (some (PySem.assign (.Name y qy) env))) _ _ s
  exact wpAny_bind (wpAny_at (compE_core (use := some (PySem.assign (.Name y qy) env)) (Q := fun _ s' => St prog mg mb fns s₀ B No env ((y, .list res) :: sig) mu' s') ok hcell ha hb hab hse hz hlen hrf hkr hbody rm X.rd (fun acc C s' k hC hns r => use_tail X hy hm acc C s' k hC hns r) hs hpl hst he) fun _ s' X' => wpAny_pure (wpAny_pure (.inl ⟨rfl, X'⟩)))

theorem TV.neNil {l r : Expr} {p : Pos} (h1 : EV prog w mg mb fns n env sig l (.list [])) (h2 : EV prog w mg mb fns n env sig r (.list [])) (hm : behindInMarks .NotEq r = false := by with_unfolding_all rfl) :
    TV prog w mg mb fns n env sig (.Compare l [.NotEq] [r] p) false := fun A s rm R =>
  wpAny_isTrue_Compare1 (wpAny_at (h1 A s rm R) fun v1 s1 q1 => wpAny_at (h2 A s1 rm (R.keeps _ _ _ _ q1.1)) fun v2 s2 q2 => by
    have r1 := q1.2.up q2.1
    have r2 := q2.2
    have k := q1.1.trans q2.1
    cases r1 with
    | @list a vs _ _ hl rs =>
      cases rs
      cases r2 with
      | @list b us _ _ hl2 rs2 =>
        cases rs2
        refine ne_intsK (ns := []) (ms := []) hl.isList .nil hl2.isList .nil (by have := rm.units; show A.units + 64 < 9900; omega) ?_
        exact wpAny_truthy_bool ⟨k, by simp⟩) hm

/-- x = sorted(texts) -/
theorem HS.sorted {x : Str} {px p np cp : Pos} {e : Expr} {ss : List Str} {rest : List Stmt} (h : EV prog w mg mb fns n env sig e (.list (ss.map .str))) (h64 : ss.length < 64) (hx : Binds env x) (hm : ∀ y ∈ mu, y ≠ x)
    (hk : env.kindOf "sorted" = some .globalImplicit)
    (hrest : ∀ ss' : List Str, ss'.Perm ss → sortedS ss' = true → HS prog w mg mb fns s₀ n env R rest ((x, .list (ss'.map .str)) :: sig) mu sig' mu')
    (hpl : (starEach [e] env).any (·.1) = false := by first | kernel_rfl! | rfl) (hst : starEach [e] env = (false, eval e env) :: starEach [] env := by first | exact star_name | exact star_const | exact star_bin | exact star_call | exact star_sub | exact star_list | kernel_rfl! | rfl)
    (he : eval (.Call (.Name "sorted" np) [e] [] cp) env = (do callWith cp (← eval (.Name "sorted" np) env) [] (backTo cp (starEach [e] env)) (backToKw cp (keywordEach [] env))) := by first | kernel_rfl! | rfl)
    (hs : swapsWith (.Call (.Name "sorted" np) [e] [] cp) (some (.Name x px)) p.line env = pure false := by first | kernel_rfl! | rfl) :
    HS prog w mg mb fns s₀ n env R (.Assign [.Name x px] (.Call (.Name "sorted" np) [e] [] cp) p :: rest) sig mu sig' mu' := fun B A s rm X =>
  wpAny_execs_cons (wpAny_Assign_Name (by
    rw [he]
    refine wpAny_bind (nameBuiltin X.rd hk (by decide) boot_sorted ?_)
    refine Calls.callWith_builtin (backTo_plain hpl) (evalArgs_spliced (wpAny_at ((EVS.cons h EVS.nil hst) A s rm X.rd) fun vs s2 q2 => ?_) (backTo_plain hpl))
    obtain ⟨k2, r⟩ := q2
    cases r with
    | cons r rs =>
      cases rs
      refine wpAny_at (callSorted r h64) fun v s3 q3 => ?_
      obtain ⟨k3, ss', hp, hso, r3⟩ := q3
      have k := k2.trans k3
      exact (X.reserve k).store (mu' := mu) (r3.back k2) (fun _ g => g) (fun _ g => g.elim) hx (fun y hy => .inr ⟨hm y hy, hy⟩) fun s4 _ _ X4 => hrest ss' hp hso B A s4 rm X4) hs)

theorem free_n {sig : Sto} {env : Env} : ∀ x ∈ ([] : List (Str × NameKind)), x.2 = .free → env.kindOf x.1 = some .cell ∧ ∃ d, sig.lookup x.1 = some d := fun _ h => by cases h
theorem free_l {sig : Sto} {env : Env} {x : Str} {k : NameKind} {r : List (Str × NameKind)} (hk : k ≠ .free) (h : ∀ x ∈ r, x.2 = .free → env.kindOf x.1 = some .cell ∧ ∃ d, sig.lookup x.1 = some d) :
    ∀ y ∈ (x, k) :: r, y.2 = .free → env.kindOf y.1 = some .cell ∧ ∃ d, sig.lookup y.1 = some d := fun y hy hf => by
  rcases List.mem_cons.mp hy with rfl | hy
  · exact absurd hf hk
  · exact h y hy hf
theorem free_f {sig : Sto} {env : Env} {x : Str} {d : D} {r : List (Str × NameKind)} (h1 : env.kindOf x = some .cell) (h2 : sig.lookup x = some d) (h : ∀ x ∈ r, x.2 = .free → env.kindOf x.1 = some .cell ∧ ∃ d, sig.lookup x.1 = some d) :
    ∀ y ∈ (x, NameKind.free) :: r, y.2 = .free → env.kindOf y.1 = some .cell ∧ ∃ d, sig.lookup y.1 = some d := fun y hy hf => by
  rcases List.mem_cons.mp hy with rfl | hy
  · exact ⟨h1, d, h2⟩
  · exact h y hy hf
theorem seen_n {sig : Sto} {names : List (Str × NameKind)} : ∀ p ∈ ([] : Sto), names.lookup p.1 = some .free ∧ (∀ q ∈ names, q.1 = p.1 → q.2 = .free) ∧ sig.lookup p.1 = some p.2 := fun _ h => by cases h
theorem seen_c {sig sc : Sto} {names : List (Str × NameKind)} {x : Str} {d : D} (h1 : names.lookup x = some .free) (h2 : ∀ q ∈ names, q.1 = x → q.2 = .free) (h3 : sig.lookup x = some d) (h : ∀ p ∈ sc, names.lookup p.1 = some .free ∧ (∀ q ∈ names, q.1 = p.1 → q.2 = .free) ∧ sig.lookup p.1 = some p.2) :
    ∀ p ∈ (x, d) :: sc, names.lookup p.1 = some .free ∧ (∀ q ∈ names, q.1 = p.1 → q.2 = .free) ∧ sig.lookup p.1 = some p.2 := fun p hp => by
  rcases List.mem_cons.mp hp with rfl | hp
  · exact ⟨h1, h2, h3⟩
  · exact h p hp
end
end Mine
end

-- LcV
section
open PySem PySem.W PyProof.Rows PySem.MeetsSeq PySem.SeqRoads2 PySem.SeqAt
set_option Elab.async false
set_option maxRecDepth 100000
set_option maxHeartbeats 1000000
set_option linter.unusedVariables false
set_option linter.unusedSimpArgs false
namespace Mine

def wordsL : List Str := ["a", "bo", "cat", "do", "eel", "fo", "gnu", "h"]
def tailTab : List Str := [":bo\nbo.do", ": a.bo: do", "\na.bo: h\na.cat", ""]
def seedsL : List Int := [0, 16, 24, 10, 17, 27, 11, 18]
def wd (k : Nat) : Str := wordsL.getD k ""

/-- the draws of a script -/
def drawsL (ns : List Int) : List Int := (List.range 8).map fun i => (seedsL.getD i 0 + (dpick (dpick ns none (some 60) none) (some (i : Int)) none (some 8)).sum).fmod 1000000


section
variable {w : World} {mg mb : Str → Option Value} {fns : List (Str × Nat × Addr × FuncData)} {n : Nat} {s₀ : Shared}

def LawEnv (scope : Scope) (env : Env) : Prop := env.scope = scope ∧ ∀ x, scope.names.lookup x = some .cell → ∃ c, env.cells.lookup x = some c

theorem flat_ints {l : List Int} : ∀ d ∈ l.map D.int, d.flat = true := fun d hd => by obtain ⟨x, _, rfl⟩ := List.mem_map.mp hd; rfl
theorem flat_strs {l : List Str} : ∀ d ∈ l.map D.str, d.flat = true := fun d hd => by obtain ⟨x, _, rfl⟩ := List.mem_map.mp hd; rfl

def sg4 (dr : List Int) : Sto := [("draws", .list (dr.map .int)), ("words", .tup (wordsL.map .str))]

theorem law_1 {args : Arguments} {body : List Stmt} {scope : Scope} (hdef : defAt pg 9 = some (args, body, scope)) {env : Env} {ns : List Int} {R : Flow → Shared → Prop} (le : LawEnv scope env) (hn : ns.length ≤ 63)
    (h : HS pg w mg mb fns s₀ n env R (body.drop 5) (("paths", .list [.str "a"]) :: ("parents", .list [.int 0]) :: sg4 (drawsL ns)) ["paths", "parents"] [] [""]) :
    HS pg w mg mb fns s₀ n env R body [("script", .list (ns.map .int))] [] [] [""] := by
  have hlit : defAt pg 9 = some (_, _, _) := rfl
  rw [hlit] at hdef
  cases hdef
  obtain ⟨sc, L, gl, cl, q, fn, cd, fr, bu⟩ := env
  obtain ⟨he, hcl⟩ := le
  simp only at he hcl
  subst he
  refine HS.cons (HX.assign (mu' := []) (EVF.slice (EV.name (hl := rfl)) flat_ints PART.none (PART.some EVF.int.any) PART.none (by simp) (by simp; exact Nat.le_trans hn (by decide))) (.inr ⟨rfl, hcl _ rfl⟩) (fun _ h => by cases h)) ?_
  rw [dpick_map]
  refine HS.cons (HX.assign (mu' := []) (EVF.tup (EVSF.cons EVF.int (EVSF.cons EVF.int (EVSF.cons EVF.int (EVSF.cons EVF.int (EVSF.cons EVF.int (EVSF.cons EVF.int (EVSF.cons EVF.int (EVSF.cons EVF.int EVSF.nil))))))))) (.inl rfl) (fun _ h => by cases h)) ?_
  refine HS.cons (HX.compE (mu' := []) (res := (drawsL ns).map .int) (sc := [("numbers", .list ((dpick ns none (some 60) none).map .int))]) ⟨rfl, free_l (by decide) (free_l (by decide) (free_l (by decide) (free_l (by decide) (free_f rfl rfl free_n)))), seen_c rfl (by decide) rfl seen_n, by decide⟩ (by decide) rfl rfl (by decide) (EV.name (hl := rfl)) (by simp) (by simp [drawsL]) flat_ints rfl ?_ (.inl rfl) (fun _ h => by cases h)) ?_
  · intro cenv hce i d e hd he
    obtain ⟨csc, cL, cgl, ccl, cq, cfn, ccd, cfr, cbu⟩ := cenv
    simp only at hce
    subst hce
    have hi : i < 8 := by
      rcases Nat.lt_or_ge i 8 with h | h
      · exact h
      · rw [List.getElem?_eq_none (by simpa using h)] at hd; cases hd
    have hde : d = .int (seedsL.getD i 0) := by
      have : ∀ j, j < 8 → ([D.int 0, .int 16, .int 24, .int 10, .int 17, .int 27, .int 11, .int 18] : List D)[j]? = some (.int (seedsL.getD j 0)) := by
        intro j hj
        match j, hj with
        | 0, _ => rfl
        | 1, _ => rfl
        | 2, _ => rfl
        | 3, _ => rfl
        | 4, _ => rfl
        | 5, _ => rfl
        | 6, _ => rfl
        | 7, _ => rfl
      rw [this i hi] at hd
      exact (Option.some.inj hd).symm
    have hee : e = .int ((seedsL.getD i 0 + (dpick (dpick ns none (some 60) none) (some (i : Int)) none (some 8)).sum).fmod 1000000) := by
      rw [List.getElem?_map] at he
      unfold drawsL at he
      rw [List.getElem?_map, List.getElem?_range hi] at he
      simpa using he.symm
    subst hde hee
    refine EV.bin (EV.bin (EV.name (hl := rfl)) (EVF.built (EVS.cons (EV.eq (EVF.slice (EV.name (hl := rfl)) flat_ints (PART.some (EV.name (hl := rfl))) PART.none (PART.some EVF.int.any) (by decide) ?_).any (by rw [dpick_map])) EVS.nil) CALLB.sum rfl (by decide) (by decide +kernel)).any BOP.add) EVF.int.any (BOP.mod (by decide))
    have h60 : dpick ns none (some 60) none = ns.take 60 := dpick_to ns 60
    rw [h60]
    simp only [List.length_map, List.length_take]
    exact Nat.le_trans (Nat.min_le_left _ _) (by decide)
  refine HS.cons (HX.assign (mu' := []) (EVF.tup (EVSF.cons EVF.str (EVSF.cons EVF.str (EVSF.cons EVF.str (EVSF.cons EVF.str (EVSF.cons EVF.str (EVSF.cons EVF.str (EVSF.cons EVF.str (EVSF.cons EVF.str EVSF.nil))))))))) (.inl rfl) (fun _ h => by cases h)) ?_
  refine HS.cons (HX.assign2 (EVF.list (EVSF.cons EVF.int EVSF.nil)) (EVF.list (EVSF.cons EVF.str EVSF.nil)) (by intro d hd; rw [List.mem_singleton.mp hd]; rfl) (by intro d hd; rw [List.mem_singleton.mp hd]; rfl) (.inr ⟨rfl, hcl _ rfl⟩) (.inr ⟨rfl, hcl _ rfl⟩) (by decide) (fun _ h => by cases h)) ?_
  exact HS.pre h (sub_cons rfl (sub_cons rfl (sub_cons rfl (sub_cons rfl sub_nil)))) (mu_cons (by simp) rfl (mu_cons (by simp) rfl mu_nil))
end
end Mine
end

-- LcW
section
open PySem PySem.W PyProof.Rows PySem.MeetsSeq PySem.SeqRoads2 PySem.SeqAt
set_option Elab.async false
set_option maxRecDepth 100000
set_option maxHeartbeats 1000000
set_option linter.unusedVariables false
set_option linter.unusedSimpArgs false
namespace Mine

/-- a row of n data -/
def tab (f : Nat → D) (n : Nat) : List D := (List.range n).map f
theorem tab_len {f : Nat → D} {n : Nat} : (tab f n).length = n := by simp [tab]
theorem tab_succ {f : Nat → D} {n : Nat} : tab f (n + 1) = tab f n ++ [f n] := by simp [tab, List.range_succ]
theorem tab_get {f : Nat → D} {n k : Nat} (h : k < n) : (tab f n)[k]? = some (f k) := by
  unfold tab; rw [List.getElem?_map, List.getElem?_range h]; rfl
theorem tab_getI {f : Nat → D} {n k : Nat} (h : k < n) : (tab f n)[((k : Nat) : Int).toNat]? = some (f k) := by
  rw [Int.toNat_natCast]; exact tab_get h
theorem tab_flat {f : Nat → D} {n : Nat} (h : ∀ k, (f k).flat = true) : ∀ d ∈ tab f n, d.flat = true := fun d hd => by
  obtain ⟨k, _, rfl⟩ := List.mem_map.mp hd; exact h k
theorem tab_congr {f g : Nat → D} {n : Nat} (h : ∀ k, k < n → f k = g k) : tab f n = tab g n := by
  unfold tab
  exact List.map_congr_left fun k hk => h k (List.mem_range.mp hk)
def onInt (g : Nat → D) : D → Option D
  | .int k => some (g k.toNat)
  | _ => none
theorem upFrom_onInt {g : Nat → D} {n : Nat} : (upFrom 0 n).filterMap (onInt g) = tab g n := by
  unfold upFrom tab
  rw [List.filterMap_map]
  have : (onInt g ∘ fun i : Nat => D.int (0 + (i : Int))) = fun i => some (g i) := by
    funext i; simp [onInt]
  rw [this, List.filterMap_eq_map']
theorem mem_upFrom {d : D} {n : Nat} (h : d ∈ upFrom 0 n) : ∃ k, k < n ∧ d = .int (k : Nat) := by
  unfold upFrom at h
  obtain ⟨k, hk, rfl⟩ := List.mem_map.mp h
  exact ⟨k, List.mem_range.mp hk, by simp⟩
theorem tab_filterMap {f : Nat → D} {n : Nat} {g : D → Option D} {f' : Nat → D} (h : ∀ k, k < n → g (f k) = some (f' k)) : (tab f n).filterMap g = tab f' n := by
  unfold tab
  rw [List.filterMap_map]
  have : ∀ l : List Nat, (∀ k ∈ l, k < n) → l.filterMap (g ∘ f) = l.map f' := by
    intro l hl
    induction l with
    | nil => rfl
    | cons a l ih => simp [h a (hl a (by simp)), ih fun k hk => hl k (by simp [hk])]
  exact this _ fun k hk => List.mem_range.mp hk
theorem mem_tab {f : Nat → D} {n : Nat} {d : D} (h : d ∈ tab f n) : ∃ k, k < n ∧ d = f k := by
  obtain ⟨k, hk, rfl⟩ := List.mem_map.mp h
  exact ⟨k, List.mem_range.mp hk, rfl⟩

/-- grown along the parents -/
def grow {α : Type} (p : Nat → Nat) (a0 : α) (st : α → Nat → α) : Nat → List α
  | 0 => []
  | n + 1 => grow p a0 st n ++ [if n = 0 then a0 else st ((grow p a0 st n).getD (p n) a0) n]
def gval {α : Type} (p : Nat → Nat) (a0 : α) (st : α → Nat → α) (k : Nat) : α := (grow p a0 st (k + 1)).getD k a0
theorem grow_len {α : Type} {p : Nat → Nat} {a0 : α} {st : α → Nat → α} : ∀ n, (grow p a0 st n).length = n
  | 0 => rfl
  | n + 1 => by simp [grow, grow_len n]
theorem grow_get {α : Type} {p : Nat → Nat} {a0 : α} {st : α → Nat → α} {k : Nat} : ∀ n, k < n → (grow p a0 st n).getD k a0 = gval p a0 st k
  | 0, h => absurd h (Nat.not_lt_zero _)
  | n + 1, h => by
    rcases Nat.lt_or_ge k n with hk | hk
    · rw [← grow_get n hk]
      simp only [grow, List.getD_eq_getElem?_getD]
      rw [List.getElem?_append_left (by rw [grow_len]; exact hk)]
    · have : k = n := by omega
      subst this; rfl
theorem gval_zero {α : Type} {p : Nat → Nat} {a0 : α} {st : α → Nat → α} : gval p a0 st 0 = a0 := by simp [gval, grow]
theorem gval_succ {α : Type} {p : Nat → Nat} {a0 : α} {st : α → Nat → α} {k : Nat} (h : p k < k) : gval p a0 st k = st (gval p a0 st (p k)) k := by
  rw [← grow_get k h]
  have hk : k ≠ 0 := by omega
  simp only [gval, grow, List.getD_eq_getElem?_getD]
  rw [List.getElem?_append_right (by rw [grow_len]; exact Nat.le_refl _), grow_len]
  simp [hk]

def parN (dr : List Int) (k : Nat) : Nat := if k = 0 then 0 else ((dr.getD k 0).fmod (k : Int)).toNat
def pathOf (p : Nat → Nat) : Nat → Str := gval p "a" fun s k => s ++ "." ++ wd k
theorem fmod_bounds (a : Int) {k : Nat} (h : 0 < k) : 0 ≤ a.fmod (k : Int) ∧ a.fmod (k : Int) < k :=
  ⟨Int.fmod_nonneg_of_pos a (by omega), Int.fmod_lt_of_pos a (by omega)⟩
theorem parN_lt {dr : List Int} {k : Nat} (h : 0 < k) : parN dr k < k := by
  unfold parN
  rw [if_neg (by omega)]
  have := fmod_bounds (dr.getD k 0) h
  omega
theorem parN_le {dr : List Int} {k : Nat} : parN dr k ≤ k := by
  rcases Nat.eq_zero_or_pos k with h | h
  · subst h; simp [parN]
  · exact Nat.le_of_lt (parN_lt h)
theorem parN_cast {dr : List Int} {k : Nat} (h : 0 < k) : ((parN dr k : Nat) : Int) = (dr.getD k 0).fmod (k : Int) := by
  unfold parN
  rw [if_neg (by omega)]
  have := fmod_bounds (dr.getD k 0) h
  omega
theorem wd_len (k : Nat) : (wd k).length ≤ 3 := by
  rcases Nat.lt_or_ge k 8 with h | h
  · have : ∀ j, j < 8 → (wd j).length ≤ 3 := by decide
    exact this k h
  · unfold wd
    rw [List.getD_eq_getElem?_getD, List.getElem?_eq_none (by simpa [wordsL] using h)]
    decide
theorem str_len_append (x y : Str) : (x ++ y).length = x.length + y.length := by
  obtain ⟨⟨xs⟩⟩ := x
  obtain ⟨⟨ys⟩⟩ := y
  show (Str.mk _).length = _
  simp [Str.length]
theorem path_len {p : Nat → Nat} (hp : ∀ k, 0 < k → p k < k) : ∀ k, (pathOf p k).length ≤ 1 + 4 * k := by
  intro k
  induction k using Nat.strongRecOn with
  | _ k ih =>
    rcases Nat.eq_zero_or_pos k with h | h
    · subst h; rw [pathOf, gval_zero]; decide
    · have h1 := hp k h
      rw [pathOf, gval_succ h1, str_len_append, str_len_append]
      have h2 := ih _ h1
      have h3 := wd_len k
      have h4 : ("." : Str).length = 1 := by decide
      unfold pathOf at h2
      omega

theorem draws_len {ns : List Int} : (drawsL ns).length = 8 := by simp [drawsL]
theorem words_get {k : Nat} (h : k < 8) : (wordsL.map D.str)[((k : Nat) : Int).toNat]? = some (.str (wd k)) := by
  rw [Int.toNat_natCast, List.getElem?_map]
  have : wordsL[k]? = some (wd k) := by
    unfold wd
    rw [List.getD_eq_getElem?_getD, List.getElem?_eq_getElem (by simpa [wordsL] using h)]; rfl
  rw [this]; rfl
theorem draws_get {ns : List Int} {k : Nat} (h : k < 8) : ((drawsL ns).map D.int)[((k : Nat) : Int).toNat]? = some (.int ((drawsL ns).getD k 0)) := by
  rw [Int.toNat_natCast, List.getElem?_map]
  rw [List.getD_eq_getElem?_getD, List.getElem?_eq_getElem (by rw [draws_len]; exact h)]; rfl

section
variable {w : World} {mg mb : Str → Option Value} {fns : List (Str × Nat × Addr × FuncData)} {n : Nat} {s₀ : Shared}

def parD (p : Nat → Nat) (k : Nat) : D := .int (p k : Nat)
def pathD (p : Nat → Nat) (k : Nat) : D := .str (pathOf p k)
def sg5 (p : Nat → Nat) (dr : List Int) (i : Nat) : Sto := ("paths", .list (tab (pathD p) (i + 1))) :: ("parents", .list (tab (parD p) (i + 1))) :: sg4 dr

theorem law_2 {args : Arguments} {body : List Stmt} {scope : Scope} (hdef : defAt pg 9 = some (args, body, scope)) {env : Env} {ns : List Int} {R : Flow → Shared → Prop} (le : LawEnv scope env)
    (h : HS pg w mg mb fns s₀ n env R (body.drop 6) (sg5 (parN (drawsL ns)) (drawsL ns) 7) [] [] [""]) :
    HS pg w mg mb fns s₀ n env R (body.drop 5) (("paths", .list [.str "a"]) :: ("parents", .list [.int 0]) :: sg4 (drawsL ns)) ["paths", "parents"] [] [""] := by
  have hlit : defAt pg 9 = some (_, _, _) := rfl
  rw [hlit] at hdef
  cases hdef
  obtain ⟨sc, L, gl, cl, q, fn, cd, fr, bu⟩ := env
  obtain ⟨he, hcl⟩ := le
  simp only at he hcl
  subst he
  generalize hdr : drawsL ns = dr at *
  have hg : ∀ k, k < 8 → (dr.map D.int)[((k : Nat) : Int).toNat]? = some (.int (dr.getD k 0)) := fun k hk => by rw [← hdr]; exact draws_get hk
  have hp : ∀ k, 0 < k → parN dr k < k := fun k hk => parN_lt hk
  refine HS.cons (HX.for (mu := ["paths", "parents"]) (ds := upFrom 1 7) (fun i => sg5 (parN dr) dr i) (IT.range2 (a := 1) (k := 7) EVF.int.any EVF.int.any (by decide) (by decide) rfl) (by intro h; cases h) upFrom_flat (.inl rfl) (by decide) ?_) ?_
  · intro i d hd
    obtain ⟨rfl, hi⟩ := upFrom_get hd
    have e1 : (1 : Int) + (i : Nat) = ((i + 1 : Nat) : Int) := by omega
    rw [e1]
    refine HS.cons (HX.append (l := tab (parD (parN dr)) (i + 1)) (d := parD (parN dr) (i + 1)) rfl (by decide) (EV.eq (EV.bin (EV.item (EV.name (hl := rfl)) (EV.name (hl := rfl)) (by omega) (hg _ (by omega)) (by omega)) (EV.name (hl := rfl)) (BOP.mod (by omega))) (by rw [parD, parN_cast (by omega)])) rfl (by rw [tab_len]; omega)) ?_
    rw [← tab_succ]
    refine HS.cons (HX.append (l := tab (pathD (parN dr)) (i + 1)) (d := pathD (parN dr) (i + 1)) rfl (by decide) (EV.eq (EV.bin (EV.bin (EV.item (EV.name (hl := rfl)) (EV.item (EV.name (hl := rfl)) (EV.name (hl := rfl)) (by omega) (tab_getI (by omega)) (by omega)) (by omega) (tab_getI (Nat.lt_of_lt_of_le (hp (i + 1) (by omega)) (by omega))) (by have := hp (i + 1) (by omega); omega)) EVF.str.any (BOP.cat ?_)) (EV.titem (EV.name (hl := rfl)) (EV.name (hl := rfl)) (by omega) (words_get (by omega)) (by omega)) (BOP.cat ?_)) ?_) rfl (by rw [tab_len]; omega)) ?_
    · have h1 := path_len hp (parN dr (i + 1))
      have h2 := hp (i + 1) (by omega)
      rw [str_len_append]
      have h4 : ("." : Str).length = 1 := by decide
      have : (1000 : Nat) ≤ sizeLine := by decide
      omega
    · have h1 := path_len hp (parN dr (i + 1))
      have h2 := hp (i + 1) (by omega)
      rw [str_len_append, str_len_append]
      have h4 : ("." : Str).length = 1 := by decide
      have h5 := wd_len (i + 1)
      have : (1000 : Nat) ≤ sizeLine := by decide
      omega
    · rw [pathD, pathOf, gval_succ (hp (i + 1) (by omega))]
    rw [← tab_succ]
    exact HS.nilw (sub_cons rfl (sub_cons rfl (sub_cons rfl (sub_cons rfl sub_nil)))) (mu_cons (by simp) rfl (mu_cons (by simp) rfl mu_nil))
  · rw [upFrom_len]
    exact HS.pre h (fun _ _ h => h) (fun _ h => by cases h)
end
end Mine
end

-- LcX
section
open PySem PySem.W PyProof.Rows PySem.MeetsSeq PySem.SeqRoads2 PySem.SeqAt
set_option Elab.async false
set_option maxRecDepth 100000
set_option maxHeartbeats 1000000
set_option linter.unusedVariables false
set_option linter.unusedSimpArgs false
namespace Mine

def parL (p : Nat → Nat) : List Int := (List.range 8).map fun k => (p k : Int)
theorem parL_tab {p : Nat → Nat} : tab (parD p) 8 = (parL p).map .int := by
  unfold tab parL parD; rw [List.map_map]; rfl
def upL (p : Nat → Nat) (k : Nat) : List Int := rows (parL p) k k
def upD (p : Nat → Nat) (k : Nat) : D := .list ((upL p k).map .int)
def tailOf (dr : List Int) (k : Nat) : Str := tailTab.getD (((dr.getD k 0).fdiv 8).fmod 4).toNat ""
def strD (f : Nat → Str) (k : Nat) : D := .str (f k)
def lineOf (p : Nat → Nat) (ta : Nat → Str) (k : Nat) : Str := pathOf p k ++ ta k
def onStr (g : Str → D) : D → Option D
  | .str s => some (g s)
  | _ => none
def onI (g : Int → D) : D → Option D
  | .int s => some (g s)
  | _ => none

structure LawFns (fns : List (Str × Nat × Addr × FuncData)) : Prop where
  up : ∃ f fd, (("_law_upward" : Str), 8, f, fd) ∈ fns
  em : ∃ f fd, (("_ellipsis_match" : Str), 5, f, fd) ∈ fns
  st : ∃ f fd, (("_strip_exception_details" : Str), 6, f, fd) ∈ fns
  hb : ∃ f fd, (("_high_bit" : Str), 2, f, fd) ∈ fns
  sb : ∃ f fd, (("_is_single_bit" : Str), 1, f, fd) ∈ fns

def sg9 (p : Nat → Nat) (ta : Nat → Str) : Sto := [("names", .list (tab (strD wd) 8)), ("lines", .list (tab (strD (lineOf p ta)) 8)), ("tails", .list (tab (strD ta) 8)), ("upward", .list (tab (upD p) 8)), ("paths", .list (tab (pathD p) 8)), ("parents", .list (tab (parD p) 8)), ("words", .tup (wordsL.map .str))]

theorem tail_len (dr : List Int) (k : Nat) : (tailOf dr k).length ≤ 20 := by
  unfold tailOf
  have : ∀ j, j < 4 → (tailTab.getD j "").length ≤ 20 := by decide
  rcases Nat.lt_or_ge ((((dr.getD k 0).fdiv 8).fmod 4).toNat) 4 with h | h
  · exact this _ h
  · rw [List.getD_eq_getElem?_getD, List.getElem?_eq_none (by simpa [tailTab] using h)]; decide

theorem tail_get (a : Int) : ([D.str ":bo\nbo.do", .str ": a.bo: do", .str "\na.bo: h\na.cat", .str ""] : List D)[(((a.fdiv 8).fmod 4)).toNat]? = some (.str (tailTab.getD ((a.fdiv 8).fmod 4).toNat "")) := by
  have h : 0 ≤ (a.fdiv 8).fmod 4 ∧ (a.fdiv 8).fmod 4 < 4 := fmod_bounds (a.fdiv 8) (k := 4) (by decide)
  have : ∀ j, j < 4 → ([D.str ":bo\nbo.do", .str ": a.bo: do", .str "\na.bo: h\na.cat", .str ""] : List D)[j]? = some (.str (tailTab.getD j "")) := by
    intro j hj
    match j, hj with
    | 0, _ => rfl
    | 1, _ => rfl
    | 2, _ => rfl
    | 3, _ => rfl
  exact this _ (by omega)

section
variable {w : World} {mg mb : Str → Option Value} {fns : List (Str × Nat × Addr × FuncData)} {n : Nat} {s₀ : Shared}

theorem law_3 {args : Arguments} {body : List Stmt} {scope : Scope} (hdef : defAt pg 9 = some (args, body, scope)) {env : Env} {dr : List Int} {R : Flow → Shared → Prop} (le : LawEnv scope env) (F : LawFns fns) (hdl : dr.length = 8)
    (hst : ∀ k, k < 8 → stripD (lineOf (parN dr) (tailOf dr) k) = wd k)
    (h : HS pg w mg mb fns s₀ (n + 1) env R (body.drop 10) (sg9 (parN dr) (tailOf dr)) [] [] [""]) :
    HS pg w mg mb fns s₀ (n + 1) env R (body.drop 6) (sg5 (parN dr) dr 7) [] [] [""] := by
  have hlit : defAt pg 9 = some (_, _, _) := rfl
  rw [hlit] at hdef
  cases hdef
  obtain ⟨sc, L, gl, cl, q, fn, cd, fr, bu⟩ := env
  obtain ⟨he, hcl⟩ := le
  simp only at he hcl
  subst he
  obtain ⟨fu, fdu, hfu⟩ := F.up
  obtain ⟨fs, fds, hfs⟩ := F.st
  have hll : ∀ k, k < 8 → (lineOf (parN dr) (tailOf dr) k).length ≤ 100 := fun k hk => by
    unfold lineOf
    rw [str_len_append]
    have h1 := path_len (p := parN dr) (fun k hk => parN_lt hk) k
    have h2 := tail_len dr k
    omega
  generalize hp : parN dr = p at *
  generalize hta : tailOf dr = ta at *
  have hpl : ∀ k, p k ≤ k := fun k => by rw [← hp]; exact parN_le
  unfold sg5
  refine HS.cons (HX.assign (mu' := []) (EVF.eq (EVF.comp (onInt (upD p)) (ds := upFrom 0 8) (sc := [("parents", .list (tab (parD p) 8))]) ⟨rfl, free_l (by decide) (free_l (by decide) (free_l (by decide) (free_f rfl rfl free_n))), seen_c rfl (by decide) rfl seen_n, by decide⟩ (.inl rfl) (IT.range1 EVF.int.any (by decide) rfl) (by rw [upFrom_len]; decide) ?_) (by rw [upFrom_onInt])) (.inr ⟨rfl, hcl _ rfl⟩) (fun _ h => by cases h)) ?_
  · intro cenv hce d hd
    obtain ⟨csc, cL, cgl, ccl, cq, cfn, ccd, cfr, cbu⟩ := cenv
    simp only at hce
    subst hce
    obtain ⟨k, hk, rfl⟩ := mem_upFrom hd
    refine ⟨true, TESTS.nil, fun _ => ⟨upD p k, by simp [onInt], ?_⟩, fun h => by cases h⟩
    refine EVF.call hfu (EVS.cons (EV.name (hl := rfl)) (EVS.cons (EV.name (hl := rfl)) EVS.nil)) ?_ rfl
    rw [parL_tab]
    refine upward_ok hfu (by simpa [parL] using hk) ?_ (by simp [parL])
    intro j x hx
    unfold parL at hx
    rw [List.getElem?_map] at hx
    rcases Nat.lt_or_ge j 8 with hj | hj
    · rw [List.getElem?_range hj] at hx
      have hx : (p j : Int) = x := by simpa using hx
      have := hpl j
      omega
    · rw [List.getElem?_eq_none (by simpa using hj)] at hx; cases hx
  refine HS.cons (HX.assign (mu' := []) (EVF.eq (b' := .list (tab (strD ta) 8)) (EVF.comp (onI fun a => .str (tailTab.getD ((a.fdiv 8).fmod 4).toNat "")) (ds := dr.map .int) (sc := []) ⟨rfl, free_l (by decide) (free_l (by decide) free_n), seen_n, by decide⟩ (.inl rfl) (IT.list (EV.name (hl := rfl))) (by rw [List.length_map, hdl]; decide) ?_) ?_) (.inr ⟨rfl, hcl _ rfl⟩) (fun _ h => by cases h)) ?_
  · intro cenv hce d hd
    obtain ⟨csc, cL, cgl, ccl, cq, cfn, ccd, cfr, cbu⟩ := cenv
    simp only at hce
    subst hce
    obtain ⟨a, ha, rfl⟩ := List.mem_map.mp hd
    refine ⟨true, TESTS.nil, fun _ => ⟨_, rfl, ?_⟩, fun h => by cases h⟩
    refine EV.fr (EV.titem (EVF.tup (EVSF.cons EVF.str (EVSF.cons EVF.str (EVSF.cons EVF.str (EVSF.cons EVF.str EVSF.nil))))).any (EV.bin (EV.bin (EV.name (hl := rfl)) EVF.int.any (BOP.fdiv (by decide) (PyProof.noPylong_small (by decide)))) EVF.int.any (BOP.mod (by decide))) ?_ (tail_get a) ?_)
    · exact (fmod_bounds (a.fdiv 8) (k := 4) (by decide)).1
    · have := (fmod_bounds (a.fdiv 8) (k := 4) (by decide)).2
      have h2 : ((4 : Nat) : Int) = 4 := rfl
      rw [h2] at this
      exact Int.lt_trans this (by decide)
  · rw [← hta]
    have : ∀ l : List Int, (l.map D.int).filterMap (onI fun a => .str (tailTab.getD ((a.fdiv 8).fmod 4).toNat "")) = l.map fun a => .str (tailTab.getD ((a.fdiv 8).fmod 4).toNat "") := by
      intro l
      rw [List.filterMap_map]
      exact congrFun (List.filterMap_eq_map' (f := fun a : Int => D.str (tailTab.getD ((a.fdiv 8).fmod 4).toNat ""))) l
    rw [this]
    congr 1
    refine List.ext_getElem? fun i => ?_
    rcases Nat.lt_or_ge i 8 with hi | hi
    · rw [tab_get hi, List.getElem?_map, List.getElem?_eq_getElem (by omega)]
      simp only [strD, tailOf, List.getD_eq_getElem?_getD]
      rw [List.getElem?_eq_getElem (by omega : i < dr.length)]
      rfl
    · rw [List.getElem?_eq_none (by rw [List.length_map]; omega), List.getElem?_eq_none (by rw [tab_len]; omega)]
  refine HS.cons (HX.assign (mu' := []) (EVF.eq (EVF.comp (onInt (strD (lineOf p ta))) (ds := upFrom 0 8) (sc := [("paths", .list (tab (pathD p) 8)), ("tails", .list (tab (strD ta) 8))]) ⟨rfl, free_l (by decide) (free_l (by decide) (free_f rfl rfl (free_f rfl rfl free_n))), seen_c rfl (by decide) rfl (seen_c rfl (by decide) rfl seen_n), by decide⟩ (.inl rfl) (IT.range1 EVF.int.any (by decide) rfl) (by rw [upFrom_len]; decide) ?_) (by rw [upFrom_onInt])) (.inr ⟨rfl, hcl _ rfl⟩) (fun _ h => by cases h)) ?_
  · intro cenv hce d hd
    obtain ⟨csc, cL, cgl, ccl, cq, cfn, ccd, cfr, cbu⟩ := cenv
    simp only at hce
    subst hce
    obtain ⟨k, hk, rfl⟩ := mem_upFrom hd
    refine ⟨true, TESTS.nil, fun _ => ⟨strD (lineOf p ta) k, by simp [onInt], ?_⟩, fun h => by cases h⟩
    exact EVF.bin (EV.item (EV.name (hl := rfl)) (EV.name (hl := rfl)) (by omega) (tab_getI hk) (by omega)) (EV.item (EV.name (hl := rfl)) (EV.name (hl := rfl)) (by omega) (tab_getI hk) (by omega)) (BOP.cat (Nat.le_trans (hll k hk) (by decide)))
  refine HS.cons (HX.comp (mu' := []) (onStr fun s => .str (stripD s)) (ds := tab (strD (lineOf p ta)) 8) (sc := []) ⟨rfl, free_l (by decide) (free_l (by decide) (free_l (by decide) free_n)), seen_n, by decide⟩ (.inl rfl) (IT.list (EV.name (hl := rfl))) (by rw [tab_len]; decide) ?_ (.inl rfl) (fun _ h => by cases h)) ?_
  · intro cenv hce d hd
    obtain ⟨csc, cL, cgl, ccl, cq, cfn, ccd, cfr, cbu⟩ := cenv
    simp only at hce
    subst hce
    obtain ⟨k, hk, rfl⟩ := mem_tab hd
    refine ⟨true, TESTS.nil, fun _ => ⟨_, rfl, ?_⟩, fun h => by cases h⟩
    exact EVF.call hfs (EVS.cons (EV.name (hl := rfl)) EVS.nil) (strip_ok hfs (Nat.le_trans (hll k hk) (by decide))) rfl
  have e : (tab (strD (lineOf p ta)) 8).filterMap (onStr fun s => .str (stripD s)) = tab (strD wd) 8 := tab_filterMap fun k hk => by
    show some (D.str (stripD (lineOf p ta k))) = _
    rw [hst k hk]; rfl
  rw [e]
  exact HS.pre h (sub_cons rfl (sub_cons rfl (sub_cons rfl (sub_cons rfl (sub_cons rfl (sub_cons rfl (sub_cons rfl sub_nil))))))) mu_nil
end
end Mine
end

-- LcY
section
open PySem PySem.W PyProof.Rows PySem.MeetsSeq PySem.SeqRoads2 PySem.SeqAt
set_option Elab.async false
set_option maxRecDepth 100000
set_option maxHeartbeats 1000000
set_option linter.unusedVariables false
set_option linter.unusedSimpArgs false
namespace Mine

/-- the pattern has one gap -/
def EmOk (want w0 w1 : Str) : Prop := want.length ≤ 1000 ∧ w0.length ≤ 1000 ∧ w1.length ≤ 1000 ∧ (Builtin.Str.occurrences want "..." 0 want.length 1).isEmpty = false ∧
  (Builtin.Str.partsBetween want (Builtin.Str.occurrences want "..." 0 want.length (want.length + 1)) 3).length ≤ 1000 ∧ Txt.split want "..." = [w0, w1]
def ending (ta : Nat → Str) (v : Nat) : Str := ("." ++ wd v) ++ ta v

/-- what the strings of the tree do -/
structure StrFacts (p : Nat → Nat) (ta : Nat → Str) : Prop where
  par : ∀ k, 0 < k → p k < k
  line : ∀ k, k < 8 → (lineOf p ta k).length ≤ 100
  tail : ∀ k, k < 8 → (ta k).length ≤ 20
  ok1 : ∀ u, u < 8 → EmOk (pathOf p u ++ "...") (pathOf p u) ""
  em1 : ∀ u v, u < 8 → v < 8 → em (pathOf p u) "" (lineOf p ta v) = (upL p v).contains (u : Int)
  ok2 : ∀ u v, u < 8 → 0 < v → v < 8 → EmOk ((pathOf p u ++ "...") ++ ending ta v) (pathOf p u) (ending ta v)
  em2 : ∀ u v, u < 8 → 0 < v → v < 8 → em (pathOf p u) (ending ta v) (lineOf p ta v) = ((upL p v).drop 1).contains (u : Int)
  ok3 : ∀ u v, u < 8 → 0 < v → v < 8 → EmOk (("..." ++ wd u) ++ ending ta v) "" (wd u ++ ending ta v)
  em3 : ∀ u v, u < 8 → 0 < v → v < 8 → em "" (wd u ++ ending ta v) (lineOf p ta v) = ((u : Int) == (p v : Int))

def abD (p : Nat → Nat) (u : Nat) : D := .list (tab (fun v => .bool ((upL p v).contains (u : Int))) 8)
def sg11 (p : Nat → Nat) (ta : Nat → Str) : Sto := ("above", .list (tab (abD p) 8)) :: sg9 p ta

section
variable {w : World} {mg mb : Str → Option Value} {fns : List (Str × Nat × Addr × FuncData)} {n : Nat} {s₀ : Shared}

theorem em_call {p : Nat → Nat} {want got w0 w1 : Str} {f : Addr} {fd : FuncData} (hf : (("_ellipsis_match" : Str), 5, f, fd) ∈ fns) (h : EmOk want w0 w1) (hg : got.length ≤ 100) : CALLF pg w mg mb fns (n + 1) f [.str want, .str got] (.bool (em w0 w1 got)) :=
  ellipsis_ok hf h.1 (by omega) h.2.1 h.2.2.1 h.2.2.2.1 h.2.2.2.2.1 h.2.2.2.2.2

theorem law_4 {args : Arguments} {body : List Stmt} {scope : Scope} (hdef : defAt pg 9 = some (args, body, scope)) {env : Env} {p : Nat → Nat} {ta : Nat → Str} {R : Flow → Shared → Prop} (le : LawEnv scope env) (F : LawFns fns) (S : StrFacts p ta)
    (h : HS pg w mg mb fns s₀ (n + 1) env R (body.drop 12) (sg11 p ta) [] [] [""]) :
    HS pg w mg mb fns s₀ (n + 1) env R (body.drop 10) (sg9 p ta) [] [] [""] := by
  have hlit : defAt pg 9 = some (_, _, _) := rfl
  rw [hlit] at hdef
  cases hdef
  obtain ⟨sc, L, gl, cl, q, fn, cd, fr, bu⟩ := env
  obtain ⟨he, hcl⟩ := le
  simp only at he hcl
  subst he
  obtain ⟨fe, fde, hfe⟩ := F.em
  unfold sg9
  refine HS.cons (HX.assign (mu' := []) (EVF.eq (b' := .list (tab (abD p) 8)) (EVF.comp (onStr fun s => .list (tab (fun v => .bool (em s "" (lineOf p ta v))) 8)) (ds := tab (pathD p) 8) (sc := [("lines", .list (tab (strD (lineOf p ta)) 8))]) ⟨rfl, free_l (by decide) (free_l (by decide) (free_f rfl rfl free_n)), seen_c rfl (by decide) rfl seen_n, by decide⟩ (.inr ⟨rfl, rfl⟩) (IT.list (EV.name (hl := rfl))) (by rw [tab_len]; decide) ?_) ?_) (.inr ⟨rfl, hcl _ rfl⟩) (fun _ h => by cases h)) ?_
  · intro cenv hce d hd
    obtain ⟨csc, cL, cgl, ccl, cq, cfn, ccd, cfr, cbu⟩ := cenv
    simp only at hce
    subst hce
    obtain ⟨u, hu, rfl⟩ := mem_tab hd
    refine ⟨true, TESTS.nil, fun _ => ⟨_, rfl, ?_⟩, fun h => by cases h⟩
    refine EVF.eq (EVF.comp (onStr fun l => .bool (em (pathOf p u) "" l)) (ds := tab (strD (lineOf p ta)) 8) (sc := [("path", .str (pathOf p u))]) ⟨rfl, free_l (by decide) (free_l (by decide) (free_l (by decide) (free_f rfl rfl free_n))), seen_c rfl (by decide) rfl seen_n, by decide⟩ (.inl rfl) (IT.list (EV.name (hl := rfl))) (by rw [tab_len]; decide) ?_) ?_
    · intro cenv hce d hd
      obtain ⟨csc, cL, cgl, ccl, cq, cfn, ccd, cfr, cbu⟩ := cenv
      simp only at hce
      subst hce
      obtain ⟨v, hv, rfl⟩ := mem_tab hd
      refine ⟨true, TESTS.nil, fun _ => ⟨_, rfl, ?_⟩, fun h => by cases h⟩
      exact EVF.call hfe (EVS.cons (EV.bin (EV.name (hl := rfl)) EVF.str.any (BOP.cat (Nat.le_trans (S.ok1 u hu).1 (by decide)))) (EVS.cons (EV.name (hl := rfl)) EVS.nil)) (em_call (p := p) hfe (S.ok1 u hu) (S.line v hv)) rfl
    · exact congrArg D.list (tab_filterMap fun v hv => rfl)
  · refine congrArg D.list (tab_filterMap fun u hu => ?_)
    show some (D.list (tab (fun v => .bool (em (pathOf p u) "" (lineOf p ta v))) 8)) = _
    unfold abD
    rw [tab_congr fun v hv => by rw [S.em1 u v hu hv]]
  refine HS.cons (HX.ifF (TV.neNil (EVF.comp2 (lst2 := false) (ds := upFrom 0 8) (es := upFrom 0 8) (sc := [("above", .list (tab (abD p) 8)), ("upward", .list (tab (upD p) 8))]) ⟨rfl, free_l (by decide) (free_l (by decide) (free_l (by decide) (free_l (by decide) (free_f rfl rfl (free_f rfl rfl free_n))))), seen_c rfl (by decide) rfl (seen_c rfl (by decide) rfl seen_n), by decide⟩ rfl rfl (by decide) upFrom_flat (IT.range1 EVF.int.any (by decide) rfl) ?_ ?_).any (EVF.list EVSF.nil).any) HS.nil) ?_
  · intro cenv hce d hd
    obtain ⟨csc, cL, cgl, ccl, cq, cfn, ccd, cfr, cbu⟩ := cenv
    simp only at hce
    subst hce
    exact IT.range1 EVF.int.any (by decide) rfl
  · intro cenv hce d hd e he
    obtain ⟨csc, cL, cgl, ccl, cq, cfn, ccd, cfr, cbu⟩ := cenv
    simp only at hce
    subst hce
    obtain ⟨v, hv, rfl⟩ := mem_upFrom hd
    obtain ⟨u, hu, rfl⟩ := mem_upFrom he
    exact TV.eq (TV.cmp (EV.item (EV.item (EV.name (hl := rfl)) (EV.name (hl := rfl)) (by omega) (tab_getI hu) (by omega)) (EV.name (hl := rfl)) (by omega) (tab_getI hv) (by omega)) (EV.cmp (EV.name (hl := rfl)) (EV.item (EV.name (hl := rfl)) (EV.name (hl := rfl)) (by omega) (tab_getI hv) (by omega)) COP.inInts) COP.isNot) (by simp)
  exact HS.pre h (sub_cons rfl (sub_cons rfl (sub_cons rfl (sub_cons rfl (sub_cons rfl (sub_cons rfl (sub_cons rfl (sub_cons rfl sub_nil)))))))) mu_nil
end
end Mine
end

-- LcZ
section
open PySem PySem.W PyProof.Rows PySem.MeetsSeq PySem.SeqRoads2 PySem.SeqAt
set_option Elab.async false
set_option maxRecDepth 100000
set_option maxHeartbeats 1000000
set_option linter.unusedVariables false
set_option linter.unusedSimpArgs false
namespace Mine

def sg13 (p : Nat → Nat) (ta : Nat → Str) (i : Nat) : Sto := ("over", .list (tab (parD p) (i + 1))) :: sg11 p ta
def ovL (p : Nat → Nat) (i j : Nat) : List D := if p (i + 1) < j then tab (parD p) (i + 2) else tab (parD p) (i + 1)
def sg13i (p : Nat → Nat) (ta : Nat → Str) (i j : Nat) : Sto := ("over", .list (ovL p i j)) :: ("ending", .str (ending ta (i + 1))) :: ("one", .int ((i + 1 : Nat) : Int)) :: sg11 p ta

section
variable {w : World} {mg mb : Str → Option Value} {fns : List (Str × Nat × Addr × FuncData)} {n : Nat} {s₀ : Shared}

theorem law_5 {args : Arguments} {body : List Stmt} {scope : Scope} (hdef : defAt pg 9 = some (args, body, scope)) {env : Env} {p : Nat → Nat} {ta : Nat → Str} {R : Flow → Shared → Prop} (le : LawEnv scope env) (F : LawFns fns) (S : StrFacts p ta) (h0 : p 0 = 0)
    (h : HS pg w mg mb fns s₀ (n + 1) env R (body.drop 14) (sg13 p ta 7) [] [] [""]) :
    HS pg w mg mb fns s₀ (n + 1) env R (body.drop 12) (sg11 p ta) [] [] [""] := by
  have hlit : defAt pg 9 = some (_, _, _) := rfl
  rw [hlit] at hdef
  cases hdef
  obtain ⟨sc, L, gl, cl, q, fn, cd, fr, bu⟩ := env
  obtain ⟨he, hcl⟩ := le
  simp only at he hcl
  subst he
  obtain ⟨fe, fde, hfe⟩ := F.em
  refine HS.cons (sig' := sg13 p ta 0) (HX.assign (d := .list (tab (parD p) 1)) (mu' := ["over"]) (EVF.eq (EVF.list (EVSF.cons EVF.int EVSF.nil)) (by simp [tab, parD, h0, List.range_succ])) (.inl rfl) (fun y hy => .inl ⟨List.mem_singleton.mp hy, _, rfl, tab_flat fun k => rfl⟩)) ?_
  refine HS.cons (HX.for (mu := ["over"]) (ds := upFrom 1 7) (fun i => sg13 p ta i) (IT.range2 (a := 1) (k := 7) EVF.int.any EVF.int.any (by decide) (by decide) rfl) (by intro h; cases h) upFrom_flat (.inl rfl) (by decide) ?_) ?_
  · intro i d hd
    obtain ⟨rfl, hi⟩ := upFrom_get hd
    have e1 : (1 : Int) + (i : Nat) = ((i + 1 : Nat) : Int) := by omega
    rw [e1]
    have hpi := S.par (i + 1) (by omega)
    have hta := S.tail (i + 1) (by omega)
    have hln := S.line (i + 1) (by omega)
    have hsz : (1000 : Nat) ≤ sizeLine := by decide
    have hend : (ending ta (i + 1)).length ≤ 30 := by
      unfold ending
      rw [str_len_append, str_len_append]
      have h4 : ("." : Str).length = 1 := by decide
      have h5 := wd_len (i + 1)
      omega
    refine HS.cons (HX.assign (mu' := ["over"]) (d := .str (ending ta (i + 1))) (EVF.bin (EV.bin EVF.str.any (EV.titem (EV.name (hl := rfl)) (EV.name (hl := rfl)) (by omega) (words_get (by omega)) (by omega)) (BOP.cat ?_)) (EV.item (EV.name (hl := rfl)) (EV.name (hl := rfl)) (by omega) (tab_getI (by omega)) (by omega)) (BOP.cat ?_)) (.inl rfl) (fun y hy => .inr ⟨by rw [List.mem_singleton.mp hy]; decide, hy⟩)) ?_
    · rw [str_len_append]
      have h4 : ("." : Str).length = 1 := by decide
      have h5 := wd_len (i + 1)
      omega
    · show (ending ta (i + 1)).length ≤ _
      omega
    refine HS.cons (HX.pre (HX.for (mu := ["over"]) (ds := upFrom 0 8) (fun j => sg13i p ta i j) (IT.range1 (k := 8) EVF.int.any (by decide) rfl) (by intro h; cases h) upFrom_flat (.inr ⟨rfl, hcl _ rfl⟩) (by decide) ?_) ?_ (mu_cons (by simp) rfl mu_nil)) ?_
    · intro j d hd
      obtain ⟨rfl, hj⟩ := upFrom_get hd
      have e2 : (0 : Int) + (j : Nat) = (j : Int) := by omega
      rw [e2]
      have hok2 := S.ok2 j (i + 1) hj (by omega) (by omega)
      have hok3 := S.ok3 j (i + 1) hj (by omega) (by omega)
      have hl2 : (pathOf p j ++ "...").length ≤ 1000 := (S.ok1 j hj).1
      refine HS.cons (HX.assign (mu' := ["over"]) (EVF.call hfe (EVS.cons (EV.bin (EV.bin (EV.item (EV.name (hl := rfl)) (EV.name (hl := rfl)) (by omega) (tab_getI hj) (by omega)) EVF.str.any (BOP.cat (Nat.le_trans hl2 hsz))) (EV.name (hl := rfl)) (BOP.cat (Nat.le_trans hok2.1 hsz))) (EVS.cons (EV.item (EV.name (hl := rfl)) (EV.name (hl := rfl)) (by omega) (tab_getI (by omega)) (by omega)) EVS.nil)) (em_call (p := p) hfe hok2 hln) rfl) (.inl rfl) (fun y hy => .inr ⟨by rw [List.mem_singleton.mp hy]; decide, hy⟩)) ?_
      have hl3 : ("..." ++ wd j : Str).length ≤ 1000 := by
        rw [str_len_append]
        have h4 : ("..." : Str).length = 3 := by decide
        have h5 := wd_len j
        omega
      refine HS.cons (HX.assign (mu' := ["over"]) (EVF.call hfe (EVS.cons (EV.bin (EV.bin EVF.str.any (EV.titem (EV.name (hl := rfl)) (EV.name (hl := rfl)) (by omega) (words_get hj) (by omega)) (BOP.cat (Nat.le_trans hl3 hsz))) (EV.name (hl := rfl)) (BOP.cat (Nat.le_trans hok3.1 hsz))) (EVS.cons (EV.item (EV.name (hl := rfl)) (EV.name (hl := rfl)) (by omega) (tab_getI (by omega)) (by omega)) EVS.nil)) (em_call (p := p) hfe hok3 hln) rfl) (.inl rfl) (fun y hy => .inr ⟨by rw [List.mem_singleton.mp hy]; decide, hy⟩)) ?_
      rw [S.em2 j (i + 1) hj (by omega) (by omega), S.em3 j (i + 1) hj (by omega) (by omega)]
      have hupl : (upL p (i + 1)).length ≤ i + 2 := rows_len _ _ _
      refine HS.cons (HX.ifF (TV.eq (b' := false) (TV.or (TV.cmp (EV.name (hl := rfl)) (EV.cmp (EV.name (hl := rfl)) (EV.eq (b' := .list (((upL p (i + 1)).drop 1).map .int)) (EVF.slice (lo := some 1) (EV.item (EV.name (hl := rfl)) (EV.name (hl := rfl)) (by omega) (tab_getI (by omega)) (by omega)) flat_ints (PART.some EVF.int.any) PART.none PART.none (by decide) ?_).any ?_) COP.inInts) COP.isNot) fun _ => TV.cmp (EV.name (hl := rfl)) (EV.cmp (EV.name (hl := rfl)) (EV.item (EV.name (hl := rfl)) (EV.name (hl := rfl)) (by omega) (tab_getI (by omega)) (by omega)) COP.eq) COP.isNot) (by simp)) HS.nil) ?_
      · simp only [List.length_map]
        omega
      · rw [dpick_map]
        exact congrArg (fun l => D.list (l.map D.int)) (dpick_from _ 1)
      refine HS.cons (sig' := sg13i p ta i (j + 1)) (mu' := ["over"]) (HX.if (TV.val (EV.name (hl := rfl))) ?_ ?_) HS.nil
      · intro hb
        have hb : (j : Int) = (p (i + 1) : Int) := by simpa using hb
        have hj2 : j = p (i + 1) := by omega
        refine HS.cons (HX.append (l := ovL p i j) (d := parD p (i + 1)) rfl (by decide) (EV.eq (EV.name (hl := rfl)) (by rw [parD, hj2])) rfl ?_) ?_
        · unfold ovL
          split <;> (rw [tab_len]; omega)
        · have e : ovL p i (j + 1) = ovL p i j ++ [parD p (i + 1)] := by
            unfold ovL
            rw [if_pos (by omega), if_neg (by omega), ← tab_succ]
          unfold sg13i
          rw [e]
          exact HS.nilw (sub_cons rfl (sub_cons rfl (sub_cons rfl (sub_cons rfl (sub_cons rfl (sub_cons rfl (sub_cons rfl (sub_cons rfl (sub_cons rfl (sub_cons rfl (sub_cons rfl sub_nil))))))))))) (mu_cons (List.mem_singleton.mpr rfl) rfl mu_nil)
      · intro hb
        have hb : ¬ (j : Int) = (p (i + 1) : Int) := by simpa using hb
        have e : ovL p i (j + 1) = ovL p i j := by
          unfold ovL
          by_cases h : p (i + 1) < j
          · rw [if_pos h, if_pos (by omega)]
          · rw [if_neg h, if_neg (by omega)]
        unfold sg13i
        rw [e]
        exact HS.nilw (sub_cons rfl (sub_cons rfl (sub_cons rfl (sub_cons rfl (sub_cons rfl (sub_cons rfl (sub_cons rfl (sub_cons rfl (sub_cons rfl (sub_cons rfl (sub_cons rfl sub_nil))))))))))) (mu_cons (List.mem_singleton.mpr rfl) rfl mu_nil)
    · have e : ovL p i 0 = tab (parD p) (i + 1) := by unfold ovL; rw [if_neg (by omega)]
      show ∀ y d, (sg13i p ta i 0).lookup y = some d → _
      unfold sg13i
      rw [e]
      exact sub_cons rfl (sub_cons rfl (sub_cons rfl (sub_cons rfl (sub_cons rfl (sub_cons rfl (sub_cons rfl (sub_cons rfl (sub_cons rfl (sub_cons rfl (sub_cons rfl sub_nil))))))))))
    · rw [upFrom_len]
      have e : ovL p i 8 = tab (parD p) (i + 2) := by unfold ovL; rw [if_pos (by omega)]
      show HS pg w mg mb fns s₀ (n + 1) _ R [] (sg13i p ta i 8) _ _ _
      unfold sg13i
      rw [e]
      exact HS.nilw (sub_cons rfl (sub_cons rfl (sub_cons rfl (sub_cons rfl (sub_cons rfl (sub_cons rfl (sub_cons rfl (sub_cons rfl (sub_cons rfl sub_nil))))))))) (mu_cons (List.mem_singleton.mpr rfl) rfl mu_nil)
  · rw [upFrom_len]
    exact HS.pre h (fun _ _ h => h) mu_nil
end
end Mine
end

-- LdA
section
open PySem PySem.W PyProof.Rows PySem.MeetsSeq PySem.SeqRoads2 PySem.SeqAt
set_option Elab.async false
set_option maxRecDepth 100000
set_option maxHeartbeats 1000000
set_option linter.unusedVariables false
set_option linter.unusedSimpArgs false
namespace Mine

def pathL (p : Nat → Nat) : List Str := (List.range 8).map (pathOf p)
theorem pathL_tab {p : Nat → Nat} : tab (pathD p) 8 = (pathL p).map .str := by
  unfold tab pathL; rw [List.map_map]; rfl
def cntU (p : Nat → Nat) (u : Nat) : Nat := ((List.range 8).map fun v => (upL p v).contains (u : Int)).count true
theorem abD_bools {p : Nat → Nat} {u : Nat} : abD p u = .list (((List.range 8).map fun v => (upL p v).contains (u : Int)).map .bool) := by
  unfold abD tab; rw [List.map_map]; rfl
def natL (f : Nat → Nat) (n : Nat) : List Int := (List.range n).map fun k => (f k : Int)
theorem natL_tab {f : Nat → Nat} {n : Nat} : tab (parD f) n = (natL f n).map .int := by
  unfold tab natL; rw [List.map_map]; rfl
theorem natL_take {f : Nat → Nat} {n k : Nat} (h : k ≤ n) : (natL f n).take k = natL f k := by
  unfold natL
  rw [← List.map_take, List.take_range, Nat.min_eq_left h]
def fsL (mk : Nat → Nat) (k : Nat) : List Nat := (List.range k).filter fun j => !(natL mk j).contains (mk j : Int)
theorem fsL_succ {mk : Nat → Nat} {k : Nat} : fsL mk (k + 1) = if (natL mk k).contains (mk k : Int) then fsL mk k else fsL mk k ++ [k] := by
  unfold fsL
  rw [List.range_succ, List.filter_append]
  by_cases h : (natL mk k).contains (mk k : Int) = true
  · rw [if_pos h, List.filter_cons_of_neg (by rw [h]; decide)]; simp
  · rw [if_neg h, List.filter_cons_of_pos (by simpa using h)]; simp
def natD (k : Nat) : D := .int (k : Nat)

structure OrdFact (p : Nat → Nat) (ah : Nat → Nat) : Prop where
  at_ : ∀ ss : List Str, ss.Perm (pathL p) → sortedS ss = true → ∀ u, u < 8 → ss[ah u]? = some (pathOf p u) ∧ ∀ m, m < ah u → ∀ z, ss[m]? = some z → z.cps.toList ≠ (pathOf p u).cps.toList

structure NumFacts (p : Nat → Nat) (ah hi mk bt : Nat → Nat) : Prop where
  high : ∀ u, u < 8 → hbit (Builtin.bitXor (ah u : Nat) ((ah u : Int) + (cntU p u : Nat))) = (hi u : Nat)
  small : ∀ u, u < 8 → ah u + cntU p u < 1000 ∧ hi u < 1000
  mark : ∀ u, u < 8 → (((ah u : Int) + (cntU p u : Nat)).fdiv (2 ^ (hi u))) * 2 ^ (hi u) = (mk u : Nat)
  low0 : Builtin.bitOr 0 (Builtin.bitAnd (mk 0 : Nat) (-(mk 0 : Nat))) = (bt 0 : Nat)
  low : ∀ k, 0 < k → k < 8 → Builtin.bitOr (bt (p k) : Nat) (Builtin.bitAnd (mk k : Nat) (-(mk k : Nat))) = (bt k : Nat)
  single : ∀ k, k < 8 → sbit (Builtin.bitXor (if 0 < k then ((bt (p k) : Nat) : Int) else 0) (bt k : Nat)) = !(natL mk k).contains (mk k : Int)

def sg16 (p : Nat → Nat) (ta : Nat → Str) (mk bt : Nat → Nat) (ss : List Str) (i : Nat) : Sto :=
  ("firsts", .list ((fsL mk i).map natD)) :: ("bits", .list (tab (parD bt) i)) :: ("marks", .list (tab (parD mk) i)) :: ("order", .list (ss.map .str)) :: sg13 p ta 7
def sg17 (p : Nat → Nat) (ta : Nat → Str) (mk bt : Nat → Nat) : Sto :=
  ("firsts", .list ((fsL mk 8).map natD)) :: ("bits", .list (tab (parD bt) 8)) :: ("marks", .list (tab (parD mk) 8)) :: sg13 p ta 7

theorem fdiv_small {a : Int} {k : Nat} (h0 : 0 ≤ a) (h : a < 1000) : (a.fdiv (2 ^ k)).natAbs < 2 ^ 64 := by
  have hp : (0 : Int) < 2 ^ k := Int.pow_pos (by decide)
  have h1 : 0 ≤ a.fdiv (2 ^ k) := Int.fdiv_nonneg h0 (Int.le_of_lt hp)
  have h2 : a.fdiv (2 ^ k) ≤ a := by
    rw [Int.fdiv_eq_ediv_of_nonneg _ (Int.le_of_lt hp)]
    exact Int.ediv_le_self _ h0
  omega

section
variable {w : World} {mg mb : Str → Option Value} {fns : List (Str × Nat × Addr × FuncData)} {n : Nat} {s₀ : Shared}

theorem in3 {y : Str} {P : Str → Prop} (h1 : P "firsts") (h2 : P "bits") (h3 : P "marks") (hy : y ∈ (["firsts", "bits", "marks"] : List Str)) : P y := by
  rcases List.mem_cons.mp hy with rfl | hy
  · exact h1
  rcases List.mem_cons.mp hy with rfl | hy
  · exact h2
  rcases List.mem_cons.mp hy with rfl | hy
  · exact h3
  · cases hy

theorem law_6 {args : Arguments} {body : List Stmt} {scope : Scope} (hdef : defAt pg 9 = some (args, body, scope)) {env : Env} {p ah hi mk bt : Nat → Nat} {ta : Nat → Str} {R : Flow → Shared → Prop} (le : LawEnv scope env) (F : LawFns fns) (S : StrFacts p ta) (O : OrdFact p ah) (N : NumFacts p ah hi mk bt)
    (h : HS pg w mg mb fns s₀ (n + 1) env R (body.drop 17) (sg17 p ta mk bt) [] [] [""]) :
    HS pg w mg mb fns s₀ (n + 1) env R (body.drop 14) (sg13 p ta 7) [] [] [""] := by
  have hlit : defAt pg 9 = some (_, _, _) := rfl
  rw [hlit] at hdef
  cases hdef
  obtain ⟨sc, L, gl, cl, q, fn, cd, fr, bu⟩ := env
  obtain ⟨he, hcl⟩ := le
  simp only at he hcl
  subst he
  obtain ⟨fh, fdh, hfh⟩ := F.hb
  obtain ⟨fs, fds, hfs⟩ := F.sb
  refine HS.sorted (EV.eq (EV.name (hl := rfl)) (congrArg D.list pathL_tab)) (by simp [pathL]) (.inl rfl) (fun y hy => by cases hy) rfl fun ss hperm hsort => ?_
  have hlen : ss.length = 8 := by rw [hperm.length_eq]; simp [pathL]
  have hO := O.at_ ss hperm hsort
  refine HS.cons (HX.assign3 (EVF.list EVSF.nil) (EVF.list EVSF.nil) (EVF.list EVSF.nil) (fun _ h => by cases h) (fun _ h => by cases h) (fun _ h => by cases h) (.inr ⟨rfl, hcl _ rfl⟩) (.inl rfl) (.inl rfl) (by decide) (by decide) (by decide) (fun _ h => by cases h)) ?_
  refine HS.cons (HX.for (mu := ["firsts", "bits", "marks"]) (ds := upFrom 0 8) (fun i => sg16 p ta mk bt ss i) (IT.range1 (k := 8) EVF.int.any (by decide) rfl) (by intro h; cases h) upFrom_flat (.inl rfl) (by decide) ?_) ?_
  · intro i d hd
    obtain ⟨rfl, hi8⟩ := upFrom_get hd
    have e1 : (0 : Int) + (i : Nat) = (i : Int) := by omega
    rw [e1]
    have hsm := N.small i hi8
    refine HS.cons (HX.assign (mu' := ["firsts", "bits", "marks"]) (d := .int (ah i : Nat)) (EVF.meth (EV.name (hl := rfl)) (EVS.cons (EV.item (EV.name (hl := rfl)) (EV.name (hl := rfl)) (by omega) (tab_getI hi8) (by omega)) EVS.nil) (CALLB.indexStrs (hO i hi8).1 (hO i hi8).2 (by omega)) PySem.F.plainAttrs_list PySem.F.slot_list_index PySem.F.type_list_index tyList) (.inl rfl) (fun y hy => .inr (in3 (P := fun y => y ≠ _ ∧ y ∈ _) (by decide) (by decide) (by decide) hy))) ?_
    refine HS.cons (HX.assign (mu' := ["firsts", "bits", "marks"]) (EVF.bin (EV.name (hl := rfl)) (EVF.meth (EV.eq (EV.item (EV.name (hl := rfl)) (EV.name (hl := rfl)) (by omega) (tab_getI hi8) (by omega)) abD_bools) (EVS.cons EVF.bool.any EVS.nil) CALLB.countTrue PySem.F.plainAttrs_list PySem.F.slot_list_count PySem.F.type_list_count tyList).any BOP.add) (.inl rfl) (fun y hy => .inr (in3 (P := fun y => y ≠ _ ∧ y ∈ _) (by decide) (by decide) (by decide) hy))) ?_
    refine HS.cons (HX.assign (mu' := ["firsts", "bits", "marks"]) (d := .int (hi i : Nat)) (EVF.eq (EVF.call hfh (EVS.cons (EV.bin (EV.name (hl := rfl)) (EV.name (hl := rfl)) BOP.xor) EVS.nil) (highBit hfh) rfl) (congrArg D.int (N.high i hi8))) (.inl rfl) (fun y hy => .inr (in3 (P := fun y => y ≠ _ ∧ y ∈ _) (by decide) (by decide) (by decide) hy))) ?_
    refine HS.cons (HX.append (l := tab (parD mk) i) (d := parD mk i) rfl (by decide) (EV.eq (EV.bin (EV.bin (EV.name (hl := rfl)) (EV.name (hl := rfl)) (BOP.shr (by omega))) (EV.name (hl := rfl)) (BOP.shl (by omega) (by omega) ?_)) ?_) rfl (by rw [tab_len]; omega)) ?_
    · exact fdiv_small (by omega) (by show (ah i : Int) + (cntU p i : Nat) < 1000; omega)
    · rw [parD, ← N.mark i hi8, Int.toNat_natCast]; rfl
    rw [← tab_succ]
    refine HS.cons (HX.assign (mu' := ["firsts", "bits", "marks"]) (d := .int (if 0 < i then ((bt (p i) : Nat) : Int) else 0)) (EV.fr (EV.ite (TV.cmp (EV.name (hl := rfl)) EVF.int.any COP.gt) (fun hc => ?_) (fun hc => ?_))) (.inl rfl) (fun y hy => .inr (in3 (P := fun y => y ≠ _ ∧ y ∈ _) (by decide) (by decide) (by decide) hy))) ?_
    · have hc : (i : Int) > 0 := of_decide_eq_true hc
      have hpi := S.par i (by omega)
      rw [if_pos (by omega)]
      exact EV.item (EV.name (hl := rfl)) (EV.item (EV.name (hl := rfl)) (EV.name (hl := rfl)) (by omega) (tab_getI (by omega)) (by omega)) (by omega) (tab_getI (f := parD bt) hpi) (by omega)
    · have hc : ¬ (i : Int) > 0 := of_decide_eq_false hc
      rw [if_neg (by omega)]
      exact EVF.int.any
    refine HS.cons (HX.append (l := tab (parD bt) i) (d := parD bt i) rfl (by decide) (EV.eq (EV.bin (EV.name (hl := rfl)) (EV.bin (EV.item (EV.name (hl := rfl)) (EV.name (hl := rfl)) (by omega) (tab_getI (by omega)) (by omega)) (EV.neg (EV.item (EV.name (hl := rfl)) (EV.name (hl := rfl)) (by omega) (tab_getI (by omega)) (by omega))) BOP.and) BOP.or) ?_) rfl (by rw [tab_len]; omega)) ?_
    · rw [parD]
      rcases Nat.eq_zero_or_pos i with hz | hz
      · subst hz; rw [← N.low0]; rfl
      · rw [← N.low i hz hi8, if_pos hz]
    rw [← tab_succ]
    refine HS.cons (HX.assign (mu' := ["firsts", "bits", "marks"]) (EVF.eq (EVF.call hfs (EVS.cons (EV.bin (EV.name (hl := rfl)) (EV.item (EV.name (hl := rfl)) (EV.name (hl := rfl)) (by omega) (tab_getI (by omega)) (by omega)) BOP.xor) EVS.nil) (singleBit hfs) rfl) (congrArg D.bool (N.single i hi8))) (.inl rfl) (fun y hy => .inr (in3 (P := fun y => y ≠ _ ∧ y ∈ _) (by decide) (by decide) (by decide) hy))) ?_
    refine HS.cons (HX.ifF (TV.eq (b' := false) (TV.cmp (EV.name (hl := rfl)) (EV.cmp (EV.item (EV.name (hl := rfl)) (EV.name (hl := rfl)) (by omega) (tab_getI (by omega)) (by omega)) (EV.eq (b' := .list ((natL mk i).map .int)) (EVF.slice (hi := some ((i : Nat) : Int)) (EV.name (hl := rfl)) (tab_flat fun k => rfl) PART.none (PART.some (EV.name (hl := rfl))) PART.none (by decide) ?_).any ?_) COP.notInInts) COP.isNot) (by simp)) HS.nil) ?_
    · rw [tab_len]; exact Nat.le_trans (show i + 1 ≤ 1000 by omega) (by decide)
    · rw [natL_tab, dpick_map, dpick_to, natL_take (by omega)]
    refine HS.cons (sig' := sg16 p ta mk bt ss (i + 1)) (mu' := ["firsts", "bits", "marks"]) (HX.if (TV.val (EV.name (hl := rfl))) ?_ ?_) HS.nil
    · intro hb
      have hb : (natL mk i).contains (mk i : Int) = false := by simpa using hb
      refine HS.cons (HX.append (l := (fsL mk i).map natD) (d := natD i) rfl (by decide) (EV.name (hl := rfl)) rfl ?_) ?_
      · rw [List.length_map]
        have : (fsL mk i).length ≤ i := by unfold fsL; exact Nat.le_trans (List.length_filter_le _ _) (by simp)
        omega
      · have e : (fsL mk (i + 1)).map natD = (fsL mk i).map natD ++ [natD i] := by
          rw [fsL_succ, if_neg (by rw [hb]; decide)]; simp
        unfold sg16
        rw [e]
        exact HS.nilw (sub_cons rfl (sub_cons rfl (sub_cons rfl (sub_cons rfl (sub_cons rfl (sub_cons rfl (sub_cons rfl (sub_cons rfl (sub_cons rfl (sub_cons rfl (sub_cons rfl (sub_cons rfl (sub_cons rfl sub_nil))))))))))))) (mu_cons (by simp) rfl (mu_cons (by simp) rfl (mu_cons (by simp) rfl mu_nil)))
    · intro hb
      have hb : (natL mk i).contains (mk i : Int) = true := by simpa using hb
      have e : (fsL mk (i + 1)).map natD = (fsL mk i).map natD := by
        rw [fsL_succ, if_pos hb]
      unfold sg16
      rw [e]
      exact HS.nilw (sub_cons rfl (sub_cons rfl (sub_cons rfl (sub_cons rfl (sub_cons rfl (sub_cons rfl (sub_cons rfl (sub_cons rfl (sub_cons rfl (sub_cons rfl (sub_cons rfl (sub_cons rfl (sub_cons rfl sub_nil))))))))))))) (mu_cons (by simp) rfl (mu_cons (by simp) rfl (mu_cons (by simp) rfl mu_nil)))
  · rw [upFrom_len]
    exact HS.pre h (sub_cons rfl (sub_cons rfl (sub_cons rfl (sub_cons rfl (sub_cons rfl (sub_cons rfl (sub_cons rfl (sub_cons rfl (sub_cons rfl (sub_cons rfl (sub_cons rfl (sub_cons rfl sub_nil)))))))))))) mu_nil
end
end Mine
end

-- LdB
section
open PySem PySem.W PyProof.Rows PySem.MeetsSeq PySem.SeqRoads2 PySem.SeqAt
set_option Elab.async false
set_option maxRecDepth 100000
set_option maxHeartbeats 1000000
set_option linter.unusedVariables false
set_option linter.unusedSimpArgs false
namespace Mine

/-- the mark of a height below -/
def cutAt (m b : Nat) : Int := ((m : Int).fdiv (2 ^ (b + 1))) * 2 ^ (b + 1) + 1 * 2 ^ b
def crownL (mk : Nat → Nat) : List Int := (fsL mk 8).map fun k => (mk k : Int)
/-- one end: from e, at the height hg, comes r -/
structure EndFact (p mk bt : Nat → Nat) (e hg r : Nat) : Prop where
  lt : r < 8
  sb : sbit (Builtin.bitAnd (bt e : Nat) (2 * 2 ^ hg - 1)) = (hbit (Builtin.bitAnd (bt e : Nat) (1 * 2 ^ hg - 1)) == -1)
  up : (hbit (Builtin.bitAnd (bt e : Nat) (1 * 2 ^ hg - 1)) = -1 ∧ r = e) ∨
    ∃ b : Nat, hbit (Builtin.bitAnd (bt e : Nat) (1 * 2 ^ hg - 1)) = b ∧ b < 1000 ∧ ∃ j f : Nat, (crownL mk)[j]? = some (cutAt (mk e) b) ∧ (∀ m, m < j → (crownL mk)[m]? ≠ some (cutAt (mk e) b)) ∧ (fsL mk 8)[j]? = some f ∧ f < 8 ∧ p f = r
def bothOf (a b le : Nat) : Int := ((Builtin.bitAnd (a : Nat) (b : Nat)).fdiv (2 ^ le)) * 2 ^ le
/-- the pair x, y: the answer is z -/
structure PairFact (p mk bt ht : Nat → Nat) (x y : Nat) : Prop where
  all : ∃ le hg e1 e2 z : Nat, max3 (hbit (Builtin.bitXor (mk x : Nat) (mk y : Nat))) (ht x : Nat) (ht y : Nat) = le ∧ le < 1000 ∧ ((Builtin.bitAnd (bt x : Nat) (bt y : Nat)).fdiv (2 ^ le)).natAbs < 2 ^ 64 ∧
    hbit (Builtin.bitAnd (bothOf (bt x) (bt y) le) (-(bothOf (bt x) (bt y) le))) = hg ∧ hg < 1000 ∧ EndFact p mk bt x hg e1 ∧ EndFact p mk bt y hg e2 ∧ z < 8 ∧ ((upL p x).filter fun u => (upL p y).contains u)[0]? = some (z : Int) ∧
    (if (upL p e2).contains (e1 : Int) then e1 else e2) = z
structure LastFacts (p mk bt ht : Nat → Nat) : Prop where
  hts : ∀ k, k < 8 → hbit (Builtin.bitAnd (mk k : Nat) (-(mk k : Nat))) = (ht k : Nat)
  small : ∀ k, k < 8 → mk k < 1000
  pair : ∀ x y, x ≤ y → y < 8 → PairFact p mk bt ht x y

def sg19 (p : Nat → Nat) (mk bt ht : Nat → Nat) : Sto :=
  [("heights", .list (tab (parD ht) 8)), ("crown", .list ((crownL mk).map .int)), ("firsts", .list ((fsL mk 8).map natD)), ("bits", .list (tab (parD bt) 8)), ("marks", .list (tab (parD mk) 8)), ("over", .list (tab (parD p) 8)), ("above", .list (tab (abD p) 8)), ("names", .list (tab (strD wd) 8)), ("upward", .list (tab (upD p) 8)), ("words", .tup (wordsL.map .str))]

theorem nat_fdiv_small {m k : Nat} (h : m < 1000) : (((m : Nat) : Int).fdiv (2 ^ k)).natAbs < 2 ^ 64 := fdiv_small (by omega) (by omega)
theorem fsL_lt {mk : Nat → Nat} : ∀ k ∈ fsL mk 8, k < 8 := fun k hk => List.mem_range.mp (List.mem_filter.mp hk).1
def inBoth (l : List Int) : D → Option D
  | .int a => if l.contains a then some (.int a) else none
  | _ => none
theorem inBoth_map {l : List Int} : ∀ m : List Int, (m.map D.int).filterMap (inBoth l) = (m.filter fun u => l.contains u).map D.int
  | [] => rfl
  | a :: m => by
    have ih := inBoth_map (l := l) m
    by_cases h : l.contains a = true
    · rw [List.filter_cons_of_pos h]
      simp only [List.map_cons]
      rw [List.filterMap_cons_some (b := D.int a) (by simp only [inBoth]; rw [if_pos h]), ih]
    · rw [List.filter_cons_of_neg h]
      simp only [List.map_cons]
      rw [List.filterMap_cons_none (by simp only [inBoth]; rw [if_neg h]), ih]

section
variable {w : World} {mg mb : Str → Option Value} {fns : List (Str × Nat × Addr × FuncData)} {n : Nat} {s₀ : Shared}

theorem law_7 {args : Arguments} {body : List Stmt} {scope : Scope} (hdef : defAt pg 9 = some (args, body, scope)) {env : Env} {p mk bt ht : Nat → Nat} {ta : Nat → Str} {R : Flow → Shared → Prop} (le : LawEnv scope env) (F : LawFns fns) (T : LastFacts p mk bt ht)
    (h : HS pg w mg mb fns s₀ (n + 1) env R (body.drop 19) (sg19 p mk bt ht) [] [] [""]) :
    HS pg w mg mb fns s₀ (n + 1) env R (body.drop 17) (sg17 p ta mk bt) [] [] [""] := by
  have hlit : defAt pg 9 = some (_, _, _) := rfl
  rw [hlit] at hdef
  cases hdef
  obtain ⟨sc, L, gl, cl, q, fn, cd, fr, bu⟩ := env
  obtain ⟨he, hcl⟩ := le
  simp only at he hcl
  subst he
  obtain ⟨fh, fdh, hfh⟩ := F.hb
  have hfl : (fsL mk 8).length ≤ 8 := by unfold fsL; exact Nat.le_trans (List.length_filter_le _ _) (by simp)
  refine HS.cons (HX.comp (mu' := []) (onInt (parD mk)) (ds := (fsL mk 8).map natD) (sc := [("marks", .list (tab (parD mk) 8))]) ⟨rfl, free_l (by decide) (free_l (by decide) (free_f rfl rfl free_n)), seen_c rfl (by decide) rfl seen_n, by decide⟩ (.inl rfl) (IT.list (EV.name (hl := rfl))) (by rw [List.length_map]; exact Nat.le_trans hfl (by decide)) ?_ (.inl rfl) (fun _ h => by cases h)) ?_
  · intro cenv hce d hd
    obtain ⟨csc, cL, cgl, ccl, cq, cfn, ccd, cfr, cbu⟩ := cenv
    simp only at hce
    subst hce
    obtain ⟨k, hk, rfl⟩ := List.mem_map.mp hd
    have hk8 := fsL_lt k hk
    refine ⟨true, TESTS.nil, fun _ => ⟨parD mk k, by simp [onInt, natD], ?_⟩, fun h => by cases h⟩
    exact EV.fr (EV.item (EV.name (hl := rfl)) (EV.name (hl := rfl)) (by omega) (tab_getI hk8) (by omega))
  have e1 : ((fsL mk 8).map natD).filterMap (onInt (parD mk)) = (crownL mk).map .int := by
    rw [List.filterMap_map]
    unfold crownL
    rw [List.map_map]
    have : (onInt (parD mk) ∘ natD) = fun k => some (parD mk k) := by funext k; simp [onInt, natD]
    rw [this, List.filterMap_eq_map']
    rfl
  rw [e1]
  refine HS.cons (HX.comp (mu' := []) (onI fun m => .int (hbit (Builtin.bitAnd m (-m)))) (ds := tab (parD mk) 8) (sc := []) ⟨rfl, free_l (by decide) (free_l (by decide) (free_l (by decide) free_n)), seen_n, by decide⟩ (.inl rfl) (IT.list (EV.name (hl := rfl))) (by rw [tab_len]; decide) ?_ (.inl rfl) (fun _ h => by cases h)) ?_
  · intro cenv hce d hd
    obtain ⟨csc, cL, cgl, ccl, cq, cfn, ccd, cfr, cbu⟩ := cenv
    simp only at hce
    subst hce
    obtain ⟨k, hk, rfl⟩ := mem_tab hd
    refine ⟨true, TESTS.nil, fun _ => ⟨_, rfl, ?_⟩, fun h => by cases h⟩
    exact EVF.call hfh (EVS.cons (EV.bin (EV.name (hl := rfl)) (EV.neg (EV.name (hl := rfl))) BOP.and) EVS.nil) (highBit hfh) rfl
  have e2 : (tab (parD mk) 8).filterMap (onI fun m => .int (hbit (Builtin.bitAnd m (-m)))) = tab (parD ht) 8 := tab_filterMap fun k hk => by
    show some (D.int _) = _
    rw [T.hts k hk]; rfl
  rw [e2]
  exact HS.pre h (sub_cons rfl (sub_cons rfl (sub_cons rfl (sub_cons rfl (sub_cons rfl (sub_cons rfl (sub_cons rfl (sub_cons rfl (sub_cons rfl (sub_cons rfl sub_nil)))))))))) mu_nil

theorem law_8 {args : Arguments} {body : List Stmt} {scope : Scope} (hdef : defAt pg 9 = some (args, body, scope)) {env : Env} {p mk bt ht : Nat → Nat} (le : LawEnv scope env) (F : LawFns fns) (T : LastFacts p mk bt ht) :
    HS pg w mg mb fns s₀ (n + 1) env (Gives0 s₀ (.bool true)) (body.drop 19) (sg19 p mk bt ht) [] [] [""] := by
  have hlit : defAt pg 9 = some (_, _, _) := rfl
  rw [hlit] at hdef
  cases hdef
  obtain ⟨sc, L, gl, cl, q, fn, cd, fr, bu⟩ := env
  obtain ⟨he, hcl⟩ := le
  simp only at he hcl
  subst he
  obtain ⟨fh, fdh, hfh⟩ := F.hb
  obtain ⟨fs, fds, hfs⟩ := F.sb
  have hfl : (fsL mk 8).length ≤ 8 := by unfold fsL; exact Nat.le_trans (List.length_filter_le _ _) (by simp)
  refine HS.cons (HX.for (mu := []) (ds := upFrom 0 8) (fun i => sg19 p mk bt ht) (IT.range1 (k := 8) EVF.int.any (by decide) rfl) (by intro h; cases h) upFrom_flat (.inl rfl) (by decide) ?_) (HS.cons (HX.ret (sig' := []) (mu' := [""]) EVF.bool.any rfl) HS.nil)
  intro x d hd
  obtain ⟨rfl, hx⟩ := upFrom_get hd
  have ex : (0 : Int) + (x : Nat) = (x : Int) := by omega
  rw [ex]
  refine HS.cons (HX.for (mu := []) (ds := upFrom (x : Nat) (8 - x)) (fun i => ("one", .int (x : Nat)) :: sg19 p mk bt ht) (IT.range2 (a := (x : Nat)) (k := 8 - x) (EV.name (hl := rfl)) (EV.eq EVF.int.any (congrArg D.int (by omega))) (by omega) (by omega) rfl) (by intro h; cases h) upFrom_flat (.inr ⟨rfl, hcl _ rfl⟩) (by decide) ?_) (HS.nilw (fun y d h => ?_) mu_nil)
  · intro i d hd
    obtain ⟨rfl, hi⟩ := upFrom_get hd
    obtain ⟨y, rfl⟩ : ∃ y, y = x + i := ⟨_, rfl⟩
    have ey : (x : Int) + (i : Nat) = ((x + i : Nat) : Int) := by omega
    rw [ey]
    generalize hy : x + i = y
    have hxy : x ≤ y := by omega
    have hy8 : y < 8 := by omega
    obtain ⟨le, hg, e1, e2, z, hle, hle2, hb64, hhg, hhg2, E1, E2, hz, hkin, hmeet⟩ := (T.pair x y hxy hy8).all
    refine HS.cons (HX.assign (mu' := []) (d := .int (le : Nat)) (EVF.eq (EVF.built (EVS.cons (EVF.list (EVSF.cons (EVF.call hfh (EVS.cons (EV.bin (EV.item (EV.name (hl := rfl)) (EV.name (hl := rfl)) (by omega) (tab_getI hx) (by omega)) (EV.item (EV.name (hl := rfl)) (EV.name (hl := rfl)) (by omega) (tab_getI hy8) (by omega)) BOP.xor) EVS.nil) (highBit hfh) rfl) (EVSF.cons (EV.fr (EV.item (EV.name (hl := rfl)) (EV.name (hl := rfl)) (by omega) (tab_getI hx) (by omega))) (EVSF.cons (EV.fr (EV.item (EV.name (hl := rfl)) (EV.name (hl := rfl)) (by omega) (tab_getI hy8) (by omega))) EVSF.nil)))).any EVS.nil) CALLB.max3 rfl (by decide) (by decide +kernel)) (congrArg D.int hle)) (.inl rfl) (fun _ h => by cases h)) ?_
    refine HS.cons (HX.assign (mu' := []) (d := .int (bothOf (bt x) (bt y) le)) (EVF.bin (EV.bin (EV.bin (EV.item (EV.name (hl := rfl)) (EV.name (hl := rfl)) (by omega) (tab_getI hx) (by omega)) (EV.item (EV.name (hl := rfl)) (EV.name (hl := rfl)) (by omega) (tab_getI hy8) (by omega)) BOP.and) (EV.name (hl := rfl)) (BOP.shr (by omega))) (EV.name (hl := rfl)) (BOP.shl (by omega) (by omega) (by rw [Int.toNat_natCast]; exact hb64))) (.inl rfl) (fun _ h => by cases h)) ?_
    refine HS.cons (HX.assign (mu' := []) (d := .int (hg : Nat)) (EVF.eq (EVF.call hfh (EVS.cons (EV.bin (EV.name (hl := rfl)) (EV.neg (EV.name (hl := rfl))) BOP.and) EVS.nil) (highBit hfh) rfl) (congrArg D.int hhg)) (.inl rfl) (fun _ h => by cases h)) ?_
    refine HS.cons (HX.assign (mu' := ["ends"]) (d := .list []) (EVF.list EVSF.nil) (.inl rfl) (fun y hy => .inl ⟨List.mem_singleton.mp hy, _, rfl, fun _ h => by cases h⟩)) ?_
    refine HS.cons (HX.pre (HX.for (mu := ["ends"]) (ds := [.int (x : Nat), .int (y : Nat)]) (fun i => ("ends", .list (([e1, e2].take i).map natD)) :: ("high", .int (hg : Nat)) :: ("two", .int (y : Nat)) :: ("one", .int (x : Nat)) :: sg19 p mk bt ht) (IT.tup (EVF.tup (EVSF.cons (EV.fr (EV.name (hl := rfl))) (EVSF.cons (EV.fr (EV.name (hl := rfl))) EVSF.nil))).any) (by intro h; cases h) (by intro d hd; rcases List.mem_cons.mp hd with rfl | hd; rfl; rw [List.mem_singleton.mp hd]; rfl) (.inl rfl) (by decide) ?_) (sub_cons rfl (sub_cons rfl (sub_cons rfl (sub_cons rfl (sub_cons rfl (sub_cons rfl (sub_cons rfl (sub_cons rfl (sub_cons rfl (sub_cons rfl (sub_cons rfl (sub_cons rfl (sub_cons rfl (sub_cons rfl sub_nil)))))))))))))) (mu_cons (by simp) rfl mu_nil)) ?_
    · intro i d hd
      obtain ⟨e, r, rfl, he8, E, hi2, htk⟩ : ∃ e r, d = .int (e : Nat) ∧ e < 8 ∧ EndFact p mk bt e hg r ∧ i < 2 ∧ [e1, e2].take (i + 1) = [e1, e2].take i ++ [r] := by
        match i, hd with
        | 0, hd => exact ⟨x, e1, by simpa using hd.symm, hx, E1, by omega, rfl⟩
        | 1, hd => exact ⟨y, e2, by simpa using hd.symm, hy8, E2, by omega, rfl⟩
        | i + 2, hd => simp at hd
      have hh : ((hg : Nat) : Int).toNat = hg := Int.toNat_natCast _
      refine HS.cons (HX.assign (mu' := ["ends"]) (d := .int (hbit (Builtin.bitAnd (bt e : Nat) (1 * 2 ^ hg - 1)))) (EVF.eq (EVF.call hfh (EVS.cons (EV.bin (EV.item (EV.name (hl := rfl)) (EV.name (hl := rfl)) (by omega) (tab_getI he8) (by omega)) (EV.bin (EV.bin EVF.int.any (EV.name (hl := rfl)) (BOP.shl (by omega) (by omega) (by decide))) EVF.int.any BOP.sub) BOP.and) EVS.nil) (highBit hfh) rfl) (by rw [hh])) (.inl rfl) (fun y hy => .inr ⟨by rw [List.mem_singleton.mp hy]; decide, hy⟩)) ?_
      refine HS.cons (HX.ifF (TV.eq (b' := false) (TV.cmp (EVF.call hfs (EVS.cons (EV.bin (EV.item (EV.name (hl := rfl)) (EV.name (hl := rfl)) (by omega) (tab_getI he8) (by omega)) (EV.bin (EV.bin EVF.int.any (EV.name (hl := rfl)) (BOP.shl (by omega) (by omega) (by decide))) EVF.int.any BOP.sub) BOP.and) EVS.nil) (singleBit hfs) rfl).any (EV.cmp (EV.name (hl := rfl)) (EV.neg EVF.int.any) COP.eq) COP.isNot) (by rw [hh, E.sb]; simp)) HS.nil) ?_
      refine HS.cons (sig' := ("ends", .list (([e1, e2].take (i + 1)).map natD)) :: ("high", .int (hg : Nat)) :: ("two", .int (y : Nat)) :: ("one", .int (x : Nat)) :: sg19 p mk bt ht) (mu' := ["ends"]) (HX.if (TV.cmp (EV.name (hl := rfl)) (EV.neg EVF.int.any) COP.eq) ?_ ?_) HS.nil
      · intro hb
        have hb : hbit (Builtin.bitAnd (bt e : Nat) (1 * 2 ^ hg - 1)) = -1 := by simpa using hb
        rcases E.up with ⟨_, rfl⟩ | ⟨b, hb2, _⟩
        · refine HS.cons (HX.append (l := ([e1, e2].take i).map natD) (d := natD r) rfl (by decide) (EV.name (hl := rfl)) rfl ?_) ?_
          · simp; omega
          · rw [htk, List.map_append]
            exact HS.nilw (sub_cons rfl (sub_cons rfl (sub_cons rfl (sub_cons rfl (sub_cons rfl (sub_cons rfl (sub_cons rfl (sub_cons rfl (sub_cons rfl (sub_cons rfl (sub_cons rfl (sub_cons rfl (sub_cons rfl (sub_cons rfl sub_nil)))))))))))))) (mu_cons (by simp) rfl mu_nil)
        · rw [hb] at hb2; omega
      · intro hb
        have hb : ¬ hbit (Builtin.bitAnd (bt e : Nat) (1 * 2 ^ hg - 1)) = -1 := by simpa using hb
        rcases E.up with ⟨hb2, _⟩ | ⟨b, hb2, hb3, j, f, hj, hno, hf, hf8, hr⟩
        · exact absurd hb2 hb
        · rw [hb2]
          have hb' : (((b : Nat) : Int) + 1).toNat = b + 1 := by omega
          have hb'' : ((b : Nat) : Int).toNat = b := Int.toNat_natCast _
          refine HS.cons (HX.assign (mu' := ["ends"]) (d := .int (cutAt (mk e) b)) (EVF.eq (EVF.bin (EV.bin (EV.bin (EV.item (EV.name (hl := rfl)) (EV.name (hl := rfl)) (by omega) (tab_getI he8) (by omega)) (EV.bin (EV.name (hl := rfl)) EVF.int.any BOP.add) (BOP.shr (by omega))) (EV.bin (EV.name (hl := rfl)) EVF.int.any BOP.add) (BOP.shl (by omega) (by omega) (nat_fdiv_small (T.small e he8)))) (EV.bin EVF.int.any (EV.name (hl := rfl)) (BOP.shl (by omega) (by omega) (by decide))) BOP.add) (by rw [hb', hb'']; rfl)) (.inl rfl) (fun y hy => .inr ⟨by rw [List.mem_singleton.mp hy]; decide, hy⟩)) ?_
          have hjl : j < 8 := by
            rcases Nat.lt_or_ge j (fsL mk 8).length with h | h
            · omega
            · rw [List.getElem?_eq_none h] at hf; cases hf
          refine HS.cons (HX.append (l := ([e1, e2].take i).map natD) (d := natD r) rfl (by decide) (EV.eq (EV.item (k := (f : Nat)) (EV.name (hl := rfl)) (EV.item (k := (j : Nat)) (EV.name (hl := rfl)) (EVF.meth (EV.name (hl := rfl)) (EVS.cons (EV.name (hl := rfl)) EVS.nil) (CALLB.indexInts hj hno ?_) PySem.F.plainAttrs_list PySem.F.slot_list_index PySem.F.type_list_index tyList).any (by omega) ?_ (by omega)) (by omega) (tab_getI hf8) (by omega)) ?_) rfl ?_) ?_
          · unfold crownL; rw [List.length_map]; omega
          · rw [Int.toNat_natCast, List.getElem?_map, hf]; rfl
          · rw [parD, hr]; rfl
          · simp; omega
          · rw [htk, List.map_append]
            exact HS.nilw (sub_cons rfl (sub_cons rfl (sub_cons rfl (sub_cons rfl (sub_cons rfl (sub_cons rfl (sub_cons rfl (sub_cons rfl (sub_cons rfl (sub_cons rfl (sub_cons rfl (sub_cons rfl (sub_cons rfl (sub_cons rfl sub_nil)))))))))))))) (mu_cons (by simp) rfl mu_nil)
    · have hE1 := E1.lt
      have hE2 := E2.lt
      refine HS.cons (HX.assign (mu' := []) (d := .int (z : Nat)) (EV.fr (EV.ite (TV.val (EV.item (EV.item (k := (e1 : Nat)) (EV.name (hl := rfl)) (EV.item (EV.name (hl := rfl)) EVF.int.any (by decide) rfl (by decide)) (by omega) (tab_getI hE1) (by omega)) (EV.item (d := natD e2) (EV.name (hl := rfl)) EVF.int.any (by decide) rfl (by decide)) (by omega) (tab_getI hE2) (by omega))) (fun hc => ?_) (fun hc => ?_))) (.inl rfl) (fun _ h => by cases h)) ?_
      · rw [if_pos hc] at hmeet
        rw [← hmeet]
        exact EV.item (d := natD e1) (EV.name (hl := rfl)) EVF.int.any (by decide) rfl (by decide)
      · rw [if_neg (by rw [hc]; decide)] at hmeet
        rw [← hmeet]
        exact EV.item (d := natD e2) (EV.name (hl := rfl)) EVF.int.any (by decide) rfl (by decide)
      have hupl : (upL p x).length ≤ x + 1 := rows_len _ _ _
      refine HS.cons (HX.comp (mu' := []) (inBoth (upL p y)) (ds := (upL p x).map .int) (sc := [("two", .int (y : Nat)), ("upward", .list (tab (upD p) 8))]) ⟨rfl, free_l (by decide) (free_l (by decide) (free_f rfl rfl (free_f rfl rfl free_n))), seen_c rfl (by decide) rfl (seen_c rfl (by decide) rfl seen_n), by decide⟩ (.inl rfl) (IT.list (EV.item (EV.name (hl := rfl)) (EV.name (hl := rfl)) (by omega) (tab_getI hx) (by omega))) (by rw [List.length_map]; exact Nat.le_trans (show (upL p x).length ≤ 1000 by omega) (by decide)) ?_ (.inl rfl) (fun _ h => by cases h)) ?_
      · intro cenv hce d hd
        obtain ⟨csc, cL, cgl, ccl, cq, cfn, ccd, cfr, cbu⟩ := cenv
        simp only at hce
        subst hce
        obtain ⟨a, ha, rfl⟩ := List.mem_map.mp hd
        refine ⟨(upL p y).contains a, TESTS.one (TV.cmp (EV.name (hl := rfl)) (EV.item (EV.name (hl := rfl)) (EV.name (hl := rfl)) (by omega) (tab_getI hy8) (by omega)) COP.inInts), fun hb => ⟨.int a, by simp only [inBoth]; rw [if_pos hb], EV.fr (EV.name (hl := rfl))⟩, fun hb => by simp only [inBoth]; rw [if_neg (by rw [hb]; decide)]⟩
      rw [inBoth_map]
      refine HS.cons (HX.ifF (TV.eq (b' := false) (TV.cmp (EV.item (EV.name (hl := rfl)) (EV.name (hl := rfl)) (by omega) (tab_getI hz) (by omega)) (EV.titem (k := (z : Nat)) (EV.name (hl := rfl)) (EV.item (EV.name (hl := rfl)) EVF.int.any (by decide) ?_ (by decide)) (by omega) (words_get hz) (by omega)) COP.neStr) (by simp)) HS.nil) ?_
      · rw [List.getElem?_map]
        show Option.map D.int ((List.filter _ (upL p x))[0]?) = _
        rw [hkin]; rfl
      exact HS.nilw (sub_cons rfl (sub_cons rfl (sub_cons rfl (sub_cons rfl (sub_cons rfl (sub_cons rfl (sub_cons rfl (sub_cons rfl (sub_cons rfl (sub_cons rfl (sub_cons rfl sub_nil))))))))))) mu_nil
  · exact (sub_cons (sig := ("one", .int (x : Nat)) :: sg19 p mk bt ht) rfl (sub_cons rfl (sub_cons rfl (sub_cons rfl (sub_cons rfl (sub_cons rfl (sub_cons rfl (sub_cons rfl (sub_cons rfl (sub_cons rfl sub_nil)))))))))) y d h
end
end Mine
end

-- LdC
section
open PySem PySem.W PyProof.Rows PySem.MeetsSeq PySem.SeqRoads2 PySem.SeqAt
set_option Elab.async false
set_option maxRecDepth 100000
set_option maxHeartbeats 1000000
set_option linter.unusedVariables false
set_option linter.unusedSimpArgs false
namespace Mine

theorem cellsFrom_some {x : Str} : ∀ (names : List (Str × NameKind)) (n : Nat), (x, NameKind.cell) ∈ names → ∃ c, (cellsFrom n names []).lookup x = some c
  | [], _, h => by cases h
  | (y, k) :: r, n, h => by
    unfold cellsFrom
    rcases List.mem_cons.mp h with h | h
    · cases h
      rw [if_pos (by rfl : (NameKind.cell == NameKind.cell) = true), cellsFrom_append, List.lookup_append]
      cases (cellsFrom (n + 1) r []).lookup x with
      | some c => exact ⟨c, rfl⟩
      | none => exact ⟨n, by simp [List.lookup_cons]⟩
    · split
      · rw [cellsFrom_append, List.lookup_append]
        obtain ⟨c, hc⟩ := cellsFrom_some r (n + 1) h
        exact ⟨c, by rw [hc]; rfl⟩
      · exact cellsFrom_some r n h

/-- all that the walk asks of the numbers and texts -/
structure LawFacts (dr : List Int) : Prop where
  strip : ∀ k, k < 8 → stripD (lineOf (parN dr) (tailOf dr) k) = wd k
  texts : StrFacts (parN dr) (tailOf dr)
  nums : ∃ ah hi mk bt ht, OrdFact (parN dr) ah ∧ NumFacts (parN dr) ah hi mk bt ∧ LastFacts (parN dr) mk bt ht

section
variable {w : World} {mg mb : Str → Option Value} {fns : List (Str × Nat × Addr × FuncData)} {n : Nat}

theorem law_all {args : Arguments} {body : List Stmt} {scope : Scope} (hdef : defAt pg 9 = some (args, body, scope)) {s₀ : Shared} {env : Env} {ns : List Int} (le : LawEnv scope env) (F : LawFns fns) (hn : ns.length ≤ 63) (Q : LawFacts (drawsL ns)) :
    HS pg w mg mb fns s₀ (n + 1) env (Gives0 s₀ (.bool true)) body [("script", .list (ns.map .int))] [] [] [""] := by
  obtain ⟨ah, hi, mk, bt, ht, O, N, T⟩ := Q.nums
  exact law_1 hdef le hn (law_2 hdef le (law_3 hdef le F draws_len Q.strip (law_4 hdef le F Q.texts (law_5 hdef le F Q.texts rfl (law_6 hdef le F Q.texts O N (law_7 hdef le F T (law_8 hdef le F T)))))))

theorem law_call {A : Around} {s : Shared} {fa : Addr} {fd : FuncData} {v : Value} {ns : List Int} (hfn : FnAt pg s.heap fa 9 fd) (gl : GL pg mg mb fns s.heap) (rm : Room (n + 2) A) (r : Rep s.heap Any v (.list (ns.map .int))) (hn : ns.length ≤ 63) (F : LawFns fns) (Q : LawFacts (drawsL ns)) :
    wpAny (model pg w) A (call (.ref fa) [v] []) (fun v s' => Kp s s' ∧ v = .bool true) (fun _ _ => False) s := by
  obtain ⟨⟨o, ho, hdt⟩, hcode, ⟨a', b', s', he, hp, hb, hsc⟩, hbind, hgl, hbu, hcl⟩ := hfn
  have hlit : defAt pg 9 = some (_, _, _) := rfl
  have hx := he
  rw [hlit] at hx
  have hargs : a'.args.map (·.arg) = [("script" : Str)] := by cases hx; rfl
  have hkind : s'.kind = .function := by cases hx; rfl
  have hco : s'.isCoroutine = false := by cases hx; rfl
  have hgen : s'.isGenerator = false := by cases hx; rfl
  have hloc : s'.names.lookup ("script" : Str) = some .local := by cases hx; rfl
  clear hx
  have hal : a'.args.length = 1 := by
    have := congrArg List.length hargs
    rw [List.length_map] at this
    exact this
  have hbd := hbind [v] (by rw [hp, hal]; rfl)
  rw [hp, hargs] at hbd
  refine wpAny_call (codeAny_call_cells rm.lim ho hdt gl.lim hcode hb hbd hcl ?_ (fun s₁ X => ?_) (by rw [hsc]; exact hco) (by rw [hsc]; exact hgen) (by rw [hsc]; exact hkind))
  · intro x hx
    rw [List.mem_singleton.mp hx]
    exact .inl (by rw [hsc]; exact hloc)
  · have henv : (callEnvC fd s.heap.objs.size fa).scope = s' := hsc
    have hcells : (callEnvC fd s.heap.objs.size fa).cells = cellsFrom (s.heap.objs.size + 1) s'.names [] := by show cellsFrom _ fd.scope.names [] = _; rw [hsc]
    have hkl : (callEnvC fd s.heap.objs.size fa).kindOf "script" = some .local := by show fd.scope.names.lookup _ = _; rw [hsc]; exact hloc
    obtain ⟨h₁, tk, rfl, hkp⟩ := X.done
    have St0 : St pg mg mb fns s (fun b o => s.heap.get? b = some o) No (callEnvC fd s.heap.objs.size fa) [("script", .list (ns.map .int))] [] { s with heap := h₁, toks := tk } := by
      refine ⟨⟨h₁, tk, rfl⟩, fun _ _ e => e, hkp, by rw [henv]; exact hkind, hgl, hbu, gl, ⟨_, X.toInCall.ns⟩, fun y c hc => ⟨_, X.cell y c hc⟩, (fun o q => ?_), (fun y c hc o q => ?_), (fun y z c hc hd => ?_), fun _ _ g => g.elim, fun _ => v, fun y dd hy => ?_, fun y hy => by cases hy⟩
      · exact absurd (Heap.lt_size q) (Nat.lt_irrefl _)
      · have h1 := X.above y c (PySem.mem_of_lookup hc)
        have h2 : s.heap.objs.size ≤ (callEnvC fd s.heap.objs.size fa).locals := X.toInCall.fresh
        exact absurd (Heap.lt_size q) (Nat.not_lt.mpr (Nat.le_of_lt (Nat.lt_of_le_of_lt h2 h1)))
      · exact name_of_addr X.apart (PySem.mem_of_lookup hc) (PySem.mem_of_lookup hd)
      · have hys : y = ("script" : Str) ∧ dd = .list (ns.map .int) := by
          rw [List.lookup_cons] at hy
          cases hb : y == ("script" : Str) with
          | true => rw [hb] at hy; cases hy; exact ⟨beq_iff_eq.mp hb, rfl⟩
          | false => rw [hb] at hy; cases hy
        obtain ⟨rfl, rfl⟩ := hys
        refine ⟨.inl ⟨hkl, _, X.toInCall.ns, ?_⟩, r.keeps fun b o _ e => ⟨hkp b o e, fun h => h.elim, fun z hz => by cases hz⟩⟩
        show bindL _ [(_, v)] _ _ = _
        simp only [bindL]
        rw [if_pos hkl, if_pos rfl]
    have le : LawEnv s' (callEnvC fd s.heap.objs.size fa) := ⟨henv, fun x hx => by rw [hcells]; exact cellsFrom_some _ _ (PySem.mem_of_lookup hx)⟩
    refine wpAny_at (law_all (n := n) he le F hn Q _ _ _ rm.deeper St0) fun fl s2 q => ?_
    rcases q with ⟨rfl, X2⟩ | ⟨⟨v, rfl⟩, v', hv, k, r⟩
    · exact (no_end X2).elim
    · cases hv
      refine ⟨k, ?_⟩
      cases r; rfl
end
end Mine
end

-- LdD
section
open PySem PySem.W PyProof.Rows PySem.MeetsSeq PySem.SeqRoads2 PySem.SeqAt
set_option Elab.async false
set_option maxRecDepth 100000
set_option maxHeartbeats 8000000
set_option linter.unusedVariables false
set_option linter.unusedSimpArgs false
namespace Mine

theorem one_of {α : Type} {vs : List α} (h : vs.length = 1) : ∃ v, vs = [v] := by
  match vs, h with
  | [v], _ => exact ⟨v, rfl⟩
theorem two_of {α : Type} {vs : List α} (h : vs.length = 2) : ∃ v u, vs = [v, u] := by
  match vs, h with
  | [v, u], _ => exact ⟨v, u, rfl⟩
/-- the def takes its arguments by place -/
def ByPlace (i : Nat) : Prop := ∀ a b s, defAt pg i = some (a, b, s) → ∀ (name : Str) (pm cd doc : Value) (vs : List Value), vs.length = a.args.length → bindArgs (Calls.docDef name a b s pm cd doc) ⟨vs, []⟩ = pure ((a.args.map (·.arg)).zip vs)
theorem bp1 : ByPlace 1 := fun a b s h name pm cd doc vs hv => by
  have hlit : defAt pg 1 = some (_, _, _) := rfl
  rw [hlit] at h; cases h
  obtain ⟨v, rfl⟩ := one_of hv; rfl
theorem bp2 : ByPlace 2 := fun a b s h name pm cd doc vs hv => by
  have hlit : defAt pg 2 = some (_, _, _) := rfl
  rw [hlit] at h; cases h
  obtain ⟨v, rfl⟩ := one_of hv; rfl
theorem bp5 : ByPlace 5 := fun a b s h name pm cd doc vs hv => by
  have hlit : defAt pg 5 = some (_, _, _) := rfl
  rw [hlit] at h; cases h
  obtain ⟨v, u, rfl⟩ := two_of hv; rfl
theorem bp6 : ByPlace 6 := fun a b s h name pm cd doc vs hv => by
  have hlit : defAt pg 6 = some (_, _, _) := rfl
  rw [hlit] at h; cases h
  obtain ⟨v, rfl⟩ := one_of hv; rfl
theorem bp8 : ByPlace 8 := fun a b s h name pm cd doc vs hv => by
  have hlit : defAt pg 8 = some (_, _, _) := rfl
  rw [hlit] at h; cases h
  obtain ⟨v, u, rfl⟩ := two_of hv; rfl
theorem bp9 : ByPlace 9 := fun a b s h name pm cd doc vs hv => by
  have hlit : defAt pg 9 = some (_, _, _) := rfl
  rw [hlit] at h; cases h
  obtain ⟨v, rfl⟩ := one_of hv; rfl

/-- record j of the view is def i of the text, by the name x -/
def RecIs (V : Program) (j i : Nat) (x : Str) : Prop := ∃ d a b s, (recsOf V)[j]? = some d ∧ defAt pg i = some (a, b, s) ∧ d.name = x ∧ d.params = a ∧ d.body = b ∧ d.scope = s
/-- what the walk asks of the top's view -/
structure ViewOk (V : Program) : Prop where
  r0 : RecIs V 0 1 "_is_single_bit"
  r1 : RecIs V 1 2 "_high_bit"
  r2 : RecIs V 2 5 "_ellipsis_match"
  r3 : RecIs V 3 6 "_strip_exception_details"
  r4 : RecIs V 4 8 "_law_upward"
  r5 : RecIs V 5 9 "law"
  free : ∀ x ∈ (["len", "range", "sum", "enumerate", "sorted", "max"] : List Str), x ∉ startupNames ∧ x ∉ looseW V [] ∧ x ∉ (recsOf V).map (·.name) ∧ x ∉ (litsOf V).map (·.1) ∧ x ∉ (clssOf V (looseW V [])).map (·.name) ∧ x ≠ "__name__"
  const : valOf V "ELLIPSIS_MARKER" = some (.str "...")
section
variable {V : Program} {loose : List Str} {mean : ExcName → Option Value} {mg mb : Str → Option Value} {h : Heap}
theorem fn_of (T : Top V loose mean mg mb h) {j i : Nat} {x : Str} (r : RecIs V j i x) (b : ByPlace i) : ∃ f fd, mg x = some (.ref f) ∧ FnAt pg h f i fd := by
  obtain ⟨d, a, bd, s, hj, hi, rfl, rfl, rfl, rfl⟩ := r
  obtain ⟨f, o, pm, code, doc, h1, h2, h3, h4⟩ := T.fn d (List.mem_of_getElem? hj)
  exact ⟨f, _, h1, ⟨o, h2, h3⟩, h4, ⟨_, _, _, hi, rfl, rfl, rfl⟩, b _ _ _ hi _ _ _ _, rfl, rfl, rfl⟩

theorem kOf (T : Top V loose mean mg mb h) (r0 : RecIs V 0 1 "_is_single_bit") (r1 : RecIs V 1 2 "_high_bit") (r2 : RecIs V 2 5 "_ellipsis_match") (r3 : RecIs V 3 6 "_strip_exception_details") (r4 : RecIs V 4 8 "_law_upward") (r5 : RecIs V 5 9 "law")
    (free : ∀ x ∈ (["len", "range", "sum", "enumerate", "sorted", "max"] : List Str), x ∉ startupNames ∧ x ∉ looseW V [] ∧ x ∉ (recsOf V).map (·.name) ∧ x ∉ (litsOf V).map (·.1) ∧ x ∉ (clssOf V (looseW V [])).map (·.name) ∧ x ≠ "__name__")
    (const : valOf V "ELLIPSIS_MARKER" = some (.str "...")) : ViewOk V := ⟨r0, r1, r2, r3, r4, r5, free, const⟩

theorem gl_of (T : Top V loose mean mg mb h) (K : ViewOk V) (hl : loose = looseW V []) : ∃ fns, GL pg mg mb fns h ∧ LawFns fns := by
  obtain ⟨f0, d0, m0, q0⟩ := fn_of T K.r0 bp1
  obtain ⟨f1, d1, m1, q1⟩ := fn_of T K.r1 bp2
  obtain ⟨f2, d2, m2, q2⟩ := fn_of T K.r2 bp5
  obtain ⟨f3, d3, m3, q3⟩ := fn_of T K.r3 bp6
  obtain ⟨f4, d4, m4, q4⟩ := fn_of T K.r4 bp8
  refine ⟨[("_is_single_bit", 1, f0, d0), ("_high_bit", 2, f1, d1), ("_ellipsis_match", 5, f2, d2), ("_strip_exception_details", 6, f3, d3), ("_law_upward", 8, f4, d4)], ⟨T.g, T.b, T.nolimit, ?_, ?_, ?_⟩, ⟨⟨f4, d4, by simp⟩, ⟨f2, d2, by simp⟩, ⟨f3, d3, by simp⟩, ⟨f1, d1, by simp⟩, ⟨f0, d0, by simp⟩⟩⟩
  · intro x hx
    subst hl
    have key := K.free
    obtain ⟨k1, k2, k3, k4, k5, k6⟩ := key x hx
    exact ⟨T.free x k1 k2 k3 k4 k5, T.builtins x k6⟩
  · intro p hp
    rcases List.mem_cons.mp hp with rfl | hp
    · exact ⟨m0, q0⟩
    rcases List.mem_cons.mp hp with rfl | hp
    · exact ⟨m1, q1⟩
    rcases List.mem_cons.mp hp with rfl | hp
    · exact ⟨m2, q2⟩
    rcases List.mem_cons.mp hp with rfl | hp
    · exact ⟨m3, q3⟩
    rcases List.mem_cons.mp hp with rfl | hp
    · exact ⟨m4, q4⟩
    · cases hp
  · have hv := K.const
    obtain ⟨v, h1, h2⟩ := T.const _ _ hv
    have := h2 h
    cases this
    exact ⟨_, h1⟩
end

theorem ints_rep {hp : Heap} {F : Addr → Prop} : ∀ {vs : List Value} {ns : List Int}, IntsAre vs ns → Reps hp F vs (ns.map .int)
  | _, _, .nil => .nil
  | _, _, .cons _ _ r => .cons (.int _ _) (ints_rep r)

end Mine
end

-- LpA
section
open PySem PySem.W PyProof.Rows PySem.MeetsSeq PySem.SeqRoads2 PySem.SeqAt
set_option Elab.async false
set_option maxRecDepth 100000
set_option maxHeartbeats 1000000
set_option linter.unusedVariables false
set_option linter.unusedSimpArgs false
namespace Mine

/-- a text's code points -/
def cl (s : Str) : List Nat := s.cps.toList
theorem cl_append (a b : Str) : cl (a ++ b) = cl a ++ cl b := by
  show ((a.cps ++ b.cps).toList) = _
  simp [cl]
theorem cl_len (a : Str) : a.length = (cl a).length := by simp [cl, Str.length]
theorem cl_inj {a b : Str} (h : cl a = cl b) : a = b := by
  obtain ⟨⟨a⟩⟩ := a
  obtain ⟨⟨b⟩⟩ := b
  simp [cl] at h
  rw [h]

theorem starts_iff {x y : Str} : Txt.startswith x y = true ↔ cl y <+: cl x := by
  unfold Txt.startswith
  rw [Bool.and_eq_true, StrLaws.subAt_eq, List.drop_zero, beq_iff_eq, decide_eq_true_eq]
  show 0 + y.length ≤ x.length ∧ (cl x).take y.length = cl y ↔ _
  rw [cl_len, cl_len]
  constructor
  · rintro ⟨_, h⟩
    rw [← h]; exact List.take_prefix _ _
  · intro h
    refine ⟨by have := h.length_le; omega, ?_⟩
    exact (List.prefix_iff_eq_take.mp h).symm
theorem ends_iff {x y : Str} : Txt.endswith x y = true ↔ cl y <:+ cl x := by
  unfold Txt.endswith
  rw [Bool.and_eq_true, StrLaws.subAt_eq, beq_iff_eq, decide_eq_true_eq]
  show 0 + y.length ≤ x.length ∧ ((cl x).drop (x.length - y.length)).take y.length = cl y ↔ _
  rw [cl_len, cl_len]
  constructor
  · rintro ⟨h0, h⟩
    rw [List.take_of_length_le (by rw [List.length_drop]; omega)] at h
    rw [← h]; exact List.drop_suffix _ _
  · intro h
    have hl := h.length_le
    refine ⟨by omega, ?_⟩
    rw [← List.suffix_iff_eq_drop.mp h, List.take_of_length_le (Nat.le_refl _)]
theorem em_iff {w0 w1 got : Str} : em w0 w1 got = true ↔ cl w0 <+: cl got ∧ cl w1 <:+ cl got ∧ (cl w0).length + (cl w1).length ≤ (cl got).length := by
  unfold em
  rw [Bool.and_eq_true, Bool.and_eq_true, Bool.or_eq_true, Bool.or_eq_true, starts_iff, ends_iff, decide_eq_true_eq, beq_iff_eq, beq_iff_eq, cl_len, cl_len, cl_len]
  constructor
  · rintro ⟨⟨h1, h2⟩, h3⟩
    refine ⟨?_, ?_, h3⟩
    · rcases h1 with h1 | h1
      · rw [List.length_eq_zero_iff.mp h1]; exact List.nil_prefix
      · exact h1
    · rcases h2 with h2 | h2
      · rw [List.length_eq_zero_iff.mp h2]; exact List.nil_suffix
      · exact h2
  · rintro ⟨h1, h2, h3⟩
    exact ⟨⟨.inr h1, .inr h2⟩, h3⟩

/-- three dots from i on -/
def dots (L : List Nat) (i : Nat) : Prop := (L.drop i).take 3 = [46, 46, 46]
open StrLaws Builtin Builtin.Str in
theorem at_dots {x : Str} {i : Nat} : At x "..." x.length i ↔ dots (cl x) i := by
  unfold At dots
  rw [subAt_eq, beq_iff_eq]
  have h3 : ("..." : Str).length = 3 := by decide
  have h4 : ("..." : Str).cps.toList = [46, 46, 46] := by decide
  rw [h3, h4]
  show i + 3 ≤ x.length ∧ ((cl x).drop i).take 3 = _ ↔ _
  refine ⟨fun h => h.2, fun h => ⟨?_, h⟩⟩
  have := congrArg List.length h
  rw [List.length_take, List.length_drop] at this
  rw [cl_len]
  simp at this
  omega

theorem forIn_stay {α β : Type} {f : α → β → Id (ForInStep β)} {st : β} {l2 : List α} : ∀ (l : List α), (∀ i ∈ l, f i st = pure (.yield st)) → (forIn (l ++ l2) st f : Id β) = forIn l2 st f
  | [], _ => rfl
  | a :: l, h => by
    rw [List.cons_append, List.forIn_cons, h a (by simp)]
    exact forIn_stay l fun i hi => h i (by simp [hi])

open StrLaws Builtin Builtin.Str in
theorem occ_one {x : Str} {a limit : Nat} (hl : 1 ≤ limit) (h : dots (cl x) a) (hb : ∀ i, i < a → ¬ dots (cl x) i) (ha : ∀ i, a + 3 ≤ i → ¬ dots (cl x) i) : occurrences x "..." 0 x.length limit = [a] := by
  have h3 : ("..." : Str).length = 3 := by decide
  have hA := at_dots.mpr h
  have hlen : a + 3 ≤ x.length := by have := hA.1; rw [h3] at this; exact this
  rw [occ_eq]
  have e : List.range' 0 (x.length + 1 - 0) = List.range' 0 a ++ (a :: (List.range' (a + 1) (x.length - a))) := by
    have : x.length + 1 - 0 = a + (x.length - a + 1) := by omega
    rw [this, ← List.range'_append (step := 1)]
    simp [List.range'_succ]
  rw [e, forIn_stay, List.forIn_cons]
  · have c : occBody x "..." x.length limit a (#[], 0) = pure (.yield (#[a], a + 3)) := by
      unfold occBody
      rw [if_pos ⟨⟨⟨by simp; omega, by simp⟩, hA.1⟩, hA.2⟩, h3]
      rfl
    rw [c]
    show (forIn (List.range' (a + 1) (x.length - a)) (#[a], a + 3) (occBody x "..." x.length limit) : Id _).run.fst.toList = [a]
    have := forIn_stay (f := occBody x "..." x.length limit) (st := (#[a], a + 3)) (l2 := []) (List.range' (a + 1) (x.length - a)) (fun i hi => by
      unfold occBody
      rw [if_neg]
      rintro ⟨⟨⟨_, h1⟩, h2⟩, h4⟩
      exact ha i h1 (at_dots.mp ⟨h2, h4⟩))
    rw [List.append_nil] at this
    rw [this]
    rfl
  · intro i hi
    have hi : i < a := by have := List.mem_range'_1.mp hi; omega
    unfold occBody
    rw [if_neg]
    rintro ⟨⟨_, h2⟩, h4⟩
    exact hb i hi (at_dots.mp ⟨h2, h4⟩)

open StrLaws Builtin Builtin.Str in
theorem emOk_of {want w0 w1 : Str} (hc : cl want = cl w0 ++ (46 :: 46 :: 46 :: cl w1)) (hb : ∀ i, i < (cl w0).length → ¬ dots (cl want) i) (ha : ∀ i, (cl w0).length + 3 ≤ i → ¬ dots (cl want) i) (hk : strKind want = 1) (hz : (cl want).length ≤ 1000) : EmOk want w0 w1 := by
  have hd : dots (cl want) (cl w0).length := by unfold dots; rw [hc]; simp
  have hl : want.length = (cl w0).length + 3 + (cl w1).length := by rw [cl_len, hc]; simp; omega
  have h3 : ("..." : Str).length = 3 := by decide
  have hocc : ∀ limit, 1 ≤ limit → occurrences want "..." 0 want.length limit = [(cl w0).length] := fun limit h => occ_one h hd hb ha
  have hw : want.length ≤ 1000 := by rw [cl_len]; exact hz
  refine ⟨hw, by rw [cl_len]; omega, by rw [cl_len]; omega, by rw [hocc 1 (Nat.le_refl _)]; rfl, ?_, ?_⟩
  · rw [hocc _ (by omega)]
    simp [partsBetween]
  · unfold Txt.split
    rw [if_neg]
    · rw [hocc _ (by omega), if_neg (by simp)]
      unfold partsBetween
      simp only [List.map_cons, List.map_nil, List.cons_append, List.nil_append, List.zip_cons_cons, List.zip_nil_right, h3]
      refine congr (congrArg List.cons (cl_inj ?_)) (congrArg (· :: []) (cl_inj ?_))
      · show (strSub want 0 (cl w0).length).cps.toList = _
        rw [strSub_toList]
        show ((cl want).drop 0).take _ = _
        rw [hc]; simp
      · show (strSub want ((cl w0).length + 3) want.length).cps.toList = _
        rw [strSub_toList]
        show ((cl want).drop _).take _ = _
        rw [hl, hc]
        have : (cl w0 ++ 46 :: 46 :: 46 :: cl w1) = (cl w0 ++ [46, 46, 46]) ++ cl w1 := by simp
        rw [this, List.drop_left' (by simp), List.take_of_length_le (by omega)]
    · rw [h3, hk]
      have : strKind ("..." : Str) = 1 := by decide +kernel
      rw [this]
      simp
      omega
end Mine
end

-- LpB
section
open PySem PySem.W PyProof.Rows PySem.MeetsSeq PySem.SeqRoads2 PySem.SeqAt
set_option Elab.async false
set_option maxRecDepth 100000
set_option maxHeartbeats 1000000
set_option linter.unusedVariables false
set_option linter.unusedSimpArgs false
namespace Mine

theorem gval_induct {α : Type} {p : Nat → Nat} {a0 : α} {st : α → Nat → α} {P : Nat → α → Prop} (hp : ∀ k, 0 < k → p k < k) (h0 : P 0 a0) (hs : ∀ k a, 0 < k → k < 8 → P (p k) a → P k (st a k)) : ∀ k, k < 8 → P k (gval p a0 st k) := by
  intro k
  induction k using Nat.strongRecOn with
  | _ k ih =>
    intro hk
    rcases Nat.eq_zero_or_pos k with h | h
    · subst h; rw [gval_zero]; exact h0
    · rw [gval_succ (hp k h)]
      exact hs k _ h hk (ih _ (hp k h) (by have := hp k h; omega))

def wl (k : Nat) : List Nat := cl (wd k)
theorem wl_letters : ∀ k, k < 8 → ∀ c ∈ wl k, 97 ≤ c ∧ c ≤ 122 := by decide +kernel
theorem wl_pos : ∀ k, k < 8 → 0 < (wl k).length := by decide +kernel
theorem wl_heads : ∀ j, j < 8 → ∀ k, k < 8 → j < k → ∃ a b, (wl j).head? = some a ∧ (wl k).head? = some b ∧ a < b := by
  have : ∀ j, j < 8 → ∀ k, k < 8 → j < k → ((wl j).head?).isSome = true ∧ ((wl k).head?).isSome = true ∧ ((wl j).head?.getD 0) < ((wl k).head?.getD 0) := by decide +kernel
  intro j hj k hk h
  obtain ⟨h1, h2, h3⟩ := this j hj k hk h
  obtain ⟨a, ha⟩ := Option.isSome_iff_exists.mp h1
  obtain ⟨b, hb⟩ := Option.isSome_iff_exists.mp h2
  rw [ha, hb] at h3
  exact ⟨a, b, ha, hb, h3⟩

def pl (p : Nat → Nat) (k : Nat) : List Nat := cl (pathOf p k)
theorem pl_zero {p : Nat → Nat} : pl p 0 = [97] := by unfold pl pathOf; rw [gval_zero]; decide
theorem pl_succ {p : Nat → Nat} {k : Nat} (h : p k < k) : pl p k = pl p (p k) ++ 46 :: wl k := by
  unfold pl pathOf
  rw [gval_succ h, cl_append, cl_append]
  have : cl ("." : Str) = [46] := by decide
  rw [this]; simp [wl]

def noadj (L : List Nat) : Prop := ∀ i : Nat, L[i]? = some 46 → (L ++ [46])[i + 1]? ≠ some 46
theorem noadj_step {L w : List Nat} (h : noadj L) (hw : ∀ c ∈ w, c ≠ 46) (h0 : 0 < w.length) : noadj (L ++ 46 :: w) := by
  intro i h1 h2
  rcases Nat.lt_or_ge i L.length with hi | hi
  · rw [List.getElem?_append_left hi] at h1
    refine h i h1 ?_
    rcases Nat.lt_or_ge (i + 1) L.length with hj | hj
    · rw [List.append_assoc, List.getElem?_append_left hj] at h2
      rw [List.getElem?_append_left hj]; exact h2
    · have : i + 1 = L.length := by omega
      rw [this, List.getElem?_append_right (Nat.le_refl _)]; simp
  · have e : (L ++ 46 :: w ++ [46]) = L ++ (46 :: (w ++ [46])) := by simp
    rw [e, List.getElem?_append_right (by omega)] at h2
    rw [List.getElem?_append_right hi] at h1
    have e2 : i + 1 - L.length = (i - L.length) + 1 := by omega
    rw [e2, List.getElem?_cons_succ] at h2
    generalize i - L.length = j at h1 h2
    match j with
    | 0 =>
      rw [List.getElem?_append_left h0] at h2
      exact hw _ (List.mem_of_getElem? h2) rfl
    | j + 1 =>
      rw [List.getElem?_cons_succ] at h1
      exact hw _ (List.mem_of_getElem? h1) rfl

section
variable {p : Nat → Nat} (hp : ∀ k, 0 < k → p k < k)
include hp
theorem pl_induct {P : Nat → List Nat → Prop} (h0 : P 0 [97]) (hs : ∀ k L, 0 < k → k < 8 → P (p k) L → P k (L ++ 46 :: wl k)) : ∀ k, k < 8 → P k (pl p k) := by
  intro k
  induction k using Nat.strongRecOn with
  | _ k ih =>
    intro hk
    rcases Nat.eq_zero_or_pos k with h | h
    · subst h; rw [pl_zero]; exact h0
    · rw [pl_succ (hp k h)]
      exact hs k _ h hk (ih _ (hp k h) (by have := hp k h; omega))
theorem pl_chars : ∀ k, k < 8 → ∀ c ∈ pl p k, c = 46 ∨ (97 ≤ c ∧ c ≤ 122) :=
  pl_induct hp (P := fun _ L => ∀ c ∈ L, c = 46 ∨ (97 ≤ c ∧ c ≤ 122)) (by decide) fun k L _ hk h c hc => by
    rcases List.mem_append.mp hc with hc | hc
    · exact h c hc
    · rcases List.mem_cons.mp hc with rfl | hc
      · exact .inl rfl
      · exact .inr (wl_letters k hk c hc)
theorem pl_noadj : ∀ k, k < 8 → noadj (pl p k) :=
  pl_induct hp (P := fun _ L => noadj L) (by
    intro i h
    match i with
    | 0 => simp at h
    | i + 1 => simp at h) fun k L _ hk h => noadj_step h (fun c hc q => by have := wl_letters k hk c hc; omega) (wl_pos k hk)
theorem pl_size : ∀ k, k < 8 → (pl p k).length ≤ 29 := by
  intro k hk
  have := path_len hp k
  rw [cl_len] at this
  unfold pl
  omega
end

/-- no three dots in a row -/
def nod (L : List Nat) : Bool := (List.range L.length).all fun j => (L.drop j).take 3 != [46, 46, 46]
theorem nod_at {L : List Nat} (h : nod L = true) (j : Nat) : (L.drop j).take 3 ≠ [46, 46, 46] := by
  rcases Nat.lt_or_ge j L.length with hj | hj
  · have := List.all_eq_true.mp h j (List.mem_range.mpr hj)
    simpa using this
  · rw [List.drop_eq_nil_of_le hj]; decide

theorem kind_one {x : Str} (h : ∀ c ∈ cl x, c < 256) : Builtin.Str.strKind x = 1 := by
  unfold Builtin.Str.strKind
  rw [if_pos]
  rw [← Array.all_toList]
  exact List.all_eq_true.mpr fun c hc => by simpa using h c hc

theorem emOk_path {want w0 w1 : Str} (hc : cl want = cl w0 ++ (46 :: 46 :: 46 :: cl w1)) (h0 : noadj (cl w0)) (h1 : nod (cl w1) = true) (hk : ∀ c ∈ cl want, c < 256) (hz : (cl want).length ≤ 1000) : EmOk want w0 w1 := by
  refine emOk_of hc (fun i hi hd => ?_) (fun i hi hd => ?_) (kind_one hk) hz
  · unfold dots at hd
    have g0 : (cl want)[i]? = some 46 := by
      have := congrArg (·[0]?) hd
      simpa [List.getElem?_take, List.getElem?_drop] using this
    have g1 : (cl want)[i + 1]? = some 46 := by
      have := congrArg (·[1]?) hd
      simpa [List.getElem?_take, List.getElem?_drop] using this
    rw [hc, List.getElem?_append_left hi] at g0
    refine h0 i g0 ?_
    rcases Nat.lt_or_ge (i + 1) (cl w0).length with hj | hj
    · rw [hc, List.getElem?_append_left hj] at g1
      rw [List.getElem?_append_left hj]; exact g1
    · have : i + 1 = (cl w0).length := by omega
      rw [this, List.getElem?_append_right (Nat.le_refl _)]; simp
  · unfold dots at hd
    rw [hc] at hd
    have e : (cl w0 ++ 46 :: 46 :: 46 :: cl w1) = (cl w0 ++ [46, 46, 46]) ++ cl w1 := by simp
    rw [e, List.drop_append, List.drop_eq_nil_of_le (by simp; omega), List.nil_append] at hd
    exact nod_at h1 _ hd

/-- the four tails -/
def tl (j : Nat) : Str := tailTab.getD j ""
theorem tail_is (dr : List Int) (k : Nat) : ∃ j, j < 4 ∧ tailOf dr k = tl j := by
  unfold tailOf
  rcases Nat.lt_or_ge ((((dr.getD k 0).fdiv 8).fmod 4).toNat) 4 with h | h
  · exact ⟨_, h, rfl⟩
  · refine ⟨3, by decide, ?_⟩
    rw [List.getD_eq_getElem?_getD, List.getElem?_eq_none (by simpa [tailTab] using h)]; decide
theorem tl_chars : ∀ j, j < 4 → ∀ c ∈ cl (tl j), c < 256 := by decide +kernel
theorem tl_head : ∀ j, j < 4 → (cl (tl j)).head? ≠ some 46 := by decide +kernel
theorem tl_len : ∀ j, j < 4 → (cl (tl j)).length ≤ 20 := by decide +kernel
theorem nod2 : ∀ v, v < 8 → ∀ j, j < 4 → nod (46 :: wl v ++ cl (tl j)) = true := by decide +kernel
theorem nod3 : ∀ u, u < 8 → ∀ v, v < 8 → ∀ j, j < 4 → nod (wl u ++ (46 :: wl v ++ cl (tl j))) = true := by decide +kernel
theorem wl_len (k : Nat) : (wl k).length ≤ 3 := by have := wd_len k; rw [cl_len] at this; exact this

def IsTails (ta : Nat → Str) : Prop := ∀ k, ∃ j, j < 4 ∧ ta k = tl j
theorem cl_dots : cl ("..." : Str) = [46, 46, 46] := by decide
theorem cl_ending {ta : Nat → Str} {v : Nat} : cl (ending ta v) = 46 :: wl v ++ cl (ta v) := by
  unfold ending
  rw [cl_append, cl_append]
  have : cl ("." : Str) = [46] := by decide
  rw [this]; rfl
theorem cl_line {p : Nat → Nat} {ta : Nat → Str} {v : Nat} : cl (lineOf p ta v) = pl p v ++ cl (ta v) := by
  unfold lineOf; rw [cl_append]; rfl
theorem cl_line2 {p : Nat → Nat} {ta : Nat → Str} {v : Nat} (h : p v < v) : cl (lineOf p ta v) = pl p (p v) ++ cl (ending ta v) := by
  rw [cl_line, pl_succ h, cl_ending]; simp

section
variable {p : Nat → Nat} {ta : Nat → Str} (hp : ∀ k, 0 < k → p k < k) (ht : IsTails ta)
include hp
theorem pl_lt {k : Nat} (hk : k < 8) : ∀ c ∈ pl p k, c < 256 := fun c hc => by have := pl_chars hp k hk c hc; omega
theorem ok1 {u : Nat} (hu : u < 8) : EmOk (pathOf p u ++ "...") (pathOf p u) "" := by
  have e : cl ("" : Str) = [] := by decide
  refine emOk_path (by rw [cl_append, cl_dots, e]) (pl_noadj hp u hu) (by rw [e]; decide) (fun c hc => ?_) ?_
  · rw [cl_append, cl_dots] at hc
    rcases List.mem_append.mp hc with hc | hc
    · exact pl_lt hp hu c hc
    · have : c = 46 := by simpa using hc
      omega
  · rw [cl_append, cl_dots, List.length_append]
    have := pl_size hp u hu
    unfold pl at this
    simp; omega
include ht
theorem ending_chars {v : Nat} (hv : v < 8) : ∀ c ∈ cl (ending ta v), c < 256 := fun c hc => by
  obtain ⟨j, hj, e⟩ := ht v
  rw [cl_ending, e] at hc
  rcases List.mem_append.mp hc with hc | hc
  · rcases List.mem_cons.mp hc with rfl | hc
    · decide
    · have := wl_letters v hv c hc; omega
  · exact tl_chars j hj c hc
theorem ending_len {v : Nat} (hv : v < 8) : (cl (ending ta v)).length ≤ 30 := by
  obtain ⟨j, hj, e⟩ := ht v
  rw [cl_ending, e]
  have h1 := wl_len v
  have h2 := tl_len j hj
  simp; omega
theorem ok2 {u v : Nat} (hu : u < 8) (hv : v < 8) : EmOk ((pathOf p u ++ "...") ++ ending ta v) (pathOf p u) (ending ta v) := by
  refine emOk_path (by rw [cl_append, cl_append, cl_dots]; simp) (pl_noadj hp u hu) ?_ (fun c hc => ?_) ?_
  · obtain ⟨j, hj, e⟩ := ht v
    rw [cl_ending, e]; exact nod2 v hv j hj
  · rw [cl_append, cl_append, cl_dots] at hc
    rcases List.mem_append.mp hc with hc | hc
    · rcases List.mem_append.mp hc with hc | hc
      · exact pl_lt hp hu c hc
      · have : c = 46 := by simpa using hc
        omega
    · exact ending_chars hp ht hv c hc
  · rw [cl_append, cl_append, cl_dots, List.length_append, List.length_append]
    have h1 := pl_size hp u hu
    have h2 := ending_len hp ht hv
    unfold pl at h1
    simp; omega
theorem ok3 {u v : Nat} (hu : u < 8) (hv : v < 8) : EmOk (("..." ++ wd u) ++ ending ta v) "" (wd u ++ ending ta v) := by
  have e0 : cl ("" : Str) = [] := by decide
  refine emOk_path (by rw [cl_append, cl_append, cl_append, cl_dots, e0]; simp) (by rw [e0]; intro i h; simp at h) ?_ (fun c hc => ?_) ?_
  · obtain ⟨j, hj, e⟩ := ht v
    rw [cl_append, cl_ending, e]; exact nod3 u hu v hv j hj
  · rw [cl_append, cl_append, cl_dots] at hc
    rcases List.mem_append.mp hc with hc | hc
    · rcases List.mem_append.mp hc with hc | hc
      · have : c = 46 := by simpa using hc
        omega
      · have := wl_letters u hu c hc; omega
    · exact ending_chars hp ht hv c hc
  · rw [cl_append, cl_append, cl_dots, List.length_append, List.length_append]
    have h1 : (cl (wd u)).length ≤ 3 := wl_len u
    have h2 := ending_len hp ht hv
    simp; omega
end
end Mine
end

-- LpC
section
open PySem PySem.W PyProof.Rows PySem.MeetsSeq PySem.SeqRoads2 PySem.SeqAt
set_option Elab.async false
set_option maxRecDepth 100000
set_option maxHeartbeats 1000000
set_option linter.unusedVariables false
set_option linter.unusedSimpArgs false
namespace Mine

/-- the way down from a name below the top one, and as a mask -/
def ch (p : Nat → Nat) : Nat → List Nat := gval p [] fun c k => c ++ [k]
def mask (p : Nat → Nat) : Nat → Nat := gval p 1 fun m k => m ||| (1 <<< k)
def chainM (m : Nat) : List Nat := [1, 2, 3, 4, 5, 6, 7].filter fun k => m.testBit k
def enc : List Nat → List Nat
  | [] => []
  | k :: c => 46 :: wl k ++ enc c
theorem enc_append : ∀ (c d : List Nat), enc (c ++ d) = enc c ++ enc d
  | [], _ => rfl
  | k :: c, d => by simp [enc, enc_append c d]

theorem wl_split {k : Nat} (hk : k < 8) : ∃ a r, wl k = a :: r := by
  cases h : wl k with
  | nil => have := wl_pos k hk; rw [h] at this; cases this
  | cons a r => exact ⟨a, r, rfl⟩
theorem wl_ne {j k : Nat} (hj : j < 8) (hk : k < 8) (h : j ≠ k) : ∃ a r b t, wl j = a :: r ∧ wl k = b :: t ∧ a ≠ b ∧ (a < b ↔ j < k) := by
  obtain ⟨a, r, ha⟩ := wl_split hj
  obtain ⟨b, t, hb⟩ := wl_split hk
  refine ⟨a, r, b, t, ha, hb, ?_⟩
  rcases Nat.lt_or_gt_of_ne h with h | h
  · obtain ⟨a', b', h1, h2, h3⟩ := wl_heads j hj k hk h
    rw [ha] at h1; rw [hb] at h2
    simp at h1 h2
    subst h1 h2
    exact ⟨Nat.ne_of_lt h3, iff_of_true h3 h⟩
  · obtain ⟨a', b', h1, h2, h3⟩ := wl_heads k hk j hj h
    rw [hb] at h1; rw [ha] at h2
    simp at h1 h2
    subst h1 h2
    exact ⟨Nat.ne_of_gt h3, iff_of_false (by omega) (by omega)⟩

theorem enc_prefix {t : List Nat} (ht : t.head? ≠ some 46) : ∀ (c d : List Nat), (∀ k ∈ c, k < 8) → (∀ k ∈ d, k < 8) → enc c <+: enc d ++ t → c <+: d
  | [], _, _, _, _ => List.nil_prefix
  | k :: c, [], hc, _, h => by
    simp only [enc, List.nil_append, List.cons_append] at h
    obtain ⟨r, hr⟩ := h
    rw [← hr] at ht
    simp at ht
  | k :: c, j :: d, hc, hd, h => by
    simp only [enc, List.cons_append] at h
    have h := (List.cons_prefix_cons.mp h).2
    by_cases hkj : k = j
    · subst hkj
      rw [List.append_assoc, List.prefix_append_right_inj] at h
      have := enc_prefix ht c d (fun k hk => hc k (by simp [hk])) (fun k hk => hd k (by simp [hk])) h
      exact List.cons_prefix_cons.mpr ⟨rfl, this⟩
    · obtain ⟨a, r, b, s, ha, hb, hab, _⟩ := wl_ne (hc k (by simp)) (hd j (by simp)) hkj
      rw [ha, hb] at h
      simp only [List.cons_append] at h
      exact absurd (List.cons_prefix_cons.mp h).1 hab

/-- lexical order of ways -/
def lexLt : List Nat → List Nat → Bool
  | [], [] => false
  | [], _ :: _ => true
  | _ :: _, [] => false
  | a :: r, b :: t => Nat.blt a b || (Nat.beq a b && lexLt r t)
theorem lt_same : ∀ (w x y : List Nat), Spec.ltCps (w ++ x) (w ++ y) = Spec.ltCps x y
  | [], _, _ => rfl
  | a :: w, x, y => by simp [Spec.ltCps, lt_same w x y]
theorem enc_lt : ∀ (c d : List Nat), (∀ k ∈ c, k < 8) → (∀ k ∈ d, k < 8) → Spec.ltCps (enc c) (enc d) = lexLt c d
  | [], [], _, _ => rfl
  | [], _ :: _, _, _ => rfl
  | _ :: _, [], _, _ => rfl
  | k :: c, j :: d, hc, hd => by
    by_cases hkj : k = j
    · subst hkj
      have ih := enc_lt c d (fun k hk => hc k (by simp [hk])) (fun k hk => hd k (by simp [hk]))
      have e : Spec.ltCps (enc (k :: c)) (enc (k :: d)) = Spec.ltCps ((46 :: wl k) ++ enc c) ((46 :: wl k) ++ enc d) := rfl
      rw [e, lt_same, ih]
      have h1 : Nat.blt k k = false := by
        cases h : Nat.blt k k with
        | false => rfl
        | true => exact absurd (Nat.blt_eq.mp h) (Nat.lt_irrefl _)
      simp [lexLt, h1]
    · obtain ⟨a, r, b, s, ha, hb, hab, hlt⟩ := wl_ne (hc k (by simp)) (hd j (by simp)) hkj
      simp only [enc, ha, hb, List.cons_append, Spec.ltCps, lexLt]
      have h1 : (a == b) = false := by simpa using hab
      have h2 : Nat.beq k j = false := by
        cases h : Nat.beq k j with
        | false => rfl
        | true => exact absurd (Nat.eq_of_beq_eq_true h) hkj
      have h3 : Nat.blt k j = decide (k < j) := by
        rw [Bool.eq_iff_iff, Nat.blt_eq, decide_eq_true_eq]
      rw [h1, h2, h3]
      simp [hlt]

theorem wl_rev : ∀ u, u < 8 → ∀ q, q < 8 → u ≠ q → (wl u).reverse.take (min (wl u).length (wl q).length) ≠ (wl q).reverse.take (min (wl u).length (wl q).length) := by decide +kernel
theorem chain_step : ∀ k, 0 < k → k < 8 → ∀ m, m < 2 ^ k → chainM (m ||| (1 <<< k)) = chainM m ++ [k] := by
  have : ∀ k, k < 8 → 0 < k → ∀ m, m < 2 ^ k → chainM (m ||| (1 <<< k)) = chainM m ++ [k] := by decide +kernel
  exact fun k h0 hk => this k hk h0
theorem mask_step : ∀ k, k < 8 → ∀ m, m < 2 ^ k → m ||| (1 <<< k) < 2 ^ (k + 1) ∧ (m ||| (1 <<< k)) % 2 = (if k = 0 then 1 else m % 2) := by decide +kernel

theorem parL_get {p : Nat → Nat} {k : Nat} (h : k < 8) : (parL p).getD k 0 = (p k : Int) := by
  unfold parL
  rw [List.getD_eq_getElem?_getD, List.getElem?_map, List.getElem?_range h]; rfl
theorem rows_zero {ps : List Int} : ∀ i, rows ps 0 i = [0]
  | 0 => rfl
  | i + 1 => by simp [rows, rows_zero i]
theorem rows_ne {ps : List Int} {one i : Nat} : rows ps one i ≠ [] := fun h => by have := rows_last ps one i; rw [h] at this; cases this
theorem rows_cons {ps : List Int} {one q : Nat} (h : 0 < one) (hq : ps.getD one 0 = (q : Int)) : ∀ i, rows ps one (i + 1) = (one : Int) :: rows ps q i
  | 0 => by
    have : (one : Int) > 0 := by omega
    simp only [rows, List.getLastD_cons, List.getLastD_nil, this, if_true, Int.toNat_natCast, hq]
    rfl
  | i + 1 => by
    have ih := rows_cons h hq i
    have hl : (rows ps one (i + 1)).getLastD 0 = (rows ps q i).getLastD 0 := by
      rw [ih, List.getLastD_cons, List.getLastD_eq_getLast?, List.getLastD_eq_getLast?, rows_last]; rfl
    show (let r := rows ps one (i + 1); if r.getLastD 0 > 0 then r ++ [ps.getD (r.getLastD 0).toNat 0] else r) = _ :: (let r := rows ps q i; if r.getLastD 0 > 0 then r ++ [ps.getD (r.getLastD 0).toNat 0] else r)
    simp only [hl]
    split
    · rw [ih]; rfl
    · rw [ih]

section
variable {p : Nat → Nat} (hp : ∀ k, 0 < k → p k < k)
include hp
theorem mask_lt : ∀ k, k < 8 → mask p k < 2 ^ (k + 1) ∧ mask p k % 2 = 1 ∧ ch p k = chainM (mask p k) := by
  intro k
  induction k using Nat.strongRecOn with
  | _ k ih =>
    intro hk
    rcases Nat.eq_zero_or_pos k with h | h
    · subst h
      unfold mask ch
      rw [gval_zero, gval_zero]
      decide
    · have h1 := hp k h
      obtain ⟨i1, i2, i3⟩ := ih _ h1 (by omega)
      unfold mask ch at *
      rw [gval_succ h1, gval_succ h1]
      have hlt : gval p 1 (fun m k => m ||| (1 <<< k)) (p k) < 2 ^ k := Nat.lt_of_lt_of_le i1 (Nat.pow_le_pow_right (by decide) h1)
      obtain ⟨m1, m2⟩ := mask_step k hk _ hlt
      rw [if_neg (by omega)] at m2
      refine ⟨m1, m2.trans i2, ?_⟩
      rw [chain_step k h hk _ hlt, i3]
theorem mask_succ {k : Nat} (h : 0 < k) : mask p k = mask p (p k) ||| (1 <<< k) := gval_succ (hp k h)
theorem ch_succ {k : Nat} (h : 0 < k) : ch p k = ch p (p k) ++ [k] := gval_succ (hp k h)
theorem ch_lt : ∀ k, k < 8 → ∀ j ∈ ch p k, 0 < j ∧ j ≤ k := by
  intro k
  induction k using Nat.strongRecOn with
  | _ k ih =>
    intro hk
    rcases Nat.eq_zero_or_pos k with h | h
    · subst h; unfold ch; rw [gval_zero]; intro j hj; cases hj
    · rw [ch_succ hp h]
      intro j hj
      have h1 := hp k h
      rcases List.mem_append.mp hj with hj | hj
      · have := ih _ h1 (by omega) j hj; omega
      · have : j = k := by simpa using hj
        omega
theorem pl_enc : ∀ k, k < 8 → pl p k = 97 :: enc (ch p k) := by
  intro k
  induction k using Nat.strongRecOn with
  | _ k ih =>
    intro hk
    rcases Nat.eq_zero_or_pos k with h | h
    · subst h; rw [pl_zero]; unfold ch; rw [gval_zero]; rfl
    · have h1 := hp k h
      rw [pl_succ h1, ih _ h1 (by omega), ch_succ hp h, enc_append]
      simp [enc]
theorem up_ch : ∀ k, k < 8 → ∀ i, k ≤ i → rows (parL p) k i = ((0 :: ch p k).reverse).map fun j => ((j : Nat) : Int) := by
  intro k
  induction k using Nat.strongRecOn with
  | _ k ih =>
    intro hk i hi
    rcases Nat.eq_zero_or_pos k with h | h
    · subst h
      rw [rows_zero]; unfold ch; rw [gval_zero]; rfl
    · have h1 := hp k h
      obtain ⟨i, rfl⟩ : ∃ j, i = j + 1 := ⟨i - 1, by omega⟩
      rw [rows_cons h (parL_get hk), ih _ h1 (by omega) i (by omega), ch_succ hp h]
      simp
theorem upL_ch {k : Nat} (hk : k < 8) : upL p k = ((0 :: ch p k).reverse).map fun j => ((j : Nat) : Int) := up_ch hp k hk k (Nat.le_refl _)
theorem upL_mem {u k : Nat} (hk : k < 8) : (upL p k).contains (u : Int) = true ↔ u = 0 ∨ u ∈ ch p k := by
  rw [upL_ch hp hk, List.contains_iff_mem, List.mem_map]
  constructor
  · rintro ⟨j, hj, e⟩
    have : j = u := by omega
    subst this
    rw [List.mem_reverse] at hj
    exact List.mem_cons.mp hj
  · intro h
    exact ⟨u, by rw [List.mem_reverse]; exact List.mem_cons.mpr h, rfl⟩
theorem ch_prefix : ∀ k, k < 8 → ∀ u, u ∈ ch p k → ch p u <+: ch p k := by
  intro k
  induction k using Nat.strongRecOn with
  | _ k ih =>
    intro hk u hu
    rcases Nat.eq_zero_or_pos k with h | h
    · subst h; unfold ch at hu; rw [gval_zero] at hu; cases hu
    · have h1 := hp k h
      rw [ch_succ hp h] at hu ⊢
      rcases List.mem_append.mp hu with hu | hu
      · exact (ih _ h1 (by omega) u hu).trans (List.prefix_append _ _)
      · have : u = k := by simpa using hu
        subst this
        rw [ch_succ hp h]; exact List.prefix_refl _
theorem ch_self {u : Nat} (h : 0 < u) : u ∈ ch p u := by rw [ch_succ hp h]; simp

theorem pre_iff {u v : Nat} (hu : u < 8) (hv : v < 8) {t : List Nat} (ht : t.head? ≠ some 46) : pl p u <+: pl p v ++ t ↔ (upL p v).contains (u : Int) = true := by
  rw [upL_mem hp hv, pl_enc hp u hu, pl_enc hp v hv, List.cons_append, List.cons_prefix_cons]
  constructor
  · rintro ⟨_, h⟩
    have := enc_prefix ht _ _ (fun k hk => by have := ch_lt hp u hu k hk; omega) (fun k hk => by have := ch_lt hp v hv k hk; omega) h
    rcases Nat.eq_zero_or_pos u with h0 | h0
    · exact .inl h0
    · exact .inr (this.subset (ch_self hp h0))
  · intro h
    refine ⟨rfl, ?_⟩
    rcases h with rfl | h
    · have : ch p 0 = [] := gval_zero
      rw [this]; exact List.nil_prefix
    · obtain ⟨r, hr⟩ := ch_prefix hp v hv u h
      rw [← hr, enc_append, List.append_assoc]
      exact List.prefix_append _ _

theorem em1_of {ta : Nat → Str} (ht : IsTails ta) {u v : Nat} (hu : u < 8) (hv : v < 8) : em (pathOf p u) "" (lineOf p ta v) = (upL p v).contains (u : Int) := by
  obtain ⟨j, hj, e⟩ := ht v
  have hd : (cl (ta v)).head? ≠ some 46 := by rw [e]; exact tl_head j hj
  rw [Bool.eq_iff_iff, em_iff, ← pre_iff hp hu hv hd, cl_line]
  have e0 : cl ("" : Str) = [] := by decide
  rw [e0]
  constructor
  · exact fun h => h.1
  · intro h
    refine ⟨h, List.nil_suffix, ?_⟩
    have := h.length_le
    show (pl p u).length + 0 ≤ _
    simpa using this

theorem upL_drop {v : Nat} (h0 : 0 < v) (hv : v < 8) : (upL p v).drop 1 = upL p (p v) := by
  have h1 := hp v h0
  rw [upL_ch hp hv, upL_ch hp (by omega : p v < 8), ch_succ hp h0]
  simp

theorem em2_of {ta : Nat → Str} {u v : Nat} (hu : u < 8) (h0 : 0 < v) (hv : v < 8) : em (pathOf p u) (ending ta v) (lineOf p ta v) = ((upL p v).drop 1).contains (u : Int) := by
  have h1 := hp v h0
  rw [upL_drop hp h0 hv, Bool.eq_iff_iff, em_iff, ← pre_iff hp hu (by omega : p v < 8) (t := []) (by simp), cl_line2 h1, List.append_nil]
  show pl p u <+: _ ∧ _ ∧ (pl p u).length + _ ≤ _ ↔ _
  constructor
  · rintro ⟨h, _, hl⟩
    rw [List.length_append] at hl
    exact List.prefix_of_prefix_length_le h (List.prefix_append _ _) (Nat.le_of_add_le_add_right hl)
  · intro h
    refine ⟨h.trans (List.prefix_append _ _), List.suffix_append _ _, ?_⟩
    rw [List.length_append]
    have := h.length_le
    omega

theorem pl_end : ∀ k, k < 8 → ∃ X, pl p k = X ++ wl k := by
  intro k hk
  rcases Nat.eq_zero_or_pos k with h | h
  · subst h
    exact ⟨[], by rw [pl_zero]; decide⟩
  · exact ⟨pl p (p k) ++ [46], by rw [pl_succ (hp k h)]; simp⟩
theorem em3_of {ta : Nat → Str} {u v : Nat} (hu : u < 8) (h0 : 0 < v) (hv : v < 8) : em "" (wd u ++ ending ta v) (lineOf p ta v) = ((u : Int) == (p v : Int)) := by
  have h1 := hp v h0
  have e0 : cl ("" : Str) = [] := by decide
  have hq : p v < 8 := by omega
  rw [Bool.eq_iff_iff, em_iff, cl_line2 h1, e0, cl_append, beq_iff_eq]
  obtain ⟨X, hX⟩ := pl_end hp (p v) hq
  rw [hX]
  constructor
  · rintro ⟨_, h, _⟩
    by_cases huq : u = p v
    · omega
    · exfalso
      refine wl_rev u hu (p v) hq huq ?_
      rw [← List.reverse_prefix] at h
      simp only [List.reverse_append] at h
      rw [List.prefix_append_right_inj] at h
      change (wl u).reverse <+: _ at h
      have e := List.prefix_iff_eq_take.mp h
      rw [e, List.take_take]
      rw [List.take_append_of_le_length]
      · congr 1
        simp
      · simp; omega
  · intro h
    have : u = p v := by omega
    subst this
    refine ⟨List.nil_prefix, ?_, ?_⟩
    · rw [List.append_assoc]; exact List.suffix_append _ _
    · simp [wl]
end
end Mine
end

-- LpD
section
open PySem PySem.W PyProof.Rows PySem.MeetsSeq PySem.SeqRoads2 PySem.SeqAt
set_option Elab.async false
set_option maxRecDepth 100000
set_option maxHeartbeats 1000000
set_option linter.unusedVariables false
set_option linter.unusedSimpArgs false
namespace Mine

open StrLaws Builtin Builtin.Str in
theorem at_char {x y : Str} {c : Nat} (hy : cl y = [c]) {hi i : Nat} : At x y hi i ↔ i < hi ∧ (cl x)[i]? = some c := by
  unfold At
  rw [subAt_eq, beq_iff_eq]
  have h1 : y.length = 1 := by rw [cl_len, hy]; rfl
  rw [h1]
  show i + 1 ≤ hi ∧ ((cl x).drop i).take 1 = cl y ↔ _
  rw [hy]
  refine and_congr Iff.rfl ?_
  constructor
  · intro h
    have := congrArg (·[0]?) h
    simpa [List.getElem?_take, List.getElem?_drop] using this
  · intro h
    have hi : i < (cl x).length := by
      rcases Nat.lt_or_ge i (cl x).length with h' | h'
      · exact h'
      · rw [List.getElem?_eq_none h'] at h; cases h
    rw [List.drop_eq_getElem_cons hi]
    rw [List.getElem?_eq_getElem hi] at h
    simp at h
    simp [h]
open StrLaws Builtin Builtin.Str in
theorem occ_none {x y : Str} {c hi : Nat} (hy : cl y = [c]) (h : ∀ i, i < hi → (cl x)[i]? ≠ some c) : occurrences x y 0 hi 1 = [] := by
  rcases occ_in x y 0 hi 1 (Nat.le_refl _) with ⟨h1, _⟩ | ⟨i, r, h1, h2, h3, h4⟩
  · exact h1
  · exact absurd ((at_char hy).mp h3).2 (h i ((at_char hy).mp h3).1)
open StrLaws Builtin Builtin.Str in
theorem occ_some {x y : Str} {c hi i : Nat} (hy : cl y = [c]) (hi' : i < hi) (hc : (cl x)[i]? = some c) (h : ∀ k, k < i → (cl x)[k]? ≠ some c) : ∃ r, occurrences x y 0 hi 1 = i :: r := by
  rcases occ_in x y 0 hi 1 (Nat.le_refl _) with ⟨_, h1⟩ | ⟨j, r, h1, h2, h3, h4⟩
  · exact absurd ((at_char hy).mpr ⟨hi', hc⟩) (h1 i (Nat.zero_le _))
  · have : j = i := by
      rcases Nat.lt_trichotomy j i with q | q | q
      · exact absurd ((at_char hy).mp h3).2 (h j q)
      · exact q
      · exact absurd ((at_char hy).mpr ⟨hi', hc⟩) (h4 i (Nat.zero_le _) q)
    subst this
    exact ⟨r, h1⟩
theorem cl_nl : cl ("\n" : Str) = [10] := by decide
theorem cl_col : cl (":" : Str) = [58] := by decide
theorem cl_dot : cl ("." : Str) = [46] := by decide
theorem e1_some {m : Str} {i : Nat} (hc : (cl m)[i]? = some 10) (h : ∀ k, k < i → (cl m)[k]? ≠ some 10) : stripE1 m = i := by
  have hi : i < m.length := by
    rw [cl_len]
    rcases Nat.lt_or_ge i (cl m).length with h' | h'
    · exact h'
    · rw [List.getElem?_eq_none h'] at hc; cases hc
  obtain ⟨r, hr⟩ := occ_some cl_nl hi hc h
  unfold stripE1 Txt.find
  rw [hr]
  simp
theorem e1_none {m : Str} (h : ∀ k : Nat, (cl m)[k]? ≠ some 10) : stripE1 m = m.length := by
  unfold stripE1 Txt.find
  rw [occ_none cl_nl fun i _ => h i]
  simp
theorem e2_some {m : Str} {b i : Nat} (hb : stripE1 m = b) (hbl : b ≤ m.length) (hi : i < b) (hc : (cl m)[i]? = some 58) (h : ∀ k, k < i → (cl m)[k]? ≠ some 58) : stripE2 m = i := by
  unfold stripE2
  rw [hb]
  obtain ⟨r, hr⟩ := occ_some (x := m) cl_col hi hc h
  have e : find4 m ":" 0 (b : Int) = i := by
    unfold find4
    have h0 : fromIndex m.length (0 : Int) = 0 := fromIndex_nat (a := 0)
    rw [h0, fromIndex_nat, Nat.min_eq_left hbl, hr]
  rw [e]
  simp
theorem e2_none {m : Str} {b : Nat} (hb : stripE1 m = b) (hbl : b ≤ m.length) (h : ∀ k, k < b → (cl m)[k]? ≠ some 58) : stripE2 m = b := by
  unfold stripE2
  rw [hb]
  have e : find4 m ":" 0 (b : Int) = -1 := by
    unfold find4
    have h0 : fromIndex m.length (0 : Int) = 0 := fromIndex_nat (a := 0)
    rw [h0, fromIndex_nat, Nat.min_eq_left hbl, occ_none (x := m) cl_col h]
  rw [e]
  simp
open StrLaws Builtin Builtin.Str in
theorem s_some {m : Str} {b i : Nat} (hb : stripE2 m = b) (hbl : b ≤ m.length) (hi : i < b) (hc : (cl m)[i]? = some 46) (h : ∀ k, i < k → k < b → (cl m)[k]? ≠ some 46) : stripS m = (i + 1 : Nat) := by
  unfold stripS
  rw [hb]
  have e : rfind4 m "." 0 (b : Int) = i := by
    unfold rfind4
    have h0 : fromIndex m.length (0 : Int) = 0 := fromIndex_nat (a := 0)
    rw [h0, fromIndex_nat, Nat.min_eq_left hbl]
    rcases last_in m "." 0 b with ⟨_, h1⟩ | ⟨j, h1, h2, h3⟩
    · exact absurd ((at_char cl_dot).mpr ⟨hi, hc⟩) (h1 i (Nat.zero_le _))
    · have : j = i := by
        rcases Nat.lt_trichotomy j i with q | q | q
        · exact absurd ((at_char cl_dot).mpr ⟨hi, hc⟩) (h3 i (Nat.zero_le _) q)
        · exact q
        · exact absurd ((at_char cl_dot).mp h2).2 (h j q ((at_char cl_dot).mp h2).1)
      subst this
      rw [h1]
  rw [e, if_pos (by omega)]
  omega
open StrLaws Builtin Builtin.Str in
theorem s_none {m : Str} {b : Nat} (hb : stripE2 m = b) (hbl : b ≤ m.length) (h : ∀ k, k < b → (cl m)[k]? ≠ some 46) : stripS m = (0 : Nat) := by
  unfold stripS
  rw [hb]
  have e : rfind4 m "." 0 (b : Int) = -1 := by
    unfold rfind4
    have h0 : fromIndex m.length (0 : Int) = 0 := fromIndex_nat (a := 0)
    rw [h0, fromIndex_nat, Nat.min_eq_left hbl]
    rcases last_in m "." 0 b with ⟨h1, _⟩ | ⟨j, h1, h2, h3⟩
    · rw [h1]
    · exact absurd ((at_char cl_dot).mp h2).2 (h j ((at_char cl_dot).mp h2).1)
  rw [e, if_neg (by omega)]; rfl
open StrLaws Builtin Builtin.Str in
theorem slice_cl {x : Str} {a b : Nat} (hab : a ≤ b) (hb : b ≤ x.length) : cl (Txt.slice x (some (a : Int)) (some (b : Int))) = ((cl x).drop a).take (b - a) := by
  unfold Txt.slice
  split
  · rename_i h
    rw [strSliceIndices_plain hab hb] at h
    simp at h
    have : a = 0 ∧ b = x.length := by omega
    obtain ⟨rfl, rfl⟩ := this
    rw [cl_len]; simp
  · show (List.toArray _).toList = _
    rw [sliced_plain x hab hb]; rfl

theorem strip_line {m : Str} {X w t : List Nat} (hm : cl m = (X ++ w) ++ t) (hc : ∀ c ∈ X ++ w, c ≠ 10 ∧ c ≠ 58) (hw : ∀ c ∈ w, c ≠ 46) (hX : X = [] ∨ ∃ X', X = X' ++ [46]) (ht : ∃ j, j < 4 ∧ t = cl (tl j)) : cl (stripD m) = w := by
  have hlt : ∀ k, k < (X ++ w).length → (cl m)[k]? = (X ++ w)[k]? := fun k hk => by rw [hm, List.getElem?_append_left hk]
  have hno : ∀ k, k < (X ++ w).length → (cl m)[k]? ≠ some 10 ∧ (cl m)[k]? ≠ some 58 := fun k hk => by
    rw [hlt k hk]
    exact ⟨fun h => (hc _ (List.mem_of_getElem? h)).1 rfl, fun h => (hc _ (List.mem_of_getElem? h)).2 rfl⟩
  have hge : ∀ i, (cl m)[(X ++ w).length + i]? = t[i]? := fun i => by rw [hm, List.getElem?_append_right (by omega)]; congr 1; omega
  have hml : m.length = (X ++ w).length + t.length := by rw [cl_len, hm, List.length_append]
  generalize he : (X ++ w).length = e at *
  have hE : stripE2 m = e := by
    obtain ⟨j, hj, rfl⟩ := ht
    have hk : ∀ (c : Nat) (q k : Nat), k < e + q → (∀ k, k < e → (cl m)[k]? ≠ some c) → (∀ i, i < q → (cl (tl j))[i]? ≠ some c) → (cl m)[k]? ≠ some c := fun c q k hkq h1 h2 => by
      rcases Nat.lt_or_ge k e with h | h
      · exact h1 k h
      · obtain ⟨i, rfl⟩ : ∃ i, k = e + i := ⟨k - e, by omega⟩
        rw [hge]; exact h2 i (by omega)
    match j, hj with
    | 0, _ =>
      have hE1 : stripE1 m = (e + 3 : Nat) := e1_some (by rw [hge]; decide) fun k hk' => hk 10 3 k hk' (fun k h => (hno k h).1) (by decide)
      refine e2_some hE1 (by rw [hml]; have : (cl (tl 0)).length = 9 := by decide
                             omega) (by omega) (by have := hge 0; rw [Nat.add_zero] at this; rw [this]; decide) fun k hk' => (hno k hk').2
    | 1, _ =>
      have hE1 : stripE1 m = (m.length : Nat) := e1_none fun k => by
        rcases Nat.lt_or_ge k (e + 10) with h | h
        · exact hk 10 10 k h (fun k h => (hno k h).1) (by decide)
        · rw [List.getElem?_eq_none (by rw [← cl_len, hml]; have : (cl (tl 1)).length = 10 := by decide
                                        omega)]
          simp
      refine e2_some hE1 (Nat.le_refl _) (by rw [hml]; have : (cl (tl 1)).length = 10 := by decide
                                             omega) (by have := hge 0; rw [Nat.add_zero] at this; rw [this]; decide) fun k hk' => (hno k hk').2
    | 2, _ =>
      have hE1 : stripE1 m = (e : Nat) := e1_some (by have := hge 0; rw [Nat.add_zero] at this; rw [this]; decide) fun k hk' => (hno k hk').1
      exact e2_none hE1 (by rw [hml]; omega) fun k hk' => (hno k hk').2
    | 3, _ =>
      have hl : (cl (tl 3)).length = 0 := by decide
      have hme : m.length = e := by rw [hml, hl]; rfl
      have hE1 : stripE1 m = (e : Nat) := by
        rw [← hme]
        refine e1_none fun k => ?_
        rcases Nat.lt_or_ge k e with h | h
        · exact (hno k h).1
        · rw [List.getElem?_eq_none (by rw [← cl_len, hme]; exact h)]; simp
      exact e2_none hE1 (by omega) fun k hk' => (hno k hk').2
  have hS : stripS m = (X.length : Nat) := by
    rcases hX with rfl | ⟨X', rfl⟩
    · refine s_none hE (by omega) fun k hk h => ?_
      rw [hlt k hk] at h
      exact hw _ (by simpa using List.mem_of_getElem? h) rfl
    · have hl : (X' ++ [46]).length = X'.length + 1 := by simp
      rw [hl]
      rw [List.length_append, hl] at he
      refine s_some hE (by omega) (by omega) ?_ fun k hk1 hk2 h => ?_
      · rw [hlt _ (by omega), List.append_assoc, List.getElem?_append_right (Nat.le_refl _)]; simp
      · rw [hlt k hk2, List.getElem?_append_right (by simp; omega)] at h
        exact hw _ (List.mem_of_getElem? h) rfl
  unfold stripD
  rw [hS, hE]
  rw [List.length_append] at he
  rw [slice_cl (by omega) (by omega), hm, List.append_assoc, List.drop_left]
  have : e - X.length = w.length := by omega
  rw [this, List.take_left]

theorem strip_of {p : Nat → Nat} (hp : ∀ k, 0 < k → p k < k) {ta : Nat → Str} (ht : IsTails ta) {k : Nat} (hk : k < 8) : stripD (lineOf p ta k) = wd k := by
  refine cl_inj ?_
  show _ = wl k
  have hch := pl_chars hp k hk
  have hw : ∀ c ∈ wl k, c ≠ 46 := fun c hc q => by have := wl_letters k hk c hc; omega
  have htt : ∃ j, j < 4 ∧ cl (ta k) = cl (tl j) := let ⟨j, hj, e⟩ := ht k; ⟨j, hj, by rw [e]⟩
  rcases Nat.eq_zero_or_pos k with h | h
  · subst h
    have e : pl p 0 = [] ++ wl 0 := by rw [pl_zero]; decide
    refine strip_line (X := []) (by rw [cl_line, e]) (fun c hc => ?_) hw (.inl rfl) htt
    rw [← e] at hc
    have := hch c hc
    omega
  · have e : pl p k = (pl p (p k) ++ [46]) ++ wl k := by rw [pl_succ (hp k h)]; simp
    refine strip_line (X := pl p (p k) ++ [46]) (by rw [cl_line, e]) (fun c hc => ?_) hw (.inr ⟨_, rfl⟩) htt
    rw [← e] at hc
    have := hch c hc
    omega

theorem strFacts {p : Nat → Nat} (hp : ∀ k, 0 < k → p k < k) {ta : Nat → Str} (ht : IsTails ta) : StrFacts p ta where
  par := hp
  line := fun k hk => by
    rw [cl_len, cl_line, List.length_append]
    obtain ⟨j, hj, e⟩ := ht k
    have h1 := pl_size hp k hk
    have h2 := tl_len j hj
    rw [e]; omega
  tail := fun k hk => by
    obtain ⟨j, hj, e⟩ := ht k
    rw [cl_len, e]; exact tl_len j hj
  ok1 := fun u hu => ok1 hp hu
  em1 := fun u v hu hv => em1_of hp ht hu hv
  ok2 := fun u v hu _ hv => ok2 hp ht hu hv
  em2 := fun u v hu h0 hv => em2_of hp hu h0 hv
  ok3 := fun u v hu _ hv => ok3 hp ht hu hv
  em3 := fun u v hu h0 hv => em3_of hp hu h0 hv
end Mine
end

-- LpE
section
open PySem PySem.W PyProof.Rows PySem.MeetsSeq PySem.SeqRoads2 PySem.SeqAt
set_option Elab.async false
set_option maxRecDepth 100000
set_option maxHeartbeats 1000000
set_option linter.unusedVariables false
set_option linter.unusedSimpArgs false
namespace Mine

theorem lt_cps : ∀ (a b : List Nat), Spec.ltCps a b = decide (a < b)
  | [], [] => by simp [Spec.ltCps]
  | [], b :: t => by simp [Spec.ltCps]
  | a :: r, [] => by simp [Spec.ltCps]
  | a :: r, b :: t => by
    rw [StrLaws.lt_cons_cons, ← lt_cps r t]
    rfl

theorem rising_pairs : ∀ (r : List Str) (q : Str), risingS q r = true → (∀ y ∈ r, cl q ≤ cl y) ∧ r.Pairwise fun a b => cl a ≤ cl b
  | [], _, _ => ⟨(fun _ h => by cases h), .nil⟩
  | x :: r, q, h => by
    simp only [risingS, Bool.and_eq_true, Bool.not_eq_true'] at h
    obtain ⟨h1, h2⟩ := h
    obtain ⟨i1, i2⟩ := rising_pairs r x h2
    rw [lt_cps] at h1
    have hqx : cl q ≤ cl x := by
      have := of_decide_eq_false h1
      exact List.not_lt.mp this
    refine ⟨fun y hy => ?_, .cons i1 i2⟩
    rcases List.mem_cons.mp hy with rfl | hy
    · exact hqx
    · exact List.le_trans hqx (i1 y hy)
theorem sorted_pairs {ss : List Str} (h : sortedS ss = true) : ss.Pairwise fun a b => cl a ≤ cl b := by
  cases ss with
  | nil => exact .nil
  | cons x r =>
    have := rising_pairs r x h
    exact .cons this.1 this.2

theorem place_of {ss : List Str} {x : Str} (hs : sortedS ss = true) (hn : ss.Nodup) (hx : x ∈ ss) :
    ss[ss.countP fun z => Spec.ltCps (cl z) (cl x)]? = some x ∧ ∀ m, m < (ss.countP fun z => Spec.ltCps (cl z) (cl x)) → ∀ z, ss[m]? = some z → z.cps.toList ≠ x.cps.toList := by
  have hp := sorted_pairs hs
  obtain ⟨pre, post, rfl⟩ := List.append_of_mem hx
  rw [List.pairwise_append] at hp
  obtain ⟨_, hp2, hp3⟩ := hp
  have hpost := (List.pairwise_cons.mp hp2).1
  rw [List.nodup_append] at hn
  obtain ⟨_, hn2, hn3⟩ := hn
  have hpre : ∀ z ∈ pre, Spec.ltCps (cl z) (cl x) = true := fun z hz => by
    rw [lt_cps]
    refine decide_eq_true ?_
    have h1 : cl z ≤ cl x := hp3 z hz x (by simp)
    have h2 : z ≠ x := hn3 z hz x (by simp)
    rcases Classical.em (cl z < cl x) with h | h
    · exact h
    · exact absurd (cl_inj (List.le_antisymm h1 (List.not_lt.mp h))) h2
  have e : (pre ++ x :: post).countP (fun z => Spec.ltCps (cl z) (cl x)) = pre.length := by
    rw [List.countP_append, List.countP_eq_length.mpr hpre, List.countP_eq_zero.mpr]
    · rfl
    · intro z hz
      rw [lt_cps]
      have : cl x ≤ cl z := by
        rcases List.mem_cons.mp hz with rfl | hz
        · exact List.le_refl _
        · exact hpost z hz
      simp only [decide_eq_true_eq]
      exact List.not_lt.mpr this
  rw [e]
  refine ⟨by simp, fun m hm z hz q => ?_⟩
  rw [List.getElem?_append_left hm] at hz
  exact hn3 z (List.mem_of_getElem? hz) x (by simp) (cl_inj q)

def ahL (p : Nat → Nat) (u : Nat) : Nat := (List.range 8).countP fun v => lexLt (ch p v) (ch p u)
section
variable {p : Nat → Nat} (hp : ∀ k, 0 < k → p k < k)
include hp
theorem ch_inj {u v : Nat} (hu : u < 8) (hv : v < 8) (h : ch p u = ch p v) : u = v := by
  have last : ∀ k, 0 < k → (ch p k).getLast? = some k := fun k hk => by rw [ch_succ hp hk]; simp
  have zero : ch p 0 = [] := gval_zero
  rcases Nat.eq_zero_or_pos u with h1 | h1 <;> rcases Nat.eq_zero_or_pos v with h2 | h2
  · omega
  · subst h1; have := last v h2; rw [← h, zero] at this; cases this
  · subst h2; have := last u h1; rw [h, zero] at this; cases this
  · have a := last u h1
    have b := last v h2
    rw [h, b] at a
    exact (Option.some.inj a).symm
theorem path_inj {u v : Nat} (hu : u < 8) (hv : v < 8) (h : pathOf p u = pathOf p v) : u = v := by
  have h : pl p u = pl p v := by unfold pl; rw [h]
  rw [pl_enc hp u hu, pl_enc hp v hv] at h
  have h := (List.cons.inj h).2
  have a : ∀ k, k < 8 → ∀ j ∈ ch p k, j < 8 := fun k hk j hj => by have := ch_lt hp k hk j hj; omega
  have h1 := enc_prefix (t := []) (by simp) (ch p u) (ch p v) (a u hu) (a v hv) (by rw [h, List.append_nil]; exact List.prefix_refl _)
  have h2 := enc_prefix (t := []) (by simp) (ch p v) (ch p u) (a v hv) (a u hu) (by rw [h, List.append_nil]; exact List.prefix_refl _)
  exact ch_inj hp hu hv (List.IsPrefix.eq_of_length h1 (Nat.le_antisymm h1.length_le h2.length_le))
theorem path_nodup : (pathL p).Nodup := by
  unfold pathL
  refine List.Pairwise.map _ (fun a b h => ?_) (List.Pairwise.and_mem.mp (List.nodup_range (n := 8)))
  intro q
  exact h.2.2 (path_inj hp (List.mem_range.mp h.1) (List.mem_range.mp h.2.1) q)
theorem ordFact : OrdFact p (ahL p) where
  at_ := fun ss hperm hsort u hu => by
    have hx : pathOf p u ∈ ss := hperm.mem_iff.mpr (List.mem_map.mpr ⟨u, List.mem_range.mpr hu, rfl⟩)
    have key := place_of hsort (hperm.nodup_iff.mpr (path_nodup hp)) hx
    have e : (ss.countP fun z => Spec.ltCps (cl z) (cl (pathOf p u))) = ahL p u := by
      rw [hperm.countP_eq]
      unfold pathL ahL
      rw [List.countP_map]
      refine List.countP_congr fun v hv => ?_
      have hv := List.mem_range.mp hv
      show Spec.ltCps (pl p v) (pl p u) = true ↔ _
      rw [pl_enc hp v hv, pl_enc hp u hu]
      have a : ∀ k, k < 8 → ∀ j ∈ ch p k, j < 8 := fun k hk j hj => by have := ch_lt hp k hk j hj; omega
      rw [show Spec.ltCps (97 :: enc (ch p v)) (97 :: enc (ch p u)) = Spec.ltCps (enc (ch p v)) (enc (ch p u)) from lt_same [97] _ _, enc_lt _ _ (a v hv) (a u hu)]
    rw [e] at key
    exact key
end
end Mine
end

-- LpF
section
open PySem PySem.W PyProof.Rows
set_option Elab.async false
set_option maxRecDepth 100000
set_option maxHeartbeats 0
set_option linter.unusedVariables false
namespace Mine
/-- byte k of a packed row -/
def by8 (a k : Nat) : Nat := Nat.land (Nat.shiftRight a (Nat.mul 8 k)) 255
def lowN (a : Nat) : Nat := Nat.sub a (Nat.land a (Nat.sub a 1))
def sbN (a : Nat) : Bool := cond (Nat.beq a 0) false (Nat.beq (Nat.land a (Nat.sub a 1)) 0)
/-- a number is reckoned out before it is used -/
def fr (x : Nat) (f : Nat → Bool) : Bool := Nat.rec (motive := fun _ => Bool) true (fun n _ => f n) (Nat.succ x)
def sum8 (f : Nat → Nat) : Nat := Nat.add (f 0) (Nat.add (f 1) (Nat.add (f 2) (Nat.add (f 3) (Nat.add (f 4) (Nat.add (f 5) (Nat.add (f 6) (f 7)))))))
def all8 (f : Nat → Bool) : Bool := cond (f 0) (cond (f 1) (cond (f 2) (cond (f 3) (cond (f 4) (cond (f 5) (cond (f 6) (f 7) false) false) false) false) false) false) false
def pack8 (f : Nat → Nat) : Nat := sum8 fun k => Nat.shiftLeft (f k) (Nat.mul 8 k)
def bitN (m k : Nat) : Nat := Nat.land (Nat.shiftRight m k) 1
def ctN (A u : Nat) : Nat := sum8 fun v => bitN (by8 A v) u
def hiN (l r : Nat) : Nat := Nat.log2 (Nat.xor l r)
def cutN (r h : Nat) : Nat := Nat.shiftLeft (Nat.shiftRight r h) h
def firstOf (M m : Nat) : Nat := cond (Nat.beq (by8 M 0) m) 0 (cond (Nat.beq (by8 M 1) m) 1 (cond (Nat.beq (by8 M 2) m) 2 (cond (Nat.beq (by8 M 3) m) 3 (cond (Nat.beq (by8 M 4) m) 4 (cond (Nat.beq (by8 M 5) m) 5 (cond (Nat.beq (by8 M 6) m) 6 (cond (Nat.beq (by8 M 7) m) 7 99)))))))
def markN (m b : Nat) : Nat := Nat.add (cutN m (Nat.succ b)) (Nat.shiftLeft 1 b)
def endV (P M m e b : Nat) (s : Bool) : Nat := cond (Nat.beq b 0) (cond s e 255) (cond s 255 ((fun f => cond (Nat.ble f 7) (by8 P f) 255) (firstOf M (markN m (Nat.log2 b)))))
def endN (P M Bt high e : Nat) : Nat := (fun t => endV P M (by8 M e) e (Nat.land t (Nat.sub (Nat.shiftLeft 1 high) 1)) (sbN (Nat.land t (Nat.sub (Nat.shiftLeft 2 high) 1)))) (by8 Bt e)
def maxN (a b : Nat) : Nat := cond (Nat.ble a b) b a
def leastN (M H x y : Nat) : Nat := maxN (Nat.log2 (Nat.xor (by8 M x) (by8 M y))) (maxN (by8 H x) (by8 H y))
def bothN (Bt x y le : Nat) : Nat := cutN (Nat.land (by8 Bt x) (by8 Bt y)) le
def half (A e1 e2 z : Nat) : Bool := Nat.beq (cond (Nat.beq (bitN (by8 A e2) e1) 0) e2 e1) z
def meetV (A e1 e2 z : Nat) : Bool := cond (Nat.ble e1 7) (cond (Nat.ble e2 7) (cond (half A e1 e2 z) (half A e2 e1 z) false) false) false
def okPair (A M H Bt E x y : Nat) : Bool := (fun both => cond (Nat.beq both 0) false ((fun hg => meetV A (by8 E (Nat.add (Nat.mul 8 hg) x)) (by8 E (Nat.add (Nat.mul 8 hg) y)) (Nat.log2 (Nat.land (by8 A x) (by8 A y)))) (Nat.log2 (lowN both)))) (bothN Bt x y (leastN M H x y))
def okSame (A M x y : Nat) : Bool := cond (Nat.beq (by8 M x) (by8 M y)) (Nat.beq (bitN (by8 A y) x) 1) true
def bitsStep (P H Bt k : Nat) : Nat := Nat.add Bt (Nat.shiftLeft (Nat.lor (by8 Bt (by8 P k)) (Nat.shiftLeft 1 (by8 H k))) (Nat.mul 8 k))
def bitsP (P H : Nat) : Nat := bitsStep P H (bitsStep P H (bitsStep P H (bitsStep P H (bitsStep P H (bitsStep P H (bitsStep P H (Nat.shiftLeft 1 (by8 H 0)) 1) 2) 3) 4) 5) 6) 7
def endsP (P M Bt : Nat) : Nat := Nat.add (pack8 (endN P M Bt 0)) (Nat.add (Nat.shiftLeft (pack8 (endN P M Bt 1)) 64) (Nat.add (Nat.shiftLeft (pack8 (endN P M Bt 2)) 128) (Nat.shiftLeft (pack8 (endN P M Bt 3)) 192)))
def anyB (M x : Nat) (k : Nat) : Bool := Nat.rec (motive := fun _ => Bool) false (fun j r => cond (Nat.beq (by8 M j) x) true r) k
def okU (A P CT HI M H Bt u : Nat) : Bool :=
  cond (Nat.beq (by8 CT u) (ctN A u))
  (cond (Nat.ble (Nat.add u (by8 CT u)) 15) (cond (Nat.beq (Nat.xor u (Nat.add u (by8 CT u))) 0) false (cond (Nat.beq (by8 HI u) (hiN u (Nat.add u (by8 CT u))))
  (cond (Nat.beq (by8 M u) (cutN (Nat.add u (by8 CT u)) (by8 HI u))) (cond (Nat.beq (by8 M u) 0) false (cond (Nat.beq (by8 H u) (Nat.log2 (lowN (by8 M u)))) (cond (Nat.ble (by8 Bt u) 15)
  (cond (Nat.beq (by8 Bt u) (Nat.lor (cond (Nat.beq u 0) 0 (by8 Bt (by8 P u))) (lowN (by8 M u)))) (cond (sbN (Nat.xor (cond (Nat.beq u 0) 0 (by8 Bt (by8 P u))) (by8 Bt u))) (cond (anyB M (by8 M u) u) false true) (anyB M (by8 M u) u)) false) false) false)) false) false)) false) false
def okE (P M Bt E e : Nat) : Bool := cond (Nat.beq (by8 E e) (endN P M Bt 0 e)) (cond (Nat.beq (by8 E (Nat.add 8 e)) (endN P M Bt 1 e)) (cond (Nat.beq (by8 E (Nat.add 16 e)) (endN P M Bt 2 e)) (Nat.beq (by8 E (Nat.add 24 e)) (endN P M Bt 3 e)) false) false) false
def okXY (A M H Bt E x y : Nat) : Bool := cond (Nat.ble x y) (cond (okSame A M x y) (okPair A M H Bt E x y) false) true
def chk3 (A P CT HI M H Bt E : Nat) : Bool := cond (all8 (okU A P CT HI M H Bt)) (cond (all8 (okE P M Bt E)) (all8 fun x => all8 fun y => okXY A M H Bt E x y) false) false
def rowCT (A : Nat) : Nat := pack8 (ctN A)
def rowHI (CT : Nat) : Nat := pack8 fun u => hiN u (Nat.add u (by8 CT u))
def rowM (CT HI : Nat) : Nat := pack8 fun u => cutN (Nat.add u (by8 CT u)) (by8 HI u)
def rowH (M : Nat) : Nat := pack8 fun u => Nat.log2 (lowN (by8 M u))
def chk (A P : Nat) : Bool := fr (rowCT A) fun CT => fr (rowHI CT) fun HI => fr (rowM CT HI) fun M => fr (rowH M) fun H => fr (bitsP P H) fun Bt => fr (endsP P M Bt) fun E => chk3 A P CT HI M H Bt E
/-- place k hung below p -/
def addA (A k p : Nat) : Nat := Nat.add A (Nat.shiftLeft (Nat.lor (by8 A p) (Nat.shiftLeft 1 k)) (Nat.mul 8 k))
def addP (P k p : Nat) : Nat := Nat.add P (Nat.shiftLeft p (Nat.mul 8 k))
def allB (k : Nat) (f : Nat → Bool) : Bool := Nat.rec (motive := fun _ => Bool) true (fun j r => cond r (f j) false) k
/-- every tree whose places are numbered from the top on, each place hung at or above the one ahead of it -/
def allT (fuel : Nat) : Nat → Nat → Nat → Bool := Nat.rec (motive := fun _ => Nat → Nat → Nat → Bool) (fun _ A P => chk A P) (fun _ r k A P => allB k fun p => cond (Nat.beq (bitN (by8 A (Nat.sub k 1)) p) 0) true (fr (addA A k p) fun a => fr (addP P k p) fun b => r (Nat.succ k) a b)) fuel
theorem allB_in {f : Nat → Bool} : ∀ (k : Nat), (∀ j, j < k → f j = true) → allB k f = true
  | 0, _ => rfl
  | k + 1, h => by
    have e : allB (k + 1) f = cond (allB k f) (f k) false := rfl
    rw [e, allB_in k fun j hj => h j (Nat.lt_succ_of_lt hj)]
    exact h k (Nat.lt_succ_self k)
theorem allT_in {n k A P : Nat} (h : ∀ j, j < k → bitN (by8 A (k - 1)) j = 0 ∨ allT n (k + 1) (addA A k j) (addP P k j) = true) : allT (n + 1) k A P = true :=
  allB_in k fun j hj => by
    show cond (Nat.beq (bitN (by8 A (Nat.sub k 1)) j) 0) true (allT n (Nat.succ k) (addA A k j) (addP P k j)) = true
    rcases h j hj with h | h
    · have h : bitN (by8 A (Nat.sub k 1)) j = 0 := h
      rw [h]; rfl
    · cases Nat.beq (bitN (by8 A (Nat.sub k 1)) j) 0 with
      | true => rfl
      | false => exact h
theorem tree5n0 : allT 3 5 73165767425 0 = true := by decide +kernel
theorem tree5n1 : allT 3 5 107525505793 12884901888 = true := by decide +kernel
theorem tree4n0 : allT 4 4 151323393 0 = true := allT_in fun j hj => match j, hj with
  | 0, _ => .inr tree5n0
  | 1, _ => .inl (by decide +kernel)
  | 2, _ => .inl (by decide +kernel)
  | 3, _ => .inr tree5n1
theorem tree5n2 : allT 3 5 73232876289 33554432 = true := by decide +kernel
theorem tree5n3 : allT 3 5 90412745473 8623489024 = true := by decide +kernel
theorem tree5n4 : allT 3 5 124772483841 12918456320 = true := by decide +kernel
theorem tree4n1 : allT 4 4 218432257 33554432 = true := allT_in fun j hj => match j, hj with
  | 0, _ => .inr tree5n2
  | 1, _ => .inl (by decide +kernel)
  | 2, _ => .inr tree5n3
  | 3, _ => .inr tree5n4
theorem tree3n0 : allT 5 3 328449 0 = true := allT_in fun j hj => match j, hj with
  | 0, _ => .inr tree4n0
  | 1, _ => .inl (by decide +kernel)
  | 2, _ => .inr tree4n1
theorem tree5n5 : allT 3 5 73165898497 65536 = true := by decide +kernel
theorem tree5n6 : allT 3 5 107525636865 12884967424 = true := by decide +kernel
theorem tree4n2 : allT 4 4 151454465 65536 = true := allT_in fun j hj => match j, hj with
  | 0, _ => .inr tree5n5
  | 1, _ => .inl (by decide +kernel)
  | 2, _ => .inl (by decide +kernel)
  | 3, _ => .inr tree5n6
theorem tree5n7 : allT 3 5 73199452929 16842752 = true := by decide +kernel
theorem tree5n8 : allT 3 5 81789387521 4311810048 = true := by decide +kernel
theorem tree5n9 : allT 3 5 116149125889 12901744640 = true := by decide +kernel
theorem tree4n3 : allT 4 4 185008897 16842752 = true := allT_in fun j hj => match j, hj with
  | 0, _ => .inr tree5n7
  | 1, _ => .inr tree5n8
  | 2, _ => .inl (by decide +kernel)
  | 3, _ => .inr tree5n9
theorem tree5n10 : allT 3 5 73266561793 33619968 = true := by decide +kernel
theorem tree5n11 : allT 3 5 81856496385 4328587264 = true := by decide +kernel
theorem tree5n12 : allT 3 5 99036365569 8623554560 = true := by decide +kernel
theorem tree5n13 : allT 3 5 133396103937 12918521856 = true := by decide +kernel
theorem tree4n4 : allT 4 4 252117761 33619968 = true := allT_in fun j hj => match j, hj with
  | 0, _ => .inr tree5n10
  | 1, _ => .inr tree5n11
  | 2, _ => .inr tree5n12
  | 3, _ => .inr tree5n13
theorem tree3n1 : allT 5 3 459521 65536 = true := allT_in fun j hj => match j, hj with
  | 0, _ => .inr tree4n2
  | 1, _ => .inr tree4n3
  | 2, _ => .inr tree4n4
theorem tree2n0 : allT 6 2 769 0 = true := allT_in fun j hj => match j, hj with
  | 0, _ => .inr tree3n0
  | 1, _ => .inr tree3n1
theorem tree1n0 : allT 7 1 1 0 = true := allT_in fun j hj => match j, hj with
  | 0, _ => .inr tree2n0
theorem trees : allT 7 1 1 0 = true := tree1n0
end Mine
end

-- LpG
section
open PySem PySem.W PyProof.Rows
set_option Elab.async false
set_option maxRecDepth 100000
set_option maxHeartbeats 1000000
set_option linter.unusedVariables false
set_option linter.unusedSimpArgs false
namespace Mine

theorem and_nat : ∀ a, a < 32 → ∀ b, b < 32 → Builtin.bitAnd ((a : Nat) : Int) ((b : Nat) : Int) = ((Nat.land a b : Nat) : Int) := by decide +kernel
theorem or_nat : ∀ a, a < 32 → ∀ b, b < 32 → Builtin.bitOr ((a : Nat) : Int) ((b : Nat) : Int) = ((Nat.lor a b : Nat) : Int) := by decide +kernel
theorem xor_nat : ∀ a, a < 32 → ∀ b, b < 32 → Builtin.bitXor ((a : Nat) : Int) ((b : Nat) : Int) = ((Nat.xor a b : Nat) : Int) := by decide +kernel
theorem low_nat : ∀ m, m < 32 → Builtin.bitAnd ((m : Nat) : Int) (-((m : Nat) : Int)) = ((lowN m : Nat) : Int) := by decide +kernel
theorem hb_nat : ∀ a, a < 64 → a ≠ 0 → hbit ((a : Nat) : Int) = ((Nat.log2 a : Nat) : Int) := by decide +kernel
theorem hb_zero : hbit 0 = -1 := by decide +kernel
theorem sb_nat : ∀ a, a < 64 → sbit ((a : Nat) : Int) = sbN a := by decide +kernel
theorem land_lt : ∀ a, a < 16 → ∀ b, b < 32 → Nat.land a b < 16 := by decide +kernel
theorem xor_lt : ∀ a, a < 16 → ∀ b, b < 16 → Nat.xor a b < 16 := by decide +kernel
theorem low_pos : ∀ m, m < 16 → m ≠ 0 → lowN m ≠ 0 ∧ lowN m ≤ m ∧ Nat.log2 (lowN m) < 4 := by decide +kernel
theorem log_lt : ∀ m, m < 16 → Nat.log2 m < 4 := by decide +kernel
theorem cut_nat {r h : Nat} : (((r : Nat) : Int).fdiv (2 ^ h)) * 2 ^ h = ((cutN r h : Nat) : Int) := by
  unfold cutN
  have e1 : Nat.shiftRight r h = r / 2 ^ h := Nat.shiftRight_eq_div_pow r h
  rw [e1]
  have e2 : Nat.shiftLeft (r / 2 ^ h) h = (r / 2 ^ h) * 2 ^ h := Nat.shiftLeft_eq (r / 2 ^ h) h
  rw [e2]
  rw [Int.fdiv_eq_ediv_of_nonneg _ (Int.le_of_lt (Int.pow_pos (by decide)))]
  rw [Int.natCast_mul, Int.natCast_ediv]
  simp
theorem cut_lt : ∀ r, r < 16 → ∀ h, h < 16 → cutN r h < 16 := by decide +kernel
theorem mark_nat {m b : Nat} : cutAt m b = ((markN m b : Nat) : Int) := by
  unfold cutAt markN
  rw [cut_nat]
  have e : Nat.shiftLeft 1 b = 2 ^ b := by
    have := Nat.shiftLeft_eq 1 b
    rw [Nat.one_mul] at this
    exact this
  rw [e]
  simp

theorem beq_of {a b : Nat} (h : Nat.beq a b = true) : a = b := Nat.eq_of_beq_eq_true h
theorem nbeq_of {a b : Nat} (h : Nat.beq a b = false) : a ≠ b := Nat.ne_of_beq_eq_false h
theorem ble_of {a b : Nat} (h : Nat.ble a b = true) : a ≤ b := Nat.le_of_ble_eq_true h
theorem cond_t {c x : Bool} (h : cond c x false = true) : c = true ∧ x = true := by cases c <;> simp_all
theorem cond_f {c x : Bool} (h : cond c false x = true) : c = false ∧ x = true := by cases c <;> simp_all
theorem all8_of {f : Nat → Bool} (h : all8 f = true) : ∀ k, k < 8 → f k = true := by
  unfold all8 at h
  obtain ⟨h0, h⟩ := cond_t h
  obtain ⟨h1, h⟩ := cond_t h
  obtain ⟨h2, h⟩ := cond_t h
  obtain ⟨h3, h⟩ := cond_t h
  obtain ⟨h4, h⟩ := cond_t h
  obtain ⟨h5, h⟩ := cond_t h
  obtain ⟨h6, h⟩ := cond_t h
  intro k hk
  match k, hk with
  | 0, _ => exact h0
  | 1, _ => exact h1
  | 2, _ => exact h2
  | 3, _ => exact h3
  | 4, _ => exact h4
  | 5, _ => exact h5
  | 6, _ => exact h6
  | 7, _ => exact h
theorem allB_of {f : Nat → Bool} : ∀ (k : Nat), allB k f = true → ∀ j, j < k → f j = true
  | 0, _, j, hj => absurd hj (Nat.not_lt_zero _)
  | k + 1, h, j, hj => by
    obtain ⟨h1, h2⟩ := cond_t (c := allB k f) (x := f k) h
    rcases Nat.lt_or_ge j k with h | h
    · exact allB_of k h1 j h
    · have : j = k := by omega
      subst this; exact h2
theorem allT_step {n k A P p : Nat} (h : allT (n + 1) k A P = true) (hp : p < k) (hb : bitN (by8 A (k - 1)) p ≠ 0) : allT n (k + 1) (addA A k p) (addP P k p) = true := by
  have h1 := allB_of k (f := fun p => cond (Nat.beq (bitN (by8 A (Nat.sub k 1)) p) 0) true (allT n (Nat.succ k) (addA A k p) (addP P k p))) h p hp
  cases hc : Nat.beq (bitN (by8 A (Nat.sub k 1)) p) 0 with
  | true => exact absurd (beq_of hc) hb
  | false =>
    change cond (Nat.beq (bitN (by8 A (Nat.sub k 1)) p) 0) true (allT n (Nat.succ k) (addA A k p) (addP P k p)) = true at h1
    rw [hc] at h1; exact h1

theorem by8_eq (a k : Nat) : by8 a k = a / 2 ^ (8 * k) % 256 := by
  unfold by8
  have e1 : Nat.shiftRight a (Nat.mul 8 k) = a / 2 ^ (8 * k) := Nat.shiftRight_eq_div_pow a (8 * k)
  rw [e1]
  exact Nat.and_two_pow_sub_one_eq_mod (a / 2 ^ (8 * k)) 8
theorem addP_eq (P k p : Nat) : addP P k p = P + p * 2 ^ (8 * k) := by
  unfold addP
  have e : Nat.shiftLeft p (Nat.mul 8 k) = p * 2 ^ (8 * k) := Nat.shiftLeft_eq p (8 * k)
  rw [e]; rfl
theorem by8_low {a m k i : Nat} (h : i < k) : by8 (a + m * 2 ^ (8 * k)) i = by8 a i := by
  rw [by8_eq, by8_eq]
  have e : m * 2 ^ (8 * k) = m * 2 ^ (8 * (k - i - 1)) * 256 * 2 ^ (8 * i) := by
    have : 8 * k = 8 * (k - i - 1) + 8 + 8 * i := by omega
    rw [this, Nat.pow_add, Nat.pow_add, ← Nat.mul_assoc, ← Nat.mul_assoc]
  rw [e, Nat.add_mul_div_right _ _ (Nat.two_pow_pos _), Nat.add_mul_mod_self_right]
theorem by8_high {a m k : Nat} (h : a < 2 ^ (8 * k)) (hm : m < 256) : by8 (a + m * 2 ^ (8 * k)) k = m := by
  rw [by8_eq, Nat.add_mul_div_right _ _ (Nat.two_pow_pos _), Nat.div_eq_of_lt h, Nat.zero_add, Nat.mod_eq_of_lt hm]
theorem by8_size {a m k : Nat} (h : a < 2 ^ (8 * k)) (hm : m < 256) : a + m * 2 ^ (8 * k) < 2 ^ (8 * (k + 1)) := by
  have e : 2 ^ (8 * (k + 1)) = 256 * 2 ^ (8 * k) := by
    rw [Nat.mul_add, Nat.pow_add, Nat.mul_comm]
  rw [e]
  have : m * 2 ^ (8 * k) ≤ 255 * 2 ^ (8 * k) := Nat.mul_le_mul_right _ (by omega)
  omega
theorem addA_eq (A k p : Nat) : addA A k p = A + (by8 A p ||| 1 <<< k) * 2 ^ (8 * k) := by
  unfold addA
  have e : ∀ m, Nat.shiftLeft m (Nat.mul 8 k) = m * 2 ^ (8 * k) := fun m => Nat.shiftLeft_eq m (8 * k)
  rw [e]; rfl

structure UFact (A P CT HI M H Bt u : Nat) : Prop where
  ct : by8 CT u = ctN A u
  sm : u + by8 CT u ≤ 15
  x0 : Nat.xor u (u + by8 CT u) ≠ 0
  hi : by8 HI u = hiN u (u + by8 CT u)
  m : by8 M u = cutN (u + by8 CT u) (by8 HI u)
  m0 : by8 M u ≠ 0
  h : by8 H u = Nat.log2 (lowN (by8 M u))
  b15 : by8 Bt u ≤ 15
  b : by8 Bt u = Nat.lor (if u = 0 then 0 else by8 Bt (by8 P u)) (lowN (by8 M u))
  s : sbN (Nat.xor (if u = 0 then 0 else by8 Bt (by8 P u)) (by8 Bt u)) = !anyB M (by8 M u) u
theorem beq_zero {u : Nat} {α : Type} {x y : α} : cond (Nat.beq u 0) x y = if u = 0 then x else y := by
  cases u <;> rfl
theorem uFact {A P CT HI M H Bt u : Nat} (h : okU A P CT HI M H Bt u = true) : UFact A P CT HI M H Bt u := by
  unfold okU at h
  obtain ⟨h3, h⟩ := cond_t h
  obtain ⟨h4, h⟩ := cond_t h
  obtain ⟨h5, h⟩ := cond_f h
  obtain ⟨h6, h⟩ := cond_t h
  obtain ⟨h7, h⟩ := cond_t h
  obtain ⟨h8, h⟩ := cond_f h
  obtain ⟨h9, h⟩ := cond_t h
  obtain ⟨h10, h⟩ := cond_t h
  obtain ⟨h11, h⟩ := cond_t h
  refine ⟨beq_of h3, ble_of h4, nbeq_of h5, beq_of h6, beq_of h7, nbeq_of h8, beq_of h9, ble_of h10, by have := beq_of h11; rwa [beq_zero] at this, ?_⟩
  rw [beq_zero] at h
  generalize sbN _ = s at *
  generalize anyB M (by8 M u) u = t at *
  cases s <;> cases t <;> simp_all
theorem anyB_iff {M x : Nat} : ∀ k, anyB M x k = true ↔ ∃ j, j < k ∧ by8 M j = x
  | 0 => ⟨fun h => Bool.noConfusion (h : false = true), fun ⟨j, hj, _⟩ => absurd hj (Nat.not_lt_zero _)⟩
  | k + 1 => by
    have e : anyB M x (k + 1) = cond (Nat.beq (by8 M k) x) true (anyB M x k) := rfl
    rw [e]
    cases hb : Nat.beq (by8 M k) x with
    | true => exact ⟨fun _ => ⟨k, Nat.lt_succ_self _, beq_of hb⟩, fun _ => rfl⟩
    | false =>
      show anyB M x k = true ↔ _
      rw [anyB_iff k]
      constructor
      · rintro ⟨j, hj, h⟩; exact ⟨j, by omega, h⟩
      · rintro ⟨j, hj, h⟩
        rcases Nat.lt_or_ge j k with q | q
        · exact ⟨j, q, h⟩
        · have : j = k := by omega
          subst this
          exact absurd h (nbeq_of hb)
end Mine
end

-- LpH
section
open PySem PySem.W PyProof.Rows
set_option Elab.async false
set_option maxRecDepth 100000
set_option maxHeartbeats 1000000
set_option linter.unusedVariables false
set_option linter.unusedSimpArgs false
namespace Mine

theorem fr_eq {x : Nat} {f : Nat → Bool} : fr x f = f x := rfl
theorem maxN_comm (a b : Nat) : maxN a b = maxN b a := by
  have h : ∀ a b, maxN a b = max a b := fun a b => by
    unfold maxN
    cases h : Nat.ble a b with
    | true => exact (Nat.max_eq_right (ble_of h)).symm
    | false =>
      refine (Nat.max_eq_left ?_).symm
      rcases Nat.le_total a b with h1 | h1
      · rw [Nat.ble_eq.mpr h1] at h; cases h
      · exact h1
  rw [h, h, Nat.max_comm]
theorem leastN_comm (M H x y : Nat) : leastN M H x y = leastN M H y x := by
  unfold leastN
  have e : Nat.xor (by8 M x) (by8 M y) = Nat.xor (by8 M y) (by8 M x) := Nat.xor_comm _ _
  rw [e, maxN_comm (by8 H x)]
theorem bothN_comm (Bt x y le : Nat) : bothN Bt x y le = bothN Bt y x le := by
  unfold bothN
  have e : Nat.land (by8 Bt x) (by8 Bt y) = Nat.land (by8 Bt y) (by8 Bt x) := Nat.and_comm _ _
  rw [e]
/-- what okPair says -/
structure PairAt (A M H Bt E x y : Nat) : Prop where
  b0 : bothN Bt x y (leastN M H x y) ≠ 0
  e1 : by8 E (8 * Nat.log2 (lowN (bothN Bt x y (leastN M H x y))) + x) ≤ 7
  e2 : by8 E (8 * Nat.log2 (lowN (bothN Bt x y (leastN M H x y))) + y) ≤ 7
  h : half A (by8 E (8 * Nat.log2 (lowN (bothN Bt x y (leastN M H x y))) + x)) (by8 E (8 * Nat.log2 (lowN (bothN Bt x y (leastN M H x y))) + y)) (Nat.log2 (Nat.land (by8 A x) (by8 A y))) = true
theorem pairAt_of {A M H Bt E x y : Nat} (ok : okPair A M H Bt E x y = true) : PairAt A M H Bt E x y ∧ PairAt A M H Bt E y x := by
  unfold okPair at ok
  change cond (Nat.beq (bothN Bt x y (leastN M H x y)) 0) false (meetV A (by8 E (8 * Nat.log2 (lowN (bothN Bt x y (leastN M H x y))) + x)) (by8 E (8 * Nat.log2 (lowN (bothN Bt x y (leastN M H x y))) + y)) (Nat.log2 (Nat.land (by8 A x) (by8 A y)))) = true at ok
  obtain ⟨c1, c2⟩ := cond_f ok
  unfold meetV at c2
  obtain ⟨d1, c2⟩ := cond_t c2
  obtain ⟨d2, c2⟩ := cond_t c2
  obtain ⟨d3, d4⟩ := cond_t c2
  refine ⟨⟨nbeq_of c1, ble_of d1, ble_of d2, d3⟩, ?_⟩
  have e1 : bothN Bt y x (leastN M H y x) = bothN Bt x y (leastN M H x y) := by rw [leastN_comm M H y x, bothN_comm]
  have e2 : Nat.land (by8 A y) (by8 A x) = Nat.land (by8 A x) (by8 A y) := Nat.and_comm _ _
  exact ⟨by rw [e1]; exact nbeq_of c1, by rw [e1]; exact ble_of d2, by rw [e1]; exact ble_of d1, by rw [e1, e2]; exact d4⟩

structure AllFact (A P CT HI M H Bt E : Nat) : Prop where
  u : ∀ k, k < 8 → UFact A P CT HI M H Bt k
  e : ∀ k, k < 8 → okE P M Bt E k = true
  same : ∀ x y, x < y → y < 8 → by8 M x = by8 M y → bitN (by8 A y) x = 1
  pr : ∀ x y, x < 8 → y < 8 → PairAt A M H Bt E x y
theorem chk3_of {A P CT HI M H Bt E : Nat} (h : chk3 A P CT HI M H Bt E = true) : AllFact A P CT HI M H Bt E := by
  unfold chk3 at h
  obtain ⟨h1, h⟩ := cond_t h
  obtain ⟨h2, h⟩ := cond_t h
  have key : ∀ x y, x < 8 → y < 8 → x ≤ y → okSame A M x y = true ∧ okPair A M H Bt E x y = true := fun x y hx hy hxy => by
    have h3 := all8_of (all8_of h x hx) y hy
    unfold okXY at h3
    have h4 : Nat.ble x y = true := Nat.ble_eq.mpr hxy
    rw [h4] at h3
    exact cond_t h3
  refine ⟨fun k hk => uFact (all8_of h1 k hk), all8_of h2, fun x y hxy hy hm => ?_, fun x y hx hy => ?_⟩
  · have h3 := (key x y (by omega) hy (Nat.le_of_lt hxy)).1
    unfold okSame at h3
    rw [hm, Nat.beq_refl] at h3
    exact beq_of h3
  · rcases Nat.le_total x y with q | q
    · exact (pairAt_of (key x y hx hy q).2).1
    · exact (pairAt_of (key y x hy hx q).2).2
theorem chk_of {A P : Nat} (h : chk A P = true) : ∃ CT HI M H Bt E, AllFact A P CT HI M H Bt E := by
  unfold chk at h
  simp only [fr_eq] at h
  exact ⟨_, _, _, _, _, _, chk3_of h⟩

theorem bit_one : ∀ m, m < 256 → ∀ k, k < 8 → bitN m k = if m.testBit k then 1 else 0 := by decide +kernel
theorem mem_bit : ∀ u, u < 8 → ∀ m, m < 256 → m % 2 = 1 → ((u = 0 ∨ u ∈ chainM m) ↔ m.testBit u = true) := by decide +kernel
theorem rev_bits : ∀ m, m < 256 → m % 2 = 1 → (0 :: chainM m).reverse = [7, 6, 5, 4, 3, 2, 1, 0].filter fun j => m.testBit j := by decide +kernel
theorem top_bit : ∀ m, m < 256 → m % 2 = 1 → ([7, 6, 5, 4, 3, 2, 1, 0].filter fun j => m.testBit j)[0]? = some (Nat.log2 m) ∧ Nat.log2 m < 8 := by decide +kernel
theorem top_spec : ∀ m, m < 256 → m % 2 = 1 → m.testBit (Nat.log2 m) = true ∧ ∀ j, j < 8 → m.testBit j = true → j ≤ Nat.log2 m := by decide +kernel
theorem and_odd : ∀ m, m < 256 → m % 2 = 1 → ∀ n, n < 256 → n % 2 = 1 → Nat.land m n < 256 ∧ Nat.land m n % 2 = 1 := by
  intro m hm h1 n hn h2
  have h3 : Nat.land m n ≤ m := Nat.and_le_left
  refine ⟨by omega, ?_⟩
  have h4 : Nat.land m n % 2 = m % 2 &&& n % 2 := Nat.and_mod_two_pow (n := 1)
  rw [h4, h1, h2]; rfl
theorem sum8_count {f : Nat → Nat} {q : Nat → Bool} (h : ∀ k, k < 8 → f k = if q k then 1 else 0) : sum8 f = (List.range 8).countP q := by
  have e : List.range 8 = [0, 1, 2, 3, 4, 5, 6, 7] := by decide
  rw [e]
  simp only [List.countP_cons, List.countP_nil]
  show f 0 + (f 1 + (f 2 + (f 3 + (f 4 + (f 5 + (f 6 + f 7)))))) = _
  rw [h 0 (by decide), h 1 (by decide), h 2 (by decide), h 3 (by decide), h 4 (by decide), h 5 (by decide), h 6 (by decide), h 7 (by decide)]
  omega

theorem fsL_mem {mk : Nat → Nat} {f : Nat} (hf : f < 8) (h : ∀ j, j < f → mk j ≠ mk f) : f ∈ fsL mk 8 := by
  unfold fsL
  rw [List.mem_filter]
  refine ⟨List.mem_range.mpr hf, ?_⟩
  rw [Bool.not_eq_true', ← Bool.not_eq_true, List.contains_iff_mem]
  intro hc
  unfold natL at hc
  obtain ⟨j, hj, e⟩ := List.mem_map.mp hc
  exact h j (List.mem_range.mp hj) (by omega)
theorem fsL_sorted {mk : Nat → Nat} : (fsL mk 8).Pairwise (· < ·) := List.Pairwise.filter _ List.pairwise_lt_range
theorem crown_at {mk : Nat → Nat} {f : Nat} (hf : f < 8) (h : ∀ j, j < f → mk j ≠ mk f) : ∃ j : Nat, (fsL mk 8)[j]? = some f ∧ (crownL mk)[j]? = some (mk f : Int) ∧ ∀ m, m < j → (crownL mk)[m]? ≠ some (mk f : Int) := by
  obtain ⟨j, hj⟩ := List.mem_iff_getElem?.mp (fsL_mem hf h)
  refine ⟨j, hj, ?_, fun m hm hc => ?_⟩
  · unfold crownL; rw [List.getElem?_map, hj]; rfl
  · unfold crownL at hc
    rw [List.getElem?_map] at hc
    cases hg : (fsL mk 8)[m]? with
    | none => rw [hg] at hc; cases hc
    | some g =>
      rw [hg] at hc
      have hc : (mk g : Int) = (mk f : Int) := by simpa using hc
      obtain ⟨hm1, hm2⟩ := List.getElem?_eq_some_iff.mp hg
      obtain ⟨hj1, hj2⟩ := List.getElem?_eq_some_iff.mp hj
      have := List.pairwise_iff_getElem.mp (fsL_sorted (mk := mk)) m j hm1 hj1 hm
      rw [hm2, hj2] at this
      exact h g this (by omega)
def FirstIs (M m f : Nat) : Prop := by8 M f = m ∧ ∀ j, j < f → by8 M j ≠ m
theorem first_step {M m k r : Nat} (hb : ∀ j, j < k → by8 M j ≠ m) (h : cond (Nat.beq (by8 M k) m) k r ≤ 7) (hr : (∀ j, j < k + 1 → by8 M j ≠ m) → r ≤ 7 → FirstIs M m r) : FirstIs M m (cond (Nat.beq (by8 M k) m) k r) := by
  cases hc : Nat.beq (by8 M k) m with
  | true => exact ⟨beq_of hc, hb⟩
  | false =>
    rw [hc] at h
    refine hr (fun j hj => ?_) h
    rcases Nat.lt_or_ge j k with q | q
    · exact hb j q
    · have : j = k := by omega
      subst this; exact nbeq_of hc
theorem firstOf_at {M m : Nat} (h : firstOf M m ≤ 7) : FirstIs M m (firstOf M m) :=
  first_step (fun j hj => absurd hj (Nat.not_lt_zero _)) h fun q h => first_step q h fun q h => first_step q h fun q h => first_step q h fun q h => first_step q h fun q h => first_step q h fun q h => first_step q h fun q h => first_step q h fun q h => absurd h (by decide)
end Mine
end

-- LpI
section
open PySem PySem.W PyProof.Rows
set_option Elab.async false
set_option maxRecDepth 100000
set_option maxHeartbeats 1000000
set_option linter.unusedVariables false
set_option linter.unusedSimpArgs false
namespace Mine

theorem lex_lt : ∀ (c d : List Nat), lexLt c d = decide (c < d)
  | [], [] => by simp [lexLt]
  | [], b :: t => by simp [lexLt]
  | a :: r, [] => by simp [lexLt]
  | a :: r, b :: t => by
    rw [Bool.eq_iff_iff, decide_eq_true_eq, List.cons_lt_cons_iff]
    simp only [lexLt, Bool.or_eq_true, Bool.and_eq_true, Nat.blt_eq, lex_lt r t, decide_eq_true_eq]
    have : Nat.beq a b = true ↔ a = b := ⟨beq_of, fun h => by rw [h]; exact Nat.beq_refl b⟩
    rw [this]
theorem lt_snoc : ∀ (c : List Nat) (u : Nat), c < c ++ [u]
  | [], u => List.nil_lt_cons _ _
  | a :: c, u => List.cons_lt_cons_iff.mpr (.inr ⟨rfl, lt_snoc c u⟩)
theorem lt_between : ∀ (c d : List Nat) (v : Nat), d < c ++ [v] → ¬ d < c → c <+: d
  | [], _, _, _, _ => List.nil_prefix
  | a :: c, [], v, _, h2 => absurd (List.nil_lt_cons _ _) h2
  | a :: c, b :: d, v, h1, h2 => by
    rw [List.cons_append, List.cons_lt_cons_iff] at h1
    rw [List.cons_lt_cons_iff] at h2
    rcases h1 with h1 | ⟨rfl, h1⟩
    · exact absurd (.inl h1) h2
    · exact List.cons_prefix_cons.mpr ⟨rfl, lt_between c d v h1 fun h => h2 (.inr ⟨rfl, h⟩)⟩
theorem lt_or (c d : List Nat) (h : c ≠ d) : c < d ∨ d < c := by
  rcases Classical.em (c < d) with q | q
  · exact .inl q
  rcases Classical.em (d < c) with r | r
  · exact .inr r
  exact absurd (List.le_antisymm (List.not_lt.mp r) (List.not_lt.mp q)) h

theorem countP_less {l : List Nat} {q1 q2 : Nat → Bool} (h : ∀ x, q1 x = true → q2 x = true) {a : Nat} (ha : a ∈ l) (h1 : q1 a = false) (h2 : q2 a = true) : l.countP q1 < l.countP q2 := by
  obtain ⟨r, t, rfl⟩ := List.append_of_mem ha
  rw [List.countP_append, List.countP_append, List.countP_cons, List.countP_cons, h1, h2]
  have e1 : r.countP q1 ≤ r.countP q2 := List.countP_mono_left fun x _ hx => h x hx
  have e2 : t.countP q1 ≤ t.countP q2 := List.countP_mono_left fun x _ hx => h x hx
  simp
  omega

section
variable {p : Nat → Nat} (hp : ∀ k, 0 < k → p k < k)
theorem pi_mono {a b : Nat} (ha : a < 8) (h : ch p a < ch p b) : ahL p a < ahL p b := by
  unfold ahL
  refine countP_less (fun x hx => ?_) (List.mem_range.mpr ha) ?_ ?_
  · rw [lex_lt, decide_eq_true_eq] at hx ⊢
    exact List.lt_trans hx h
  · rw [lex_lt, decide_eq_false_iff_not]; exact List.lt_irrefl _
  · rw [lex_lt, decide_eq_true_eq]; exact h
theorem pi_lt {u : Nat} (hu : u < 8) : ahL p u < 8 := by
  have : (List.range 8).countP (fun _ => true) = 8 := by decide
  rw [← this]
  unfold ahL
  refine countP_less (fun x hx => rfl) (List.mem_range.mpr hu) ?_ rfl
  rw [lex_lt, decide_eq_false_iff_not]; exact List.lt_irrefl _
theorem pi_zero : ahL p 0 = 0 := by
  unfold ahL
  have : ch p 0 = [] := gval_zero
  rw [this, List.countP_eq_zero]
  intro a _
  rw [lex_lt, decide_eq_true_eq]
  exact List.not_lt_nil _
include hp
theorem pi_inj {a b : Nat} (ha : a < 8) (hb : b < 8) (h : ahL p a = ahL p b) : a = b := by
  refine Classical.byContradiction fun hab => ?_
  rcases lt_or (ch p a) (ch p b) (fun q => hab (ch_inj hp ha hb q)) with q | q
  · have := pi_mono ha q; omega
  · have := pi_mono hb q; omega
theorem pi_perm : ((List.range 8).map (ahL p)).Perm (List.range 8) := by
  have hn : ((List.range 8).map (ahL p)).Nodup := by
    refine List.Pairwise.map _ (fun a b h => ?_) (List.Pairwise.and_mem.mp (List.nodup_range (n := 8)))
    intro q
    exact h.2.2 (pi_inj hp (List.mem_range.mp h.1) (List.mem_range.mp h.2.1) q)
  have hs : ∀ x ∈ (List.range 8).map (ahL p), x ∈ List.range 8 := fun x hx => by
    obtain ⟨u, hu, rfl⟩ := List.mem_map.mp hx
    exact List.mem_range.mpr (pi_lt (List.mem_range.mp hu))
  refine (List.perm_ext_iff_of_nodup hn List.nodup_range).mpr fun i => ⟨hs i, fun hi => ?_⟩
  refine Classical.byContradiction fun hno => ?_
  have h1 : (i :: (List.range 8).map (ahL p)).Nodup := List.nodup_cons.mpr ⟨hno, hn⟩
  have h2 := List.Nodup.length_le_of_subset h1 (l₂ := List.range 8) fun x hx => by
    rcases List.mem_cons.mp hx with rfl | hx
    · exact hi
    · exact hs x hx
  simp at h2
theorem pi_surj {i : Nat} (hi : i < 8) : ∃ u, u < 8 ∧ ahL p u = i := by
  obtain ⟨u, hu, h⟩ := List.mem_map.mp ((pi_perm hp).mem_iff.mpr (List.mem_range.mpr hi))
  exact ⟨u, List.mem_range.mp hu, h⟩
end

/-- the name at a place -/
def plc (p : Nat → Nat) (i : Nat) : Nat := ((List.range 8).find? fun u => ahL p u == i).getD 0
/-- the place above a place -/
def par2 (p : Nat → Nat) (i : Nat) : Nat := if i < 8 then ahL p (p (plc p i)) else 0
section
variable {p : Nat → Nat} (hp : ∀ k, 0 < k → p k < k) (h0 : p 0 = 0)
include hp
theorem plc_spec {i : Nat} (hi : i < 8) : plc p i < 8 ∧ ahL p (plc p i) = i := by
  obtain ⟨u, hu, h⟩ := pi_surj hp hi
  unfold plc
  cases hf : (List.range 8).find? fun u => ahL p u == i with
  | none =>
    have := List.find?_eq_none.mp hf u (List.mem_range.mpr hu)
    exact absurd (by rw [h]; exact beq_self_eq_true i) this
  | some v =>
    have h1 := List.mem_range.mp (List.mem_of_find?_eq_some hf)
    have h2 : (ahL p v == i) = true := List.find?_some (p := fun u => ahL p u == i) hf
    exact ⟨h1, beq_iff_eq.mp h2⟩
theorem plc_pi {u : Nat} (hu : u < 8) : plc p (ahL p u) = u :=
  pi_inj hp (plc_spec hp (pi_lt hu)).1 hu (plc_spec hp (pi_lt hu)).2
theorem p_lt {u : Nat} (h0 : p 0 = 0) (hu : u < 8) : p u < 8 := by
  rcases Nat.eq_zero_or_pos u with h | h
  · subst h; rw [h0]; decide
  · have := hp u h; omega
theorem par2_pi {u : Nat} (hu : u < 8) : par2 p (ahL p u) = ahL p (p u) := by
  unfold par2
  rw [if_pos (pi_lt hu), plc_pi hp hu]
theorem par2_lt : ∀ i, 0 < i → par2 p i < i := by
  intro i hi
  rcases Nat.lt_or_ge i 8 with h8 | h8
  · obtain ⟨h1, h2⟩ := plc_spec hp h8
    have hu : 0 < plc p i := by
      rcases Nat.eq_zero_or_pos (plc p i) with h | h
      · rw [h, pi_zero] at h2; omega
      · exact h
    generalize plc p i = u at *
    rw [← h2, par2_pi hp h1]
    have h3 := hp u hu
    refine pi_mono (by omega) ?_
    rw [ch_succ hp hu]
    exact lt_snoc _ _
  · unfold par2
    rw [if_neg (by omega)]; exact hi
theorem mask2 : ∀ u, u < 8 → ∀ v, v < 8 → (mask p u).testBit v = (mask (par2 p) (ahL p u)).testBit (ahL p v) := by
  have one : ∀ j, (1 : Nat).testBit j = decide (j = 0) := fun j => by
    have := Nat.testBit_two_pow (n := 0) (m := j)
    rw [Nat.pow_zero] at this
    rw [this]
    simp [eq_comm]
  intro u
  induction u using Nat.strongRecOn with
  | _ u ih =>
    intro hu v hv
    rcases Nat.eq_zero_or_pos u with h | h
    · subst h
      have e1 : mask p 0 = 1 := gval_zero
      have e2 : mask (par2 p) 0 = 1 := gval_zero
      rw [pi_zero, e1, e2, one, one]
      refine decide_eq_decide.mpr ⟨fun h => by rw [h, pi_zero], fun h => pi_inj hp hv (by decide) (by rw [h, pi_zero])⟩
    · have hpu := hp u h
      have hpi : 0 < ahL p u := by
        rcases Nat.eq_zero_or_pos (ahL p u) with q | q
        · have := pi_inj hp hu (by decide : 0 < 8) (by rw [q, pi_zero]); omega
        · exact q
      rw [mask_succ hp h, mask_succ (par2_lt hp) hpi, par2_pi hp hu, Nat.testBit_or, Nat.testBit_or, ih _ hpu (by omega) v hv, Nat.one_shiftLeft, Nat.one_shiftLeft, Nat.testBit_two_pow, Nat.testBit_two_pow]
      congr 1
      exact decide_eq_decide.mpr ⟨fun h => by rw [h], fun h => pi_inj hp hu hv h⟩
theorem mlt {k : Nat} (hk : k < 8) : mask p k < 256 ∧ mask p k % 2 = 1 := by
  obtain ⟨h1, h2, _⟩ := mask_lt hp k hk
  exact ⟨Nat.lt_of_lt_of_le h1 (show 2 ^ (k + 1) ≤ 2 ^ 8 from Nat.pow_le_pow_right (by decide) (by omega)), h2⟩
theorem mask_mem {u k : Nat} (hu : u < 8) (hk : k < 8) : (mask p k).testBit u = true ↔ u = 0 ∨ u ∈ ch p k := by
  rw [(mask_lt hp k hk).2.2]
  exact (mem_bit u hu _ (mlt hp hk).1 (mlt hp hk).2).symm
theorem up_bit {u k : Nat} (hu : u < 8) (hk : k < 8) : (upL p k).contains (u : Int) = (mask p k).testBit u := by
  rw [Bool.eq_iff_iff, upL_mem hp hk, mask_mem hp hu hk]
theorem anc_le {u k : Nat} (hu : u < 8) (hk : k < 8) (h : (mask p k).testBit u = true) : u ≤ k := by
  rcases (mask_mem hp hu hk).mp h with h | h
  · omega
  · exact (ch_lt hp k hk u h).2
theorem chain2 : ∀ x, x < 8 → ∀ z, z < 8 → ∀ y, y < 8 → (mask p x).testBit z = true → (mask p x).testBit y = true → y ≤ z → (mask p z).testBit y = true := by
  intro x
  induction x using Nat.strongRecOn with
  | _ x ih =>
    intro hx z hz y hy h1 h2 hyz
    by_cases hzx : z = x
    · rw [hzx]; exact h2
    have hzx2 := anc_le hp hz hx h1
    have h := hp x (by omega)
    rw [mask_succ hp (by omega), Nat.one_shiftLeft, Nat.testBit_or, Nat.testBit_two_pow, Bool.or_eq_true, decide_eq_true_eq] at h1 h2
    exact ih _ h (by omega) z hz y hy (h1.resolve_right (by omega)) (h2.resolve_right (by omega)) hyz
theorem par2_up {k : Nat} (h0 : p 0 = 0) (hk0 : 0 < k) (hk : k < 8) : (mask (par2 p) (k - 1)).testBit (par2 p k) = true := by
  obtain ⟨v1, v2⟩ := plc_spec hp hk
  obtain ⟨u1, u2⟩ := plc_spec hp (i := k - 1) (by omega)
  have h1 := par2_lt hp k hk0
  have hv : 0 < plc p k := by
    rcases Nat.eq_zero_or_pos (plc p k) with h | h
    · rw [h, pi_zero] at v2; omega
    · exact h
  generalize plc p k = v at *
  generalize plc p (k - 1) = u at *
  have h2 := par2_pi hp v1
  rw [v2] at h2
  rw [h2, ← u2, ← mask2 hp u u1 (p v) (p_lt hp h0 v1)]
  have hpre : ch p (p v) <+: ch p u := by
    refine lt_between _ _ v ?_ ?_
    · rw [← ch_succ hp hv]
      rcases lt_or (ch p u) (ch p v) (fun q => by have := ch_inj hp u1 v1 q; subst this; omega) with q | q
      · exact q
      · have := pi_mono v1 q; omega
    · intro q
      have := pi_mono u1 q
      omega
  rw [mask_mem hp (p_lt hp h0 v1) u1]
  rcases Nat.eq_zero_or_pos (p v) with q | q
  · exact .inl q
  · exact .inr (hpre.subset (ch_self hp q))
theorem top_is {x y : Nat} (hx : x < 8) (hy : y < 8) : ahL p (Nat.log2 (Nat.land (mask p x) (mask p y))) = Nat.log2 (Nat.land (mask (par2 p) (ahL p x)) (mask (par2 p) (ahL p y))) := by
  have hq := par2_lt hp
  have a := and_odd _ (mlt hp hx).1 (mlt hp hx).2 _ (mlt hp hy).1 (mlt hp hy).2
  have b := and_odd _ (mlt hq (pi_lt (p := p) hx)).1 (mlt hq (pi_lt (p := p) hx)).2 _ (mlt hq (pi_lt (p := p) hy)).1 (mlt hq (pi_lt (p := p) hy)).2
  have hz := (top_bit _ a.1 a.2).2
  have hw := (top_bit _ b.1 b.2).2
  obtain ⟨a1, a2⟩ := top_spec _ a.1 a.2
  obtain ⟨b1, b2⟩ := top_spec _ b.1 b.2
  have and_bit : ∀ m n j, (Nat.land m n).testBit j = (m.testBit j && n.testBit j) := fun m n j => Nat.testBit_and m n j
  rw [and_bit, Bool.and_eq_true] at a1 b1
  generalize Nat.log2 (Nat.land (mask p x) (mask p y)) = z at *
  generalize Nat.log2 (Nat.land (mask (par2 p) (ahL p x)) (mask (par2 p) (ahL p y))) = w at *
  obtain ⟨s1, s2⟩ := plc_spec hp hw
  generalize plc p w = s at *
  rw [← s2] at b1
  rw [← mask2 hp x hx s s1, ← mask2 hp y hy s s1] at b1
  have hsz : s ≤ z := a2 s s1 (by rw [and_bit, Bool.and_eq_true]; exact b1)
  have hzw : ahL p z ≤ w := b2 _ (pi_lt hz) (by rw [and_bit, Bool.and_eq_true, ← mask2 hp x hx z hz, ← mask2 hp y hy z hz]; exact a1)
  have h1 := chain2 hp x hx z hz s s1 a1.1 b1.1 hsz
  rw [mask2 hp z hz s s1] at h1
  have := anc_le hq (pi_lt s1) (pi_lt hz) h1
  omega
end

theorem trees_of {q : Nat → Nat} (hq : ∀ k, 0 < k → q k < k) (hup : ∀ k, 0 < k → k < 8 → (mask q (k - 1)).testBit (q k) = true) :
    ∀ n k A P, n + k = 8 → 0 < k → allT n k A P = true → (∀ i, i < k → by8 A i = mask q i) → A < 2 ^ (8 * k) → (∀ i, i < k → by8 P i = q i) → P < 2 ^ (8 * k) →
      ∃ A P, chk A P = true ∧ (∀ i, i < 8 → by8 A i = mask q i) ∧ ∀ i, i < 8 → by8 P i = q i
  | 0, k, A, P, hk, _, h, hA, _, hP, _ => by
    have : k = 8 := by omega
    subst this
    exact ⟨A, P, h, hA, hP⟩
  | n + 1, k, A, P, hk, hk0, h, hA, sA, hP, sP => by
    have h1 := hq k hk0
    have h2 := hup k hk0 (by omega)
    have hm := mlt hq (k := k) (by omega)
    refine trees_of hq hup n (k + 1) (addA A k (q k)) (addP P k (q k)) (by omega) (by omega) (allT_step h h1 ?_) ?_ ?_ ?_ ?_
    · rw [hA (k - 1) (by omega), bit_one _ (mlt hq (by omega)).1 _ (by omega), h2]; decide
    · intro i hi
      rw [addA_eq, hA (q k) h1, ← mask_succ hq hk0]
      rcases Nat.lt_or_ge i k with hik | hik
      · rw [by8_low hik]; exact hA i hik
      · have : i = k := by omega
        subst this
        exact by8_high sA hm.1
    · rw [addA_eq, hA (q k) h1, ← mask_succ hq hk0]
      exact by8_size sA hm.1
    · intro i hi
      rw [addP_eq]
      rcases Nat.lt_or_ge i k with hik | hik
      · rw [by8_low hik]; exact hP i hik
      · have : i = k := by omega
        subst this
        exact by8_high sP (by omega)
    · rw [addP_eq]
      exact by8_size sP (by omega)
theorem tree_ok {p : Nat → Nat} (hp : ∀ k, 0 < k → p k < k) (h0 : p 0 = 0) :
    ∃ A P, chk A P = true ∧ (∀ i, i < 8 → by8 A i = mask (par2 p) i) ∧ ∀ i, i < 8 → by8 P i = par2 p i := by
  refine trees_of (par2_lt hp) (fun k hk0 hk => par2_up hp h0 hk0 hk) 7 1 1 0 rfl (by decide) trees (fun i hi => ?_) (by decide) (fun i hi => ?_) (by decide)
  · have : i = 0 := by omega
    subst this
    exact (gval_zero).symm
  · have : i = 0 := by omega
    subst this
    have h := par2_pi hp (u := 0) (by decide)
    rw [pi_zero, h0, pi_zero] at h
    rw [h]; rfl
end Mine
end

-- LpJ
section
open PySem PySem.W PyProof.Rows
set_option Elab.async false
set_option maxRecDepth 100000
set_option maxHeartbeats 1000000
set_option linter.unusedVariables false
set_option linter.unusedSimpArgs false
namespace Mine

theorem low_of : ∀ t, t < 16 → ∀ g, g < 4 → Builtin.bitAnd ((t : Nat) : Int) (1 * 2 ^ g - 1) = ((Nat.land t (Nat.sub (Nat.shiftLeft 1 g) 1) : Nat) : Int) ∧ Builtin.bitAnd ((t : Nat) : Int) (2 * 2 ^ g - 1) = ((Nat.land t (Nat.sub (Nat.shiftLeft 2 g) 1) : Nat) : Int) ∧ Nat.land t (Nat.sub (Nat.shiftLeft 1 g) 1) < 16 ∧ Nat.land t (Nat.sub (Nat.shiftLeft 2 g) 1) < 16 := by decide +kernel
theorem hb_none : ∀ b, b < 16 → (hbit ((b : Nat) : Int) == -1) = Nat.beq b 0 := by decide +kernel
theorem max_of : ∀ c, c < 16 → ∀ a, a < 4 → ∀ b, b < 4 → max3 (hbit ((c : Nat) : Int)) ((a : Nat) : Int) ((b : Nat) : Int) = ((maxN (Nat.log2 c) (maxN a b) : Nat) : Int) ∧ maxN (Nat.log2 c) (maxN a b) < 4 := by decide +kernel
theorem endV_of {P M m e b r : Nat} {s : Bool} (h : r = endV P M m e b s) (hr : r ≤ 7) :
    (b = 0 ∧ s = true ∧ r = e) ∨ (b ≠ 0 ∧ s = false ∧ firstOf M (markN m (Nat.log2 b)) ≤ 7 ∧ r = by8 P (firstOf M (markN m (Nat.log2 b)))) := by
  unfold endV at h
  cases hb : Nat.beq b 0 with
  | true =>
    rw [hb] at h
    cases s with
    | true => exact .inl ⟨beq_of hb, rfl, h⟩
    | false => have h : r = 255 := h; omega
  | false =>
    rw [hb] at h
    cases s with
    | true => have h : r = 255 := h; omega
    | false =>
      refine .inr ⟨nbeq_of hb, rfl, ?_⟩
      change r = cond (Nat.ble (firstOf M (markN m (Nat.log2 b))) 7) (by8 P (firstOf M (markN m (Nat.log2 b)))) 255 at h
      cases hf : Nat.ble (firstOf M (markN m (Nat.log2 b))) 7 with
      | true => rw [hf] at h; exact ⟨ble_of hf, h⟩
      | false => rw [hf] at h; have h : r = 255 := h; omega

section
variable {A P CT HI M H Bt E : Nat} (F : AllFact A P CT HI M H Bt E)
include F
theorem hi_lt {u : Nat} (hu : u < 8) : by8 HI u < 4 := by
  have h := F.u u hu
  rw [h.hi]
  have h1 := h.sm
  exact log_lt _ (xor_lt _ (by omega) _ (by omega))
theorem m_lt {u : Nat} (hu : u < 8) : by8 M u < 16 := by
  have h := F.u u hu
  have h1 := h.sm
  have h2 := hi_lt F hu
  rw [h.m]
  exact cut_lt _ (by omega) _ (by omega)
theorem b_lt {u : Nat} (hu : u < 8) : by8 Bt u < 16 := Nat.lt_succ_of_le (F.u u hu).b15
theorem h_lt {u : Nat} (hu : u < 8) : by8 H u < 4 := by
  rw [(F.u u hu).h]
  exact (low_pos _ (m_lt F hu) (F.u u hu).m0).2.2
theorem e_is {e g : Nat} (he : e < 8) (hg : g < 4) : by8 E (8 * g + e) = endN P M Bt g e := by
  have h := F.e e he
  unfold okE at h
  obtain ⟨q0, h⟩ := cond_t h
  obtain ⟨q1, h⟩ := cond_t h
  obtain ⟨q2, q3⟩ := cond_t h
  match g, hg with
  | 0, _ =>
    have : 8 * 0 + e = e := Nat.zero_add e
    rw [this]; exact beq_of q0
  | 1, _ => exact beq_of q1
  | 2, _ => exact beq_of q2
  | 3, _ => exact beq_of q3
end

section
variable {p : Nat → Nat} (hp : ∀ k, 0 < k → p k < k) (h0 : p 0 = 0) {A P CT HI M H Bt E : Nat} (F : AllFact A P CT HI M H Bt E) (hA : ∀ i, i < 8 → by8 A i = mask (par2 p) i) (hP : ∀ i, i < 8 → by8 P i = par2 p i)
/-- a row of places, told by names -/
def at2 (p : Nat → Nat) (R : Nat) (u : Nat) : Nat := by8 R (ahL p u)
include hp in
theorem ord_is : OrdFact p (ahL p) := ordFact hp
include hp in
theorem pi_eq_zero {u : Nat} (hu : u < 8) : ahL p u = 0 ↔ u = 0 :=
  ⟨fun h => pi_inj hp hu (by decide) (by rw [h, pi_zero]), fun h => by rw [h, pi_zero]⟩
include hp hA F in
theorem ct_is {u : Nat} (hu : u < 8) : cntU p u = by8 CT (ahL p u) := by
  have hq := par2_lt hp
  have e1 : cntU p u = (List.range 8).countP fun v => (mask (par2 p) (ahL p v)).testBit (ahL p u) := by
    unfold cntU List.count
    rw [List.countP_map]
    refine List.countP_congr fun v hv => ?_
    have hv := List.mem_range.mp hv
    show ((upL p v).contains (u : Int) == true) = true ↔ _
    rw [up_bit hp hu hv, mask2 hp v hv u hu]
    simp
  have e2 : ((List.range 8).countP fun v => (mask (par2 p) (ahL p v)).testBit (ahL p u)) = ((List.range 8).map (ahL p)).countP fun i => (mask (par2 p) i).testBit (ahL p u) := by
    rw [List.countP_map]; rfl
  rw [e1, e2, (pi_perm hp).countP_eq, (F.u _ (pi_lt hu)).ct]
  unfold ctN
  refine (sum8_count fun v hv => ?_).symm
  rw [hA v hv, bit_one _ (mlt hq hv).1 _ (pi_lt hu)]
include hp h0 hP F in
theorem b_is {u : Nat} (hu : u < 8) : at2 p Bt u = Nat.lor (if u = 0 then 0 else at2 p Bt (p u)) (lowN (at2 p M u)) := by
  have h := (F.u _ (pi_lt (p := p) hu)).b
  rw [hP _ (pi_lt hu), par2_pi hp hu] at h
  simp only [pi_eq_zero hp hu] at h
  exact h
include hp hA F in
theorem same_lt {j k : Nat} (hj : j < 8) (hk : k < 8) (hm : at2 p M j = at2 p M k) (h : ahL p j < ahL p k) : j < k := by
  have hq := par2_lt hp
  have h1 := F.same _ _ h (pi_lt hk) hm
  rw [hA _ (pi_lt hk), bit_one _ (mlt hq (pi_lt hk)).1 _ (pi_lt hj), ← mask2 hp k hk j hj] at h1
  cases hb : (mask p k).testBit j with
  | false => rw [hb] at h1; exact absurd h1 (by decide)
  | true =>
    have := anc_le hp hj hk hb
    rcases Nat.lt_or_ge j k with q | q
    · exact q
    · have : j = k := by omega
      subst this; omega
include hp hA F in
theorem same_gt {j k : Nat} (hj : j < 8) (hk : k < 8) (hm : at2 p M j = at2 p M k) (h : j < k) : ahL p j < ahL p k := by
  rcases Nat.lt_trichotomy (ahL p j) (ahL p k) with q | q | q
  · exact q
  · have := pi_inj hp hj hk q; omega
  · have := same_lt hp F hA hk hj hm.symm q; omega
include hp hA F in
theorem any_is {k : Nat} (hk : k < 8) : (natL (at2 p M) k).contains (at2 p M k : Int) = anyB M (by8 M (ahL p k)) (ahL p k) := by
  rw [Bool.eq_iff_iff, anyB_iff, List.contains_iff_mem]
  unfold natL
  rw [List.mem_map]
  constructor
  · rintro ⟨j, hj, e⟩
    have hj := List.mem_range.mp hj
    have e : at2 p M j = at2 p M k := by omega
    exact ⟨ahL p j, same_gt hp F hA (by omega) hk e hj, e⟩
  · rintro ⟨i, hi, e⟩
    have hi8 : i < 8 := by have := pi_lt (p := p) hk; omega
    obtain ⟨s1, s2⟩ := plc_spec hp hi8
    have e2 : at2 p M (plc p i) = at2 p M k := by unfold at2; rw [s2]; exact e
    exact ⟨plc p i, List.mem_range.mpr (same_lt hp F hA s1 hk e2 (by rw [s2]; exact hi)), by rw [e2]⟩
include hp h0 hA hP F in
theorem num_is : NumFacts p (ahL p) (at2 p HI) (at2 p M) (at2 p Bt) where
  high := fun u hu => by
    have hu2 := pi_lt (p := p) hu
    have h := F.u _ hu2
    have h1 := h.sm
    rw [ct_is hp F hA hu, ← Int.natCast_add, xor_nat _ (by omega) _ (by omega), hb_nat _ (Nat.lt_trans (xor_lt _ (by omega) _ (by omega)) (by decide)) h.x0]
    unfold at2
    rw [h.hi]
    rfl
  small := fun u hu => by
    have hu2 := pi_lt (p := p) hu
    have h := F.u _ hu2
    have h1 := h.sm
    have h2 := hi_lt F hu2
    rw [ct_is hp F hA hu]
    unfold at2
    omega
  mark := fun u hu => by
    rw [ct_is hp F hA hu, ← Int.natCast_add, cut_nat]
    unfold at2
    rw [(F.u _ (pi_lt hu)).m]
  low0 := by
    have hz := pi_lt (p := p) (u := 0) (by decide)
    have h1 := m_lt F hz
    have h2 := low_pos _ h1 (F.u _ hz).m0
    have h4 := low_nat (at2 p M 0) (by unfold at2; omega)
    rw [h4]
    have h3 := or_nat 0 (by decide) (lowN (at2 p M 0)) (by unfold at2; omega)
    refine h3.trans ?_
    rw [b_is hp h0 F hP (u := 0) (by decide), if_pos rfl]
  low := fun k hk0 hk => by
    have hk2 := pi_lt (p := p) hk
    have h1 : at2 p M k < 16 := m_lt F hk2
    have h2 := low_pos _ h1 (F.u _ hk2).m0
    have hpk := hp k hk0
    have h4 : at2 p Bt (p k) < 16 := b_lt F (pi_lt (by omega))
    rw [low_nat _ (by omega), or_nat _ (by omega) _ (by omega), b_is hp h0 F hP hk, if_neg (by omega)]
  single := fun k hk => by
    have hk2 := pi_lt (p := p) hk
    have h := (F.u _ hk2).s
    rw [hP _ hk2, par2_pi hp hk] at h
    simp only [pi_eq_zero hp hk] at h
    rw [any_is hp F hA hk, ← h]
    have h1 : at2 p Bt k < 16 := b_lt F hk2
    rcases Nat.eq_zero_or_pos k with hz | hz
    · subst hz
      rw [if_neg (by decide), if_pos rfl]
      have e : Builtin.bitXor 0 ((at2 p Bt 0 : Nat) : Int) = _ := xor_nat 0 (by decide) _ (by omega)
      rw [e, sb_nat _ (Nat.lt_trans (xor_lt _ (by decide) _ h1) (by decide))]
      rfl
    · have hpk := hp k hz
      have h4 : at2 p Bt (p k) < 16 := b_lt F (pi_lt (by omega))
      rw [if_pos hz, if_neg (by omega), xor_nat _ (by omega) _ (by omega), sb_nat _ (Nat.lt_trans (xor_lt _ h4 _ h1) (by decide))]
      rfl
include hp h0 hA hP F in
theorem end_is {e g r : Nat} (he : e < 8) (hg : g < 4) (hE : by8 E (8 * g + ahL p e) = r) (hr : r ≤ 7) : EndFact p (at2 p M) (at2 p Bt) e g (plc p r) := by
  have he2 := pi_lt (p := p) he
  have h1 := e_is F he2 hg
  rw [hE] at h1
  have hbt : at2 p Bt e < 16 := b_lt F he2
  obtain ⟨l1, l2, l3, l4⟩ := low_of _ hbt g hg
  have h2 : _ ∨ _ := endV_of h1 hr
  change (Nat.land (at2 p Bt e) (Nat.sub (Nat.shiftLeft 1 g) 1) = 0 ∧ sbN (Nat.land (at2 p Bt e) (Nat.sub (Nat.shiftLeft 2 g) 1)) = true ∧ r = ahL p e) ∨ (Nat.land (at2 p Bt e) (Nat.sub (Nat.shiftLeft 1 g) 1) ≠ 0 ∧ sbN (Nat.land (at2 p Bt e) (Nat.sub (Nat.shiftLeft 2 g) 1)) = false ∧ firstOf M (markN (at2 p M e) (Nat.log2 (Nat.land (at2 p Bt e) (Nat.sub (Nat.shiftLeft 1 g) 1)))) ≤ 7 ∧ r = by8 P (firstOf M (markN (at2 p M e) (Nat.log2 (Nat.land (at2 p Bt e) (Nat.sub (Nat.shiftLeft 1 g) 1)))))) at h2
  refine ⟨(plc_spec hp (by omega)).1, ?_, ?_⟩
  · rw [l1, l2, sb_nat _ (Nat.lt_trans l4 (by decide)), hb_none _ l3]
    rcases h2 with ⟨q1, q2, _⟩ | ⟨q1, q2, _⟩
    · rw [q1]; exact q2
    · rw [q2]
      cases hb : Nat.beq (Nat.land (at2 p Bt e) (Nat.sub (Nat.shiftLeft 1 g) 1)) 0 with
      | false => rfl
      | true => exact absurd (beq_of hb) q1
  · rcases h2 with ⟨q1, q2, q3⟩ | ⟨q1, q2, q3, q4⟩
    · refine .inl ⟨?_, by rw [q3, plc_pi hp he]⟩
      rw [l1, q1]; exact hb_zero
    · refine .inr ⟨Nat.log2 (Nat.land (at2 p Bt e) (Nat.sub (Nat.shiftLeft 1 g) 1)), ?_, ?_, ?_⟩
      · rw [l1, hb_nat _ (Nat.lt_trans l3 (by decide)) q1]
      · have := log_lt _ l3
        omega
      · generalize Nat.log2 (Nat.land (at2 p Bt e) (Nat.sub (Nat.shiftLeft 1 g) 1)) = b at *
        obtain ⟨f1, f2⟩ := firstOf_at q3
        generalize firstOf M (markN (at2 p M e) b) = f at *
        obtain ⟨s1, s2⟩ := plc_spec hp (i := f) (by omega)
        have f3 : at2 p M (plc p f) = markN (at2 p M e) b := by
          show by8 M (ahL p (plc p f)) = _
          rw [s2]; exact f1
        rw [hP f (by omega)] at q4
        have q5 : plc p r = p (plc p f) := by
          rw [q4]
          have := par2_pi hp s1
          rw [s2] at this
          rw [this, plc_pi hp (p_lt hp h0 s1)]
        generalize plc p f = c at *
        obtain ⟨j, j1, j2, j3⟩ := crown_at (mk := at2 p M) s1 (fun j hj he => by
          have h3 := same_gt hp F hA (by omega) s1 he hj
          rw [s2] at h3
          exact f2 _ h3 (he.trans f3))
        rw [mark_nat, ← f3]
        exact ⟨j, c, j2, j3, j1, s1, q5.symm⟩
omit hp in
theorem kin_is (hp : ∀ k, 0 < k → p k < k) {x y : Nat} (hx : x < 8) (hy : y < 8) : ((upL p x).filter fun u => (upL p y).contains u)[0]? = some ((Nat.log2 (Nat.land (mask p x) (mask p y)) : Nat) : Int) ∧ Nat.log2 (Nat.land (mask p x) (mask p y)) < 8 := by
  have hmx := mlt hp hx
  have hmy := mlt hp hy
  have h1 : upL p x = ([7, 6, 5, 4, 3, 2, 1, 0].filter fun j => (mask p x).testBit j).map fun j => ((j : Nat) : Int) := by
    rw [upL_ch hp hx, (mask_lt hp x hx).2.2, rev_bits _ hmx.1 hmx.2]
  rw [h1, List.filter_map, List.filter_filter]
  have h2 : ([7, 6, 5, 4, 3, 2, 1, 0].filter fun j => ((fun u => (upL p y).contains u) ∘ fun j => ((j : Nat) : Int)) j && (mask p x).testBit j) = [7, 6, 5, 4, 3, 2, 1, 0].filter fun j => (Nat.land (mask p x) (mask p y)).testBit j := by
    refine List.filter_congr fun j hj => ?_
    have hj8 : j < 8 := by
      have : ∀ j ∈ [7, 6, 5, 4, 3, 2, 1, 0], j < 8 := by decide
      exact this j hj
    show ((upL p y).contains (j : Int) && _) = _
    rw [up_bit hp hj8 hy, Bool.and_comm]
    exact (Nat.testBit_and _ _ _).symm
  rw [h2, List.getElem?_map]
  obtain ⟨a1, a2⟩ := and_odd _ hmx.1 hmx.2 _ hmy.1 hmy.2
  obtain ⟨t1, t2⟩ := top_bit _ a1 a2
  rw [t1]
  exact ⟨rfl, t2⟩
include hp h0 hA hP F in
theorem last_is : LastFacts p (at2 p M) (at2 p Bt) (at2 p H) where
  hts := fun k hk => by
    have hk2 := pi_lt (p := p) hk
    have h1 : at2 p M k < 16 := m_lt F hk2
    obtain ⟨h2, h3, h4⟩ := low_pos _ h1 (F.u _ hk2).m0
    rw [low_nat _ (by omega), hb_nat _ (by omega) h2]
    unfold at2
    rw [(F.u _ hk2).h]
  small := fun k hk => by
    have h1 : at2 p M k < 16 := m_lt F (pi_lt (p := p) hk)
    omega
  pair := fun x y hxy hy => ⟨by
    have hx : x < 8 := by omega
    have hx2 := pi_lt (p := p) hx
    have hy2 := pi_lt (p := p) hy
    have hmx : at2 p M x < 16 := m_lt F hx2
    have hmy : at2 p M y < 16 := m_lt F hy2
    have hbx : at2 p Bt x < 16 := b_lt F hx2
    have hby : at2 p Bt y < 16 := b_lt F hy2
    obtain ⟨c1, d1, d2, c2⟩ := F.pr _ _ hx2 hy2
    obtain ⟨m1, m2⟩ := max_of _ (xor_lt _ hmx _ hmy) _ (h_lt F hx2) _ (h_lt F hy2)
    have hland := land_lt _ hbx (at2 p Bt y) (by omega)
    have hbo : bothN Bt (ahL p x) (ahL p y) (leastN M H (ahL p x) (ahL p y)) < 16 := cut_lt _ hland _ (Nat.lt_trans m2 (by decide))
    obtain ⟨g1, g2, g3⟩ := low_pos _ hbo c1
    have ebo : bothOf (at2 p Bt x) (at2 p Bt y) (leastN M H (ahL p x) (ahL p y)) = ((bothN Bt (ahL p x) (ahL p y) (leastN M H (ahL p x) (ahL p y)) : Nat) : Int) := by
      unfold bothOf
      rw [and_nat _ (by omega) _ (by omega), cut_nat]
      rfl
    obtain ⟨k1, k2⟩ := kin_is hp hx hy
    rw [hA _ hx2, hA _ hy2, ← top_is hp hx hy] at c2
    unfold half at c2
    refine ⟨leastN M H (ahL p x) (ahL p y), Nat.log2 (lowN (bothN Bt (ahL p x) (ahL p y) (leastN M H (ahL p x) (ahL p y)))), _, _, _, ?_, ?_, ?_, ?_, ?_, end_is hp h0 F hA hP hx g3 rfl d1, end_is hp h0 F hA hP hy g3 rfl d2, k2, k1, ?_⟩
    · rw [xor_nat _ (by omega) _ (by omega)]; exact m1
    · exact Nat.lt_trans m2 (by decide)
    · rw [and_nat _ (by omega) _ (by omega)]
      exact nat_fdiv_small (by omega)
    · rw [ebo, low_nat _ (by omega), hb_nat _ (by omega) g1]
    · omega
    · generalize by8 E (8 * Nat.log2 (lowN (bothN Bt (ahL p x) (ahL p y) (leastN M H (ahL p x) (ahL p y)))) + ahL p x) = e1 at *
      generalize by8 E (8 * Nat.log2 (lowN (bothN Bt (ahL p x) (ahL p y) (leastN M H (ahL p x) (ahL p y)))) + ahL p y) = e2 at *
      obtain ⟨s1, s2⟩ := plc_spec hp (i := e1) (by omega)
      obtain ⟨t1, t2⟩ := plc_spec hp (i := e2) (by omega)
      rw [hA e2 (by omega), bit_one _ (mlt (par2_lt hp) (by omega)).1 e1 (by omega), ← s2, ← t2, ← mask2 hp _ t1 _ s1] at c2
      rw [up_bit hp s1 t1]
      have c2 := beq_of c2
      cases hb : (mask p (plc p e2)).testBit (plc p e1) with
      | true => rw [hb] at c2; rw [if_pos rfl]; exact pi_inj hp s1 k2 c2
      | false => rw [hb] at c2; rw [if_neg (by decide)]; exact pi_inj hp t1 k2 c2⟩
end

theorem lawFacts (ns : List Int) : LawFacts (drawsL ns) where
  strip := fun k hk => strip_of (fun k hk => parN_lt hk) (tail_is _) hk
  texts := strFacts (fun k hk => parN_lt hk) (tail_is _)
  nums := by
    have hp : ∀ k, 0 < k → parN (drawsL ns) k < k := fun k hk => parN_lt hk
    have h0 : parN (drawsL ns) 0 = 0 := rfl
    obtain ⟨A, P, hc, hA, hP⟩ := tree_ok hp h0
    obtain ⟨CT, HI, M, H, Bt, E, F⟩ := chk_of hc
    exact ⟨_, _, _, _, _, ord_is hp, num_is hp h0 F hA hP, last_is hp h0 F hA hP⟩
end Mine
end

-- LzA
open PySem PySem.W PyProof.Rows PySem.MeetsSeq PySem.SeqRoads2 PySem.SeqAt Mine
set_option Elab.async false
set_option maxRecDepth 100000 in
set_option maxHeartbeats 8000000 in
theorem PySem.Challenge.cw_rs0041_01_holds : PySem.Challenge.rw_rs0041_01.Holds := by
  w_on
  o_law
  k_head
  case hw => w_witness2
  k_fill
  intro w s₀ s₁ mg mb G Y fa o pm cd doc dV kV ho hd hcd hD hmg hg args vals as hpre hlay hrd hwl hlo
  have KX := kIn_of Y
  have X := (Ground.X G).1
  have V := (Ground.X G).2
  refine Ground.open G ?_
  intro T B D TE TW
  wrow_args hpre hlay hrd hwl hlo
  rename_i ns q1 q2 q3 q4 q5 as1 as2 l vs as3 hL ra w1 r0 hI hr hc1 hc2
  have hns : ns.length ≤ 63 := by omega
  have K := kOf T ⟨_, _, _, _, rfl, rfl, rfl, rfl, rfl, rfl⟩ ⟨_, _, _, _, rfl, rfl, rfl, rfl, rfl, rfl⟩ ⟨_, _, _, _, rfl, rfl, rfl, rfl, rfl, rfl⟩ ⟨_, _, _, _, rfl, rfl, rfl, rfl, rfl, rfl⟩ ⟨_, _, _, _, rfl, rfl, rfl, rfl, rfl, rfl⟩ ⟨_, _, _, _, rfl, rfl, rfl, rfl, rfl, rfl⟩ (by decide +kernel) (by kernel_rfl!)
  obtain ⟨fns, gl, F⟩ := gl_of T K rfl
  obtain ⟨f9, d9, m9, q9⟩ := fn_of T K.r5 bp9
  have hmg' : mg ("law" : Str) = some (.ref fa) := hmg
  rw [hmg'] at m9
  have m9 : fa = f9 := by cases m9; rfl
  subst m9
  have hrep : Rep s₁.heap Any (.ref l) (.list (ns.map .int)) := by
    obtain ⟨o1, e1, c1, k1, d1⟩ := hL
    cases w1 with
    | list e2 _ =>
      rw [e1] at e2
      cases e2
      simp only [Data.seq.injEq] at d1
      obtain ⟨d1, d2⟩ := d1
      refine .list trivial ⟨0, ?_⟩ (ints_rep hI)
      rw [e1, d1]
  show wpAny (model pg w) callerA (call (.ref fa) [.ref l] []) _ _ _
  refine wpAny_at (law_call (n := 0) q9 gl ⟨rfl, by decide, by decide⟩ hrep hns F (lawFacts ns)) fun v s' q => ?_
  obtain ⟨⟨h', tk, rfl, hk⟩, rfl⟩ := q
  refine GoodW.toG ⟨.inl ⟨_, .bool true, [], rfl, fun _ => rfl, .bool true, postW_of (X := true) (by first | rfl | kernel_rfl!) (by first | rfl | kernel_rfl!) rfl, fun _ => ⟨.nil, fun _ h => by cases h⟩⟩, hk, rfl, hg⟩
